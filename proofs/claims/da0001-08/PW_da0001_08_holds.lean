import PyProof.Rows.All
import Wide.All
import OpenK.AllK
import Wide.FinOn
import PySem.Challenge.RW_da0001_08
open PySem PySem.W PySem.Calls PyProof.Rows
set_option Elab.async false
set_option maxRecDepth 100000
set_option linter.all false
set_option linter.unusedVariables false
set_option linter.unusedSimpArgs false
set_option maxHeartbeats 2000000
namespace Mine
/-- values without their tokens -/
inductive AV where
  | int (i : Int) | bool (b : Bool) | none | ref (a : Addr) | bi (id : String) | ty (n : String) | oth
def abs : Value → AV
  | .int i _ => .int i
  | .bool b => .bool b
  | .none => .none
  | .ref a => .ref a
  | .builtin i => .bi i
  | .type n => .ty n
  | _ => .oth
theorem abs_int {y : Value} {i : Int} (h : abs y = .int i) : ∃ t, y = .int i t := by
  cases y <;> simp [abs] at h; subst h; exact ⟨_, rfl⟩
theorem abs_bool {y : Value} {b : Bool} (h : abs y = .bool b) : y = .bool b := by
  cases y <;> simp [abs] at h; subst h; rfl
theorem abs_none {y : Value} (h : abs y = .none) : y = .none := by
  cases y <;> simp [abs] at h; rfl
theorem abs_ref {y : Value} {a : Addr} (h : abs y = .ref a) : y = .ref a := by
  cases y <;> simp [abs] at h; subst h; rfl
abbrev Loc := Str → Option AV
def Loc.set (ρ : Loc) (x : Str) (v : AV) : Loc := fun y => if y = x then some v else ρ y
/-- what an object holds -/
inductive AObj where
  | list (xs : List AV)
  | tup (xs : List AV)
  | dict (es : List (AV × AV))
  | raw (ob : Obj)
abbrev Hp := Addr → Option (AObj × Bool)
def Hp.set (H : Hp) (a : Addr) (o : AObj) : Hp := fun b => if b = a then some (o, true) else H b
def ORep (o : AObj) (own : Bool) (ob : Obj) : Prop := match o with
  | .list xs => ∃ its n, ob.cls = .type "list" ∧ ob.data = .seq its n ∧ its.toList.map abs = xs ∧ (own = true → ob = { cls := .type "list", data := .seq its n })
  | .tup xs => ∃ its n, ob.cls = .type "tuple" ∧ ob.data = .seq its n ∧ its.toList.map abs = xs ∧ (own = true → ob = { cls := .type "tuple", data := .seq its n })
  | .dict es => ∃ en n, ob = { cls := .type "dict", data := .dict en n } ∧ en.toList.map (fun e => (abs e.key, abs e.val)) = es
  | .raw o => ob = o
def AObj.plain : AObj → Bool
  | .raw _ => false
  | _ => true
theorem ORep.not_cell {o : AObj} {own : Bool} {ob : Obj} (h : ORep o own ob) (hp : o.plain = true) (v : Option Value) : ob.data ≠ .cell v := by
  cases o with
  | list xs => obtain ⟨its, n, _, hd, _⟩ := h; rw [hd]; exact nofun
  | tup xs => obtain ⟨its, n, _, hd, _⟩ := h; rw [hd]; exact nofun
  | dict es => obtain ⟨en, n, he, _⟩ := h; rw [he]; exact nofun
  | raw o => exact absurd hp (by simp [AObj.plain])
structure Cx where
  prog : Program
  w : World
  A : Around
  env : Env
  h₀ : Heap
  own : Bool
  K : Frag
abbrev Cx.L (c : Cx) : Addr := c.env.locals
abbrev Cx.M (c : Cx) : Model := model c.prog c.w
def HasP (c : Cx) (a : Addr) (o : AObj) (b : Bool) (h : Heap) : Prop :=
  ∃ ob, h.get? a = some ob ∧ ORep o b ob ∧ (b = true → a ≠ c.L ∧ c.h₀.get? a = none) ∧ (b = false → c.h₀.get? a = some ob)
def Has (c : Cx) (H : Hp) (h : Heap) : Prop := ∀ a o b, H a = some (o, b) → HasP c a o b h
def cellKind (env : Env) (x : Str) : Prop := env.kindOf x = some .cell ∨ env.kindOf x = some .free
structure St (c : Cx) (ρ : Loc) (H F : Hp) (s : Shared) : Prop where
  ns : ∃ m, s.heap.Ns c.L m ∧ ∀ x v, ρ x = some v → c.env.kindOf x = some .local → ∃ y, m x = some y ∧ abs y = v
  cel : ∀ x a, c.env.cells.lookup x = some a → ∃ ob o, s.heap.get? a = some ob ∧ ob.data = .cell o ∧ a ≠ c.L ∧ (c.h₀.get? a = none ∨ c.h₀.get? a = some ob) ∧
    H a = none ∧ (c.own = true → c.h₀.get? a = none ∧ F a = none) ∧ ∀ v, ρ x = some v → cellKind c.env x → ∃ y, o = some y ∧ abs y = v
  keep : ∀ b o, c.h₀.get? b = some o → s.heap.get? b = some o
  above : c.h₀.objs.size ≤ c.L
  has : Has c H s.heap
  hasF : Has c F s.heap
  dis : ∀ a, H a ≠ none → F a = none
def Same (s s' : Shared) : Prop := ∃ h tk, s' = { s with heap := h, toks := tk }
theorem Same.refl (s : Shared) : Same s s := ⟨s.heap, s.toks, rfl⟩
theorem Same.trans {s s₁ s₂ : Shared} (h : Same s s₁) (h' : Same s₁ s₂) : Same s s₂ := by
  obtain ⟨a, b, rfl⟩ := h; obtain ⟨d, e, rfl⟩ := h'; exact ⟨d, e, rfl⟩
theorem Same.mk' (s : Shared) (h : Heap) (tk : Nat) : Same s { s with heap := h, toks := tk } := ⟨h, tk, rfl⟩
/-- from one moment to a later one: the world's rest is the same, and nothing new is known of what may not change -/
structure Stp (s : Shared) (H : Hp) (s' : Shared) (H' : Hp) : Prop where
  same : Same s s'
  fz : ∀ a o, H' a = some (o, false) → H a = some (o, false)
theorem Stp.refl (s : Shared) {H : Hp} : Stp s H s H := ⟨.refl s, fun _ _ e => e⟩
theorem Stp.trans {s s₁ s₂ : Shared} {H H₁ H₂ : Hp} (h : Stp s H s₁ H₁) (h' : Stp s₁ H₁ s₂ H₂) : Stp s H s₂ H₂ := ⟨h.same.trans h'.same, fun a o e => h.fz a o (h'.fz a o e)⟩
theorem Stp.mem (s : Shared) (h : Heap) (tk : Nat) {H : Hp} : Stp s H { s with heap := h, toks := tk } H := ⟨⟨h, tk, rfl⟩, fun _ _ e => e⟩
theorem Stp.set (s : Shared) (h : Heap) (tk : Nat) {H : Hp} {a : Addr} {o : AObj} : Stp s H { s with heap := h, toks := tk } (H.set a o) := ⟨⟨h, tk, rfl⟩, fun b o' e => by
  simp only [Hp.set] at e; split at e
  · cases e
  · exact e⟩
/-- a triple: from locals ρ and objects H the tree ends, no exception, in Φ -/
def Tri {α : Type} (c : Cx) (ρ : Loc) (H : Hp) (t : Sem α) (Φ : α → Loc → Hp → Prop) : Prop :=
  ∀ F s, St c ρ H F s → wpAny c.M c.A t (fun a s' => ∃ ρ' H', Stp s H s' H' ∧ St c ρ' H' F s' ∧ Φ a ρ' H') (fun _ _ => False) s
theorem Tri.mono {α : Type} {c : Cx} {ρ : Loc} {H : Hp} {t : Sem α} {Φ Ψ : α → Loc → Hp → Prop} (h : Tri c ρ H t Φ) (hi : ∀ a ρ' H', Φ a ρ' H' → Ψ a ρ' H') : Tri c ρ H t Ψ :=
  fun F s st => wpAny_mono (h F s st) (fun a s' ⟨ρ', H', sm, st', p⟩ => ⟨ρ', H', sm, st', hi _ _ _ p⟩) fun _ _ x => x
theorem Tri.pure {α : Type} {c : Cx} {ρ : Loc} {H : Hp} {a : α} {Φ : α → Loc → Hp → Prop} (h : Φ a ρ H) : Tri c ρ H (Pure.pure a) Φ :=
  fun _ s st => wpAny_pure ⟨ρ, H, .refl s, st, h⟩
theorem Tri.bind {α β : Type} {c : Cx} {ρ : Loc} {H : Hp} {t : Sem α} {f : α → Sem β} {Φ : β → Loc → Hp → Prop} (h : Tri c ρ H t fun a ρ' H' => Tri c ρ' H' (f a) Φ) : Tri c ρ H (t >>= f) Φ :=
  fun F s st => wpAny_bind (wpAny_mono (h F s st) (fun _ s₁ ⟨_, _, sm, st₁, p⟩ => wpAny_mono (p F s₁ st₁) (fun _ _ ⟨ρ', H', sm', r⟩ => ⟨ρ', H', sm.trans sm', r⟩) fun _ _ x => x) fun _ _ x => x)
/-- use: a triple in the place of a wpAny with a post of its own -/
theorem Tri.use {α : Type} {c : Cx} {ρ : Loc} {H F : Hp} {t : Sem α} {Φ : α → Loc → Hp → Prop} {s : Shared} {Q : α → Shared → Prop} {E : Value → Shared → Prop}
    (h : Tri c ρ H t Φ) (st : St c ρ H F s) (k : ∀ a s' ρ' H', Stp s H s' H' → St c ρ' H' F s' → Φ a ρ' H' → Q a s') : wpAny c.M c.A t Q E s :=
  wpAny_mono (h F s st) (fun a s' ⟨ρ', H', sm, st', p⟩ => k a s' ρ' H' sm st' p) fun _ _ x => x.elim
theorem HasP.keeps {c : Cx} {a : Addr} {o : AObj} {b : Bool} {h h' : Heap} (x : HasP c a o b h) (hk : ∀ o, a ≠ c.L → h.get? a = some o → h'.get? a = some o) (hab : c.h₀.objs.size ≤ c.L) : HasP c a o b h' := by
  obtain ⟨ob, ho, hr, h1, h2⟩ := x
  refine ⟨ob, hk ob ?_ ho, hr, h1, h2⟩
  cases b with
  | true => exact (h1 rfl).1
  | false => intro e; have := Heap.lt_size (h2 rfl); rw [e] at this; exact absurd this (Nat.not_lt_of_le hab)
/-- everything but the frame's own names stays; the names are the same -/
theorem St.keeps {c : Cx} {ρ : Loc} {H F : Hp} {s : Shared} {h' : Heap} {tk : Nat} (st : St c ρ H F s) (hk : ∀ b o, b ≠ c.L → s.heap.get? b = some o → h'.get? b = some o)
    (hn : ∀ m, s.heap.Ns c.L m → h'.Ns c.L m) : St c ρ H F { s with heap := h', toks := tk } := by
  obtain ⟨⟨m, hm, hv⟩, hc, hkp, hab, hh, hf, hd⟩ := st
  refine ⟨⟨m, hn m hm, hv⟩, fun x a e => ?_, fun b o e => hk b o ?_ (hkp b o e), hab, fun a o b e => (hh a o b e).keeps (fun o' n e' => hk a o' n e') hab, fun a o b e => (hf a o b e).keeps (fun o' n e' => hk a o' n e') hab, hd⟩
  · obtain ⟨ob, o, g, d, ne, r⟩ := hc x a e
    exact ⟨ob, o, hk a ob ne g, d, ne, r⟩
  · intro e'; have := Heap.lt_size e; rw [e'] at this; exact absurd this (Nat.not_lt_of_le hab)
theorem St.toks {c : Cx} {ρ : Loc} {H F : Hp} {s : Shared} {tk : Nat} (st : St c ρ H F s) : St c ρ H F { s with toks := tk } :=
  st.keeps (h' := s.heap) (fun _ _ _ e => e) fun _ e => e
theorem St.keepsAll {c : Cx} {ρ : Loc} {H F : Hp} {s : Shared} {h' : Heap} {tk : Nat} (st : St c ρ H F s) (hk : ∀ b o, s.heap.get? b = some o → h'.get? b = some o) : St c ρ H F { s with heap := h', toks := tk } :=
  st.keeps (fun b o _ e => hk b o e) fun _ hn => hn.keeps hk
theorem St.fresh {c : Cx} {ρ : Loc} {H F : Hp} {s : Shared} {a : Addr} (st : St c ρ H F s) (ha : s.heap.get? a = none) : H a = none ∧ F a = none := by
  constructor
  · cases e : H a with
    | none => rfl
    | some p => obtain ⟨ob, g, _⟩ := st.has a p.1 p.2 e; rw [ha] at g; cases g
  · cases e : F a with
    | none => rfl
    | some p => obtain ⟨ob, g, _⟩ := st.hasF a p.1 p.2 e; rw [ha] at g; cases g
theorem St.Llt {c : Cx} {ρ : Loc} {H F : Hp} {s : Shared} (st : St c ρ H F s) : c.L < s.heap.objs.size := by
  obtain ⟨m, hm, _⟩ := st.ns; exact hm.lt
/-- a new object of the call -/
theorem St.alloc {c : Cx} {ρ : Loc} {H F : Hp} {s : Shared} {h' : Heap} {tk : Nat} {a : Addr} {ob : Obj} {o : AObj} (st : St c ρ H F s) (ha : s.heap.get? a = none) (hk : ∀ b o, s.heap.get? b = some o → h'.get? b = some o)
    (ho : h'.get? a = some ob) (hr : ORep o true ob) : St c ρ (H.set a o) F { s with heap := h', toks := tk } := by
  have st' := st.keepsAll (tk := tk) hk
  have hfr := st.fresh ha
  have hL : a ≠ c.L := by
    intro e; obtain ⟨m, ⟨o', es, ep, ho', _⟩, _⟩ := st.ns; rw [← e, ha] at ho'; cases ho'
  have h0 : c.h₀.get? a = none := by
    cases e : c.h₀.get? a with
    | none => rfl
    | some p => have := st.keep a p e; rw [ha] at this; cases this
  refine ⟨st'.ns, fun x b e => ?_, st'.keep, st'.above, fun b o' fl e => ?_, st'.hasF, fun b hb => ?_⟩
  · obtain ⟨ob', o', g, d, ne, r1, r0, r2, r3⟩ := st.cel x b e
    refine ⟨ob', o', hk b ob' g, d, ne, r1, ?_, r2, r3⟩
    have : b ≠ a := by intro q; rw [q, ha] at g; cases g
    simp only [Hp.set, if_neg this]; exact r0
  · by_cases q : b = a
    · subst q; simp only [Hp.set, if_pos rfl] at e; cases e
      exact ⟨ob, ho, hr, fun _ => ⟨hL, h0⟩, fun x => by cases x⟩
    · simp only [Hp.set, if_neg q] at e; exact st'.has b o' fl e
  · by_cases q : b = a
    · subst q; exact hfr.2
    · simp only [Hp.set, if_neg q] at hb; exact st.dis b hb
/-- an object of the call's own is changed -/
theorem St.upd {c : Cx} {ρ : Loc} {H F : Hp} {s : Shared} {h' : Heap} {tk : Nat} {a : Addr} {ob' : Obj} {o o' : AObj} (st : St c ρ H F s) (ha : H a = some (o, true)) (hp : o.plain = true) (hs : Heap.SameBut a s.heap h')
    (ho : h'.get? a = some ob') (hr : ORep o' true ob') : St c ρ (H.set a o') F { s with heap := h', toks := tk } := by
  obtain ⟨ob, hob, hrep, hown, _⟩ := st.has a o true ha
  obtain ⟨hL, h0⟩ := hown rfl
  obtain ⟨m, hm, hv⟩ := st.ns
  have hFa : F a = none := st.dis a (by rw [ha]; exact nofun)
  refine ⟨⟨m, hm.extBut hs.extBut (Ne.symm hL), hv⟩, fun x b e => ?_, fun b o e => hs.extBut b o (fun q => by rw [q, h0] at e; cases e) (st.keep b o e), st.above, fun b o₁ fl e => ?_, fun b o₁ fl e => ?_, fun b hb => ?_⟩
  · obtain ⟨ob₁, o₁, g, d, ne, r1, r0, r2, r3⟩ := st.cel x b e
    have hne : b ≠ a := by
      intro q; rw [q, ha] at r0; cases r0
    refine ⟨ob₁, o₁, hs.extBut b ob₁ hne g, d, ne, r1, ?_, r2, r3⟩
    simp only [Hp.set, if_neg hne]; exact r0
  · by_cases q : b = a
    · subst q; simp only [Hp.set, if_pos rfl] at e; cases e
      exact ⟨ob', ho, hr, fun _ => ⟨hL, h0⟩, fun x => by cases x⟩
    · simp only [Hp.set, if_neg q] at e
      exact (st.has b o₁ fl e).keeps (fun o₂ _ e' => hs.extBut b o₂ q e') st.above
  · have q : b ≠ a := by intro q; rw [q, hFa] at e; cases e
    exact (st.hasF b o₁ fl e).keeps (fun o₂ _ e' => hs.extBut b o₂ q e') st.above
  · by_cases q : b = a
    · subst q; exact hFa
    · simp only [Hp.set, if_neg q] at hb; exact st.dis b hb
/-- every object that is not of the base nor the frame's -/
def allNews (h₀ : Heap) (L : Addr) (h : Heap) : List (Addr × Obj) :=
  (List.range h.objs.size).filterMap fun a => if a = L then none else match h₀.get? a, h.get? a with
    | none, some o => some (a, o)
    | _, _ => none
theorem mem_allNews {h₀ h : Heap} {L a : Addr} {o : Obj} : (a, o) ∈ allNews h₀ L h ↔ a ≠ L ∧ h₀.get? a = none ∧ h.get? a = some o := by
  unfold allNews
  rw [List.mem_filterMap]
  constructor
  · rintro ⟨b, _, e⟩
    split at e
    · cases e
    · rename_i hne
      split at e
      · rename_i x y; cases e; exact ⟨hne, x, y⟩
      · cases e
  · rintro ⟨h1, h2, h3⟩
    exact ⟨a, List.mem_range.mpr (Heap.lt_size h3), by rw [if_neg h1, h2, h3]⟩
theorem allNews_news {h₀ h : Heap} {L : Addr} : News h₀ L h (allNews h₀ L h) := fun p hp => by
  obtain ⟨a, o⟩ := p
  obtain ⟨h1, h2, h3⟩ := mem_allNews.mp hp
  exact ⟨h3, h1, h2⟩
theorem St.fr {c : Cx} {ρ : Loc} {H F : Hp} {s : Shared} (st : St c ρ H F s) : ∃ m, Fr c.h₀ c.L s.heap m ∧ ∀ x v, ρ x = some v → c.env.kindOf x = some .local → ∃ y, m x = some y ∧ abs y = v := by
  obtain ⟨m, hm, hv⟩ := st.ns; exact ⟨m, ⟨hm, st.keep, st.above⟩, hv⟩
theorem kept_of_news {h₀ h h' : Heap} {L : Addr} {m m' : Str → Option Value} (F : Fr h₀ L h m) (F' : Fr h₀ L h' m') (N' : News h₀ L h' (allNews h₀ L h)) : ∀ b o, b ≠ L → h.get? b = some o → h'.get? b = some o := by
  intro b o hb e
  cases e0 : h₀.get? b with
  | none => exact (N' _ (mem_allNews.mpr ⟨hb, e0, e⟩)).1
  | some o' => have := F.keep b o' e0; rw [e] at this; cases this; exact F'.keep b o e0
/-- the library's rules upon a frame and a ledger that they leave as they are -/
theorem St.via {c : Cx} {ρ : Loc} {H F : Hp} {s : Shared} (st : St c ρ H F s) : ∃ m, Fr c.h₀ c.L s.heap m ∧ News c.h₀ c.L s.heap (allNews c.h₀ c.L s.heap) ∧
    ∀ h' tk, Fr c.h₀ c.L h' m → News c.h₀ c.L h' (allNews c.h₀ c.L s.heap) → St c ρ H F { s with heap := h', toks := tk } := by
  obtain ⟨m, hm, hv⟩ := st.fr
  refine ⟨m, hm, allNews_news, fun h' tk F' N' => ?_⟩
  have hk := kept_of_news hm F' N'
  have st' := st.keeps (h' := h') (tk := tk) (fun b o hb e => hk b o hb e)
  obtain ⟨m₁, hm₁, _⟩ := st.ns
  refine ⟨⟨m, F'.ns, hv⟩, fun x a e => ?_, F'.keep, st.above, fun a o b e => (st.has a o b e).keeps (fun o' n e' => hk a o' n e') st.above, fun a o b e => (st.hasF a o b e).keeps (fun o' n e' => hk a o' n e') st.above, st.dis⟩
  obtain ⟨ob, o, g, d, ne, r⟩ := st.cel x a e
  exact ⟨ob, o, hk a ob ne g, d, ne, r⟩
def gl (K : Frag) (x : Str) : Option Value := match nsIn K mainGlobals x with
  | some (some v) => some v
  | some none => bootBuiltins x
  | none => none
structure Ok (c : Cx) : Prop where
  kin : c.K.In c.h₀
  top : ∃ p loose mean mg mb, Top p loose mean mg mb c.h₀
  kind : c.env.scope.kind = .function
  glob : c.env.globals = mainGlobals
  blt : c.env.builtins = builtinsNs
  hand : c.A.handled = none
  depth : c.A.depth < 900
  units : c.A.units < 500
  cells : ∀ x, cellKind c.env x → ∃ a, c.env.cells.lookup x = some a
  inj : c.own = true → ∀ x y a, c.env.cells.lookup x = some a → c.env.cells.lookup y = some a → x = y
def EV (c : Cx) (ρ : Loc) (H : Hp) (e : Expr) (Φ : AV → Hp → Prop) : Prop := Tri c ρ H (eval e c.env) fun y ρ' H' => ρ' = ρ ∧ Φ (abs y) H'
def PV (c : Cx) (ρ : Loc) (H : Hp) (e : Expr) (v : AV) : Prop := EV c ρ H e fun v' H' => v' = v ∧ H' = H
def TV (c : Cx) (ρ : Loc) (H : Hp) (e : Expr) (Φ : Bool → Hp → Prop) : Prop := Tri c ρ H (isTrue e c.env (eval e c.env)) fun b ρ' H' => ρ' = ρ ∧ Φ b H'
def PT (c : Cx) (ρ : Loc) (H : Hp) (e : Expr) (b : Bool) : Prop := TV c ρ H e fun b' H' => b' = b ∧ H' = H
/-- an operation upon values known by what they hold -/
def OV (c : Cx) (ρ : Loc) (H : Hp) (t : Sem Value) (Φ : AV → Hp → Prop) : Prop := Tri c ρ H t fun y ρ' H' => ρ' = ρ ∧ Φ (abs y) H'
inductive AF where
  | next | brk | cont | ret (v : AV)
def absF : Flow → AF
  | .next => .next
  | .brk => .brk
  | .cont => .cont
  | .ret v => .ret (abs v)
def EX (c : Cx) (ρ : Loc) (H : Hp) (e : Stmt) (Φ : AF → Loc → Hp → Prop) : Prop := Tri c ρ H (exec e c.env) fun y ρ' H' => Φ (absF y) ρ' H'
def XS (c : Cx) (ρ : Loc) (H : Hp) (e : List Stmt) (Φ : AF → Loc → Hp → Prop) : Prop := Tri c ρ H (execs e c.env) fun y ρ' H' => Φ (absF y) ρ' H'
section
variable {c : Cx} {ρ : Loc} {H : Hp}
theorem EV.mono {e : Expr} {Φ Ψ : AV → Hp → Prop} (h : EV c ρ H e Φ) (hi : ∀ v H', Φ v H' → Ψ v H') : EV c ρ H e Ψ := Tri.mono h fun _ _ _ ⟨a, b⟩ => ⟨a, hi _ _ b⟩
theorem TV.mono {e : Expr} {Φ Ψ : Bool → Hp → Prop} (h : TV c ρ H e Φ) (hi : ∀ v H', Φ v H' → Ψ v H') : TV c ρ H e Ψ := Tri.mono h fun _ _ _ ⟨a, b⟩ => ⟨a, hi _ _ b⟩
theorem OV.mono {e : Sem Value} {Φ Ψ : AV → Hp → Prop} (h : OV c ρ H e Φ) (hi : ∀ v H', Φ v H' → Ψ v H') : OV c ρ H e Ψ := Tri.mono h fun _ _ _ ⟨a, b⟩ => ⟨a, hi _ _ b⟩
theorem EX.mono {e : Stmt} {Φ Ψ : AF → Loc → Hp → Prop} (h : EX c ρ H e Φ) (hi : ∀ v ρ' H', Φ v ρ' H' → Ψ v ρ' H') : EX c ρ H e Ψ := Tri.mono h fun _ _ _ b => hi _ _ _ b
theorem XS.mono {e : List Stmt} {Φ Ψ : AF → Loc → Hp → Prop} (h : XS c ρ H e Φ) (hi : ∀ v ρ' H', Φ v ρ' H' → Ψ v ρ' H') : XS c ρ H e Ψ := Tri.mono h fun _ _ _ b => hi _ _ _ b
theorem PV.ev {e : Expr} {v : AV} {Φ : AV → Hp → Prop} (h : PV c ρ H e v) (hi : Φ v H) : EV c ρ H e Φ := EV.mono h fun _ _ ⟨a, b⟩ => by subst a b; exact hi
theorem PT.tv {e : Expr} {v : Bool} {Φ : Bool → Hp → Prop} (h : PT c ρ H e v) (hi : Φ v H) : TV c ρ H e Φ := TV.mono h fun _ _ ⟨a, b⟩ => by subst a b; exact hi
/-- from a rule of the library with a post of one's own -/
theorem Tri.of {α : Type} {t : Sem α} {Φ : α → Loc → Hp → Prop}
    (h : ∀ F s (Q : α → Shared → Prop), St c ρ H F s → (∀ a s' ρ' H', Stp s H s' H' → St c ρ' H' F s' → Φ a ρ' H' → Q a s') → wpAny c.M c.A t Q (fun _ _ => False) s) : Tri c ρ H t Φ :=
  fun F s st => h F s _ st fun a s' ρ' H' sm st' p => ⟨ρ', H', sm, st', p⟩
theorem pv_int {i : Int} {k pos} : PV c ρ H (.Constant (.int i) k pos) (.int i) :=
  Tri.of fun F s Q st k => wpAny_Constant_int (k _ _ ρ H (.mem s s.heap _) st.toks ⟨rfl, rfl, rfl⟩)
theorem pv_none {k pos} : PV c ρ H (.Constant .none k pos) .none :=
  Tri.of fun F s Q st k => wpAny_Constant_none (k _ _ ρ H (.refl s) st ⟨rfl, rfl, rfl⟩)
theorem pv_bool {b k pos} : PV c ρ H (.Constant (.bool b) k pos) (.bool b) :=
  Tri.of fun F s Q st k => wpAny_Constant_bool (k _ _ ρ H (.refl s) st ⟨rfl, rfl, rfl⟩)
theorem pv_local {x : Str} {pos : Pos} {v : AV} (ok : Ok c) (hl : c.env.kindOf x = some .local) (hv : ρ x = some v) (hd : (x == ("__debug__" : Str)) = false := by decide +kernel) : PV c ρ H (.Name x pos) v :=
  Tri.of fun F s Q st k => by
    obtain ⟨m, hm, hr⟩ := st.ns
    obtain ⟨y, hy, e⟩ := hr x v hv hl
    exact wpAny_Name (wpAny_loadName_local ok.kind hl hm hy (k _ _ ρ H (.refl s) st ⟨rfl, e, rfl⟩)) hd
theorem pv_cell {x : Str} {pos : Pos} {v : AV} (ok : Ok c) (hl : c.env.kindOf x = some .cell) (hv : ρ x = some v) (hd : (x == ("__debug__" : Str)) = false := by decide +kernel) : PV c ρ H (.Name x pos) v :=
  Tri.of fun F s Q st k => by
    obtain ⟨a, hc⟩ := ok.cells x (.inl hl)
    obtain ⟨ob, o, g, d, _, _, _, _, r⟩ := st.cel x a hc
    obtain ⟨y, rfl, e⟩ := r v hv (.inl hl)
    exact wpAny_Name (wpAny_loadName_cell ok.kind hl hc ⟨ob, g, d⟩ (k _ _ ρ H (.refl s) st ⟨rfl, e, rfl⟩)) hd
theorem pv_free {x : Str} {pos : Pos} {v : AV} (ok : Ok c) (hl : c.env.kindOf x = some .free) (hv : ρ x = some v) (hd : (x == ("__debug__" : Str)) = false := by decide +kernel)
    (hn : (x == ("__classdict__" : Str)) = false := by decide +kernel) : PV c ρ H (.Name x pos) v :=
  Tri.of fun F s Q st k => by
    obtain ⟨a, hc⟩ := ok.cells x (.inr hl)
    obtain ⟨ob, o, g, d, _, _, _, _, r⟩ := st.cel x a hc
    obtain ⟨y, rfl, e⟩ := r v hv (.inr hl)
    exact wpAny_Name (wpAny_loadName_free ok.kind hl hc ⟨ob, g, d⟩ (k _ _ ρ H (.refl s) st ⟨rfl, e, rfl⟩) hn) hd
theorem gl_loads {x : Str} {pos : Pos} {v : Value} (ok : Ok c) (hl : c.env.kindOf x = some .globalImplicit) (hv : gl c.K x = some v) (hd : (x == ("__debug__" : Str)) = false := by decide +kernel) (hn : x ≠ ("__name__" : Str) := by decide +kernel)
    {F : Hp} {s : Shared} {Q : Value → Shared → Prop} {E : Value → Shared → Prop} (st : St c ρ H F s) (h : Q v s) : wpAny c.M c.A (eval (.Name x pos) c.env) Q E s := by
  obtain ⟨p, loose, mean, mg, mb, T⟩ := ok.top
  refine Name_function_global ok.kind hl ?_ hd
  have hg : s.heap.Ns c.env.globals mg := by rw [ok.glob]; exact T.g.keeps st.keep
  have hb : s.heap.Ns c.env.builtins mb := by rw [ok.blt]; exact T.b.keeps st.keep
  unfold gl at hv
  split at hv
  · rename_i v' e
    cases hv
    exact loadGlobal_global hg (mg_of ok.kin T.g e) h
  · rename_i e
    exact loadGlobal_builtin hg (mg_none_of ok.kin T.g e) hb ((T.builtins x hn).trans hv) h
  · cases hv
theorem behind_of {op : CmpOp} {r : Expr} (h : (op == .In || op == .NotIn) = false) : behindInMarks op r = false := by
  cases r <;> simp [behindInMarks, h]
theorem ev_bin {l r : Expr} {op : Operator} {pos : Pos} {Φ : AV → Hp → Prop} (h : EV c ρ H l fun a H₁ => EV c ρ H₁ r fun b H₂ => ∀ y z, abs y = a → abs z = b → OV c ρ H₂ (binaryOp op y z) Φ) : EV c ρ H (.BinOp l op r pos) Φ :=
  Tri.of fun F s Q st k => wpAny_BinOp (h.use st fun a s₁ ρ₁ H₁ sm₁ st₁ ⟨e₁, h₁⟩ => by
    subst e₁
    exact h₁.use st₁ fun b s₂ ρ₂ H₂ sm₂ st₂ ⟨e₂, h₂⟩ => by
      subst e₂
      exact (h₂ a b rfl rfl).use st₂ fun r s₃ ρ₃ H₃ sm₃ st₃ ⟨e₃, h₃⟩ => by
        subst e₃; exact k _ _ _ _ (sm₁.trans (sm₂.trans sm₃)) st₃ ⟨rfl, h₃⟩)
theorem ev_un {l : Expr} {op : UnaryOp} {pos : Pos} {Φ : AV → Hp → Prop} (h : EV c ρ H l fun a H₁ => ∀ y, abs y = a → OV c ρ H₁ (unaryOp op y) Φ) : EV c ρ H (.UnaryOp op l pos) Φ :=
  Tri.of fun F s Q st k => wpAny_UnaryOp (h.use st fun a s₁ ρ₁ H₁ sm₁ st₁ ⟨e₁, h₁⟩ => by
    subst e₁
    exact (h₁ a rfl).use st₁ fun r s₃ ρ₃ H₃ sm₃ st₃ ⟨e₃, h₃⟩ => by
        subst e₃; exact k _ _ _ _ (sm₁.trans sm₃) st₃ ⟨rfl, h₃⟩)
theorem ev_cmp {l r : Expr} {op : CmpOp} {pos : Pos} {Φ : AV → Hp → Prop} (hm : behindInMarks op r = false) (h : EV c ρ H l fun a H₁ => EV c ρ H₁ r fun b H₂ => ∀ y z, abs y = a → abs z = b → OV c ρ H₂ (compareOp op y z) Φ) : EV c ρ H (.Compare l [op] [r] pos) Φ :=
  Tri.of fun F s Q st k => wpAny_Compare1 (h.use st fun a s₁ ρ₁ H₁ sm₁ st₁ ⟨e₁, h₁⟩ => by
    subst e₁
    exact h₁.use st₁ fun b s₂ ρ₂ H₂ sm₂ st₂ ⟨e₂, h₂⟩ => by
      subst e₂
      exact (h₂ a b rfl rfl).use st₂ fun r s₃ ρ₃ H₃ sm₃ st₃ ⟨e₃, h₃⟩ => by
        subst e₃; exact k _ _ _ _ (sm₁.trans (sm₂.trans sm₃)) st₃ ⟨rfl, h₃⟩) hm
theorem ov_pure1 {op : Operator} {i j r : Int} (y z : Value) (hy : abs y = .int i) (hz : abs z = .int j)
    (h : ∀ t u (s : Shared) (Q : Value → Shared → Prop), Q (.int r s.toks) { s with toks := s.toks + 1 } → wpAny c.M c.A (binaryOp op (.int i t) (.int j u)) Q (fun _ _ => False) s) {Φ : AV → Hp → Prop} (hΦ : Φ (.int r) H) : OV c ρ H (binaryOp op y z) Φ :=
  Tri.of fun F s Q st k => by
    obtain ⟨t, rfl⟩ := abs_int hy
    obtain ⟨u, rfl⟩ := abs_int hz
    exact h t u s Q (k _ _ ρ H (.mem s s.heap _) st.toks ⟨rfl, hΦ⟩)
theorem ov_cmp1 {op : CmpOp} {i j : Int} {r : Bool} (y z : Value) (hy : abs y = .int i) (hz : abs z = .int j)
    (h : ∀ t u (s : Shared) (Q : Value → Shared → Prop), Q (.bool r) s → wpAny c.M c.A (compareOp op (.int i t) (.int j u)) Q (fun _ _ => False) s) {Φ : AV → Hp → Prop} (hΦ : Φ (.bool r) H) : OV c ρ H (compareOp op y z) Φ :=
  Tri.of fun F s Q st k => by
    obtain ⟨t, rfl⟩ := abs_int hy
    obtain ⟨u, rfl⟩ := abs_int hz
    exact h t u s Q (k _ _ ρ H (.refl s) st ⟨rfl, hΦ⟩)
theorem pv_bin_of {l r : Expr} {op : Operator} {pos : Pos} {a b v : AV} (hl : PV c ρ H l a) (hr : PV c ρ H r b) (h : ∀ y z, abs y = a → abs z = b → OV c ρ H (binaryOp op y z) fun v' H' => v' = v ∧ H' = H) : PV c ρ H (.BinOp l op r pos) v :=
  ev_bin (hl.ev (hr.ev h))
theorem pv_cmp_of {l r : Expr} {op : CmpOp} {pos : Pos} {a b v : AV} (hl : PV c ρ H l a) (hr : PV c ρ H r b) (hm : behindInMarks op r = false) (h : ∀ y z, abs y = a → abs z = b → OV c ρ H (compareOp op y z) fun v' H' => v' = v ∧ H' = H) : PV c ρ H (.Compare l [op] [r] pos) v :=
  ev_cmp hm (hl.ev (hr.ev h))
theorem pv_add {l r : Expr} {pos : Pos} {i j : Int} (hl : PV c ρ H l (.int i)) (hr : PV c ρ H r (.int j)) : PV c ρ H (.BinOp l .Add r pos) (.int (i + j)) :=
  pv_bin_of hl hr fun y z hy hz => ov_pure1 y z hy hz (fun _ _ _ _ h => PyProof.Rows.add_int h) ⟨rfl, rfl⟩
theorem pv_sub {l r : Expr} {pos : Pos} {i j : Int} (hl : PV c ρ H l (.int i)) (hr : PV c ρ H r (.int j)) : PV c ρ H (.BinOp l .Sub r pos) (.int (i - j)) :=
  pv_bin_of hl hr fun y z hy hz => ov_pure1 y z hy hz (fun _ _ _ _ h => PyProof.Rows.sub_int h) ⟨rfl, rfl⟩
theorem pv_fdiv {l r : Expr} {pos : Pos} {i j : Int} (hl : PV c ρ H l (.int i)) (hr : PV c ρ H r (.int j)) (h0 : j ≠ 0) (hj : j.natAbs < 1073741824) : PV c ρ H (.BinOp l .FloorDiv r pos) (.int (i.fdiv j)) :=
  pv_bin_of hl hr fun y z hy hz => ov_pure1 y z hy hz (fun _ _ _ _ h => PyProof.Rows.floordiv_int h0 h (.inl (PyProof.noPylong_small hj))) ⟨rfl, rfl⟩
theorem pv_mod {l r : Expr} {pos : Pos} {i j : Int} (hl : PV c ρ H l (.int i)) (hr : PV c ρ H r (.int j)) (h0 : j ≠ 0) : PV c ρ H (.BinOp l .Mod r pos) (.int (i.fmod j)) :=
  pv_bin_of hl hr fun y z hy hz => ov_pure1 y z hy hz (fun _ _ _ _ h => PyProof.Rows.mod_int' h0 h) ⟨rfl, rfl⟩
theorem pv_neg {l : Expr} {pos : Pos} {i : Int} (hl : PV c ρ H l (.int i)) : PV c ρ H (.UnaryOp .USub l pos) (.int (-i)) :=
  ev_un (hl.ev fun y hy => Tri.of fun F s Q st k => by
    obtain ⟨t, rfl⟩ := abs_int hy
    exact PyProof.Rows.neg_int (k _ _ ρ H (.mem s s.heap _) st.toks ⟨rfl, rfl, rfl⟩))
theorem pv_lt {l r : Expr} {pos : Pos} {i j : Int} (hl : PV c ρ H l (.int i)) (hr : PV c ρ H r (.int j)) : PV c ρ H (.Compare l [.Lt] [r] pos) (.bool (decide (i < j))) :=
  pv_cmp_of hl hr (behind_of rfl) fun y z hy hz => ov_cmp1 y z hy hz (fun _ _ _ _ h => PyProof.Rows.lt_int h) ⟨rfl, rfl⟩
theorem pv_le {l r : Expr} {pos : Pos} {i j : Int} (hl : PV c ρ H l (.int i)) (hr : PV c ρ H r (.int j)) : PV c ρ H (.Compare l [.LtE] [r] pos) (.bool (decide (i ≤ j))) :=
  pv_cmp_of hl hr (behind_of rfl) fun y z hy hz => ov_cmp1 y z hy hz (fun _ _ _ _ h => PyProof.Rows.le_int h) ⟨rfl, rfl⟩
theorem pv_gt {l r : Expr} {pos : Pos} {i j : Int} (hl : PV c ρ H l (.int i)) (hr : PV c ρ H r (.int j)) : PV c ρ H (.Compare l [.Gt] [r] pos) (.bool (decide (j < i))) :=
  pv_cmp_of hl hr (behind_of rfl) fun y z hy hz => ov_cmp1 y z hy hz (fun _ _ _ _ h => PyProof.Rows.gt_int h) ⟨rfl, rfl⟩
theorem pv_ge {l r : Expr} {pos : Pos} {i j : Int} (hl : PV c ρ H l (.int i)) (hr : PV c ρ H r (.int j)) : PV c ρ H (.Compare l [.GtE] [r] pos) (.bool (decide (j ≤ i))) :=
  pv_cmp_of hl hr (behind_of rfl) fun y z hy hz => ov_cmp1 y z hy hz (fun _ _ _ _ h => PyProof.Rows.ge_int h) ⟨rfl, rfl⟩
theorem pv_eq {l r : Expr} {pos : Pos} {i j : Int} (hl : PV c ρ H l (.int i)) (hr : PV c ρ H r (.int j)) : PV c ρ H (.Compare l [.Eq] [r] pos) (.bool (i == j)) :=
  pv_cmp_of hl hr (behind_of rfl) fun y z hy hz => ov_cmp1 y z hy hz (fun _ _ _ _ h => PyProof.Rows.eq_int h) ⟨rfl, rfl⟩
theorem pv_ne {l r : Expr} {pos : Pos} {i j : Int} (hl : PV c ρ H l (.int i)) (hr : PV c ρ H r (.int j)) : PV c ρ H (.Compare l [.NotEq] [r] pos) (.bool (i != j)) :=
  pv_cmp_of hl hr (behind_of rfl) fun y z hy hz => ov_cmp1 y z hy hz (fun _ _ _ _ h => PyProof.Rows.ne_int h) ⟨rfl, rfl⟩
theorem tv_cmp {l r : Expr} {op : CmpOp} {pos : Pos} {Φ : Bool → Hp → Prop} (h : EV c ρ H (.Compare l [op] [r] pos) fun v H' => ∃ b, v = .bool b ∧ Φ b H') (ho : (op == .In || op == .NotIn) = false := by rfl) : TV c ρ H (.Compare l [op] [r] pos) Φ := by
  have hm : behindInMarks op r = false := behind_of ho
  refine Tri.of fun F s Q st k => ?_
  have h' := Tri.use (Q := fun v s' => ∃ b ρ' H', v = .bool b ∧ Stp s H s' H' ∧ St c ρ' H' F s' ∧ ρ' = ρ ∧ Φ b H') (E := fun _ _ => False) h st (fun a s₁ ρ₁ H₁ sm₁ st₁ ⟨e₁, b, hb, p⟩ => ⟨b, ρ₁, H₁, abs_bool hb, sm₁, st₁, e₁, p⟩)
  intro Γ p hΓ
  have h2 := h' Γ p hΓ
  simp only [eval_Compare1, isTrue_Compare1, markedBehindIn_of_false hm, Sem.wp_bind', Sem.wp_holding, Sem.wp_cmd_standAt, Sem.wp_operate] at h2 ⊢
  refine Sem.wp_mono _ Γ _ (fun a p₁ s₁ h₁ => Sem.wp_mono _ Γ _ (fun b p₂ s₂ h₂ => Sem.wp_mono _ Γ _ (fun v p₃ s₃ h₃ => ?_) (fun _ _ _ h' => h') _ _ h₂) (fun _ _ _ h' => h') _ _ h₁) (fun _ _ _ h' => h') _ _ h2
  obtain ⟨b, ρ', H', rfl, sm, st', e, hp⟩ := h₃
  exact wpAny_truthy_bool (k _ _ _ _ sm st' ⟨e, hp⟩) Γ p₃ hΓ
theorem pt_cmp {l r : Expr} {op : CmpOp} {pos : Pos} {b : Bool} (h : PV c ρ H (.Compare l [op] [r] pos) (.bool b)) (ho : (op == .In || op == .NotIn) = false := by rfl) : PT c ρ H (.Compare l [op] [r] pos) b :=
  tv_cmp (h.ev ⟨b, rfl, rfl, rfl⟩) ho
theorem tv_not {x : Expr} {pos : Pos} {Φ : Bool → Hp → Prop} (h : TV c ρ H x fun b H' => Φ (!b) H') : TV c ρ H (.UnaryOp .Not x pos) Φ :=
  Tri.of fun F s Q st k => isTrue_not (h.use st fun a s₁ ρ₁ H₁ sm st₁ p => k _ _ _ _ sm st₁ p)
theorem pt_not {x : Expr} {pos : Pos} {b : Bool} (h : PT c ρ H x b) : PT c ρ H (.UnaryOp .Not x pos) (!b) := tv_not (h.tv ⟨rfl, rfl⟩)
theorem ex_if {test : Expr} {body orelse : List Stmt} {pos : Pos} {Φ : AF → Loc → Hp → Prop} (h : TV c ρ H test fun b H' => if b then XS c ρ H' body Φ else XS c ρ H' orelse Φ) : EX c ρ H (.If test body orelse pos) Φ :=
  Tri.of fun F s Q st k => wpAny_If (h.use st fun a s₁ ρ₁ H₁ sm st₁ ⟨e, p⟩ => by
    subst e
    cases a with
    | true => exact p.use st₁ fun b s₂ ρ₂ H₂ sm₂ st₂ p₂ => k _ _ _ _ (sm.trans sm₂) st₂ p₂
    | false => exact p.use st₁ fun b s₂ ρ₂ H₂ sm₂ st₂ p₂ => k _ _ _ _ (sm.trans sm₂) st₂ p₂)
theorem xs_nil {Φ : AF → Loc → Hp → Prop} (h : Φ .next ρ H) : XS c ρ H [] Φ := Tri.of fun F s Q st k => wpAny_execs_nil (k _ _ _ _ (.refl s) st h)
theorem xs_cons {e : Stmt} {r : List Stmt} {Φ : AF → Loc → Hp → Prop} (h : EX c ρ H e fun f ρ' H' => match f with | .next => XS c ρ' H' r Φ | f => Φ f ρ' H') : XS c ρ H (e :: r) Φ :=
  Tri.of fun F s Q st k => wpAny_execs_cons (h.use st fun a s₁ ρ₁ H₁ sm st₁ p => by
    cases a with
    | next => exact p.use st₁ fun b s₂ ρ₂ H₂ sm₂ st₂ p₂ => k _ _ _ _ (sm.trans sm₂) st₂ p₂
    | brk => exact k _ _ _ _ sm st₁ p
    | cont => exact k _ _ _ _ sm st₁ p
    | ret v => exact k _ _ _ _ sm st₁ p)
theorem ex_return {e : Expr} {pos : Pos} {Φ : AF → Loc → Hp → Prop} (h : EV c ρ H e fun v H' => Φ (.ret v) ρ H') : EX c ρ H (.Return (some e) pos) Φ :=
  Tri.of fun F s Q st k => wpAny_Return_some (h.use st fun a s₁ ρ₁ H₁ sm st₁ ⟨e, p⟩ => by subst e; exact k _ _ _ _ sm st₁ p)
theorem Loc.set_same {x : Str} {v : AV} : Loc.set ρ x v x = some v := by simp [Loc.set]
theorem Loc.set_ne {x y : Str} {v : AV} {r : Option AV} (hn : y ≠ x) (h : ρ y = r) : Loc.set ρ x v y = r := by simp [Loc.set, hn, h]
theorem Hp.set_same {a : Addr} {o : AObj} : Hp.set H a o a = some (o, true) := by simp [Hp.set]
theorem Hp.set_ne {a b : Addr} {o : AObj} {r : Option (AObj × Bool)} (hn : b ≠ a) (h : H b = r) : Hp.set H a o b = r := by simp [Hp.set, hn, h]
/-- the frame stores a name of its own -/
theorem St.setLocal {F : Hp} {s : Shared} {h' : Heap} {tk : Nat} {x : Str} {y : Value} (st : St c ρ H F s) (hl : c.env.kindOf x = some .local)
    (h : ∀ m, s.heap.Ns c.L m → h'.Ns c.L (fun z => if z = x then some y else m z)) (hs : Heap.SameBut c.L s.heap h') : St c (ρ.set x (abs y)) H F { s with heap := h', toks := tk } := by
  obtain ⟨m, hm, hv⟩ := st.ns
  have hk : ∀ b o, b ≠ c.L → s.heap.get? b = some o → h'.get? b = some o := fun b o n e => hs.extBut b o n e
  refine ⟨⟨_, h m hm, fun z v e kz => ?_⟩, fun z a e => ?_, fun b o e => hk b o ?_ (st.keep b o e), st.above, fun a o b e => (st.has a o b e).keeps (fun o' n e' => hk a o' n e') st.above, fun a o b e => (st.hasF a o b e).keeps (fun o' n e' => hk a o' n e') st.above, st.dis⟩
  · by_cases q : z = x
    · subst q; rw [Loc.set_same] at e; cases e; exact ⟨y, by simp, rfl⟩
    · simp only [Loc.set, if_neg q] at e ⊢; exact hv z v e kz
  · obtain ⟨ob, o, g, d, ne, r1, r0, r2, r3⟩ := st.cel z a e
    refine ⟨ob, o, hk a ob ne g, d, ne, r1, r0, r2, fun v e' kz => ?_⟩
    have q : z ≠ x := by
      intro q; subst q
      rcases kz with k | k <;> (rw [hl] at k; cases k)
    simp only [Loc.set, if_neg q] at e'
    exact r3 v e' kz
  · intro e'; have := Heap.lt_size e; rw [e'] at this; exact absurd this (Nat.not_lt_of_le st.above)
theorem tri_store_local {x : Str} {y : Value} (ok : Ok c) (hl : c.env.kindOf x = some .local) : Tri c ρ H (storeName c.env x y) fun _ ρ' H' => ρ' = ρ.set x (abs y) ∧ H' = H :=
  Tri.of fun F s Q st k => by
    obtain ⟨m, hm, hv⟩ := st.ns
    have hp : (c.env.scope.kind == .class || (c.env.scope.kind == .module && c.env.locals != c.env.globals)) = false := by rw [ok.kind]; rfl
    refine wpAny_storeName_local hl hm (fun h' hn hs => k _ _ _ _ (.mem s _ _) (st.setLocal hl (fun m' hm' => ?_) hs) ⟨rfl, rfl⟩) hp
    have : m' = m := by
      obtain ⟨o, es, ep, g, d, _, f⟩ := hm
      obtain ⟨o', es', ep', g', d', _, f'⟩ := hm'
      rw [g] at g'; cases g'; rw [d] at d'; cases d'
      funext z; rw [← f, ← f']
    subst this; exact hn
theorem tri_store_cell {x : Str} {y : Value} {a : Addr} (ok : Ok c) (ho : c.own = true) (hl : c.env.kindOf x = some .cell) (hc : c.env.cells.lookup x = some a) : Tri c ρ H (storeName c.env x y) fun _ ρ' H' => ρ' = ρ.set x (abs y) ∧ H' = H :=
  Tri.of fun F s Q st k => by
    obtain ⟨ob, o, g, d, ne, r1, hH, r2, r3⟩ := st.cel x a hc
    refine wpAny_storeName_cell ok.kind hl hc ⟨ob, g, d⟩ fun h' hc' hs => k _ _ _ _ (.mem s h' s.toks) ?_ ⟨rfl, rfl⟩
    obtain ⟨h0, hF⟩ := r2 ho
    have hk : ∀ b o, b ≠ a → s.heap.get? b = some o → h'.get? b = some o := fun b o n e => hs.extBut b o n e
    obtain ⟨m, hm, hv⟩ := st.ns
    refine ⟨⟨m, hm.extBut hs.extBut (Ne.symm ne), fun z v e kz => ?_⟩, fun z b e => ?_, fun b o e => hk b o (fun q => by rw [q, h0] at e; cases e) (st.keep b o e), st.above,
      fun b o fl e => (st.has b o fl e).keeps (fun o' n e' => hk b o' (fun q => by rw [q, hH] at e; cases e) e') st.above, fun b o fl e => (st.hasF b o fl e).keeps (fun o' n e' => hk b o' (fun q => by rw [q, hF] at e; cases e) e') st.above, st.dis⟩
    · have q : z ≠ x := by
        intro q; subst q; rw [hl] at kz; cases kz
      simp only [Loc.set, if_neg q] at e
      exact hv z v e kz
    · by_cases q : z = x
      · subst q
        rw [hc] at e; cases e
        obtain ⟨ob', g', d'⟩ := hc'
        refine ⟨ob', _, g', d', ne, .inl h0, hH, r2, fun v e' _ => ?_⟩
        rw [Loc.set_same] at e'; cases e'; exact ⟨y, rfl, rfl⟩
      · obtain ⟨ob₁, o₁, g₁, d₁, ne₁, s1, s0, s2, s3⟩ := st.cel z b e
        have qa : b ≠ a := fun qa => q (ok.inj ho z x a (qa ▸ e) hc)
        refine ⟨ob₁, o₁, hk b ob₁ qa g₁, d₁, ne₁, s1, s0, s2, fun v e' kz => ?_⟩
        simp only [Loc.set, if_neg q] at e'
        exact s3 v e' kz
/-- a name that the frame stores -/
def Stores (c : Cx) (x : Str) : Prop := c.env.kindOf x = some .local ∨ (c.own = true ∧ c.env.kindOf x = some .cell)
theorem tri_store {x : Str} {y : Value} (ok : Ok c) (h : Stores c x) : Tri c ρ H (storeName c.env x y) fun _ ρ' H' => ρ' = ρ.set x (abs y) ∧ H' = H := by
  rcases h with h | ⟨h1, h2⟩
  · exact tri_store_local ok h
  · obtain ⟨a, h3⟩ := ok.cells x (.inl h2)
    exact tri_store_cell ok h1 h2 h3
theorem ex_assign {x : Str} {pos' pos : Pos} {e : Expr} {Φ : AF → Loc → Hp → Prop} (ok : Ok c) (hx : Stores c x) (h : EV c ρ H e fun v H' => Φ .next (ρ.set x v) H')
    (hs : swapsWith e (some (.Name x pos')) pos.line c.env = pure false := by rfl) : EX c ρ H (.Assign [.Name x pos'] e pos) Φ :=
  Tri.of fun F s Q st k => wpAny_Assign_Name (h.use st fun a s₁ ρ₁ H₁ sm st₁ ⟨e, p⟩ => by
    subst e
    exact (tri_store ok hx).use st₁ fun _ s₂ ρ₂ H₂ sm₂ st₂ ⟨e₁, e₂⟩ => by subst e₁ e₂; exact k _ _ _ _ (sm.trans sm₂) st₂ p) hs
theorem ex_expr {e : Expr} {pos : Pos} {Φ : AF → Loc → Hp → Prop} (ok : Ok c) (h : EV c ρ H e fun _ H' => Φ .next ρ H') (hs : swapsWith e none pos.line c.env = pure false := by rfl) : EX c ρ H (.Expr e pos) Φ :=
  Tri.of fun F s Q st k => wpAny_Expr_any (h.use st fun a s₁ ρ₁ H₁ sm st₁ ⟨e, p⟩ => by subst e; exact k _ _ _ _ sm st₁ p) (by unfold interactive; rw [ok.kind]; rfl) hs
/-- a while by an invariant with a measure -/
theorem ex_while {test : Expr} {body : List Stmt} {pos : Pos} {Φ : AF → Loc → Hp → Prop} (I : Nat → Loc → Hp → Prop) (n : Nat) (h0 : I n ρ H)
    (turn : ∀ n ρ H, I n ρ H → TV c ρ H test fun b H' => if b then XS c ρ H' body fun f ρ₂ H₂ => (match f with
      | .next | .cont => ∃ k, k < n ∧ I k ρ₂ H₂
      | .brk => Φ .next ρ₂ H₂
      | .ret v => Φ (.ret v) ρ₂ H₂) else Φ .next ρ H') : EX c ρ H (.While test body [] pos) Φ :=
  Tri.of fun F s Q st k => by
    refine wpAny_While (codeAny_whileLoop (fun n s' => ∃ ρ' H', Stp s H s' H' ∧ St c ρ' H' F s' ∧ I n ρ' H') ?_ n ⟨ρ, H, .refl s, st, h0⟩)
    rintro n s₁ ⟨ρ₁, H₁, sm, st₁, hI⟩
    refine (turn n ρ₁ H₁ hI).use st₁ fun b s₂ ρ₂ H₂ sm₂ st₂ ⟨e, p⟩ => ?_
    subst e
    cases b with
    | true =>
      refine p.use st₂ fun f s₃ ρ₃ H₃ sm₃ st₃ p₃ => ?_
      cases f with
      | next => obtain ⟨k', hk, hI'⟩ := p₃; exact ⟨k', hk, ρ₃, H₃, sm.trans (sm₂.trans sm₃), st₃, hI'⟩
      | cont => obtain ⟨k', hk, hI'⟩ := p₃; exact ⟨k', hk, ρ₃, H₃, sm.trans (sm₂.trans sm₃), st₃, hI'⟩
      | brk => exact k _ _ _ _ (sm.trans (sm₂.trans sm₃)) st₃ p₃
      | ret v => exact k _ _ _ _ (sm.trans (sm₂.trans sm₃)) st₃ p₃
    | false => exact wpAny_execs_nil (k _ _ _ _ (sm.trans sm₂) st₂ p)
end
/-- a frame that calls, n deep -/
structure OkC (c : Cx) (n : Nat) : Prop where
  below : ∃ A₀ base outer, Below A₀ base outer c.h₀ ∧ c.A.frames = some (c.env :: outer)
  frame : c.env.frame = some c.env.locals
  depth : c.A.depth + n < 900
  units : c.A.units + 3 * n < 500
theorem lookup_mem {β : Type} {x : Str} {v : β} : ∀ {l : List (Str × β)}, l.lookup x = some v → (x, v) ∈ l
  | [], h => by cases h
  | (y, w) :: r, h => by
    by_cases q : x = y
    · subst q; simp [List.lookup_cons] at h; subst h; exact .head _
    · have : (x == y) = false := by simpa using q
      rw [List.lookup_cons, this] at h
      exact .tail _ (lookup_mem h)
def retv : AF → AV
  | .ret v => v
  | _ => .none
section
variable {c : Cx} {ρ : Loc} {H : Hp}
def cxOf (c : Cx) (qual : Str) (scope : Scope) (L' f : Addr) (cdv : Value) (g : Heap) : Cx :=
  { prog := c.prog, w := c.w, A := c.A.deeper (envOf qual scope L' f cdv), env := envOf qual scope L' f cdv, h₀ := g, own := true, K := c.K }
open Classical in
theorem call_def {name qual : Str} {params : Arguments} {body : List Stmt} {scope : Scope} {dV kV doc pm cdv ct oc : Value} {an od : Option Addr} {osl : Array (Option Value)} {f : Addr} {vs : List Value} {binds : List (Str × Value)} {n : Nat} {Φ : AV → Hp → Prop}
    (ok : Ok c) (okc : OkC c (n + 1)) (ho : c.K.lookup f = some ⟨oc, od, .func (fnOf name qual params body scope dV kV doc pm an cdv ct), osl⟩) (hcd : codeIn c.K cdv qual = true)
    (hbind : ∀ s : Shared, c.K.In s.heap → BindsTo s (fnOf name qual params body scope dV kV doc pm an cdv ct) ⟨vs, []⟩ binds) (hloc : ∀ y ∈ binds, scope.names.lookup y.1 = some .local)
    (hco : scope.isCoroutine = false) (hgen : scope.isGenerator = false) (hk : scope.kind = .function) (hcell : ∀ x ∈ scope.names, x.2 ≠ .cell) (hfree : ∀ x ∈ scope.names, x.2 ≠ .free)
    (h : ∀ L' g, Ok (cxOf c qual scope L' f cdv g) → OkC (cxOf c qual scope L' f cdv g) n →
      XS (cxOf c qual scope L' f cdv g) (fun y => (binds.reverse.lookup y).map abs) H body fun fl _ H' => Φ (retv fl) H') :
    OV c ρ H (call (.ref f) vs) Φ :=
  Tri.of fun F s Q st k => by
    obtain ⟨A₀, base, outer, B, hA⟩ := okc.below
    obtain ⟨p, loose, mean, mg, mb, T⟩ := ok.top
    obtain ⟨m, hm, hv⟩ := st.fr
    have hroom : c.A.depth < recursionLimit := by have := ok.depth; have e : recursionLimit = 1000 := rfl; rw [e]; omega
    refine wpAny_call (code_def B hm ok.kin (allNews_news (h := s.heap)) T hA okc.frame ok.kind ho hcd hroom (hbind s (ok.kin.keeps st.keep)) hloc ?_ hco hgen hk hcell)
    intro g L' h₁ FG F' N' B' X' T'
    have hok : Ok (cxOf c qual scope L' f cdv g) := ⟨X', ⟨p, loose, mean, mg, mb, T'⟩, hk, rfl, rfl, ok.hand, by show c.A.depth + 1 < 900; have := okc.depth; omega, by show c.A.units + 3 < 500; have := okc.units; omega, by
      rintro x (e | e)
      · exact absurd rfl (hcell _ (lookup_mem e))
      · exact absurd rfl (hfree _ (lookup_mem e)), by intro _ x y a e; cases e⟩
    have hokc : OkC (cxOf c qual scope L' f cdv g) n := ⟨⟨c.A, base, c.env :: outer, B', by show (c.A.frames.map _) = _; rw [hA]; rfl⟩, rfl, by show c.A.depth + 1 + n < 900; have := okc.depth; omega, by show c.A.units + 3 + 3 * n < 500; have := okc.units; omega⟩
    -- the callee's frame: what it does not know of stays
    let F₂ : Hp := fun a => match F a with
      | some x => some x
      | none => if H a ≠ none then none else match (allNews c.h₀ c.L s.heap).lookup a with
        | some o => some (.raw o, true)
        | none => none
    have look : ∀ a o, s.heap.get? a = some o → c.h₀.get? a = none → a ≠ c.L → (allNews c.h₀ c.L s.heap).lookup a = some o := by
      intro a o e e0 hne
      have hmem := mem_allNews.mpr ⟨hne, e0, e⟩
      have hall : ∀ q ∈ allNews c.h₀ c.L s.heap, q.1 = a → q.2 = o := by
        rintro ⟨b, o'⟩ hq rfl
        have := (mem_allNews.mp hq).2.2
        rw [e] at this; cases this; rfl
      revert hmem hall
      generalize allNews c.h₀ c.L s.heap = l
      intro hmem hall
      induction l with
      | nil => cases hmem
      | cons q r ih =>
        obtain ⟨b, o'⟩ := q
        by_cases hb : a = b
        · subst hb; have := hall (a, o') (.head _) rfl; dsimp only at this; subst this; simp [List.lookup_cons]
        · have : (a == b) = false := by simpa using hb
          rw [List.lookup_cons, this]
          refine ih ?_ fun q hq => hall q (.tail _ hq)
          rcases List.mem_cons.mp hmem with e | e
          · cases e; exact absurd rfl hb
          · exact e
    have unlook : ∀ a o, (allNews c.h₀ c.L s.heap).lookup a = some o → (a, o) ∈ allNews c.h₀ c.L s.heap := by
      intro a o
      generalize allNews c.h₀ c.L s.heap = l
      induction l with
      | nil => intro e; cases e
      | cons q r ih =>
        obtain ⟨b, o'⟩ := q
        intro e
        by_cases hb : a = b
        · subst hb; simp [List.lookup_cons] at e; subst e; exact .head _
        · have : (a == b) = false := by simpa using hb
          rw [List.lookup_cons, this] at e
          exact .tail _ (ih e)
    have trans : ∀ a o b, HasP c a o b s.heap → HasP (cxOf c qual scope L' f cdv g) a o b h₁ := by
      rintro a o b ⟨ob, e, r, r1, r2⟩
      cases b with
      | true =>
        obtain ⟨n1, n2⟩ := r1 rfl
        have z := N' _ (mem_allNews.mpr ⟨n1, n2, e⟩)
        exact ⟨ob, z.1, r, fun _ => ⟨z.2.1, z.2.2⟩, fun x => by cases x⟩
      | false =>
        have z := FG.keep a ob (r2 rfl)
        exact ⟨ob, F'.keep a ob z, r, (fun x => by cases x), fun _ => z⟩
    have st₁ : St (cxOf c qual scope L' f cdv g) (fun y => (binds.reverse.lookup y).map abs) H F₂ { s with heap := h₁, toks := s.toks + binds.length } := by
      refine ⟨⟨_, F'.ns, fun x v e _ => ?_⟩, (fun x a e => by cases e), F'.keep, F'.above, fun a o b e => trans a o b (st.has a o b e), fun a o b e => ?_, fun a ha => ?_⟩
      · simp only [Option.map_eq_some_iff] at e
        obtain ⟨y, e1, e2⟩ := e
        exact ⟨y, e1, e2⟩
      · show HasP _ _ _ _ _
        simp only [F₂] at e
        split at e
        · rename_i x hx; cases e; exact trans a o b (st.hasF a o b hx)
        · split at e
          · cases e
          · split at e
            · rename_i ob hob
              cases e
              obtain ⟨n1, n2, n3⟩ := mem_allNews.mp (unlook a ob hob)
              exact trans a _ true ⟨ob, n3, rfl, fun _ => ⟨n1, n2⟩, fun x => by cases x⟩
            · cases e
      · simp only [F₂, st.dis a ha, if_pos ha]
    refine (h L' g hok hokc).use st₁ fun fl s' ρ' H' sm st' p => ?_
    obtain ⟨m₂, hm₂, _⟩ := st'.fr
    refine leaveK_ (news' := allNews g L' s'.heap) hm₂ allNews_news fun Fb Nb => ?_
    -- back in the caller
    have back : ∀ a o b, HasP (cxOf c qual scope L' f cdv g) a o b s'.heap → (b = false → ∃ ob, c.h₀.get? a = some ob ∧ s'.heap.get? a = some ob) → HasP c a o b s'.heap := by
      rintro a o b ⟨ob, e, r, r1, r2⟩ hb
      cases b with
      | true =>
        obtain ⟨n1, n2⟩ := r1 rfl
        have z := Nb _ (mem_allNews.mpr ⟨n1, n2, e⟩)
        exact ⟨ob, e, r, fun _ => ⟨z.2.1, z.2.2⟩, fun x => by cases x⟩
      | false =>
        obtain ⟨ob', z, z'⟩ := hb rfl
        rw [e] at z'; cases z'
        exact ⟨ob, e, r, (fun x => by cases x), fun _ => z⟩
    have F₂_of : ∀ a x, F a = some x → F₂ a = some x := by intro a x e; simp only [F₂, e]
    have stb : St c ρ H' F s' := by
      refine ⟨⟨m, Fb.ns, hv⟩, fun x a e => ?_, Fb.keep, st.above, fun a o b e => back a o b (st'.has a o b e) ?_, fun a o b e => back a o b (st'.hasF a o b (F₂_of _ _ e)) ?_, fun a ha => ?_⟩
      · obtain ⟨ob, o, g₁, d, ne, r1, r0, r2, r3⟩ := st.cel x a e
        have hkeep : s'.heap.get? a = some ob := by
          rcases r1 with r1 | r1
          · have : ∃ x, F₂ a = some (.raw ob, x) := by
              cases eF : F a with
              | none =>
                refine ⟨true, ?_⟩
                simp only [F₂, eF, r0, look a ob g₁ r1 ne]
                simp
              | some y =>
                obtain ⟨oy, by'⟩ := y
                obtain ⟨ob', e', rr, _⟩ := st.hasF a oy by' eF
                rw [g₁] at e'; cases e'
                cases oy with
                | raw o₂ => cases rr; exact ⟨by', F₂_of _ _ eF⟩
                | list xs => exact absurd d (ORep.not_cell rr rfl o)
                | tup xs => exact absurd d (ORep.not_cell rr rfl o)
                | dict xs => exact absurd d (ORep.not_cell rr rfl o)
            obtain ⟨y, hy⟩ := this
            obtain ⟨ob', e', rr, _⟩ := st'.hasF a _ y hy
            cases rr; exact e'
          · exact Fb.keep a ob r1
        have hH : H' a = none := by
          cases eH : H' a with
          | none => rfl
          | some y =>
            obtain ⟨oy, by'⟩ := y
            obtain ⟨ob', e', rr, z1, z2⟩ := st'.has a oy by' eH
            exfalso
            have hF2 := st'.dis a (by rw [eH]; exact nofun)
            rcases r1 with r1 | r1
            · cases eF : F a with
              | none =>
                simp only [F₂, eF, r0, look a ob g₁ r1 ne] at hF2
                simp at hF2
              | some y => rw [F₂_of _ _ eF] at hF2; cases hF2
            · cases by' with
              | true => have z3 : g.get? a = none := (z1 rfl).2; rw [FG.keep a ob r1] at z3; cases z3
              | false => have := sm.fz a oy eH; rw [r0] at this; cases this
        exact ⟨ob, o, hkeep, d, ne, r1, hH, r2, r3⟩
      · rintro rfl
        have e2 := sm.fz a o e
        obtain ⟨ob, _, _, _, z⟩ := st.has a o false e2
        exact ⟨ob, z rfl, Fb.keep a ob (z rfl)⟩
      · rintro rfl
        obtain ⟨ob, _, _, _, z⟩ := st.hasF a o false e
        exact ⟨ob, z rfl, Fb.keep a ob (z rfl)⟩
      · have := st'.dis a ha
        cases eF : F a with
        | none => rfl
        | some y => rw [F₂_of _ _ eF] at this; cases this
    have hs : Stp s H s' H' := ⟨Same.trans ⟨h₁, s.toks + binds.length, rfl⟩ sm.same, sm.fz⟩
    cases fl with
    | ret v => exact k v s' ρ H' hs stb ⟨rfl, p⟩
    | next => exact k .none s' ρ H' hs stb ⟨rfl, p⟩
    | brk => exact k .none s' ρ H' hs stb ⟨rfl, p⟩
    | cont => exact k .none s' ρ H' hs stb ⟨rfl, p⟩
end
section
variable {c : Cx} {ρ : Loc} {H : Hp}
def noStars : List Expr → Bool
  | [] => true
  | .Starred .. :: _ => false
  | _ :: r => noStars r
theorem back_plain {pos : Pos} {env : Env} : ∀ {es : List Expr}, noStars es = true → backTo pos (starEach es env) = es.map (fun e => (false, eval e env))
  | [], _ => rfl
  | e :: r, h => by
    have ih := @back_plain pos env r
    unfold backTo at ih ⊢
    cases e <;> first | (cases h; done) | (simp only [starEach, List.map_cons, Bool.false_eq_true, if_false]; rw [ih h])
def ES (c : Cx) (ρ : Loc) (H : Hp) (es : List Expr) (Φ : List AV → Hp → Prop) : Prop :=
  Tri c ρ H (spliced (es.map fun e => (false, eval e c.env))) fun ys ρ' H' => ρ' = ρ ∧ Φ (ys.map abs) H'
theorem es_nil {Φ : List AV → Hp → Prop} (h : Φ [] H) : ES c ρ H [] Φ := Tri.of fun F s Q st k => spliced_nil (k _ _ _ _ (.refl s) st ⟨rfl, h⟩)
theorem es_cons {e : Expr} {es : List Expr} {Φ : List AV → Hp → Prop} (h : EV c ρ H e fun v H₁ => ES c ρ H₁ es fun vs H₂ => Φ (v :: vs) H₂) : ES c ρ H (e :: es) Φ :=
  Tri.of fun F s Q st k => spliced_cons (h.use st fun v s₁ ρ₁ H₁ sm₁ st₁ ⟨e₁, h₁⟩ => by
    subst e₁
    exact h₁.use st₁ fun vs s₂ ρ₂ H₂ sm₂ st₂ ⟨e₂, h₂⟩ => by subst e₂; exact k _ _ _ _ (sm₁.trans sm₂) st₂ ⟨rfl, h₂⟩)
theorem es_pv {e : Expr} {es : List Expr} {v : AV} {Φ : List AV → Hp → Prop} (h : PV c ρ H e v) (h' : ES c ρ H es fun vs H₂ => Φ (v :: vs) H₂) : ES c ρ H (e :: es) Φ := es_cons (h.ev h')
def PS (c : Cx) (ρ : Loc) (H : Hp) (es : List Expr) (vs : List AV) : Prop := ES c ρ H es fun vs' H' => vs' = vs ∧ H' = H
theorem ps_nil : PS c ρ H [] [] := es_nil ⟨rfl, rfl⟩
theorem ps_cons {e : Expr} {es : List Expr} {v : AV} {vs : List AV} (h : PV c ρ H e v) (h' : PS c ρ H es vs) : PS c ρ H (e :: es) (v :: vs) :=
  es_pv h (Tri.mono h' fun _ _ _ ⟨a, b, d⟩ => ⟨a, by rw [b], d⟩)
theorem PS.es {es : List Expr} {vs : List AV} {Φ : List AV → Hp → Prop} (h : PS c ρ H es vs) (hi : Φ vs H) : ES c ρ H es Φ :=
  Tri.mono h fun _ _ _ ⟨a, b, d⟩ => ⟨a, by rw [b, d]; exact hi⟩
theorem ev_call_bi {x : Str} {np pos : Pos} {e : Expr} {es : List Expr} {id : String} {Φ : AV → Hp → Prop} (ok : Ok c) (hl : c.env.kindOf x = some .globalImplicit) (hg : gl c.K x = some (.builtin id))
    (h : ES c ρ H (e :: es) fun vs H₁ => ∀ ys, ys.map abs = vs → OV c ρ H₁ (call (.builtin id) ys) Φ)
    (hns : noStars (e :: es) = true := by decide +kernel) (hd : (x == ("__debug__" : Str)) = false := by decide +kernel) (hn : x ≠ ("__name__" : Str) := by decide +kernel) :
    EV c ρ H (.Call (.Name x np) (e :: es) [] pos) Φ :=
  Tri.of fun F s Q st k => wpAny_Call_NameR (gl_loads ok hl hg hd hn st (by
    rw [back_plain hns]
    refine callWith_builtin (by simp [List.any_eq]) (evalArgs_plain ?_)
    exact h.use st fun ys s₁ ρ₁ H₁ sm₁ st₁ ⟨e₁, h₁⟩ => by
      subst e₁
      rw [List.nil_append]
      exact (h₁ ys rfl).use st₁ fun r s₂ ρ₂ H₂ sm₂ st₂ ⟨e₂, h₂⟩ => by subst e₂; exact k _ _ _ _ (sm₁.trans sm₂) st₂ ⟨rfl, h₂⟩))
theorem ev_call_fn {x : Str} {np pos : Pos} {e : Expr} {es : List Expr} {f : Addr} {oc : Value} {od : Option Addr} {fd : FuncData} {osl : Array (Option Value)} {Φ : AV → Hp → Prop} (ok : Ok c) (hl : c.env.kindOf x = some .globalImplicit) (hg : gl c.K x = some (.ref f))
    (ho : c.K.lookup f = some ⟨oc, od, .func fd, osl⟩)
    (h : ES c ρ H (e :: es) fun vs H₁ => ∀ ys, ys.map abs = vs → OV c ρ H₁ (call (.ref f) ys) Φ)
    (hns : noStars (e :: es) = true := by decide +kernel) (hd : (x == ("__debug__" : Str)) = false := by decide +kernel) (hn : x ≠ ("__name__" : Str) := by decide +kernel) :
    EV c ρ H (.Call (.Name x np) (e :: es) [] pos) Φ :=
  Tri.of fun F s Q st k => wpAny_Call_NameR (gl_loads ok hl hg hd hn st (by
    rw [back_plain hns]
    refine callWith_function (o := ⟨oc, od, .func fd, osl⟩) (fd := fd) (evalArgs_plain ?_)
    exact h.use st fun ys s₁ ρ₁ H₁ sm₁ st₁ ⟨e₁, h₁⟩ => by
      subst e₁
      rw [List.nil_append]
      exact ⟨⟨st₁.keep _ _ (ok.kin _ _ ho), rfl⟩, (h₁ ys rfl).use st₁ fun r s₂ ρ₂ H₂ sm₂ st₂ ⟨e₂, h₂⟩ => by subst e₂; exact k _ _ _ _ (sm₁.trans sm₂) st₂ ⟨rfl, h₂⟩⟩))
theorem St.isList {F : Hp} {s : Shared} {a : Addr} {xs : List AV} {fl : Bool} (st : St c ρ H F s) (h : H a = some (.list xs, fl)) : ∃ its : Array Value, s.heap.IsList a its ∧ its.toList.map abs = xs := by
  obtain ⟨ob, g, ⟨its, n, hc, hd, he, _⟩, _⟩ := st.has a _ fl h
  exact ⟨its, ⟨ob, g, hc, n, hd⟩, he⟩
theorem St.isTup {F : Hp} {s : Shared} {a : Addr} {xs : List AV} {fl : Bool} (st : St c ρ H F s) (h : H a = some (.tup xs, fl)) : ∃ its : Array Value, IsTup s.heap a its ∧ its.toList.map abs = xs := by
  obtain ⟨ob, g, ⟨its, n, hc, hd, he, _⟩, _⟩ := st.has a _ fl h
  exact ⟨its, ⟨ob, g, hc, n, hd⟩, he⟩
theorem size_of_map {its : Array Value} {xs : List AV} (h : its.toList.map abs = xs) : its.size = xs.length := by rw [← h]; simp
theorem item_of_map {its : Array Value} {xs : List AV} {k : Nat} {v : AV} (h : its.toList.map abs = xs) (hv : xs[k]? = some v) : ∃ y, its[k]? = some y ∧ abs y = v := by
  rw [← h, List.getElem?_map, Option.map_eq_some_iff] at hv
  obtain ⟨y, h1, h2⟩ := hv
  exact ⟨y, by simpa using h1, h2⟩
theorem seqIndex_pos {k : Int} {n : Nat} (h0 : 0 ≤ k) (h1 : k.toNat < n) : seqIndex? k n = some k.toNat := by
  unfold seqIndex?
  have e : ¬ (k < 0) := by omega
  simp only [e, if_false]
  rw [if_pos]
  simp only [Bool.and_eq_true, decide_eq_true_eq]; omega
theorem seqIndex_neg {k : Int} {n : Nat} (h0 : k < 0) (h1 : 0 ≤ k + n) (h2 : (k + n).toNat < n) : seqIndex? k n = some (k + n).toNat := by
  unfold seqIndex?
  simp only [h0, if_true]
  rw [if_pos]
  simp only [Bool.and_eq_true, decide_eq_true_eq]; omega
/-- the written place is no slice -/
def plainIdx : Expr → Bool
  | .Slice .. => false
  | _ => true
theorem subscripted_plain {i : Expr} (h : plainIdx i = true) (o v : Value) : subscripted i false o v = operate [o, v] (getItem o v) := by
  cases i <;> first | rfl | cases h
theorem ev_sub {v i : Expr} {pos : Pos} {Φ : AV → Hp → Prop} (hi : plainIdx i = true) (h : EV c ρ H v fun a H₁ => EV c ρ H₁ i fun b H₂ => ∃ l k xs fl, a = .ref l ∧ b = .int k ∧ (H₂ l = some (.list xs, fl) ∨ H₂ l = some (.tup xs, fl)) ∧ xs.length < 1000000000 ∧
      ∃ y, ((0 ≤ k ∧ xs[k.toNat]? = some y) ∨ (k < 0 ∧ 0 ≤ k + xs.length ∧ xs[(k + xs.length).toNat]? = some y)) ∧ Φ y H₂) : EV c ρ H (.Subscript v i pos) Φ :=
  Tri.of fun F s Q st k => Subscript_ (h.use st fun a s₁ ρ₁ H₁ sm₁ st₁ ⟨e₁, h₁⟩ => by
    subst e₁
    exact h₁.use st₁ fun b s₂ ρ₂ H₂ sm₂ st₂ ⟨e₂, h₂⟩ => by
      subst e₂
      obtain ⟨l, n, xs, fl, ha, hb, hl, hlen, y, hy, p⟩ := h₂
      have := abs_ref ha; subst this
      obtain ⟨u, rfl⟩ := abs_int hb
      rcases hl with hl | hl
      · obtain ⟨its, hits, he⟩ := st₂.isList hl
        have hsz := size_of_map he
        rcases hy with ⟨h0, hx⟩ | ⟨h0, h1, hx⟩
        · obtain ⟨z, hz, hzy⟩ := item_of_map he hx
          have hlt : n.toNat < its.size := (Array.getElem?_eq_some_iff.mp hz).1
          exact tail_any hits.typeIs slot_list_getitem.lookup (wpAny_getItem_list hits h0 (by omega) hz (k _ _ _ _ (sm₁.trans sm₂) st₂ ⟨rfl, by rw [hzy]; exact p⟩)) (subscripted_plain hi _ _)
        · rw [← hsz] at hx h1
          obtain ⟨z, hz, hzy⟩ := item_of_map he hx
          exact tail_any hits.typeIs slot_list_getitem.lookup (wpAny_getItem_list_neg hits h0 (by omega) (by omega) hz (k _ _ _ _ (sm₁.trans sm₂) st₂ ⟨rfl, by rw [hzy]; exact p⟩)) (subscripted_plain hi _ _)
      · obtain ⟨its, hits, he⟩ := st₂.isTup hl
        have hsz := size_of_map he
        obtain ⟨ob, g, hc, _⟩ := id hits
        have hty : s₂.TypeIs (.ref l) "tuple" := ⟨ob, g, hc⟩
        rcases hy with ⟨h0, hx⟩ | ⟨h0, h1, hx⟩
        · obtain ⟨z, hz, hzy⟩ := item_of_map he hx
          have hlt : n.toNat < its.size := (Array.getElem?_eq_some_iff.mp hz).1
          have hb1 : -(2 ^ 63) ≤ n := by omega
          have hb2 : n < 2 ^ 63 := by omega
          refine tail_any hty slot_tuple_getitem.lookup (PyProof.Rows.getItem_tuple hits hb1 hb2 (j := n.toNat) ?_ hz (k _ _ _ _ (sm₁.trans sm₂) st₂ ⟨rfl, by rw [hzy]; exact p⟩)) (subscripted_plain hi _ _)
          exact seqIndex_pos h0 hlt
        · rw [← hsz] at hx h1
          obtain ⟨z, hz, hzy⟩ := item_of_map he hx
          have hlt : (n + its.size).toNat < its.size := (Array.getElem?_eq_some_iff.mp hz).1
          have hb1 : -(2 ^ 63) ≤ n := by omega
          have hb2 : n < 2 ^ 63 := by omega
          refine tail_any hty slot_tuple_getitem.lookup (PyProof.Rows.getItem_tuple hits hb1 hb2 (j := (n + its.size).toNat) ?_ hz (k _ _ _ _ (sm₁.trans sm₂) st₂ ⟨rfl, by rw [hzy]; exact p⟩)) (subscripted_plain hi _ _)
          exact seqIndex_neg h0 h1 hlt)
theorem pv_item {v i : Expr} {pos : Pos} {l : Addr} {k : Int} {xs : List AV} {fl : Bool} {y : AV} (hv : PV c ρ H v (.ref l)) (hk : PV c ρ H i (.int k)) (hl : H l = some (.list xs, fl)) (hlen : xs.length < 1000000000) (h0 : 0 ≤ k) (hy : xs[k.toNat]? = some y)
    (hi : plainIdx i = true := by rfl) : PV c ρ H (.Subscript v i pos) y :=
  ev_sub hi (hv.ev (hk.ev ⟨l, k, xs, fl, rfl, rfl, .inl hl, hlen, y, .inl ⟨h0, hy⟩, rfl, rfl⟩))
theorem pv_itemT {v i : Expr} {pos : Pos} {l : Addr} {k : Int} {xs : List AV} {fl : Bool} {y : AV} (hv : PV c ρ H v (.ref l)) (hk : PV c ρ H i (.int k)) (hl : H l = some (.tup xs, fl)) (hlen : xs.length < 1000000000) (h0 : 0 ≤ k) (hy : xs[k.toNat]? = some y)
    (hi : plainIdx i = true := by rfl) : PV c ρ H (.Subscript v i pos) y :=
  ev_sub hi (hv.ev (hk.ev ⟨l, k, xs, fl, rfl, rfl, .inr hl, hlen, y, .inl ⟨h0, hy⟩, rfl, rfl⟩))
theorem pv_len {x : Str} {np pos : Pos} {e : Expr} {l : Addr} {xs : List AV} {fl : Bool} (ok : Ok c) (hl : c.env.kindOf x = some .globalImplicit) (hg : gl c.K x = some (.builtin "len")) (he : PV c ρ H e (.ref l)) (hx : H l = some (.list xs, fl)) (hlen : xs.length < 1000000000)
    (hns : noStars [e] = true := by decide +kernel) (hd : (x == ("__debug__" : Str)) = false := by decide +kernel) (hn : x ≠ ("__name__" : Str) := by decide +kernel) :
    PV c ρ H (.Call (.Name x np) [e] [] pos) (.int xs.length) :=
  ev_call_bi ok hl hg (es_pv he (es_nil fun ys hys => by
    obtain ⟨y, rfl⟩ : ∃ y, ys = [y] := by
      cases ys with
      | nil => cases hys
      | cons y r => cases r with
        | nil => exact ⟨y, rfl⟩
        | cons _ _ => simp at hys
    have hy : abs y = .ref l := by simpa using hys
    have := abs_ref hy; subst this
    exact Tri.of fun F s Q st k => by
      obtain ⟨its, hits, hm⟩ := st.isList hx
      have hsz := size_of_map hm
      refine call_len_list hits (by omega) (k _ _ ρ H (.mem s s.heap _) st.toks ⟨rfl, by rw [← hsz]; rfl, rfl⟩))) hns hd hn
def ownedKinds : List String := ["enumerate", "zip", "dict_itemiterator", "dict_reverseitemiterator", "odict_iterator", "itertools.zip_longest", "itertools.pairwise"]
structure ItOk (c : Cx) (I : Addr) (n : Nat) (val : Nat → AV) (P : Nat → Obj → Prop) (G : Hp → Prop) : Prop where
  cls : ∀ i ob, P i ob → ∃ t, ob.cls = .type t ∧ ownedKinds.contains t = false
  next : ∀ i ρ H F s ob (Q : Option Value → Shared → Prop) E, i < n → P i ob → G H → St c ρ H F s → s.heap.get? I = some ob →
    (∀ v h' tk ob', abs v = val i → Heap.SameBut I s.heap h' → h'.get? I = some ob' → P (i + 1) ob' → Q (some v) { s with heap := h', toks := tk }) → wpAny c.M c.A (pyNext (.ref I)) Q E s
  done : ∀ ρ H F s ob (Q : Option Value → Shared → Prop) E, P n ob → G H → St c ρ H F s → s.heap.get? I = some ob →
    (∀ h' tk, Heap.ExtBut I s.heap h' → Q none { s with heap := h', toks := tk }) → wpAny c.M c.A (pyNext (.ref I)) Q E s
  self : ∀ i s ob (Q : Value → Shared → Prop) E, P i ob → s.heap.get? I = some ob → Q (.ref I) s → wpAny c.M c.A (pyIter (.ref I)) Q E s
theorem itok_list {l I : Addr} {xs : List AV} (hh : c.A.handled = none) : ItOk c I xs.length (fun i => xs.getD i .none) (fun i ob => ob.cls = .type "list_iterator" ∧ ob.data = .fields #[.ref l, .int (i : Nat) 0]) (fun H => ∃ fl, H l = some (.list xs, fl)) where
  cls := fun i ob ⟨h, _⟩ => ⟨_, h, by decide⟩
  next := by
    rintro i ρ H F s ob Q E hi ⟨h1, h2⟩ ⟨fl, hl⟩ st g hQ
    obtain ⟨its, hits, he⟩ := st.isList hl
    obtain ⟨y, hy, hya⟩ := item_of_map (k := i) (v := xs.getD i .none) he (by simp [List.getD, hi])
    refine wpAny_pyNext_list_item ⟨ob, g, h1, h2⟩ hits hy fun h' hit' hs' => ?_
    obtain ⟨ob', g', c', d'⟩ := hit'
    exact hQ y h' s.toks ob' hya hs' g' ⟨c', d'⟩
  done := by
    rintro ρ H F s ob Q E ⟨h1, h2⟩ ⟨fl, hl⟩ st g hQ
    obtain ⟨its, hits, he⟩ := st.isList hl
    have hsz := size_of_map he
    exact wpAny_pyNext_list_end hh ⟨ob, g, h1, h2⟩ hits (by rw [← hsz]; simp) fun h' hx => hQ h' s.toks hx
  self := by
    rintro i s ob Q E ⟨h1, h2⟩ g hQ
    exact wpAny_pyIter_listiter ⟨ob, g, h1, h2⟩ hQ
theorem itok_range {I : Addr} {a st : Int} {n : Nat} (hh : c.A.handled = none) : ItOk c I n (fun i => .int (a + i * st)) (fun i ob => ob = { cls := .type "range_iterator", dict := none, data := .fields #[rawInt (a + (i : Nat) * st), rawInt ((n : Int) - (i : Nat)), rawInt st], slots := #[] }) (fun _ => True) where
  cls := fun i ob h => by subst h; exact ⟨_, rfl, by decide⟩
  next := by
    rintro i ρ H F s ob Q E hi rfl _ _ g hQ
    refine wpAny_pyNext_range_item g (by omega) fun h' hit' hs' => ?_
    have e1 : a + ((i + 1 : Nat) : Int) * st = a + (i : Int) * st + st := by push_cast; rw [Int.add_mul, Int.one_mul, Int.add_assoc]
    have e2 : (n : Int) - ((i + 1 : Nat) : Int) = (n : Int) - (i : Int) - 1 := by push_cast; omega
    exact hQ _ h' _ _ rfl hs' hit' (by rw [e1, e2])
  done := by
    rintro ρ H F s ob Q E rfl _ _ g hQ
    exact wpAny_pyNext_range_end hh g (by omega) fun h' hx => hQ h' s.toks hx
  self := by
    rintro i s ob Q E rfl g hQ
    exact wpAny_pyIter_rangeiter g hQ
theorem St.addF {F : Hp} {s : Shared} {I : Addr} {ob : Obj} {h' : Heap} {tk : Nat} (st : St c ρ H F s) (hI : s.heap.get? I = none) (hk : ∀ b o, s.heap.get? b = some o → h'.get? b = some o) (ho : h'.get? I = some ob) :
    St c ρ H (F.set I (.raw ob)) { s with heap := h', toks := tk } := by
  have st' := st.keepsAll (tk := tk) hk
  have hfr := st.fresh hI
  have hL : I ≠ c.L := by
    intro e; obtain ⟨m, ⟨o', es, ep, ho', _⟩, _⟩ := st.ns; rw [← e, hI] at ho'; cases ho'
  have h0 : c.h₀.get? I = none := by
    cases e : c.h₀.get? I with
    | none => rfl
    | some p => have := st.keep I p e; rw [hI] at this; cases this
  refine ⟨st'.ns, fun x b e => ?_, st'.keep, st'.above, st'.has, fun b o' fl e => ?_, fun b hb => ?_⟩
  · obtain ⟨ob', o', g, d, ne, r1, r0, r2, r3⟩ := st.cel x b e
    have : b ≠ I := by intro q; rw [q, hI] at g; cases g
    exact ⟨ob', o', hk b ob' g, d, ne, r1, r0, fun h => ⟨(r2 h).1, by simp only [Hp.set, if_neg this]; exact (r2 h).2⟩, r3⟩
  · by_cases q : b = I
    · subst q; simp only [Hp.set, if_pos rfl] at e; cases e
      exact ⟨ob, ho, rfl, fun _ => ⟨hL, h0⟩, fun x => by cases x⟩
    · simp only [Hp.set, if_neg q] at e; exact st'.hasF b o' fl e
  · have q : b ≠ I := by intro q; rw [q] at hb; exact hb hfr.1
    simp only [Hp.set, if_neg q]; exact st.dis b hb
/-- the hidden object changes -/
theorem St.updF {F : Hp} {s : Shared} {I : Addr} {ob ob' : Obj} {h' : Heap} {tk : Nat} (st : St c ρ H (F.set I (.raw ob)) s) (hF : F I = none) (hcell : ∀ v, ob.data ≠ .cell v) (hs : Heap.SameBut I s.heap h') (ho : h'.get? I = some ob') :
    St c ρ H (F.set I (.raw ob')) { s with heap := h', toks := tk } := by
  have hII : (F.set I (.raw ob)) I = some (.raw ob, true) := Hp.set_same
  obtain ⟨ob₁, hob, hrep, hown, _⟩ := st.hasF I _ true hII
  cases hrep
  obtain ⟨hL, h0⟩ := hown rfl
  obtain ⟨m, hm, hv⟩ := st.ns
  refine ⟨⟨m, hm.extBut hs.extBut (Ne.symm hL), hv⟩, fun x b e => ?_, fun b o e => hs.extBut b o (fun q => by rw [q, h0] at e; cases e) (st.keep b o e), st.above, fun b o₁ fl e => ?_, fun b o₁ fl e => ?_, fun b hb => ?_⟩
  · obtain ⟨ob₁, o₁, g, d, ne, r1, r0, r2, r3⟩ := st.cel x b e
    have hne : b ≠ I := by intro q; rw [q, hob] at g; cases g; exact hcell _ d
    exact ⟨ob₁, o₁, hs.extBut b ob₁ hne g, d, ne, r1, r0, fun h => ⟨(r2 h).1, by have := (r2 h).2; simp only [Hp.set, if_neg hne] at this ⊢; exact this⟩, r3⟩
  · have q : b ≠ I := by
      intro q; have := st.dis b (by rw [e]; exact nofun); rw [q, hII] at this; cases this
    exact (st.has b o₁ fl e).keeps (fun o₂ _ e' => hs.extBut b o₂ q e') st.above
  · by_cases q : b = I
    · subst q; simp only [Hp.set, if_pos rfl] at e; cases e
      exact ⟨ob', ho, rfl, fun _ => ⟨hL, h0⟩, fun x => by cases x⟩
    · simp only [Hp.set, if_neg q] at e
      exact (st.hasF b o₁ fl (by simp only [Hp.set, if_neg q]; exact e)).keeps (fun o₂ _ e' => hs.extBut b o₂ q e') st.above
  · have := st.dis b hb
    by_cases q : b = I
    · subst q; rw [hII] at this; cases this
    · simp only [Hp.set, if_neg q] at this ⊢; exact this
/-- the hidden object is let go -/
theorem St.dropF {F : Hp} {s : Shared} {I : Addr} {ob : Obj} {h' : Heap} {tk : Nat} (st : St c ρ H (F.set I (.raw ob)) s) (hF : F I = none) (hcell : ∀ v, ob.data ≠ .cell v) (hs : Heap.ExtBut I s.heap h') :
    St c ρ H F { s with heap := h', toks := tk } := by
  have hII : (F.set I (.raw ob)) I = some (.raw ob, true) := Hp.set_same
  obtain ⟨ob₁, hob, hrep, hown, _⟩ := st.hasF I _ true hII
  cases hrep
  obtain ⟨hL, h0⟩ := hown rfl
  obtain ⟨m, hm, hv⟩ := st.ns
  refine ⟨⟨m, hm.extBut hs (Ne.symm hL), hv⟩, fun x b e => ?_, fun b o e => hs b o (fun q => by rw [q, h0] at e; cases e) (st.keep b o e), st.above, fun b o₁ fl e => ?_, fun b o₁ fl e => ?_, fun b hb => ?_⟩
  · obtain ⟨ob₁, o₁, g, d, ne, r1, r0, r2, r3⟩ := st.cel x b e
    have hne : b ≠ I := by intro q; rw [q, hob] at g; cases g; exact hcell _ d
    exact ⟨ob₁, o₁, hs b ob₁ hne g, d, ne, r1, r0, fun h => ⟨(r2 h).1, by have := (r2 h).2; simp only [Hp.set, if_neg hne] at this; exact this⟩, r3⟩
  · have q : b ≠ I := by
      intro q; have := st.dis b (by rw [e]; exact nofun); rw [q, hII] at this; cases this
    exact (st.has b o₁ fl e).keeps (fun o₂ _ e' => hs b o₂ q e') st.above
  · have q : b ≠ I := by intro q; rw [q, hF] at e; cases e
    exact (st.hasF b o₁ fl (by simp only [Hp.set, if_neg q]; exact e)).keeps (fun o₂ _ e' => hs b o₂ q e') st.above
  · have := st.dis b hb
    by_cases q : b = I
    · subst q; rw [hII] at this; cases this
    · simp only [Hp.set, if_neg q] at this; exact this
/-- a source of items: what a for's head comes to -/
def ITR (c : Cx) (ρ : Loc) (H : Hp) (iter : Expr) (Ψ : Nat → (Nat → AV) → (Hp → Prop) → Hp → Prop) : Prop :=
  ∀ F s (Q : Addr → Shared → Prop) E, St c ρ H F s →
    (∀ I ob s' n val P G H', ItOk c I n val P G → (∀ i ob v, P i ob → ob.data ≠ .cell v) → F I = none → Stp s H s' H' → St c ρ H' (F.set I (.raw ob)) s' → P 0 ob → Ψ n val G H' → Q I s') →
    wpAny c.M c.A (eval iter c.env) (fun x s₁ => wpAny c.M c.A (pyIter x) (fun it s₂ => ∃ I, it = .ref I ∧ Q I s₂) E s₁) E s
theorem itr_list {iter : Expr} {Ψ : Nat → (Nat → AV) → (Hp → Prop) → Hp → Prop} (hh : c.A.handled = none) (h : EV c ρ H iter fun v H' => ∃ l xs fl, v = .ref l ∧ H' l = some (.list xs, fl) ∧ Ψ xs.length (fun i => xs.getD i .none) (fun H => ∃ fl, H l = some (.list xs, fl)) H') :
    ITR c ρ H iter Ψ := by
  intro F s Q E st k
  refine h.use st fun v s₁ ρ₁ H₁ sm₁ st₁ ⟨e₁, l, xs, fl, hv, hl, p⟩ => ?_
  subst e₁
  have := abs_ref hv; subst this
  obtain ⟨its, hits, he⟩ := st₁.isList hl
  refine wpAny_pyIter_list hits ⟨_, rfl, ?_⟩
  have hnone : s₁.heap.get? s₁.heap.objs.size = none := by
    cases e : s₁.heap.get? s₁.heap.objs.size with
    | none => rfl
    | some o => exact absurd (Heap.lt_size e) (Nat.lt_irrefl _)
  have st₂ := st₁.addF (I := s₁.heap.objs.size) (ob := { cls := .type "list_iterator", data := .fields #[.ref l, .int 0 0] }) (tk := s₁.toks) hnone (fun b o e => Heap.get?_push_of_some _ e) (Heap.get?_push_size _ rfl)
  exact k _ _ _ _ _ _ _ _ (itok_list (l := l) (xs := xs) hh) (by rintro i ob v ⟨_, h⟩; rw [h]; exact nofun) (st₁.fresh hnone).2 (sm₁.trans (.mem s₁ _ _)) st₂ ⟨rfl, rfl⟩ p
theorem itr_rangeV {iter : Expr} {Ψ : Nat → (Nat → AV) → (Hp → Prop) → Hp → Prop} (hh : c.A.handled = none)
    (h : ∀ F s (Q : Value → Shared → Prop) E, St c ρ H F s → (∀ r s' a b d t u v H', Stp s H s' H' → St c ρ H' F s' → IsRange s'.heap r a b d t u v → Builtin.Range.small a b d = true → Ψ (Builtin.Range.rangeSize a b d).toNat (fun i => .int (a + i * d)) (fun _ => True) H' → 0 ≤ Builtin.Range.rangeSize a b d → Q (.ref r) s') → wpAny c.M c.A (eval iter c.env) Q E s) :
    ITR c ρ H iter Ψ := by
  intro F s Q E st k
  refine h F s _ E st fun r s₁ a b d t u v H₁ sm₁ st₁ hr hsm p hn => ?_
  refine wpAny_pyIter_range hr hsm ⟨_, rfl, ?_⟩
  have hnone : s₁.heap.get? s₁.heap.objs.size = none := by
    cases e : s₁.heap.get? s₁.heap.objs.size with
    | none => rfl
    | some o => exact absurd (Heap.lt_size e) (Nat.lt_irrefl _)
  have st₂ := st₁.addF (I := s₁.heap.objs.size) (ob := { cls := .type "range_iterator", data := .fields #[rawInt a, rawInt (Builtin.Range.rangeSize a b d), rawInt d] }) (tk := s₁.toks) hnone (fun b o e => Heap.get?_push_of_some _ e) (Heap.get?_push_size _ rfl)
  refine k _ _ _ _ _ _ _ _ (itok_range (a := a) (st := d) (n := (Builtin.Range.rangeSize a b d).toNat) hh) (by rintro i ob v rfl; exact nofun) (st₁.fresh hnone).2 (sm₁.trans (.mem s₁ _ _)) st₂ ?_ p
  have e1 : a + ((0 : Nat) : Int) * d = a := by simp
  have e2 : ((Builtin.Range.rangeSize a b d).toNat : Int) - ((0 : Nat) : Int) = Builtin.Range.rangeSize a b d := by rw [Int.toNat_of_nonneg hn]; simp
  rw [e1, e2]
def ASG (c : Cx) (ρ : Loc) (H : Hp) (t : Expr) (v : AV) (Φ : Loc → Hp → Prop) : Prop := ∀ y, abs y = v → Tri c ρ H (assign t c.env y) fun _ ρ' H' => Φ ρ' H'
theorem asg_name {x : Str} {pos : Pos} {v : AV} {Φ : Loc → Hp → Prop} (ok : Ok c) (hx : Stores c x) (h : Φ (ρ.set x v) H) : ASG c ρ H (.Name x pos) v Φ := fun y hy =>
  Tri.of fun F s Q st k => wpAny_assign_Name ((tri_store ok hx).use st fun _ s₂ ρ₂ H₂ sm₂ st₂ ⟨e₁, e₂⟩ => by subst e₁ e₂; rw [hy] at st₂; exact k _ _ _ _ sm₂ st₂ h)
theorem letOwned_other {M : Model} {A : Around} {target : Expr} {I : Addr} {ob : Obj} {v : Value} {s : Shared} {Q : Unit → Shared → Prop} {E : Value → Shared → Prop} (g : s.heap.get? I = some ob) (hc : ∃ t, ob.cls = .type t ∧ ownedKinds.contains t = false) (h : Q () s) :
    wpAny M A (letOwnedTupleGo target (.ref I) v) Q E s := by
  obtain ⟨t, hc, hn⟩ := hc
  have key : wpAny M A (do
      let (.ref r, .ref a) := ((Value.ref I), v) | return
      let o ← load r
      match o.cls, o.data with
      | .type n, .fields vs =>
        if ["enumerate", "zip", "dict_itemiterator", "dict_reverseitemiterator", "odict_iterator", "itertools.zip_longest", "itertools.pairwise"].contains n && vs[0]? == some (rawInt a) then
          rule "for.unpacks-the-owned-tuple"
          updateField r 0 .none
      | _, _ => pure ()) Q E s := by
    cases v with
    | ref a =>
      refine wpAny_bind (wpAny_load g ?_)
      rw [hc]
      cases hd : ob.data with
      | fields vs =>
        have hn' : (["enumerate", "zip", "dict_itemiterator", "dict_reverseitemiterator", "odict_iterator", "itertools.zip_longest", "itertools.pairwise"].contains t) = false := hn
        simp only [hn', Bool.false_and, Bool.false_eq_true, if_false]
        exact wpAny_pure h
      | _ => exact wpAny_pure h
    | _ => exact wpAny_pure h
  cases target with
  | Tuple => exact key
  | List => exact key
  | _ => exact wpAny_pure h
/-- a for by an invariant over its turns -/
theorem ex_for {target iter : Expr} {body : List Stmt} {pos : Pos} {Φ : AF → Loc → Hp → Prop}
    (h : ITR c ρ H iter fun n val G H' => ∃ Inv : Nat → Loc → Hp → Prop, Inv 0 ρ H' ∧ (∀ i ρ H, Inv i ρ H → G H) ∧
      (∀ i ρ H, i < n → Inv i ρ H → ASG c ρ H target (val i) fun ρ₁ H₁ => XS c ρ₁ H₁ body fun f ρ₂ H₂ => match f with
        | .next | .cont => Inv (i + 1) ρ₂ H₂
        | .brk => Φ .next ρ₂ H₂
        | .ret v => Φ (.ret v) ρ₂ H₂) ∧ ∀ ρ H, Inv n ρ H → Φ .next ρ H)
    (hs : ∀ x, foldedSetIterable iter c.env x = pure x := by intro _; rfl) : EX c ρ H (.For target iter body [] pos) Φ :=
  Tri.of fun F s Q st k => by
    refine wpAny_For (wpAny_mono (h F s (fun I s₂ => codeAny c.M c.A (.forLoop target (.ref I) body [] c.env) (fun r s' => match r with | .ok f => Q f s' | .error e => cameBackBy c.M c.A c.env (fun _ _ => False) e s') s₂) (fun _ _ => False) st ?_)
      (fun x s₁ h₁ => wpAny_mono h₁ (fun it s₂ h₂ => by obtain ⟨I, rfl, h₂⟩ := h₂; exact h₂) fun _ _ x => x) fun _ _ x => x) hs
    intro I ob s' n val P G H' W hnc hFI sm st' hP hΨ
    obtain ⟨Inv, h0, hG, turn, done⟩ := hΨ
    refine codeAny_forLoop_any (fun k s₁ => ∃ i ρ₁ H₁ ob₁, k = n + 1 - i ∧ i ≤ n ∧ Stp s H s₁ H₁ ∧ St c ρ₁ H₁ (F.set I (.raw ob₁)) s₁ ∧ P i ob₁ ∧ Inv i ρ₁ H₁) ?_ (n + 1) ⟨0, ρ, H', ob, rfl, Nat.zero_le _, sm, st', hP, h0⟩
    rintro kk s₁ ⟨i, ρ₁, H₁, ob₁, rfl, hi, sm₁, st₁, hP₁, hI₁⟩
    have gI : s₁.heap.get? I = some ob₁ := by
      obtain ⟨o, g, r, _⟩ := st₁.hasF I (.raw ob₁) true Hp.set_same
      cases r; exact g
    by_cases hlt : i < n
    · refine W.next i ρ₁ H₁ _ s₁ ob₁ _ _ hlt hP₁ (hG i ρ₁ H₁ hI₁) st₁ gI fun v h' tk ob' hv hs' g' hP' => ?_
      have st₂ := st₁.updF (tk := tk) hFI (fun v => hnc i ob₁ v hP₁) hs' g'
      refine letOwned_other (ob := ob') g' (W.cls _ _ hP') ?_
      refine (turn i ρ₁ H₁ hlt hI₁ v hv).use st₂ fun _ s₃ ρ₃ H₃ sm₃ st₃ p₃ => ?_
      refine p₃.use st₃ fun f s₄ ρ₄ H₄ sm₄ st₄ p₄ => ?_
      have smx : Stp s H s₄ H₄ := sm₁.trans ((Stp.mem s₁ h' tk).trans (sm₃.trans sm₄))
      have drop : St c ρ₄ H₄ F s₄ := st₄.dropF (h' := s₄.heap) (tk := s₄.toks) hFI (fun v => hnc _ ob' v hP') (fun _ _ _ e => e)
      cases f with
      | next => exact ⟨n + 1 - (i + 1), by omega, i + 1, ρ₄, H₄, ob', rfl, hlt, smx, st₄, hP', p₄⟩
      | cont => exact ⟨n + 1 - (i + 1), by omega, i + 1, ρ₄, H₄, ob', rfl, hlt, smx, st₄, hP', p₄⟩
      | brk => exact k _ _ _ _ smx drop p₄
      | ret v => exact k _ _ _ _ smx drop p₄
    · have : i = n := by omega
      subst this
      refine W.done ρ₁ H₁ _ s₁ ob₁ _ _ hP₁ (hG i ρ₁ H₁ hI₁) st₁ gI fun h' tk hx => ?_
      have st₂ := st₁.dropF (tk := tk) hFI (fun v => hnc i ob₁ v hP₁) hx
      exact wpAny_execs_nil (k _ _ _ _ (sm₁.trans (Stp.mem s₁ h' tk)) st₂ (done ρ₁ H₁ hI₁))
end
def fnBody (p : Program) (i : Nat) : List Stmt := match p.main.body[i]? with
  | some (.FunctionDef _ _ body _ _ _ _ _ _ _) => body
  | _ => []
def fnScope (p : Program) (i : Nat) : Scope := match p.main.body[i]? with
  | some (.FunctionDef _ _ _ _ _ _ scope _ _ _) => scope
  | _ => { kind := .function, names := [], isGenerator := false, isCoroutine := false, more := [] }
def fnArgs (p : Program) (i : Nat) : Arguments := match p.main.body[i]? with
  | some (.FunctionDef _ args _ _ _ _ _ _ _ _) => args
  | _ => ⟨[], [], none, [], [], none, []⟩
theorem countP_split {p : Int → Bool} : ∀ (xs : List Int) (n : Nat), n ≤ xs.length → (∀ i y, i < n → xs[i]? = some y → p y = true) → (∀ i y, n ≤ i → xs[i]? = some y → p y = false) → xs.countP p = n
  | [], n, hn, _, _ => by simp at hn; simp [hn]
  | x :: xs, 0, _, _, h2 => by
    rw [List.countP_eq_zero]
    intro y hy
    obtain ⟨i, hi⟩ := List.getElem?_of_mem hy
    simp [h2 i y (Nat.zero_le _) hi]
  | x :: xs, n + 1, hn, h1, h2 => by
    have hx : p x = true := h1 0 x (Nat.succ_pos _) rfl
    rw [List.countP_cons, hx, countP_split xs n (by simpa using hn) (fun i y hi e => h1 (i + 1) y (by omega) (by simpa using e)) (fun i y hi e => h2 (i + 1) y (by omega) (by simpa using e))]
    simp
def zs (xs : List Int) : List AV := xs.map AV.int
theorem zs_get {xs : List Int} {k : Nat} {y : Int} (h : xs[k]? = some y) : (zs xs)[k]? = some (.int y) := by simp [zs, h]
theorem zs_len {xs : List Int} : (zs xs).length = xs.length := by simp [zs]
def Sorted (xs : List Int) : Prop := xs.Pairwise (· ≤ ·)
theorem Sorted.le {xs : List Int} (h : Sorted xs) {i j : Nat} {x y : Int} (hij : i ≤ j) (hx : xs[i]? = some x) (hy : xs[j]? = some y) : x ≤ y := by
  rcases Nat.lt_or_ge i j with q | q
  · obtain ⟨hi, rfl⟩ := List.getElem?_eq_some_iff.mp hx
    obtain ⟨hj, rfl⟩ := List.getElem?_eq_some_iff.mp hy
    exact (List.pairwise_iff_getElem.mp h) i j hi hj q
  · have : i = j := by omega
    subst this; rw [hx] at hy; cases hy; exact Int.le_refl _
theorem kd_of {c : Cx} {x : Str} {k : NameKind} {sc : Scope} (hk : c.env.scope = sc) (h : sc.names.lookup x = some k) : c.env.kindOf x = some k := by rw [Env.kindOf, hk]; exact h
theorem ex_ifp {c : Cx} {ρ : Loc} {H : Hp} {test : Expr} {body orelse : List Stmt} {pos : Pos} {b : Bool} {Φ : AF → Loc → Hp → Prop} (h : PT c ρ H test b) (ht : b = true → XS c ρ H body Φ) (hf : b = false → XS c ρ H orelse Φ) : EX c ρ H (.If test body orelse pos) Φ :=
  ex_if (h.tv (by cases b with | true => exact ht rfl | false => exact hf rfl))
theorem ex_assignp {c : Cx} {ρ : Loc} {H : Hp} {x : Str} {pos' pos : Pos} {e : Expr} {v : AV} {Φ : AF → Loc → Hp → Prop} (ok : Ok c) (hx : Stores c x) (h : PV c ρ H e v) (hΦ : Φ .next (ρ.set x v) H)
    (hs : swapsWith e (some (.Name x pos')) pos.line c.env = pure false := by rfl) : EX c ρ H (.Assign [.Name x pos'] e pos) Φ := ex_assign ok hx (h.ev hΦ) hs
theorem pt_is_none {c : Cx} {ρ : Loc} {H : Hp} {l : Expr} {k pos pos'} {v : AV} (h : PV c ρ H l v) (b : Bool) (hb : b = (match v with | .none => true | _ => false)) (hv : match v with | .none | .int _ | .bool _ | .ref _ => True | _ => False) : PT c ρ H (.Compare l [.Is] [.Constant .none k pos] pos') b :=
  pt_cmp (pv_cmp_of h pv_none (behind_of rfl) fun y z hy hz => Tri.of fun F s Q st kk => by
    have := abs_none hz; subst this
    subst hb
    cases v with
    | none => have := abs_none hy; subst this; exact PyProof.Rows.is_none_none (kk _ _ _ _ (.refl s) st ⟨rfl, rfl, rfl⟩)
    | int i => obtain ⟨t, rfl⟩ := abs_int hy; exact PyProof.Rows.is_int_none (kk _ _ _ _ (.refl s) st ⟨rfl, rfl, rfl⟩)
    | bool i => have := abs_bool hy; subst this; exact PyProof.Rows.is_bool_none (kk _ _ _ _ (.refl s) st ⟨rfl, rfl, rfl⟩)
    | ref i => have := abs_ref hy; subst this; exact PyProof.Rows.is_ref_none (kk _ _ _ _ (.refl s) st ⟨rfl, rfl, rfl⟩)
    | _ => exact hv.elim)
/-- an item of a list of ints, the place a natural number -/
theorem pv_itemZ {c : Cx} {ρ : Loc} {H : Hp} {v i : Expr} {pos : Pos} {l : Addr} {k : Nat} {xs : List Int} {fl : Bool} {y : Int} (hv : PV c ρ H v (.ref l)) (hk : PV c ρ H i (.int k)) (hl : H l = some (.list (zs xs), fl)) (hlen : xs.length < 1000000000) (hy : xs[k]? = some y)
    (hi : plainIdx i = true := by rfl) : PV c ρ H (.Subscript v i pos) (.int y) :=
  pv_item hv hk hl (by rw [zs_len]; exact hlen) (by omega) (by rw [show ((k : Int)).toNat = k by omega]; exact zs_get hy) hi
/-- a def of the text stands in the written part -/
def fdOf (p : Program) (i : Nat) (name : Str) (dV kV doc pm : Value) (an : Option Addr) (cdv ct : Value) : FuncData := fnOf name name (fnArgs p i) (fnBody p i) (fnScope p i) dV kV doc pm an cdv ct
structure FnK (K : Frag) (p : Program) (i : Nat) (name : Str) (f : Addr) (oc : Value) (od : Option Addr) (dV kV doc pm : Value) (an : Option Addr) (cdv ct : Value) (osl : Array (Option Value)) : Prop where
  g : gl K name = some (.ref f)
  o : K.lookup f = some ⟨oc, od, .func (fdOf p i name dV kV doc pm an cdv ct), osl⟩
  cd : codeIn K cdv name = true
def BindsK (K : Frag) (fd : FuncData) (vs : List Value) (binds : List (Str × Value)) : Prop := ∀ s : Shared, K.In s.heap → BindsTo s fd ⟨vs, []⟩ binds
theorem ex_returnp {c : Cx} {ρ : Loc} {H : Hp} {e : Expr} {v : AV} {pos : Pos} {Φ : AF → Loc → Hp → Prop} (h : PV c ρ H e v) (hΦ : Φ (.ret v) ρ H) : EX c ρ H (.Return (some e) pos) Φ := ex_return (h.ev hΦ)
section
variable {c : Cx} {ρ : Loc} {H : Hp}
/-- a comprehension's own frame -/
def compCx (c : Cx) (scope : Scope) (cl : List (Str × Addr)) (C : Addr) : Cx := { c with env := compEnvC scope cl C c.env, own := false }
/-- what it sees from around it -/
def freeLoc (scope : Scope) (ρ : Loc) : Loc := fun x => if scope.names.lookup x = some .free then ρ x else none
def closOf (env : Env) : List (Str × NameKind) → List (Str × Addr) → List (Str × Addr)
  | [], acc => acc
  | (n, k) :: r, acc => if k == .free then closOf env r ((n, (env.cells.lookup n).getD 0) :: acc) else closOf env r acc
theorem closureFor_is {scope : Scope} {env : Env} (h : ∀ n, (n, NameKind.free) ∈ scope.names → ∃ a, env.cells.lookup n = some a) : closureFor scope env = pure (closOf env scope.names []) := by
  unfold closureFor
  have gen : ∀ (l : List (Str × NameKind)) (acc : List (Str × Addr)), (∀ n, (n, NameKind.free) ∈ l → ∃ a, env.cells.lookup n = some a) →
      (forIn l acc fun x r => (match x with | (name, kind) => if (kind == NameKind.free) = true then do let a ← cellOf env name; pure (ForInStep.yield ((name, a) :: r)) else pure (ForInStep.yield r) : Sem (ForInStep (List (Str × Addr))))) = pure (closOf env l acc) := by
    intro l
    induction l with
    | nil => intro acc _; rfl
    | cons x r ih =>
      intro acc hx
      obtain ⟨n, k⟩ := x
      rw [List.forIn_cons]
      by_cases hk : (k == NameKind.free) = true
      · have hk' : k = .free := by simpa using hk
        subst hk'
        obtain ⟨a, ha⟩ := hx n (.head _)
        have e : cellOf env n = pure a := by unfold cellOf; rw [ha]
        simp only [hk, if_true, e, pure_bind, closOf, ha, Option.getD_some]
        exact ih _ fun m hm => hx m (.tail _ hm)
      · simp only [hk, if_false, pure_bind, closOf]
        exact ih _ fun m hm => hx m (.tail _ hm)
  have := gen scope.names [] h
  simpa using this
theorem closOf_lookup {env : Env} {x : Str} : ∀ (l : List (Str × NameKind)) (acc : List (Str × Addr)) (a : Addr), (closOf env l acc).lookup x = some a → acc.lookup x = some a ∨ ((x, NameKind.free) ∈ l ∧ a = (env.cells.lookup x).getD 0)
  | [], acc, a, h => .inl h
  | (n, k) :: r, acc, a, h => by
    unfold closOf at h
    split at h
    · rename_i hk
      have hk' : k = .free := by simpa using hk
      subst hk'
      rcases closOf_lookup r _ a h with q | q
      · by_cases e : x = n
        · subst e; simp [List.lookup_cons] at q; exact .inr ⟨.head _, q.symm⟩
        · have : (x == n) = false := by simpa using e
          rw [List.lookup_cons, this] at q; exact .inl q
      · exact .inr ⟨.tail _ q.1, q.2⟩
    · rcases closOf_lookup r _ a h with q | q
      · exact .inl q
      · exact .inr ⟨.tail _ q.1, q.2⟩
theorem closOf_some {env : Env} {x : Str} : ∀ (l : List (Str × NameKind)) (acc : List (Str × Addr)), ((x, NameKind.free) ∈ l ∨ ∃ a, acc.lookup x = some a) → ∃ a, (closOf env l acc).lookup x = some a
  | [], acc, h => h.elim (fun h => by cases h) id
  | (n, k) :: r, acc, h => by
    unfold closOf
    split
    · rename_i hk
      refine closOf_some r _ ?_
      by_cases e : x = n
      · subst e; exact .inr ⟨_, by simp [List.lookup_cons]; rfl⟩
      · rcases h with h | ⟨a, h⟩
        · rcases List.mem_cons.mp h with q | q
          · cases q; exact absurd rfl e
          · exact .inl q
        · have : (x == n) = false := by simpa using e
          exact .inr ⟨a, by rw [List.lookup_cons, this]; exact h⟩
    · rename_i hk
      refine closOf_some r _ ?_
      rcases h with h | h
      · rcases List.mem_cons.mp h with q | q
        · cases q; exact absurd rfl hk
        · exact .inl q
      · exact .inr h
theorem relabel_lookup {scope : Scope} {env : Env} {x : Str} : (relabel scope env).names.lookup x = (scope.names.lookup x).map fun k => if (k == .free && env.scope.kind == .function && env.kindOf x == some .cell) then .cell else k := by
  unfold relabel
  dsimp only
  generalize scope.names = l
  induction l with
  | nil => rfl
  | cons y r ih =>
    obtain ⟨n, k⟩ := y
    by_cases e : x = n
    · subst e
      simp only [List.map_cons]
      split
      · rename_i h; simp only [List.lookup_cons, beq_self_eq_true, Option.map_some]; rw [if_pos h]
      · rename_i h; simp only [List.lookup_cons, beq_self_eq_true, Option.map_some]; rw [if_neg h]
    · have q : (x == n) = false := by simpa using e
      simp only [List.map_cons]
      split <;> simp only [List.lookup_cons, q] <;> exact ih
/-- the scopes that the rules below take: no cells of its own, what is free is a cell around -/
structure CompOk (c : Cx) (scope : Scope) : Prop where
  cell : ∀ y ∈ scope.names, y.2 ≠ .cell
  kind : scope.kind = .function
  names : ∀ y ∈ scope.names, scope.names.lookup y.1 = some y.2
  free : ∀ x, (x, NameKind.free) ∈ scope.names → cellKind c.env x
theorem CompOk.clos {scope : Scope} (ok : Ok c) (k : CompOk c scope) : closureFor scope c.env = pure (closOf c.env scope.names []) := closureFor_is fun n hn => ok.cells n (k.free n hn)
theorem CompOk.ok {scope : Scope} {C : Addr} (ok : Ok c) (k : CompOk c scope) : Ok (compCx c scope (closOf c.env scope.names []) C) := by
  refine ⟨ok.kin, ok.top, k.kind, ok.glob, ok.blt, ok.hand, ok.depth, ok.units, fun x hx => ?_, fun h => by cases h⟩
  have : (x, NameKind.free) ∈ scope.names := by
    have hx' : (relabel scope c.env).names.lookup x = some .cell ∨ (relabel scope c.env).names.lookup x = some .free := hx
    rw [relabel_lookup] at hx'
    cases e : scope.names.lookup x with
    | none => rw [e] at hx'; rcases hx' with q | q <;> cases q
    | some kk =>
      have hm := lookup_mem e
      rw [e] at hx'
      cases kk with
      | free => exact hm
      | cell => exact absurd rfl (k.cell _ hm)
      | _ => rcases hx' with q | q <;> simp at q
  exact closOf_some _ _ (.inl this)
open Classical in
/-- all that stands around and is not known by H -/
noncomputable def restF (c : Cx) (H F : Hp) (h : Heap) (C : Addr) : Hp := fun a => match F a with
  | some x => some x
  | none => if H a ≠ none ∨ a = C ∨ c.h₀.get? a ≠ none then none else (h.get? a).map fun ob => (.raw ob, true)
theorem restF_of {F : Hp} {h : Heap} {C a : Addr} {x : AObj × Bool} (e : F a = some x) : restF c H F h C a = some x := by simp only [restF, e]
theorem restF_raw {F : Hp} {h : Heap} {C a : Addr} {ob : Obj} (e : F a = none) (e1 : H a = none) (e2 : a ≠ C) (e3 : c.h₀.get? a = none) (e4 : h.get? a = some ob) : restF c H F h C a = some (.raw ob, true) := by
  simp only [restF, e]
  rw [if_neg (by simp [e1, e2, e3]), e4]; rfl
/-- into a comprehension's frame -/
theorem St.inComp {F : Hp} {s s₁ : Shared} {scope : Scope} {C : Addr} (ok : Ok c) (k : CompOk c scope) (st : St c ρ H F s) (hCn : s.heap.get? C = none) (hCs : s.heap.objs.size ≤ C) (hk : ∀ b o, s.heap.get? b = some o → s₁.heap.get? b = some o) (hns : ∃ m, s₁.heap.Ns C m) :
    St (compCx c scope (closOf c.env scope.names []) C) (freeLoc scope ρ) H (restF c H F s.heap C) s₁ := by
  have hcn : ∀ b o, s.heap.get? b = some o → b ≠ C := fun b o e q => by rw [q, hCn] at e; cases e
  have conv : ∀ a o b, HasP c a o b s.heap → HasP (compCx c scope (closOf c.env scope.names []) C) a o b s₁.heap := by
    rintro a o b ⟨ob, e, r, r1, r2⟩
    exact ⟨ob, hk a ob e, r, fun hb => ⟨hcn a ob e, (r1 hb).2⟩, r2⟩
  obtain ⟨m, hm⟩ := hns
  refine ⟨⟨m, hm, fun x v e kx => ?_⟩, fun x a e => ?_, fun b o e => hk b o (st.keep b o e), ?_, fun a o b e => conv a o b (st.has a o b e), fun a o b e => ?_, fun a ha => ?_⟩
  · have hx : scope.names.lookup x = some .free := by
      simp only [freeLoc] at e; split at e
      · assumption
      · cases e
    have kx' : (relabel scope c.env).names.lookup x = some .local := kx
    rw [relabel_lookup, hx] at kx'
    simp only [Option.map_some, Option.some.injEq] at kx'
    split at kx' <;> cases kx'
  · rcases closOf_lookup _ _ _ e with q | ⟨q1, q2⟩
    · cases q
    · obtain ⟨a', ha'⟩ := ok.cells x (k.free x q1)
      rw [ha'] at q2; cases q2
      obtain ⟨ob, o, g, d, ne, r1, r0, r2, r3⟩ := st.cel x _ ha'
      refine ⟨ob, o, hk _ ob g, d, hcn _ ob g, r1, r0, (fun h => by cases h), fun v e' _ => r3 v ?_ (k.free x q1)⟩
      simp only [freeLoc] at e'; split at e'
      · exact e'
      · cases e'
  · have := st.Llt; have h2 := st.above
    exact Nat.le_trans h2 (Nat.le_trans (Nat.le_of_lt this) hCs)
  · simp only [restF] at e
    split at e
    · rename_i x hx; cases e; exact conv a o b (st.hasF a o b hx)
    · split at e
      · cases e
      · rename_i hn
        simp only [not_or, Decidable.not_not] at hn
        rw [Option.map_eq_some_iff] at e
        obtain ⟨ob, g, e⟩ := e
        cases e
        exact ⟨ob, hk a ob g, rfl, fun _ => ⟨hn.2.1, by show c.h₀.get? a = none; simpa using hn.2.2⟩, fun x => by cases x⟩
  · simp only [restF, st.dis a ha]
    rw [if_pos (.inl ha)]
/-- and out of it -/
theorem St.outComp {F F₃ : Hp} {s s' : Shared} {scope : Scope} {cl : List (Str × Addr)} {C : Addr} {ρ' : Loc} {H' : Hp} {h' : Heap} {tk : Nat} (st : St c ρ H F s) (hCn : s.heap.get? C = none) (st' : St (compCx c scope cl C) ρ' H' F₃ s')
    (hF : ∀ a x, restF c H F s.heap C a = some x → F₃ a = some x) (fz : ∀ a o, H' a = some (o, false) → H a = some (o, false)) (hs : Heap.SameBut C s'.heap h') : St c ρ H' F { s' with heap := h', toks := tk } := by
  have hcn : ∀ b o, s.heap.get? b = some o → b ≠ C := fun b o e q => by rw [q, hCn] at e; cases e
  -- what stood and is not known stands
  have old : ∀ b ob, s.heap.get? b = some ob → H b = none → c.h₀.get? b = none → F b = none → F₃ b = some (.raw ob, true) ∧ s'.heap.get? b = some ob := by
    intro b ob e e1 e2 e3
    have := hF b _ (restF_raw e3 e1 (hcn b ob e) e2 e)
    obtain ⟨ob', g, r, _⟩ := st'.hasF b _ true this
    cases r; exact ⟨this, g⟩
  have keep' : ∀ b o, c.h₀.get? b = some o → s'.heap.get? b = some o := st'.keep
  obtain ⟨m, hm, hv⟩ := st.ns
  have hL0 : c.h₀.get? c.L = none := by
    cases e : c.h₀.get? c.L with
    | none => rfl
    | some o => exact absurd (Heap.lt_size e) (Nat.not_lt_of_le st.above)
  have hHL : H c.L = none := by
    cases e : H c.L with
    | none => rfl
    | some x =>
      obtain ⟨o, b⟩ := x
      obtain ⟨ob, g, _, r1, r2⟩ := st.has c.L o b e
      cases b with
      | true => exact absurd rfl (r1 rfl).1
      | false => have := r2 rfl; rw [hL0] at this; cases this
  have hFL : F c.L = none := by
    cases e : F c.L with
    | none => rfl
    | some x =>
      obtain ⟨o, b⟩ := x
      obtain ⟨ob, g, _, r1, r2⟩ := st.hasF c.L o b e
      cases b with
      | true => exact absurd rfl (r1 rfl).1
      | false => have := r2 rfl; rw [hL0] at this; cases this
  obtain ⟨oL, es, ep, gL, rL⟩ := id hm
  obtain ⟨hF₃L, gL'⟩ := old c.L oL gL hHL hL0 hFL
  have hCL : c.L ≠ C := hcn _ _ gL
  have ext : ∀ b o, b ≠ C → s'.heap.get? b = some o → h'.get? b = some o := fun b o n e => hs.extBut b o n e
  have conv : ∀ a o b, HasP (compCx c scope cl C) a o b s'.heap → a ≠ c.L → a ≠ C → HasP c a o b h' := by
    rintro a o b ⟨ob, e, r, r1, r2⟩ hne hnc
    exact ⟨ob, ext a ob hnc e, r, fun hb => ⟨hne, (r1 hb).2⟩, r2⟩
  have notC : ∀ a o b, HasP (compCx c scope cl C) a o b s'.heap → a ≠ C := by
    rintro a o b ⟨ob, e, r, r1, r2⟩ q
    cases b with
    | true => exact (r1 rfl).1 q
    | false => exact absurd (Heap.lt_size (r2 rfl)) (by subst q; exact Nat.not_lt_of_le st'.above)
  have hF3L : ∀ a o b, F a = some (o, b) → a ≠ c.L := by
    intro a o b e q; rw [q, hFL] at e; cases e
  refine ⟨⟨m, ⟨oL, es, ep, ext _ _ hCL gL', rL⟩, hv⟩, fun x a e => ?_, fun b o e => ext b o ?_ (keep' b o e), st.above, fun a o b e => ?_, fun a o b e => ?_, fun a ha => ?_⟩
  · obtain ⟨ob, o, g, d, ne, r1, r0, r2, r3⟩ := st.cel x a e
    have hg : s'.heap.get? a = some ob ∧ H' a = none := by
      rcases r1 with r1 | r1
      · cases eF : F a with
        | none =>
          have := old a ob g r0 r1 eF
          refine ⟨this.2, ?_⟩
          cases eH : H' a with
          | none => rfl
          | some y => have q := st'.dis a (by rw [eH]; exact nofun); rw [this.1] at q; cases q
        | some y =>
          obtain ⟨oy, by'⟩ := y
          obtain ⟨ob', e', rr, _⟩ := st.hasF a oy by' eF
          rw [g] at e'; cases e'
          have h3 := hF a _ (restF_of eF)
          have hH : H' a = none := by
            cases eH : H' a with
            | none => rfl
            | some y => have q := st'.dis a (by rw [eH]; exact nofun); rw [h3] at q; cases q
          cases oy with
          | raw o₂ =>
            cases rr
            obtain ⟨ob'', g'', rr', _⟩ := st'.hasF a _ by' h3
            cases rr'; exact ⟨g'', hH⟩
          | list xs => exact absurd d (ORep.not_cell rr rfl o)
          | tup xs => exact absurd d (ORep.not_cell rr rfl o)
          | dict xs => exact absurd d (ORep.not_cell rr rfl o)
      · refine ⟨keep' a ob r1, ?_⟩
        cases eH : H' a with
        | none => rfl
        | some y =>
          obtain ⟨oy, by'⟩ := y
          obtain ⟨ob', e', rr, z1, z2⟩ := st'.has a oy by' eH
          cases by' with
          | true => have := (z1 rfl).2; rw [show (compCx c scope cl C).h₀ = c.h₀ from rfl, r1] at this; cases this
          | false =>
            have := fz a oy eH; rw [r0] at this; cases this
    exact ⟨ob, o, ext a ob (hcn a ob g) hg.1, d, ne, r1, hg.2, r2, r3⟩
  · intro q; subst q; have := Heap.lt_size e; exact absurd this (Nat.not_lt_of_le (by exact st'.above))
  · have hp := st'.has a o b e
    refine conv a o b hp ?_ (notC a o b hp)
    intro q; have := st'.dis a (by rw [e]; exact nofun); rw [q, hF₃L] at this; cases this
  · have hp := st'.hasF a o b (hF a _ (restF_of e))
    exact conv a o b hp (hF3L a o b e) (notC a o b hp)
  · have := st'.dis a ha
    cases eF : F a with
    | none => rfl
    | some y => rw [hF a _ (restF_of eF)] at this; cases this
end
section
variable {c : Cx} {ρ : Loc} {H : Hp}
theorem St.get {F : Hp} {s : Shared} {a : Addr} {o : AObj} {b : Bool} (st : St c ρ H F s) (h : H a = some (o, b)) : ∃ ob, s.heap.get? a = some ob ∧ ORep o b ob := let ⟨ob, g, r, _⟩ := st.has a o b h; ⟨ob, g, r⟩
theorem St.getF {F : Hp} {s : Shared} {a : Addr} {o : AObj} {b : Bool} (st : St c ρ H F s) (h : F a = some (o, b)) : ∃ ob, s.heap.get? a = some ob ∧ ORep o b ob := let ⟨ob, g, r, _⟩ := st.hasF a o b h; ⟨ob, g, r⟩
/-- an object that holds no cell -/
def NoCell (o : AObj) : Prop := ∀ ob, ORep o true ob → ∀ v, ob.data ≠ .cell v
theorem noCell_plain {o : AObj} (h : o.plain = true) : NoCell o := fun _ r v => r.not_cell h v
theorem noCell_raw {ob : Obj} (h : ∀ v, ob.data ≠ .cell v) : NoCell (.raw ob) := fun _ r v => by cases r; exact h v
theorem St.toH {F : Hp} {s : Shared} {a : Addr} {o : AObj} (st : St c ρ H (F.set a o) s) (hF : F a = none) (hc : NoCell o) : St c ρ (H.set a o) F s := by
  have hFa : (F.set a o) a = some (o, true) := Hp.set_same
  have hHa : H a = none := by
    cases e : H a with
    | none => rfl
    | some x => have := st.dis a (by rw [e]; exact nofun); rw [hFa] at this; cases this
  have hFn : ∀ b, b ≠ a → (F.set a o) b = F b := fun b hb => by simp only [Hp.set, if_neg hb]
  obtain ⟨oba, ga, ra⟩ := st.getF hFa
  refine ⟨st.ns, fun x b e => ?_, st.keep, st.above, fun b o' fl e => ?_, fun b o' fl e => ?_, fun b hb => ?_⟩
  · obtain ⟨ob, o', g, d, ne, r1, r0, r2, r3⟩ := st.cel x b e
    have hb : b ≠ a := by intro q; rw [q, ga] at g; cases g; exact hc _ ra _ d
    exact ⟨ob, o', g, d, ne, r1, by simp only [Hp.set, if_neg hb]; exact r0, fun h => ⟨(r2 h).1, by rw [← hFn b hb]; exact (r2 h).2⟩, r3⟩
  · by_cases q : b = a
    · subst q; rw [Hp.set_same] at e; cases e; exact st.hasF b o true hFa
    · simp only [Hp.set, if_neg q] at e; exact st.has b o' fl e
  · have q : b ≠ a := by intro q; rw [q, hF] at e; cases e
    exact st.hasF b o' fl (by rw [hFn b q]; exact e)
  · by_cases q : b = a
    · subst q; exact hF
    · simp only [Hp.set, if_neg q] at hb; rw [← hFn b q]; exact st.dis b hb
theorem St.toF {F : Hp} {s : Shared} {a : Addr} {o : AObj} (st : St c ρ (H.set a o) F s) (hH : H a = none) : St c ρ H (F.set a o) s := by
  have hHa : (H.set a o) a = some (o, true) := Hp.set_same
  have hHn : ∀ b, b ≠ a → (H.set a o) b = H b := fun b hb => by simp only [Hp.set, if_neg hb]
  have hFa : F a = none := st.dis a (by rw [hHa]; exact nofun)
  refine ⟨st.ns, fun x b e => ?_, st.keep, st.above, fun b o' fl e => ?_, fun b o' fl e => ?_, fun b hb => ?_⟩
  · obtain ⟨ob, o', g, d, ne, r1, r0, r2, r3⟩ := st.cel x b e
    have hb : b ≠ a := by intro q; rw [q, hHa] at r0; cases r0
    exact ⟨ob, o', g, d, ne, r1, by rw [← hHn b hb]; exact r0, fun h => ⟨(r2 h).1, by simp only [Hp.set, if_neg hb]; exact (r2 h).2⟩, r3⟩
  · have q : b ≠ a := by intro q; rw [q, hH] at e; cases e
    exact st.has b o' fl (by rw [hHn b q]; exact e)
  · by_cases q : b = a
    · subst q; rw [Hp.set_same] at e; cases e; exact st.has b o true hHa
    · simp only [Hp.set, if_neg q] at e; exact st.hasF b o' fl e
  · have q : b ≠ a := by intro q; rw [q] at hb; exact hb hH
    simp only [Hp.set, if_neg q]; exact st.dis b (by rw [hHn b q]; exact hb)
theorem St.dropH {F : Hp} {s : Shared} {a : Addr} {o : AObj} (st : St c ρ (H.set a o) F s) (hH : H a = none) : St c ρ H F s := by
  have hHn : ∀ b, b ≠ a → (H.set a o) b = H b := fun b hb => by simp only [Hp.set, if_neg hb]
  have ne : ∀ b, H b ≠ none → b ≠ a := fun b hb q => hb (q ▸ hH)
  refine ⟨st.ns, fun x b e => ?_, st.keep, st.above, fun b o' fl e => ?_, st.hasF, fun b hb => ?_⟩
  · obtain ⟨ob, o', g, d, ne', r1, r0, r2, r3⟩ := st.cel x b e
    refine ⟨ob, o', g, d, ne', r1, ?_, r2, r3⟩
    by_cases q : b = a
    · subst q; exact hH
    · rw [← hHn b q]; exact r0
  · exact st.has b o' fl (by rw [hHn b (ne b (by rw [e]; exact nofun))]; exact e)
  · exact st.dis b (by rw [hHn b (ne b hb)]; exact hb)
theorem Hp.set_comm {F : Hp} {a b : Addr} {o o' : AObj} (h : a ≠ b) : (F.set a o).set b o' = (F.set b o').set a o := by
  funext x
  simp only [Hp.set]
  by_cases q : x = b
  · subst q; rw [if_pos rfl, if_neg (Ne.symm h), if_pos rfl]
  · rw [if_neg q, if_neg q]
theorem St.updF' {F : Hp} {s : Shared} {a : Addr} {o o' : AObj} {ob' : Obj} {h' : Heap} {tk : Nat} (st : St c ρ H (F.set a o) s) (hF : F a = none) (hc : NoCell o) (hs : Heap.SameBut a s.heap h') (ho : h'.get? a = some ob') (hr : ORep o' true ob') :
    St c ρ H (F.set a o') { s with heap := h', toks := tk } := by
  have hFa : (F.set a o) a = some (o, true) := Hp.set_same
  obtain ⟨ob₁, hob, hrep, hown, _⟩ := st.hasF a _ true hFa
  obtain ⟨hL, h0⟩ := hown rfl
  obtain ⟨m, hm, hv⟩ := st.ns
  refine ⟨⟨m, hm.extBut hs.extBut (Ne.symm hL), hv⟩, fun x b e => ?_, fun b o e => hs.extBut b o (fun q => by rw [q, h0] at e; cases e) (st.keep b o e), st.above, fun b o₁ fl e => ?_, fun b o₁ fl e => ?_, fun b hb => ?_⟩
  · obtain ⟨ob₁, o₁, g, d, ne, r1, r0, r2, r3⟩ := st.cel x b e
    have hne : b ≠ a := by intro q; rw [q, hob] at g; cases g; exact hc _ hrep _ d
    exact ⟨ob₁, o₁, hs.extBut b ob₁ hne g, d, ne, r1, r0, fun h => ⟨(r2 h).1, by have := (r2 h).2; simp only [Hp.set, if_neg hne] at this ⊢; exact this⟩, r3⟩
  · have q : b ≠ a := by
      intro q; have := st.dis b (by rw [e]; exact nofun); rw [q, hFa] at this; cases this
    exact (st.has b o₁ fl e).keeps (fun o₂ _ e' => hs.extBut b o₂ q e') st.above
  · by_cases q : b = a
    · subst q; rw [Hp.set_same] at e; cases e
      exact ⟨ob', ho, hr, fun _ => ⟨hL, h0⟩, fun x => by cases x⟩
    · simp only [Hp.set, if_neg q] at e
      exact (st.hasF b o₁ fl (by simp only [Hp.set, if_neg q]; exact e)).keeps (fun o₂ _ e' => hs.extBut b o₂ q e') st.above
  · have := st.dis b hb
    by_cases q : b = a
    · subst q; rw [hFa] at this; cases this
    · simp only [Hp.set, if_neg q] at this ⊢; exact this
/-- less known of the names -/
theorem St.less {F : Hp} {s : Shared} {ρ' : Loc} (st : St c ρ H F s) (h : ∀ x v, ρ' x = some v → ρ x = some v) : St c ρ' H F s := by
  obtain ⟨m, hm, hv⟩ := st.ns
  refine ⟨⟨m, hm, fun x v e k => hv x v (h x v e) k⟩, fun x a e => ?_, st.keep, st.above, st.has, st.hasF, st.dis⟩
  obtain ⟨ob, o, g, d, ne, r1, r0, r2, r3⟩ := st.cel x a e
  exact ⟨ob, o, g, d, ne, r1, r0, r2, fun v e' k => r3 v (h x v e') k⟩
def IFS (c : Cx) (ρ : Loc) (H : Hp) (ifs : List Expr) (Φ : Bool → Hp → Prop) : Prop :=
  Tri c ρ H (forIn ifs true fun t r => if r = true then do let ok ← isTrue t c.env (eval t c.env); pure (ForInStep.yield ok) else pure (ForInStep.yield r)) fun b ρ' H' => ρ' = ρ ∧ Φ b H'
theorem ifs_one {t : Expr} {Φ : Bool → Hp → Prop} (h : TV c ρ H t Φ) : IFS c ρ H [t] Φ := Tri.of fun F s Q st k => wpAny_tests_one (h.use st fun b s' ρ' H' sm st' p => k _ _ _ _ sm st' p)
/-- a comprehension's turns -/
def CompTurns (c : Cx) (ρ : Loc) (x : Str) (elt : Expr) (ifs : List Expr) (scope : Scope) (n : Nat) (val : Nat → AV) (Inv : Nat → List AV → Hp → Prop) : Prop :=
  ∀ C i ys H, i < n → Inv i ys H → Ok (compCx c scope (closOf c.env scope.names []) C) →
    IFS (compCx c scope (closOf c.env scope.names []) C) ((freeLoc scope ρ).set x (val i)) H ifs fun b H₂ =>
      if b then EV (compCx c scope (closOf c.env scope.names []) C) ((freeLoc scope ρ).set x (val i)) H₂ elt fun v H₃ => Inv (i + 1) (ys ++ [v]) H₃ else Inv (i + 1) ys H₂
theorem comp_core {elt iter : Expr} {x : Str} {px : Pos} {ifs : List Expr} {scope : Scope} {pos : Pos} {n : Nat} {val : Nat → AV} {P : Nat → Obj → Prop} {G : Hp → Prop} {I : Addr} {ob : Obj} {F : Hp} {s₂ : Shared}
    {RR : Value → Addr → Result → Shared → Prop} {E : Value → Shared → Prop} (ok : Ok c) (k : CompOk c scope) (hx : scope.names.lookup x = some .local) (W : ItOk c I n val P G) (hnc : ∀ i ob v, P i ob → ob.data ≠ .cell v) (hFI : F I = none)
    (st₂ : St c ρ H (F.set I (.raw ob)) s₂) (hP : P 0 ob) (hn : n ≤ 1000000) (Inv : Nat → List AV → Hp → Prop) (h0 : Inv 0 [] H) (hG : ∀ i ys H, Inv i ys H → G H) (turn : CompTurns c ρ x elt ifs scope n val Inv)
    (done : ∀ D C s' ys H', Inv n ys H' → H D = none → H' D = none → F D = none → Stp s₂ H s' H' → (∃ m, s'.heap.Ns C m) → s₂.heap.get? C = none → C ≠ D → s'.heap.get? D ≠ none → C ≠ c.L → (H' C = none ∧ F C = none ∧ c.h₀.get? C = none) → (∀ h' tk, Heap.SameBut C s'.heap h' → St c ρ (H'.set D (.list ys)) F { s' with heap := h', toks := tk }) → RR (.ref D) C (.ok .next) s') :
    wpAny c.M c.A (newList []) (fun acc s₃ => wpAny c.M c.A (newFunctionEnv scope c.env.globals (closOf c.env scope.names []) [] c.env.qual none .none (some c.env)) (fun cenv s₄ =>
      codeAny c.M c.A (.compStart (.ListComp elt [⟨.Name x px, iter, ifs, 0⟩] scope pos) 0 (.ref I) acc { cenv with scope := relabel scope c.env }) (RR acc cenv.locals) s₄) E s₃) E s₂ := by
  have fresh : ∀ (h : Heap) a, h.objs.size ≤ a → h.get? a = none := fun h a ha => by
    cases e : h.get? a with
    | none => rfl
    | some o' => exact absurd (Heap.lt_size e) (Nat.not_lt.mpr ha)
  refine wpAny_newList ?_ (by simp)
  refine wpAny_newFunctionEnv k.cell (by intro y hy; simp at hy) (fun h₁ hns₁ hsb₁ => ?_) k.kind
  dsimp only at hns₁ hsb₁ ⊢
  have hHI : H I = none := by
    cases e : H I with
    | none => rfl
    | some z => have := st₂.dis I (by rw [e]; exact nofun); rw [Hp.set_same] at this; cases this
  have stH := st₂.toH hFI (noCell_raw (hnc 0 ob · hP))
  obtain ⟨obI, gI, rI⟩ := stH.get (a := I) Hp.set_same
  have gI' : s₂.heap.get? I = some ob := by cases rI; exact gI
  generalize hD : s₂.heap.objs.size = D at hns₁ hsb₁ ⊢
  have hDn : s₂.heap.get? D = none := fresh _ _ (Nat.le_of_eq hD)
  have hHD : (H.set I (.raw ob)) D = none ∧ F D = none := stH.fresh hDn
  have hID : I ≠ D := by intro q; rw [q, hDn] at gI'; cases gI'
  have hHD' : H D = none := by have := hHD.1; simp only [Hp.set, if_neg (Ne.symm hID)] at this; exact this
  generalize hH2 : s₂.heap.push { cls := .type "list", dict := none, data := .seq ([] : List Value).toArray } = H2 at hns₁ hsb₁ ⊢
  have st₃ : St c ρ ((H.set I (.raw ob)).set D (.list [])) F { s₂ with heap := H2, toks := s₂.toks } := by
    subst hH2
    refine stH.alloc (a := D) (ob := { cls := .type "list", dict := none, data := .seq ([] : List Value).toArray }) hDn (fun b o e => Heap.get?_push_of_some _ e) (by rw [← hD]; exact Heap.get?_push_size _ rfl) ⟨_, _, rfl, rfl, rfl, fun _ => rfl⟩
  generalize hC : H2.objs.size = C at hns₁ hsb₁ ⊢
  have hCn : H2.get? C = none := fresh _ _ (Nat.le_of_eq hC)
  have hk : ∀ b o, H2.get? b = some o → h₁.get? b = some o := fun b o e => by
    have hb : b ≠ C := by intro q; rw [q, hCn] at e; cases e
    exact hsb₁.extBut b o hb (Heap.get?_push_of_some _ e)
  have okc := CompOk.ok (C := C) ok k
  have st₄ := St.inComp (C := C) (s₁ := { s₂ with heap := h₁, toks := s₂.toks + ([] : List (Str × Value)).length }) ok k st₃ hCn (Nat.le_of_eq hC) hk ⟨_, hns₁⟩
  generalize hR : restF c ((H.set I (.raw ob)).set D (.list [])) F H2 C = R at st₄
  have hRI : R I = none := st₄.dis I (by simp only [Hp.set, if_neg hID, if_pos rfl]; exact nofun)
  have hRD : R D = none := st₄.dis D (by rw [Hp.set_same]; exact nofun)
  have st₅ : St (compCx c scope (closOf c.env scope.names []) C) (freeLoc scope ρ) H ((R.set D (.list [])).set I (.raw ob)) { s₂ with heap := h₁, toks := s₂.toks + ([] : List (Str × Value)).length } :=
    (st₄.toF hHD.1).toF hHI
  have hCD : C ≠ D := by
    intro q
    have : H2.get? D = none := by rw [← q]; exact hCn
    obtain ⟨od, gd, _⟩ := st₃.get (a := D) Hp.set_same
    have gd' : H2.get? D = some od := gd
    rw [this] at gd'; cases gd'
  have hC₂ : s₂.heap.get? C = none := fresh _ _ (by rw [← hC, ← hH2, Heap.size_push]; exact Nat.le_succ _)
  have hCL : C ≠ c.L := by
    intro q; obtain ⟨m, ⟨o', es, ep, ho', _⟩, _⟩ := st₂.ns; rw [← q, hC₂] at ho'; cases ho'
  have hxl : (compCx c scope (closOf c.env scope.names []) C).env.kindOf x = some .local := by
    show (relabel scope c.env).names.lookup x = some .local
    rw [relabel_lookup, hx]; rfl
  -- the iterator's rules in the inner frame
  have loop : ∀ s₃ : Shared, s₃ = { s₂ with heap := h₁, toks := s₂.toks + ([] : List (Str × Value)).length } →
      codeAny c.M c.A (.compLoop (.ListComp elt [⟨.Name x px, iter, ifs, 0⟩] scope pos) 0 (.ref I) (.ref D) (compEnvC scope (closOf c.env scope.names []) C c.env)) (RR (.ref D) C) s₃ := by
    rintro s₃ rfl
    refine codeAny_compLoop_tests (fun kk s' => ∃ i H₁ ob₁ ys, kk = n + 1 - i ∧ i ≤ n ∧ ys.length ≤ i ∧ Stp s₂ H s' H₁ ∧ St (compCx c scope (closOf c.env scope.names []) C) (freeLoc scope ρ) H₁ ((R.set D (.list ys)).set I (.raw ob₁)) s' ∧ P i ob₁ ∧ Inv i ys H₁) ?_ (n + 1)
      ⟨0, H, ob, [], rfl, Nat.zero_le _, Nat.le_refl _, .mem s₂ _ _, st₅, hP, h0⟩
    rintro kk s' ⟨i, H₁, ob₁, ys, rfl, hi, hys, sm₁, st₁, hP₁, hI₁⟩
    have gI₁ : s'.heap.get? I = some ob₁ := by
      obtain ⟨o, g, r⟩ := st₁.getF (a := I) Hp.set_same
      cases r; exact g
    have hRDI : (R.set D (.list ys)) I = none := by simp only [Hp.set, if_neg hID]; exact hRI
    -- back in the frame around
    have out : ∀ (s'' : Shared) (ρ'' : Loc) (H'' : Hp) (ys' : List AV) (ob'' : Obj) (nc : ∀ v, ob''.data ≠ .cell v), Stp s₂ H s'' H'' → St (compCx c scope (closOf c.env scope.names []) C) ρ'' H'' ((R.set D (.list ys')).set I (.raw ob'')) s'' →
        H'' D = none ∧ (∀ h' tk, Heap.SameBut C s''.heap h' → St c ρ (H''.set D (.list ys')) F { s'' with heap := h', toks := tk }) := by
      intro s'' ρ'' H'' ys' ob'' nc sm st''
      have hRDI : (R.set D (.list ys')) I = none := by simp only [Hp.set, if_neg hID]; exact hRI
      have hH''I : H'' I = none := by
        cases e : H'' I with
        | none => rfl
        | some z => have := st''.dis I (by rw [e]; exact nofun); rw [Hp.set_same] at this; cases this
      have a1 := (st''.toH hRDI (noCell_raw nc))
      have hH''D : H'' D = none := by
        cases e : H'' D with
        | none => rfl
        | some z => have := st''.dis D (by rw [e]; exact nofun); rw [Hp.set_comm (Ne.symm hID), Hp.set_same] at this; cases this
      have a2 := a1.toH hRD (noCell_plain rfl)
      refine ⟨hH''D, fun h' tk hs => ?_⟩
      have a3 := St.outComp (h' := h') (tk := tk) st₃ hCn a2 (fun a x e => by rw [← hR]; exact e) (fun a o e => ?_) hs
      · rw [Hp.set_comm hID] at a3
        exact a3.dropH (by simp only [Hp.set, if_neg hID]; exact hH''I)
      · have hai : a ≠ D := by intro q; subst q; rw [Hp.set_same] at e; cases e
        have haI : a ≠ I := by intro q; subst q; simp only [Hp.set, if_neg hai, if_pos rfl] at e; cases e
        simp only [Hp.set, if_neg hai, if_neg haI] at e ⊢
        exact sm.fz a o e
    by_cases hlt : i < n
    · have Wn := W.next i ρ H₁ (fun a => none) 
      -- the iterator's step needs a state of the frame around
      obtain ⟨hH₁D, outst⟩ := out s' _ H₁ ys ob₁ (hnc i ob₁ · hP₁) sm₁ st₁
      have stO := outst s'.heap s'.toks (.refl ..)
      have GH : G H₁ := hG i ys H₁ hI₁
      refine W.next i ρ (H₁) (F.set D (.list ys)) s' ob₁ _ _ hlt hP₁ GH (stO.toF hH₁D) gI₁ fun v h' tk ob' hv hs' g' hP' => ?_
      have st₂' := st₁.updF' (tk := tk) hRDI (noCell_raw (hnc i ob₁ · hP₁)) hs' g' (o' := .raw ob') rfl
      refine (asg_name (x := x) (pos := px) (v := val i) (Φ := fun ρ' H' => ρ' = (freeLoc scope ρ).set x (val i) ∧ H' = H₁) okc (.inl hxl) ⟨rfl, rfl⟩ v hv).use st₂' fun _ s₃ ρ₃ H₃ sm₃ st₃' ⟨e1, e2⟩ => ?_
      subst e1 e2
      refine (turn C i ys _ hlt hI₁ okc).use st₃' fun b s₄ ρ₄ H₄ sm₄ st₄' ⟨e1, p₄⟩ => ?_
      subst e1
      cases b with
      | false =>
        simp only [Bool.false_eq_true, if_false] at p₄ ⊢
        refine ⟨n + 1 - (i + 1), by omega, i + 1, H₄, ob', ys, rfl, hlt, by omega, sm₁.trans ((Stp.mem s' h' tk).trans (sm₃.trans sm₄)), st₄'.less ?_, hP', p₄⟩
        intro z w e
        have hz : z ≠ x := by
          intro q; subst q; simp only [freeLoc] at e; split at e
          · rename_i q; rw [hx] at q; cases q
          · cases e
        simp only [Loc.set, if_neg hz]; exact e
      | true =>
        simp only [if_true] at p₄ ⊢
        refine p₄.use st₄' fun y s₅ ρ₅ H₅ sm₅ st₅' ⟨e1, p₅⟩ => ?_
        subst e1
        have hyI : (R.set I (.raw ob')) D = none := by simp only [Hp.set, if_neg (Ne.symm hID)]; exact hRD
        rw [Hp.set_comm (Ne.symm hID)] at st₅'
        obtain ⟨obD, gD, its, nn, hcD, hdD, hmD, hoD⟩ := st₅'.getF (a := D) Hp.set_same
        have hobD := hoD rfl
        subst hobD
        have hsz : its.size = ys.length := size_of_map hmD
        refine append_at (hsz := by have : sizeLine = 2 ^ 24 := rfl; rw [this]; omega) gD fun h₆ hs₆ g₆ => ?_
        have st₆ := st₅'.updF' (o' := .list (ys ++ [abs y])) (tk := s₅.toks) hyI (noCell_plain rfl) hs₆ g₆ ⟨its.push y, nn + 1, rfl, rfl, by simp [hmD], fun _ => rfl⟩
        rw [Hp.set_comm hID] at st₆
        refine ⟨n + 1 - (i + 1), by omega, i + 1, H₅, ob', ys ++ [abs y], rfl, hlt, by simp; omega, sm₁.trans ((Stp.mem s' h' tk).trans (sm₃.trans (sm₄.trans (sm₅.trans (Stp.mem s₅ h₆ s₅.toks))))), st₆.less ?_, hP', p₅⟩
        intro z w e
        have hz : z ≠ x := by
          intro q; subst q; simp only [freeLoc] at e; split at e
          · rename_i q; rw [hx] at q; cases q
          · cases e
        simp only [Loc.set, if_neg hz]; exact e
    · have : i = n := by omega
      subst this
      obtain ⟨hH₁D, outst⟩ := out s' _ H₁ ys ob₁ (hnc i ob₁ · hP₁) sm₁ st₁
      have stO := outst s'.heap s'.toks (.refl ..)
      refine W.done ρ H₁ (F.set D (.list ys)) s' ob₁ _ _ hP₁ (hG i ys H₁ hI₁) (stO.toF hH₁D) gI₁ fun h' tk hx' => ?_
      have st₇ := st₁.dropF (tk := tk) hRDI (fun v => hnc i ob₁ v hP₁) hx'
      -- the iterator may be gone; the rest stands
      have st₈ := st₇.toH hRD (noCell_plain rfl)
      obtain ⟨m, hm, _⟩ := st₇.ns
      obtain ⟨obD, gD, _⟩ := st₇.getF (a := D) Hp.set_same
      refine done D C _ ys H₁ hI₁ hHD' hH₁D hHD.2 (sm₁.trans (Stp.mem s' h' tk)) ⟨m, hm⟩ hC₂ hCD (by rw [gD]; exact nofun) hCL ⟨?_, (st₃.fresh hCn).2, ?_⟩ fun h'' tk' hs'' => ?_
      · cases e : H₁ C with
        | none => rfl
        | some z =>
          obtain ⟨oz, bz⟩ := z
          obtain ⟨_, _, _, q1, q2⟩ := st₁.has C oz bz e
          cases bz with
          | true => exact absurd rfl (q1 rfl).1
          | false => exact absurd (Heap.lt_size (q2 rfl)) (Nat.not_lt_of_le st₁.above)
      · cases e : c.h₀.get? C with
        | none => rfl
        | some z => exact absurd (Heap.lt_size e) (Nat.not_lt_of_le st₁.above)
      have hkeep : ∀ b o, b ≠ I → b ≠ C → s'.heap.get? b = some o → h''.get? b = some o := fun b o hb hbC e => hs''.extBut b o hbC (hx' b o hb e)
      have base := outst s'.heap tk' (.refl ..)
      -- transport to the later heap
      obtain ⟨m₀, hm₀, hv₀⟩ := base.ns
      have hIL : c.L ≠ I := by
        intro q; obtain ⟨o', es, ep, ho', hd', _⟩ := hm₀
        have : s'.heap.get? c.L = some o' := ho'
        rw [q, gI₁] at this; cases this
        obtain ⟨t, ht, _⟩ := W.cls _ _ hP₁
        have hIraw : ((R.set D (.list ys)).set I (.raw ob₁)) I = some (.raw ob₁, true) := Hp.set_same
        have hLraw : R c.L ≠ none := by
          rw [← hR]
          obtain ⟨mL, ⟨oL, esL, epL, hoL, _⟩, _⟩ := st₃.ns
          have hH₁L : ((H.set I (.raw ob)).set D (.list [])) c.L = none := by
            cases e : ((H.set I (.raw ob)).set D (.list [])) c.L with
            | none => rfl
            | some z =>
              obtain ⟨oz, bz⟩ := z
              obtain ⟨obz, gz, _, r1, r2⟩ := st₃.has c.L oz bz e
              cases bz with
              | true => exact absurd rfl (r1 rfl).1
              | false => exact absurd (Heap.lt_size (r2 rfl)) (Nat.not_lt_of_le st₃.above)
          rw [q] at hH₁L
          simp only [Hp.set, if_neg hID, if_pos rfl] at hH₁L
          cases hH₁L
        exact hLraw (by rw [q]; exact hRI)
      refine ⟨⟨m₀, hm₀.at' fun o e => hkeep _ o hIL (Ne.symm hCL) e, hv₀⟩, fun z a e => ?_, fun b o e => hkeep b o ?_ ?_ (base.keep b o e), base.above, fun a o b e => ?_, fun a o b e => ?_, base.dis⟩
      · obtain ⟨oz, o', g, d, ne, r1, r0, r2, r3⟩ := base.cel z a e
        have haI : a ≠ I := by
          intro q
          have : s'.heap.get? a = some oz := g
          rw [q, gI₁] at this; cases this; exact hnc _ _ _ hP₁ d
        have haC : a ≠ C := by
          intro q
          obtain ⟨ox, o'', g', _⟩ := st₃.cel z a e
          have g'' : H2.get? a = some ox := g'
          rw [q, hCn] at g''; cases g''
        exact ⟨oz, o', hkeep a oz haI haC g, d, ne, r1, r0, r2, r3⟩
      · intro q; subst q; have := st₃.has b (.raw ob) true (by simp [Hp.set, hID]); obtain ⟨_, _, _, r1, _⟩ := this; rw [(r1 rfl).2] at e; cases e
      · intro q; subst q; have := st₃.keep b o e; have g'' : H2.get? b = some o := this; rw [hCn] at g''; cases g''
      · have hp := base.has a o b e
        obtain ⟨oz, g, r, r1, r2⟩ := hp
        have haI : a ≠ I := by
          intro q; subst q
          simp only [Hp.set, if_neg hID] at e
          have := st₁.dis a (by rw [e]; exact nofun); rw [Hp.set_same] at this; cases this
        have haC : a ≠ C := by
          intro q; subst q
          by_cases qD : a = D
          · exact hCD qD
          · simp only [Hp.set, if_neg qD] at e
            obtain ⟨_, _, _, q1, q2⟩ := st₁.has a o b e
            cases b with
            | true => exact (q1 rfl).1 rfl
            | false => exact absurd (Heap.lt_size (q2 rfl)) (Nat.not_lt_of_le st₁.above)
        exact ⟨oz, hkeep a oz haI haC g, r, r1, r2⟩
      · have hp := base.hasF a o b e
        obtain ⟨oz, g, r, r1, r2⟩ := hp
        have haI : a ≠ I := by intro q; rw [q, hFI] at e; cases e
        have haC : a ≠ C := by
          intro q; subst q
          obtain ⟨_, g', _⟩ := st₃.hasF a o b e
          have g'' : H2.get? a = some _ := g'
          rw [hCn] at g''; cases g''
        exact ⟨oz, hkeep a oz haI haC g, r, r1, r2⟩
  have hself : wpAny c.M c.A (pyIter (.ref I)) (fun it' s' => codeAny c.M c.A (.compLoop (.ListComp elt [⟨.Name x px, iter, ifs, 0⟩] scope pos) 0 it' (.ref D) (compEnvC scope (closOf c.env scope.names []) C c.env)) (RR (.ref D) C) s') (notedBy c.M c.A (compEnvC scope (closOf c.env scope.names []) C c.env) fun x s' => RR (.ref D) C (.error x) s') { s₂ with heap := h₁, toks := s₂.toks + ([] : List (Str × Value)).length } := by
    have gI₅ : h₁.get? I = some ob := by
      obtain ⟨o, g, r⟩ := st₅.getF (a := I) Hp.set_same
      cases r; exact g
    exact W.self 0 _ ob _ _ hP gI₅ (loop _ rfl)
  exact codeAny_compStart_list (loop _ rfl) hself
end
section
variable {c : Cx} {ρ : Loc} {H : Hp}
def CompBody (c : Cx) (ρ : Loc) (x : Str) (elt : Expr) (ifs : List Expr) (scope : Scope) (Ψ : List AV → Hp → Prop) (n : Nat) (val : Nat → AV) (G : Hp → Prop) (H' : Hp) : Prop :=
  n ≤ 1000000 ∧ ∃ Inv : Nat → List AV → Hp → Prop, Inv 0 [] H' ∧ (∀ i ys H, Inv i ys H → G H) ∧ CompTurns c ρ x elt ifs scope n val Inv ∧ ∀ ys H', Inv n ys H' → Ψ ys H'
theorem ev_comp {elt iter : Expr} {x : Str} {px : Pos} {ifs : List Expr} {scope : Scope} {pos : Pos} {Φ : AV → Hp → Prop} (ok : Ok c) (k : CompOk c scope) (hx : scope.names.lookup x = some .local)
    (h : ITR c ρ H iter (CompBody c ρ x elt ifs scope fun ys H' => ∀ D, H' D = none → Φ (.ref D) (H'.set D (.list ys))))
    (hs : ∀ x, foldedSetIterable iter c.env x = pure x := by intro _; rfl) : EV c ρ H (.ListComp elt [⟨.Name x px, iter, ifs, 0⟩] scope pos) Φ :=
  Tri.of fun F s Q st kk => by
    rw [eval_ListComp]
    refine wpAny_comprehension_free (use := none) (cl := closOf c.env scope.names []) rfl hs (k.clos ok) k.kind (fun y hy e => by rw [k.names y hy, e]) ?_
    show wpAny c.M c.A (eval iter c.env) _ _ s
    refine wpAny_mono (h F s (fun I s₂ => wpAny c.M c.A (newList []) (fun acc s₃ => wpAny c.M c.A (newFunctionEnv scope c.env.globals (closOf c.env scope.names []) [] c.env.qual none .none (some c.env)) (fun cenv s₄ =>
      codeAny c.M c.A (.compStart (.ListComp elt [⟨.Name x px, iter, ifs, 0⟩] scope pos) 0 (.ref I) acc { cenv with scope := relabel scope c.env }) (compPost c.M c.A (fun _ _ => False) none Q acc cenv.locals) s₄) (fun _ _ => False) s₃) (fun _ _ => False) s₂) (fun _ _ => False) st ?_)
      (fun x s₁ h₁ => wpAny_mono h₁ (fun it s₂ h₂ => by obtain ⟨I, rfl, h₂⟩ := h₂; exact h₂) fun _ _ x => x) fun _ _ x => x
    intro I ob s' n val P G H' W hnc hFI sm st' hP hΨ
    obtain ⟨hn, Inv, h0, hG, turn, done⟩ := hΨ
    refine comp_core (RR := fun acc C => compPost c.M c.A (fun _ _ => False) none Q acc C) ok k hx W hnc hFI st' hP hn Inv h0 hG turn ?_
    intro D C s'' ys H'' hI hHD hH''D hFD sm'' hns hC2 hCD hgD hCL hCC out
    obtain ⟨m, hm⟩ := hns
    exact ⟨m, hm, fun h₃ hs₃ => kk _ _ _ _ (sm.trans (sm''.trans (Stp.set s'' h₃ s''.toks))) (out h₃ s''.toks hs₃) ⟨rfl, done ys H'' hI D hH''D⟩⟩
end
theorem intsAre_of : ∀ {vs : List Value} {ns : List Int}, vs.map abs = zs ns → IntsAre vs ns
  | [], [], _ => .nil
  | [], _ :: _, h => by simp [zs] at h
  | _ :: _, [], h => by simp [zs] at h
  | v :: vs, n :: ns, h => by
    simp only [List.map_cons, zs, List.cons.injEq] at h
    obtain ⟨t, rfl⟩ := abs_int h.1
    exact .cons n t (intsAre_of h.2)
theorem of_intsAre : ∀ {vs : List Value} {ns : List Int}, IntsAre vs ns → vs.map abs = zs ns
  | _, _, .nil => rfl
  | _, _, .cons n t r => by simp only [List.map_cons, zs]; rw [of_intsAre r]; rfl
def scriptLoc (l : Addr) : Loc := fun y => if y = ("script" : Str) then some (.ref l) else none
def scriptHp (l : Addr) (ns : List Int) : Hp := fun a => if a = l then some (.list (zs ns), false) else none
theorem cellsFrom_inj {x y : Str} : ∀ (names : List (Str × NameKind)) (n : Nat) (acc : List (Str × Addr)) (a : Addr), (∀ z b, acc.lookup z = some b → b < n) → (∀ z z' b, acc.lookup z = some b → acc.lookup z' = some b → z = z') →
    (cellsFrom n names acc).lookup x = some a → (cellsFrom n names acc).lookup y = some a → x = y
  | [], n, acc, a, _, hi, h1, h2 => hi _ _ _ h1 h2
  | (w, k) :: r, n, acc, a, hb, hi, h1, h2 => by
    unfold cellsFrom at h1 h2
    split at h1
    · rename_i hk
      rw [if_pos hk] at h2
      refine cellsFrom_inj r (n + 1) _ a ?_ ?_ h1 h2
      · intro z b e
        by_cases q : z = w
        · subst q; simp [List.lookup_cons] at e; rw [← e]; exact Nat.lt_succ_self _
        · have : (z == w) = false := by simpa using q
          rw [List.lookup_cons, this] at e; exact Nat.lt_succ_of_lt (hb z b e)
      · intro z z' b e e'
        by_cases q : z = w
        · subst q
          simp [List.lookup_cons] at e; subst e
          by_cases q' : z' = z
          · exact q'.symm
          · have : (z' == z) = false := by simpa using q'
            rw [List.lookup_cons, this] at e'; exact absurd (hb _ _ e') (Nat.lt_irrefl _)
        · have hq : (z == w) = false := by simpa using q
          rw [List.lookup_cons, hq] at e
          by_cases q' : z' = w
          · subst q'
            simp [List.lookup_cons] at e'; subst e'
            exact absurd (hb _ _ e) (Nat.lt_irrefl _)
          · have hq' : (z' == w) = false := by simpa using q'
            rw [List.lookup_cons, hq'] at e'; exact hi _ _ _ e e'
    · rename_i hk
      rw [if_neg hk] at h2
      exact cellsFrom_inj r n acc a hb hi h1 h2
theorem cellsAre_get {cm : Str → Option Value} {x : Str} {a : Addr} : ∀ {cs : List (Str × Addr)} {cells : List (Addr × Obj)}, CellsAre cm cs cells → cs.lookup x = some a → ∃ o, (a, o) ∈ cells ∧ o.data = .cell (cm x)
  | _, _, .nil, h => by cases h
  | _, _, .cons (n := n) (c := b) (o := o) (cs := cs) (cells := cells) hd r, h => by
    by_cases q : x = n
    · subst q; simp [List.lookup_cons] at h; subst h; exact ⟨o, .head _, hd⟩
    · have : (x == n) = false := by simpa using q
      rw [List.lookup_cons, this] at h
      obtain ⟨o', m, d⟩ := cellsAre_get r h
      exact ⟨o', .tail _ m, d⟩
theorem lookup_cellsFrom {x : Str} {names : List (Str × NameKind)} {n : Nat} (h : (x, NameKind.cell) ∈ names) : ∃ a, (cellsFrom n names []).lookup x = some a := by
  have gen : ∀ (l : List (Str × NameKind)) (n : Nat) (acc : List (Str × Addr)), ((x, NameKind.cell) ∈ l ∨ ∃ a, acc.lookup x = some a) → ∃ a, (cellsFrom n l acc).lookup x = some a := by
    intro l
    induction l with
    | nil => intro n acc h; exact h.elim (fun h => by cases h) id
    | cons y r ih =>
      intro n acc h
      obtain ⟨z, k⟩ := y
      unfold cellsFrom
      split
      · refine ih _ _ ?_
        by_cases q : x = z
        · subst q; exact .inr ⟨n, by simp [List.lookup_cons]⟩
        · rcases h with h | ⟨a, h⟩
          · rcases List.mem_cons.mp h with e | e
            · cases e; exact absurd rfl q
            · exact .inl e
          · have : (x == z) = false := by simpa using q
            exact .inr ⟨a, by rw [List.lookup_cons, this]; exact h⟩
      · rename_i hk
        refine ih _ _ ?_
        rcases h with h | h
        · rcases List.mem_cons.mp h with e | e
          · cases e; exact absurd rfl hk
          · exact .inl e
        · exact .inr h
  exact gen names n [] (.inl h)
/-- from the law's call to its body -/
theorem law_enter {prog : Program} {w : World} {K : Frag} {s : Shared} {R : Result → Shared → Prop} {name : Str} {params : Arguments} {body : List Stmt} {scope : Scope} {pm cd doc : Value} {fa l : Addr} {o : Obj} {vs : List Value} {ns : List Int}
    {p : Program} {loose : List Str} {mean : ExcName → Option Value} {mg mb : Str → Option Value}
    (ho : s.heap.get? fa = some o) (hdata : o.data = .func (Calls.docDef name params body scope pm cd doc)) (T : Top p loose mean mg mb s.heap) (KX : K.In s.heap) (hcd : s.heap.CodeRec cd name) (hL : s.heap.IsList l vs.toArray) (hI : IntsAre vs ns)
    (hbind : bindArgs (Calls.docDef name params body scope pm cd doc) ⟨[.ref l], []⟩ = pure [(Str.ofString "script", Value.ref l)])
    (hkind : scope.names.lookup (Str.ofString "script") = some .local ∨ scope.names.lookup (Str.ofString "script") = some .cell) (hnd : ((cellsFrom 0 scope.names []).map (·.1)).Nodup) (hfree : ∀ x ∈ scope.names, x.2 ≠ .free)
    (hco : scope.isCoroutine = false) (hgen : scope.isGenerator = false) (hk : scope.kind = .function)
    (h : ∀ c : Cx, Ok c → OkC c 20 → c.K = K → c.env.scope = scope → c.own = true → XS c (scriptLoc l) (scriptHp l ns) body fun f _ _ => f = .ret (.bool true))
    (hR : ∀ s' m, Fr s.heap s.heap.objs.size s'.heap m → Same s s' → R (.ok (.ret (.bool true))) s') : codeAny (model prog w) callerA (.call (.ref fa) ⟨[.ref l], []⟩) R s := by
  refine call_cellsN (by decide) ho hdata T.nolimit hcd hbind ?_ hnd (fun h₁ tk cells F N X => ?_) hco hgen hk
  · intro x hx
    simp only [List.mem_singleton] at hx
    subst hx
    rcases hkind with q | q
    · exact .inl q
    · refine .inr ⟨q, ?_⟩
      obtain ⟨a, ha⟩ := lookup_cellsFrom (n := s.heap.objs.size + 1) (lookup_mem q)
      rw [ha]; rfl
  let c : Cx := { prog := prog, w := w, A := callerA.deeper (envOfC name scope s.heap.objs.size fa cd), env := envOfC name scope s.heap.objs.size fa cd, h₀ := s.heap, own := true, K := K }
  have ok : Ok c := by
    refine ⟨KX, ⟨p, loose, mean, mg, mb, T⟩, hk, rfl, rfl, rfl, (by show callerA.depth + 1 < 900; decide), (by show callerA.units + 3 < 500; decide), ?_, ?_⟩
    · rintro x (q | q)
      · exact lookup_cellsFrom (lookup_mem q)
      · exact absurd rfl (hfree _ (lookup_mem q))
    · intro _ x y a e1 e2
      exact cellsFrom_inj _ _ _ a (fun z b e => by cases e) (fun z z' b e => by cases e) e1 e2
  have okc : OkC c 20 := ⟨⟨callerA, s.heap, [], below_caller s.heap, rfl⟩, rfl, (by show callerA.depth + 1 + 20 < 900; decide), (by show callerA.units + 3 + 3 * 20 < 500; decide)⟩
  have hlt : l < s.heap.objs.size := by obtain ⟨ob, g, _⟩ := hL; exact Heap.lt_size g
  have st : St c (scriptLoc l) (scriptHp l ns) (fun _ => none) { s with heap := h₁, toks := tk } := by
    refine ⟨⟨_, F.ns, fun x v e kx => ?_⟩, fun x a e => ?_, F.keep, F.above, fun a o b e => ?_, (fun a o b e => by cases e), fun a _ => rfl⟩
    · simp only [scriptLoc] at e
      split at e
      · rename_i q; subst q; cases e
        refine ⟨.ref l, ?_, rfl⟩
        have kx' : (envOfC name scope s.heap.objs.size fa cd).kindOf "script" = some .local := kx
        simp only [bindL, kx', if_true]
      · cases e
    · obtain ⟨ob, hm, hd⟩ := cellsAre_get X e
      obtain ⟨g, n1, n2⟩ := N _ hm
      refine ⟨ob, _, g, hd, n1, .inl n2, ?_, fun _ => ⟨n2, rfl⟩, fun v e' kx => ?_⟩
      · simp only [scriptHp]
        rw [if_neg]
        intro q
        obtain ⟨ob', g', _⟩ := hL
        rw [← q] at g'
        have n2' : s.heap.get? a = none := n2
        rw [n2'] at g'; cases g'
      · simp only [scriptLoc] at e'
        split at e'
        · rename_i q; subst q; cases e'
          refine ⟨.ref l, ?_, rfl⟩
          have hk2 : ¬ ((envOfC name scope s.heap.objs.size fa cd).kindOf "script" = some .local) := by
            intro q
            rcases kx with kx | kx
            · have : (envOfC name scope s.heap.objs.size fa cd).kindOf "script" = some .cell := kx
              rw [q] at this; cases this
            · have : (envOfC name scope s.heap.objs.size fa cd).kindOf "script" = some .free := kx
              rw [q] at this; cases this
          simp only [bindC, hk2, if_false]
          simp
        · cases e'
    · simp only [scriptHp] at e
      split at e
      · rename_i q; subst q; cases e
        obtain ⟨ob, g, hc, n, hd⟩ := hL
        exact ⟨ob, F.keep _ _ g, ⟨vs.toArray, n, hc, hd, by simpa using of_intsAre hI, fun x => by cases x⟩, (fun x => by cases x), fun _ => g⟩
      · cases e
  have := h c ok okc rfl rfl rfl
  refine Tri.use this st fun f s' ρ' H' sm st' hf => ?_
  obtain ⟨m, Fm, _⟩ := st'.fr
  have sm' : Same s s' := Same.trans ⟨h₁, tk, rfl⟩ sm.same
  cases f with
  | ret v =>
    have hv : abs v = .bool true := by simpa [absF] using hf
    have := abs_bool hv; subst this
    exact hR s' m Fm sm'
  | next => cases hf
  | brk => cases hf
  | cont => cases hf
section
variable {c : Cx} {ρ : Loc} {H : Hp}
theorem one_of {ys : List Value} {a : AV} (h : ys.map abs = [a]) : ∃ y, ys = [y] ∧ abs y = a := by
  match ys, h with
  | [y], h => exact ⟨y, rfl, by simpa using h⟩
theorem two_of {ys : List Value} {a b : AV} (h : ys.map abs = [a, b]) : ∃ y z, ys = [y, z] ∧ abs y = a ∧ abs z = b := by
  match ys, h with
  | [y, z], h => simp at h; exact ⟨y, z, rfl, h.1, h.2⟩
theorem three_of {ys : List Value} {a b d : AV} (h : ys.map abs = [a, b, d]) : ∃ y z w, ys = [y, z, w] ∧ abs y = a ∧ abs z = b ∧ abs w = d := by
  match ys, h with
  | [y, z, w], h => simp at h; exact ⟨y, z, w, rfl, h.1, h.2.1, h.2.2⟩
theorem four_of {ys : List Value} {a b d e : AV} (h : ys.map abs = [a, b, d, e]) : ∃ y z w u, ys = [y, z, w, u] ∧ abs y = a ∧ abs z = b ∧ abs w = d ∧ abs u = e := by
  match ys, h with
  | [y, z, w, u], h => simp at h; exact ⟨y, z, w, u, rfl, h.1, h.2.1, h.2.2.1, h.2.2.2⟩
theorem none_at_size (h : Heap) : h.get? h.objs.size = none := by
  cases e : h.get? h.objs.size with
  | none => rfl
  | some o => exact absurd (Heap.lt_size e) (Nat.lt_irrefl _)
theorem sizeLine_is : sizeLine = 16777216 := rfl
theorem orep_list {its : Array Value} {n : Nat} {xs : List AV} (h : its.toList.map abs = xs) : ORep (.list xs) true { cls := .type "list", data := .seq its n } := ⟨its, n, rfl, rfl, h, fun _ => rfl⟩
theorem orep_tup {its : Array Value} {n : Nat} {xs : List AV} (h : its.toList.map abs = xs) : ORep (.tup xs) true { cls := .type "tuple", data := .seq its n } := ⟨its, n, rfl, rfl, h, fun _ => rfl⟩
theorem small_of {a b d : Int} (ha : -1000000000 ≤ a ∧ a ≤ 1000000000) (hb : -1000000000 ≤ b ∧ b ≤ 1000000000) (hd : 0 < d ∧ d ≤ 1000) : Builtin.Range.small a b d = true ∧ 0 ≤ Builtin.Range.rangeSize a b d := by
  have hsz : 0 ≤ Builtin.Range.rangeSize a b d ∧ Builtin.Range.rangeSize a b d ≤ 2000000001 := by
    unfold Builtin.Range.rangeSize
    rw [if_pos hd.1]
    split
    · have h1 : 0 ≤ (b - a - 1) / d := Int.ediv_nonneg (by omega) (by omega)
      have h2 : (b - a - 1) / d ≤ b - a - 1 := Int.ediv_le_self _ (by omega)
      omega
    · omega
  refine ⟨?_, hsz.1⟩
  unfold Builtin.Range.small Builtin.Range.rangeFitsLong
  simp only [Bool.and_eq_true, Bool.or_eq_true, decide_eq_true_eq, beq_iff_eq]
  rw [if_pos hd.1]
  simp only [Bool.and_eq_true, decide_eq_true_eq]
  omega
theorem itr_range3 {x : Str} {np pos : Pos} {e1 e2 e3 : Expr} {a b d : Int} {Ψ : Nat → (Nat → AV) → (Hp → Prop) → Hp → Prop} (ok : Ok c) (hl : c.env.kindOf x = some .globalImplicit) (hg : gl c.K x = some (.type "range"))
    (h1 : PV c ρ H e1 (.int a)) (h2 : PV c ρ H e2 (.int b)) (h3 : PV c ρ H e3 (.int d)) (ha : -1000000000 ≤ a ∧ a ≤ 1000000000) (hb : -1000000000 ≤ b ∧ b ≤ 1000000000) (hd : 0 < d ∧ d ≤ 1000)
    (hΨ : Ψ (Builtin.Range.rangeSize a b d).toNat (fun i => .int (a + i * d)) (fun _ => True) H)
    (hns : noStars [e1, e2, e3] = true := by decide +kernel) (hdb : (x == ("__debug__" : Str)) = false := by decide +kernel) (hn : x ≠ ("__name__" : Str) := by decide +kernel) :
    ITR c ρ H (.Call (.Name x np) [e1, e2, e3] [] pos) Ψ := by
  refine itr_rangeV ok.hand fun F s Q E st k => ?_
  have hs := small_of ha hb hd
  refine wpAny_mono (Q := fun y s' => ∃ r t u v, y = .ref r ∧ Stp s H s' H ∧ St c ρ H F s' ∧ IsRange s'.heap r a b d t u v) (E := fun _ _ => False) ?_ (fun y s' ⟨r, t, u, v, e, sm, st', hr⟩ => by subst e; exact k r s' a b d t u v H sm st' hr hs.1 hΨ hs.2) fun _ _ x => x.elim
  refine wpAny_Call_NameR (gl_loads ok hl hg hdb hn st ?_)
  rw [back_plain hns]
  refine PyProof.Rows.callWith_type (by simp [List.any_eq]) (evalArgs_plain ?_)
  refine (ps_cons h1 (ps_cons h2 (ps_cons h3 ps_nil))).use st fun ys s₁ ρ₁ H₁ sm₁ st₁ ⟨e₁, e2, e3⟩ => ?_
  subst e₁ e3
  obtain ⟨y1, y2, y3, rfl, a1, a2, a3⟩ := three_of e2
  obtain ⟨t1, rfl⟩ := abs_int a1
  obtain ⟨t2, rfl⟩ := abs_int a2
  obtain ⟨t3, rfl⟩ := abs_int a3
  refine call_range_3 (by omega) ⟨_, t1, t2, t3, rfl, sm₁.trans (.mem s₁ _ s₁.toks), st₁.keepsAll (tk := s₁.toks) (fun b o e => Heap.get?_push_of_some _ e), Heap.get?_push_size _ rfl⟩ (.inl (PyProof.noPylong_small (by omega)))
theorem itr_range2 {x : Str} {np pos : Pos} {e1 e2 : Expr} {a b : Int} {Ψ : Nat → (Nat → AV) → (Hp → Prop) → Hp → Prop} (ok : Ok c) (hl : c.env.kindOf x = some .globalImplicit) (hg : gl c.K x = some (.type "range"))
    (h1 : PV c ρ H e1 (.int a)) (h2 : PV c ρ H e2 (.int b)) (ha : -1000000000 ≤ a ∧ a ≤ 1000000000) (hb : -1000000000 ≤ b ∧ b ≤ 1000000000)
    (hΨ : Ψ (b - a).toNat (fun i => .int (a + i)) (fun _ => True) H)
    (hns : noStars [e1, e2] = true := by decide +kernel) (hdb : (x == ("__debug__" : Str)) = false := by decide +kernel) (hn : x ≠ ("__name__" : Str) := by decide +kernel) :
    ITR c ρ H (.Call (.Name x np) [e1, e2] [] pos) Ψ := by
  refine itr_rangeV ok.hand fun F s Q E st k => ?_
  have hs := small_of ha hb (d := 1) (by omega)
  have hΨ' : Ψ (Builtin.Range.rangeSize a b 1).toNat (fun i => .int (a + i * 1)) (fun _ => True) H := by
    have e1 : (Builtin.Range.rangeSize a b 1).toNat = (b - a).toNat := by
      unfold Builtin.Range.rangeSize
      rw [if_pos (by omega)]
      split
      · rw [Int.ediv_one]; omega
      · omega
    rw [e1]
    simpa using hΨ
  refine wpAny_mono (Q := fun y s' => ∃ r t u v, y = .ref r ∧ Stp s H s' H ∧ St c ρ H F s' ∧ IsRange s'.heap r a b 1 t u v) (E := fun _ _ => False) ?_ (fun y s' ⟨r, t, u, v, e, sm, st', hr⟩ => by subst e; exact k r s' a b 1 t u v H sm st' hr hs.1 hΨ' hs.2) fun _ _ x => x.elim
  refine wpAny_Call_NameR (gl_loads ok hl hg hdb hn st ?_)
  rw [back_plain hns]
  refine PyProof.Rows.callWith_type (by simp [List.any_eq]) (evalArgs_plain ?_)
  refine (ps_cons h1 (ps_cons h2 ps_nil)).use st fun ys s₁ ρ₁ H₁ sm₁ st₁ ⟨e₁, e2, e3⟩ => ?_
  subst e₁ e3
  obtain ⟨y1, y2, rfl, a1, a2⟩ := two_of e2
  obtain ⟨t1, rfl⟩ := abs_int a1
  obtain ⟨t2, rfl⟩ := abs_int a2
  exact call_range_2 ⟨_, t1, t2, _, rfl, sm₁.trans (.mem s₁ _ _), st₁.keepsAll (fun b o e => Heap.get?_push_of_some _ e), Heap.get?_push_size _ rfl⟩
theorem ev_list {es : List Expr} {pos : Pos} {Φ : AV → Hp → Prop} (h : ES c ρ H es fun vs H' => vs.length ≤ 1000 ∧ ∀ D, H' D = none → Φ (.ref D) (H'.set D (.list vs))) (hns : noStars es = true := by decide +kernel) : EV c ρ H (.List es pos) Φ :=
  Tri.of fun F s Q st k => wpAny_List (by
    rw [back_plain hns]
    refine h.use st fun ys s₁ ρ₁ H₁ sm₁ st₁ ⟨e₁, hlen, p⟩ => ?_
    subst e₁
    have hn := none_at_size s₁.heap
    refine ⟨by rw [sizeLine_is]; simp at hlen; omega, k _ _ _ _ (sm₁.trans (.set s₁ _ s₁.toks)) (st₁.alloc (tk := s₁.toks) (o := .list (ys.map abs)) hn (fun b o e => Heap.get?_push_of_some _ e) (Heap.get?_push_size _ rfl) (orep_list (by simp))) ⟨rfl, p _ (st₁.fresh hn).1⟩⟩)
theorem ev_tuple {es : List Expr} {n : Nat} {pos : Pos} {Φ : AV → Hp → Prop} (h : ES c ρ H es fun vs H' => vs.length ≤ 1000 ∧ ∀ D, H' D = none → Φ (.ref D) (H'.set D (.tup vs))) (hns : noStars es = true := by decide +kernel) : EV c ρ H (.Tuple es n pos) Φ :=
  Tri.of fun F s Q st k => wpAny_Tuple (by
    rw [back_plain hns]
    refine h.use st fun ys s₁ ρ₁ H₁ sm₁ st₁ ⟨e₁, hlen, p⟩ => ?_
    subst e₁
    have hn := none_at_size s₁.heap
    refine ⟨by rw [sizeLine_is]; simp at hlen; omega, k _ _ _ _ (sm₁.trans (.set s₁ _ s₁.toks)) (st₁.alloc (tk := s₁.toks) (o := .tup (ys.map abs)) hn (fun b o e => Heap.get?_push_of_some _ e) (Heap.get?_push_size _ rfl) (orep_tup (by simp))) ⟨rfl, p _ (st₁.fresh hn).1⟩⟩)
theorem St.ints {F : Hp} {s : Shared} {a : Addr} {xs : List Int} {fl : Bool} (st : St c ρ H F s) (h : H a = some (.list (zs xs), fl)) : ∃ vs : List Value, s.heap.IsList a vs.toArray ∧ IntsAre vs xs := by
  obtain ⟨its, hl, he⟩ := st.isList h
  exact ⟨its.toList, by simpa using hl, intsAre_of he⟩
theorem pv_max2 {x : Str} {np pos : Pos} {e1 e2 : Expr} {a b : Int} (ok : Ok c) (hl : c.env.kindOf x = some .globalImplicit) (hg : gl c.K x = some (.builtin "max")) (h1 : PV c ρ H e1 (.int a)) (h2 : PV c ρ H e2 (.int b))
    (hns : noStars [e1, e2] = true := by decide +kernel) (hd : (x == ("__debug__" : Str)) = false := by decide +kernel) (hn : x ≠ ("__name__" : Str) := by decide +kernel) : PV c ρ H (.Call (.Name x np) [e1, e2] [] pos) (.int (max a b)) :=
  ev_call_bi ok hl hg ((ps_cons h1 (ps_cons h2 ps_nil)).es fun ys hys => by
    obtain ⟨y, z, rfl, hy, hz⟩ := two_of hys
    obtain ⟨t, rfl⟩ := abs_int hy
    obtain ⟨u, rfl⟩ := abs_int hz
    exact Tri.of fun F s Q st k => by
      obtain ⟨m, Fm, N, via⟩ := st.via
      refine max_two_N ok.hand Fm N fun h' tk F' N' => k _ _ _ _ (.mem s h' tk) (via h' tk F' N') ⟨rfl, ?_, rfl⟩
      show AV.int _ = AV.int _
      congr 1
      omega) hns hd hn
theorem pv_min2 {x : Str} {np pos : Pos} {e1 e2 : Expr} {a b : Int} (ok : Ok c) (hl : c.env.kindOf x = some .globalImplicit) (hg : gl c.K x = some (.builtin "min")) (h1 : PV c ρ H e1 (.int a)) (h2 : PV c ρ H e2 (.int b))
    (hns : noStars [e1, e2] = true := by decide +kernel) (hd : (x == ("__debug__" : Str)) = false := by decide +kernel) (hn : x ≠ ("__name__" : Str) := by decide +kernel) : PV c ρ H (.Call (.Name x np) [e1, e2] [] pos) (.int (min a b)) :=
  ev_call_bi ok hl hg ((ps_cons h1 (ps_cons h2 ps_nil)).es fun ys hys => by
    obtain ⟨y, z, rfl, hy, hz⟩ := two_of hys
    obtain ⟨t, rfl⟩ := abs_int hy
    obtain ⟨u, rfl⟩ := abs_int hz
    exact Tri.of fun F s Q st k => by
      obtain ⟨m, Fm, N, via⟩ := st.via
      refine min_two_N ok.hand Fm N fun h' tk F' N' => k _ _ _ _ (.mem s h' tk) (via h' tk F' N') ⟨rfl, ?_, rfl⟩
      show AV.int _ = AV.int _
      congr 1
      omega) hns hd hn
theorem pv_abs {x : Str} {np pos : Pos} {e1 : Expr} {a : Int} (ok : Ok c) (hl : c.env.kindOf x = some .globalImplicit) (hg : gl c.K x = some (.builtin "abs")) (h1 : PV c ρ H e1 (.int a))
    (hns : noStars [e1] = true := by decide +kernel) (hd : (x == ("__debug__" : Str)) = false := by decide +kernel) (hn : x ≠ ("__name__" : Str) := by decide +kernel) : PV c ρ H (.Call (.Name x np) [e1] [] pos) (.int (a.natAbs : Int)) :=
  ev_call_bi ok hl hg ((ps_cons h1 ps_nil).es fun ys hys => by
    obtain ⟨y, rfl, hy⟩ := one_of hys
    obtain ⟨t, rfl⟩ := abs_int hy
    exact Tri.of fun F s Q st k => by
      refine call_abs_int fun u tk => k _ _ _ _ (.mem s s.heap tk) st.toks ⟨rfl, ?_, rfl⟩
      show AV.int _ = AV.int _
      congr 1
      omega) hns hd hn
theorem ev_method {o e : Expr} {es : List Expr} {name : Str} {id : String} {apos pos : Pos} {pl : Sem Bool} {Φ : AV → Hp → Prop} (slot : Slot "list" name id) (hty : typeOf (.builtin id) = pure (.type "method_descriptor"))
    (h : EV c ρ H o fun a H₁ => ∃ l xs, a = .ref l ∧ H₁ l = some (.list xs, true) ∧ ES c ρ H₁ (e :: es) fun vs H₂ => ∀ ys, ys.map abs = vs → OV c ρ H₂ (call (.builtin id) (.ref l :: ys)) Φ)
    (he : eval (.Call (.Attribute o name apos) (e :: es) [] pos) c.env = (do
      let ov ← eval o c.env
      standAt apos.atName
      let (f, first) ← holding [ov] (getMethod ov name pl)
      callWith pos f first (backTo pos (starEach (e :: es) c.env)) (backToKw pos (keywordEach [] c.env)))) (hns : noStars (e :: es) = true := by decide +kernel) : EV c ρ H (.Call (.Attribute o name apos) (e :: es) [] pos) Φ :=
  Tri.of fun F s Q st k => methodCall_KW (pl := pl) (h.use st fun ov s₁ ρ₁ H₁ sm₁ st₁ ⟨e₁, l, xs, ha, hl, p⟩ => by
    subst e₁
    have := abs_ref ha; subst this
    obtain ⟨ob, g, its, n, hc, hd, hm, ho⟩ := st₁.get hl
    have hob := ho rfl
    subst hob
    refine getMethod_list_of slot hty ⟨_, g, rfl, n, rfl⟩ (by exact ⟨_, g, rfl⟩) ?_
    show wpAny _ _ (callWith pos (.builtin id) [.ref l] (backTo pos (starEach (e :: es) c.env)) []) _ _ s₁
    rw [back_plain hns]
    refine callWith_builtin (by simp [List.any_eq]) (evalArgs_plain ?_)
    exact p.use st₁ fun ys s₂ ρ₂ H₂ sm₂ st₂ ⟨e₂, p₂⟩ => by
      subst e₂
      exact (p₂ ys rfl).use st₂ fun r s₃ ρ₃ H₃ sm₃ st₃ ⟨e₃, p₃⟩ => by subst e₃; exact k _ _ _ _ (sm₁.trans (sm₂.trans sm₃)) st₃ ⟨rfl, p₃⟩) he
theorem ov_append {l : Addr} {xs : List AV} {y : Value} {v : AV} {Φ : AV → Hp → Prop} (hy : abs y = v) (hl : H l = some (.list xs, true)) (hlen : xs.length ≤ 1000000) (h : Φ .none (H.set l (.list (xs ++ [v])))) : OV c ρ H (call (.builtin "list.append") [.ref l, y]) Φ :=
  Tri.of fun F s Q st k => by
    obtain ⟨ob, g, its, n, hc, hd, hm, ho⟩ := st.get hl
    have hob := ho rfl
    subst hob
    have hsz := size_of_map hm
    exact append_at (hsz := by rw [sizeLine_is]; omega) g fun h' hs g' => k _ _ _ _ (.set s h' s.toks) (st.upd (tk := s.toks) hl rfl hs g' (orep_list (by simp [hm, hy]))) ⟨rfl, h⟩
theorem ev_append {o e : Expr} {apos pos : Pos} {pl : Sem Bool} {Φ : AV → Hp → Prop}
    (h : EV c ρ H o fun a H₁ => ∃ l xs, a = .ref l ∧ H₁ l = some (.list xs, true) ∧ EV c ρ H₁ e fun v H₂ => ∃ xs, H₂ l = some (.list xs, true) ∧ xs.length ≤ 1000000 ∧ Φ .none (H₂.set l (.list (xs ++ [v]))))
    (he : eval (.Call (.Attribute o "append" apos) [e] [] pos) c.env = (do
      let ov ← eval o c.env
      standAt apos.atName
      let (f, first) ← holding [ov] (getMethod ov "append" pl)
      callWith pos f first (backTo pos (starEach [e] c.env)) (backToKw pos (keywordEach [] c.env))) := by rfl) (hns : noStars [e] = true := by decide +kernel) : EV c ρ H (.Call (.Attribute o "append" apos) [e] [] pos) Φ :=
  ev_method F.slot_list_append F.type_list_append (h.mono fun v H' ⟨l, xs, hv, hl, p⟩ => ⟨l, xs, hv, hl, es_cons (p.mono fun v H₂ ⟨xs, hl₂, hlen, p₂⟩ => es_nil fun ys hys => by
    obtain ⟨y, rfl, hy⟩ := one_of hys
    exact ov_append hy hl₂ hlen p₂)⟩) he hns
end
section
variable {c : Cx} {ρ : Loc} {H : Hp}
/-- an object that stands and is now known -/
theorem St.knowH {F : Hp} {s : Shared} {D : Addr} {ob : Obj} {o : AObj} (st : St c ρ H F s) (g : s.heap.get? D = some ob) (hr : ORep o true ob) (hc : NoCell o) (hL : D ≠ c.L) (h0 : c.h₀.get? D = none) (hH : H D = none) (hF : F D = none) : St c ρ (H.set D o) F s := by
  refine ⟨st.ns, fun x b e => ?_, st.keep, st.above, fun b o' fl e => ?_, st.hasF, fun b hb => ?_⟩
  · obtain ⟨ob', o', g', d, ne, r1, r0, r2, r3⟩ := st.cel x b e
    have hne : b ≠ D := by intro q; rw [q, g] at g'; cases g'; exact hc _ hr _ d
    exact ⟨ob', o', g', d, ne, r1, by simp only [Hp.set, if_neg hne]; exact r0, r2, r3⟩
  · by_cases q : b = D
    · subst q; rw [Hp.set_same] at e; cases e; exact ⟨ob, g, hr, fun _ => ⟨hL, h0⟩, fun x => by cases x⟩
    · simp only [Hp.set, if_neg q] at e; exact st.has b o' fl e
  · by_cases q : b = D
    · subst q; exact hF
    · simp only [Hp.set, if_neg q] at hb; exact st.dis b hb
theorem St.unknown {F : Hp} {s : Shared} {D : Addr} (st : St c ρ H F s) (h0 : c.h₀.get? D = none) (hL : D ≠ c.L) (hlt : ∀ q ∈ allNews c.h₀ c.L s.heap, q.1 < D) : H D = none ∧ F D = none := by
  constructor
  · cases e : H D with
    | none => rfl
    | some z =>
      obtain ⟨o, b⟩ := z
      obtain ⟨ob, g, _, r1, r2⟩ := st.has D o b e
      cases b with
      | true => exact absurd (hlt _ (mem_allNews.mpr ⟨hL, h0, g⟩)) (Nat.lt_irrefl _)
      | false => have := r2 rfl; rw [h0] at this; cases this
  · cases e : F D with
    | none => rfl
    | some z =>
      obtain ⟨o, b⟩ := z
      obtain ⟨ob, g, _, r1, r2⟩ := st.hasF D o b e
      cases b with
      | true => exact absurd (hlt _ (mem_allNews.mpr ⟨hL, h0, g⟩)) (Nat.lt_irrefl _)
      | false => have := r2 rfl; rw [h0] at this; cases this
/-- the library's rules that make one object -/
theorem St.viaNew {F : Hp} {s : Shared} (st : St c ρ H F s) : ∃ m, Fr c.h₀ c.L s.heap m ∧ News c.h₀ c.L s.heap (allNews c.h₀ c.L s.heap) ∧
    ∀ h' tk D ob o, Fr c.h₀ c.L h' m → News c.h₀ c.L h' ((D, ob) :: allNews c.h₀ c.L s.heap) → (∀ q ∈ allNews c.h₀ c.L s.heap, q.1 < D) → ORep o true ob → NoCell o →
      H D = none ∧ St c ρ (H.set D o) F { s with heap := h', toks := tk } := by
  obtain ⟨m, Fm, N, via⟩ := st.via
  refine ⟨m, Fm, N, fun h' tk D ob o F' N' hlt hr hc => ?_⟩
  have z := N' (D, ob) (.head _)
  have u := st.unknown z.2.2 z.2.1 hlt
  have st' := via h' tk F' fun p hp => N' p (.tail _ hp)
  exact ⟨u.1, st'.knowH z.1 hr hc z.2.1 z.2.2 u.1 u.2⟩
end
section
variable {c : Cx} {ρ : Loc} {H : Hp}
theorem unpackItems_list2 {prog : Program} {w : World} {A : Around} {E : Value → Shared → Prop} {s : Shared} {l : Addr} {y1 y2 : Value} {Q : List Value → Shared → Prop} (hh : A.handled = none) (hl : s.heap.IsList l #[y1, y2])
    (hQ : ∀ h', Heap.ExtBut s.heap.objs.size s.heap h' → Q [y1, y2] { s with heap := h' }) : wpAny (model prog w) A (unpackItems (.ref l) 2 none) Q E s := by
  have hlt : l ≠ s.heap.objs.size := by obtain ⟨o, ho, _⟩ := hl; exact Nat.ne_of_lt (Heap.lt_size ho)
  unfold unpackItems
  refine wpAny_bind ?_
  unfold notIterableAtAll
  refine wpAny_bind (wpAny_specialOf hl.typeIs PySem.F.slot_list_iter.lookup ?_)
  refine wpAny_pure ?_
  simp only [Bool.false_eq_true, if_false]
  refine wpAny_bind (wpAny_holding (wpAny_pyIter_list hl ?_))
  have hit : (s.heap.push { cls := .type "list_iterator", data := .fields #[.ref l, .int 0 0] }).IsListIter s.heap.objs.size l 0 := ⟨_, Heap.get?_push_size _ rfl, rfl, rfl⟩
  have hl0 : (s.heap.push { cls := .type "list_iterator", data := .fields #[.ref l, .int 0 0] }).IsList l #[y1, y2] := hl.at fun o e => Heap.get?_push_of_some _ e
  refine wpAny_bind (wpAny_holding ?_)
  show wpAny _ _ (pyNext (.ref s.heap.objs.size) >>= _) _ _ _
  refine wpAny_bind (wpAny_pyNext_list_item (x := y1) hit hl0 rfl fun h₁ hit₁ hs₁ => ?_)
  have hl1 : h₁.IsList l #[y1, y2] := hl0.extBut hs₁.extBut hlt
  refine wpAny_bind (wpAny_holding ?_)
  show wpAny _ _ (pyNext (.ref s.heap.objs.size) >>= _) _ _ _
  refine wpAny_bind (wpAny_pyNext_list_item (x := y2) hit₁ hl1 rfl fun h₂ hit₂ hs₂ => ?_)
  have hl2 : h₂.IsList l #[y1, y2] := hl1.extBut hs₂.extBut hlt
  refine wpAny_bind (wpAny_holding ?_)
  show wpAny _ _ (pure []) _ _ _
  refine wpAny_pure (wpAny_pure (wpAny_pure ?_))
  rw [if_neg (by simp)]
  refine wpAny_bind (wpAny_holding (wpAny_pyNext_list_end hh hit₂ hl2 rfl fun h₃ he₃ => ?_))
  simp only [Option.isSome_none, Bool.false_eq_true, if_false]
  exact wpAny_pure (hQ h₃ fun b o hb e => he₃ b o hb (hs₂.extBut b o hb (hs₁.extBut b o hb (Heap.get?_push_of_some _ e))))
theorem St.extNew {F : Hp} {s : Shared} {h' : Heap} {tk : Nat} (st : St c ρ H F s) (he : Heap.ExtBut s.heap.objs.size s.heap h') : St c ρ H F { s with heap := h', toks := tk } :=
  st.keepsAll fun b o e => he b o (Nat.ne_of_lt (Heap.lt_size e)) e
/-- two targets, the value a pair or a list of two -/
theorem asg_two {t1 t2 : Expr} {k : Nat} {pos : Pos} {a : Addr} {v1 v2 : AV} {fl : Bool} {Φ : Loc → Hp → Prop} (ok : Ok c) (ha : H a = some (.tup [v1, v2], fl) ∨ H a = some (.list [v1, v2], fl)) (h : ASG c ρ H t1 v1 fun ρ₁ H₁ => ASG c ρ₁ H₁ t2 v2 Φ)
    (hae : assignEach [t1, t2] c.env = [(false, assign t1 c.env), (false, assign t2 c.env)]) : ASG c ρ H (.Tuple [t1, t2] k pos) (.ref a) Φ := fun y hy => Tri.of fun F s Q st kk => by
  have := abs_ref hy; subst this
  rw [arm_assign_Tuple, hae]
  refine wpAny_bind (wpAny_standAt ?_)
  unfold unpack
  refine wpAny_bind (wpAny_holding ?_)
  have main : ∀ h' y1 y2, abs y1 = v1 → abs y2 = v2 → Heap.ExtBut s.heap.objs.size s.heap h' → wpAny c.M c.A (assignInOrder [assign t1 c.env, assign t2 c.env] [y1, y2]) Q (fun _ _ => False) { s with heap := h' } := by
    intro h' y1 y2 hy1 hy2 he
    have st' := st.extNew (tk := s.toks) he
    show wpAny _ _ (do holding [y2] (assign t1 c.env y1); assignInOrder [assign t2 c.env] [y2]) _ _ _
    refine wpAny_bind (wpAny_holding ((h y1 hy1).use st' fun _ s₁ ρ₁ H₁ sm₁ st₁ p => ?_))
    show wpAny _ _ (do holding [] (assign t2 c.env y2); assignInOrder [] []) _ _ _
    refine wpAny_bind (wpAny_holding ((p y2 hy2).use st₁ fun _ s₂ ρ₂ H₂ sm₂ st₂ p₂ => ?_))
    exact wpAny_pure (kk _ _ _ _ ((Stp.mem s h' s.toks).trans (sm₁.trans sm₂)) st₂ p₂)
  rcases ha with ha | ha
  · obtain ⟨its, hits, hm⟩ := st.isTup ha
    obtain ⟨y1, y2, he, hy1, hy2⟩ := two_of hm
    have hits' : its = #[y1, y2] := by apply Array.toList_inj.mp; rw [he]
    subst hits'
    refine unpackItems_tuple (items := #[y1, y2]) ok.hand hits fun h' he => main h' y1 y2 hy1 hy2 he
  · obtain ⟨its, hits, hm⟩ := st.isList ha
    obtain ⟨y1, y2, he, hy1, hy2⟩ := two_of hm
    have hits' : its = #[y1, y2] := by apply Array.toList_inj.mp; rw [he]
    subst hits'
    refine unpackItems_list2 ok.hand hits fun h' he => main h' y1 y2 hy1 hy2 he
end
section
variable {c : Cx} {ρ : Loc} {H : Hp}
theorem Hp.ne_of {a b : Addr} {x : AObj × Bool} (h1 : H a = some x) (h2 : H b = none) : a ≠ b := by intro q; rw [q, h2] at h1; cases h1
/-- the two searches as the text has them -/
structure BisK (K : Frag) (p : Program) (i : Nat) (name : Str) (f : Addr) (oc : Value) (od : Option Addr) (dV kV doc pm : Value) (an : Option Addr) (cdv ct : Value) (osl : Array (Option Value)) : Prop where
  fn : FnK K p i name f oc od dV kV doc pm an cdv ct osl
  b2 : ∀ y1 y2, ∃ t, BindsK K (fdOf p i name dV kV doc pm an cdv ct) [y1, y2] [("a", y1), ("x", y2), ("lo", .int 0 t), ("hi", .none), ("key", .none)]
  b4 : ∀ y1 y2 y3 y4, BindsK K (fdOf p i name dV kV doc pm an cdv ct) [y1, y2, y3, y4] [("a", y1), ("x", y2), ("lo", y3), ("hi", y4), ("key", .none)]
def Bis (K : Frag) (p : Program) (i : Nat) (name : Str) : Prop := ∃ f oc od dV kV doc pm an cdv ct osl, BisK K p i name f oc od dV kV doc pm an cdv ct osl
/-- what a search's body does -/
def BisBody (p : Program) (i : Nat) (q : Int → Int → Bool) (K : Frag) : Prop :=
  ∀ (c : Cx) (ρ : Loc) (H : Hp) (l : Addr) (xs : List Int) (x : Int) (fl : Bool), c.K = K → Ok c → c.env.scope = fnScope p i → ρ "a" = some (.ref l) → ρ "x" = some (.int x) → ρ "lo" = some (.int 0) → ρ "hi" = some .none → ρ "key" = some .none →
    H l = some (.list (zs xs), fl) → Sorted xs → xs.length < 1000000 → XS c ρ H (fnBody p i) fun f _ H' => f = .ret (.int (xs.countP (q x))) ∧ H' = H
/-- the scope of a plain def -/
def plainScope (s : Scope) : Bool := s.kind == .function && !s.isCoroutine && !s.isGenerator && s.names.all fun x => x.2 != .cell && x.2 != .free
theorem plainScope.of {s : Scope} (h : plainScope s = true) : s.isCoroutine = false ∧ s.isGenerator = false ∧ s.kind = .function ∧ (∀ x ∈ s.names, x.2 ≠ .cell) ∧ ∀ x ∈ s.names, x.2 ≠ .free := by
  simp only [plainScope, Bool.and_eq_true, beq_iff_eq, Bool.not_eq_true', List.all_eq_true, bne_iff_ne] at h
  exact ⟨h.1.1.2, h.1.2, h.1.1.1, fun x hx => (h.2 x hx).1, fun x hx => (h.2 x hx).2⟩
def bisNames (s : Scope) : Bool := [Str.ofString "a", "x", "lo", "hi", "key"].all fun n => s.names.lookup n == some .local
theorem bis_call {p : Program} {i : Nat} {name : Str} {q : Int → Int → Bool} {n : Nat} {ys : List Value} {l : Addr} {x : Int} {xs : List Int} {fl : Bool} {f : Addr} {oc : Value} {od : Option Addr} {dV kV doc pm : Value} {an : Option Addr} {cdv ct : Value} {osl : Array (Option Value)} {Φ : AV → Hp → Prop}
    (ok : Ok c) (okc : OkC c (n + 1)) (hb : BisK c.K p i name f oc od dV kV doc pm an cdv ct osl) (hbody : BisBody p i q c.K) (hsc : plainScope (fnScope p i) = true) (hnm : bisNames (fnScope p i) = true)
    (hys : ys.map abs = [.ref l, .int x] ∨ ys.map abs = [.ref l, .int x, .int 0, .none]) (hl : H l = some (.list (zs xs), fl)) (hs : Sorted xs) (hlen : xs.length < 1000000) (h : Φ (.int (xs.countP (q x))) H) : OV c ρ H (call (.ref f) ys) Φ := by
  obtain ⟨s1, s2, s3, s4, s5⟩ := plainScope.of hsc
  have hnm' : ∀ n ∈ [Str.ofString "a", "x", "lo", "hi", "key"], (fnScope p i).names.lookup n = some .local := fun n hn => by
    have := List.all_eq_true.mp hnm n hn; simpa using this
  have main : ∀ y1 y2 y3 y4 : Value, abs y1 = .ref l → abs y2 = .int x → abs y3 = .int 0 → abs y4 = .none → BindsK c.K (fdOf p i name dV kV doc pm an cdv ct) ys [("a", y1), ("x", y2), ("lo", y3), ("hi", y4), ("key", .none)] → OV c ρ H (call (.ref f) ys) Φ := by
    intro y1 y2 y3 y4 h1 h2 h3 h4 hbd
    refine call_def ok okc hb.fn.o hb.fn.cd hbd ?_ s1 s2 s3 s4 s5 fun L' g ok' okc' => ?_
    · intro y hy
      simp only [List.mem_cons, List.not_mem_nil, or_false] at hy
      rcases hy with rfl | rfl | rfl | rfl | rfl <;> exact hnm' _ (by simp)
    · refine XS.mono (hbody _ _ H l xs x fl rfl ok' rfl ?_ ?_ ?_ ?_ ?_ hl hs hlen) fun fl ρ' H' ⟨e1, e2⟩ => by subst e1 e2; exact h
      · show Option.map abs _ = _; rw [← h1]; rfl
      · show Option.map abs _ = _; rw [← h2]; rfl
      · show Option.map abs _ = _; rw [← h3]; rfl
      · show Option.map abs _ = _; rw [← h4]; rfl
      · rfl
  rcases hys with hys | hys
  · obtain ⟨y1, y2, rfl, h1, h2⟩ := two_of hys
    obtain ⟨t, hbd⟩ := hb.b2 y1 y2
    exact main y1 y2 (.int 0 t) .none h1 h2 rfl rfl hbd
  · obtain ⟨y1, y2, y3, y4, rfl, h1, h2, h3, h4⟩ := four_of hys
    exact main y1 y2 y3 y4 h1 h2 h3 h4 (hb.b4 y1 y2 y3 y4)
/-- a call of a search in the text -/
theorem pv_bis {p : Program} {i : Nat} {name : Str} {q : Int → Int → Bool} {n : Nat} {np pos : Pos} {e1 e2 : Expr} {l : Addr} {x : Int} {xs : List Int} {fl : Bool}
    (ok : Ok c) (okc : OkC c (n + 1)) (hb : Bis c.K p i name) (hbody : BisBody p i q c.K) (hl : c.env.kindOf name = some .globalImplicit) (h1 : PV c ρ H e1 (.ref l)) (h2 : PV c ρ H e2 (.int x)) (hx : H l = some (.list (zs xs), fl)) (hs : Sorted xs) (hlen : xs.length < 1000000)
    (hsc : plainScope (fnScope p i) = true := by decide +kernel) (hnm : bisNames (fnScope p i) = true := by decide +kernel) (hns : noStars [e1, e2] = true := by decide +kernel) (hd : (name == ("__debug__" : Str)) = false := by decide +kernel) (hn : name ≠ ("__name__" : Str) := by decide +kernel) :
    PV c ρ H (.Call (.Name name np) [e1, e2] [] pos) (.int (xs.countP (q x))) := by
  obtain ⟨f, oc, od, dV, kV, doc, pm, an, cdv, ct, osl, hb⟩ := hb
  exact ev_call_fn ok hl hb.fn.g hb.fn.o ((ps_cons h1 (ps_cons h2 ps_nil)).es fun ys hys => bis_call ok okc hb hbody hsc hnm (.inl hys) hx hs hlen ⟨rfl, rfl⟩) hns hd hn
end
section
variable {c : Cx} {ρ : Loc} {H : Hp}
theorem keepH {a D : Addr} {o : AObj} {x : AObj × Bool} (h : H a = some x) (hD : H D = none) : Hp.set H D o a = some x := Hp.set_ne (Hp.ne_of h hD) h
def cmpI : CmpOp → Int → Int → Option Bool
  | .Lt, i, j => some (decide (i < j))
  | .LtE, i, j => some (decide (i ≤ j))
  | .Gt, i, j => some (decide (j < i))
  | .GtE, i, j => some (decide (j ≤ i))
  | .Eq, i, j => some (i == j)
  | .NotEq, i, j => some (i != j)
  | _, _, _ => none
theorem ov_cmpI {op : CmpOp} {i j : Int} {b : Bool} (h : cmpI op i j = some b) (y z : Value) (hy : abs y = .int i) (hz : abs z = .int j) {Φ : AV → Hp → Prop} (hΦ : Φ (.bool b) H) : OV c ρ H (compareOp op y z) Φ := by
  cases op <;> simp only [cmpI] at h <;> cases h
  · exact ov_cmp1 y z hy hz (fun _ _ _ _ h => PyProof.Rows.eq_int h) hΦ
  · exact ov_cmp1 y z hy hz (fun _ _ _ _ h => PyProof.Rows.ne_int h) hΦ
  · exact ov_cmp1 y z hy hz (fun _ _ _ _ h => PyProof.Rows.lt_int h) hΦ
  · exact ov_cmp1 y z hy hz (fun _ _ _ _ h => PyProof.Rows.le_int h) hΦ
  · exact ov_cmp1 y z hy hz (fun _ _ _ _ h => PyProof.Rows.gt_int h) hΦ
  · exact ov_cmp1 y z hy hz (fun _ _ _ _ h => PyProof.Rows.ge_int h) hΦ
/-- a op b op' d of ints, as a test -/
theorem tv_chain {l r1 r2 : Expr} {op1 op2 : CmpOp} {pos : Pos} {Φ : Bool → Hp → Prop}
    (h : EV c ρ H l fun a H₁ => EV c ρ H₁ r1 fun b H₂ => ∃ i j v, a = .int i ∧ b = .int j ∧ cmpI op1 i j = some v ∧ if v then EV c ρ H₂ r2 (fun d H₃ => ∃ k w, d = .int k ∧ cmpI op2 j k = some w ∧ Φ w H₃) else Φ false H₂)
    (ho : (op2 == .In || op2 == .NotIn) = false := by rfl) : TV c ρ H (.Compare l [op1, op2] [r1, r2] pos) Φ := by
  have hm : lastMarks [op1, op2] [r1, r2] = false := by show behindInMarks op2 r2 = false; exact behind_of ho
  refine Tri.of fun F s Q st k => isTrue_chain (hm := hm) (h.use st fun y s₁ ρ₁ H₁ sm₁ st₁ ⟨e1, h₁⟩ => ?_)
  subst e1
  refine test_link (h₁.use st₁ fun z s₂ ρ₂ H₂ sm₂ st₂ ⟨e1, i, j, v, hy, hz, hv, p⟩ => ?_)
  subst e1
  refine (ov_cmpI (Φ := fun w H' => w = .bool v ∧ H' = H₂) hv y z hy hz ⟨rfl, rfl⟩).use st₂ fun w s₃ ρ₃ H₃ sm₃ st₃ ⟨e1, e4, e3⟩ => ?_
  subst e1 e3
  have := abs_bool e4; subst this
  refine wpAny_truthy_bool ?_
  cases v with
  | false => simp only [Bool.false_eq_true, if_false] at p ⊢; exact k _ _ _ _ (sm₁.trans (sm₂.trans sm₃)) st₃ ⟨rfl, p⟩
  | true =>
    simp only [if_true] at p ⊢
    show wpAny _ _ (testChain pos z [op2] [eval r2 c.env]) _ _ s₃
    refine test_last (p.use st₃ fun u s₄ ρ₄ H₄ sm₄ st₄ ⟨e1, d, w, hu, hw, p₂⟩ => ?_)
    subst e1
    refine (ov_cmpI (Φ := fun w' H' => w' = .bool w ∧ H' = H₄) hw z u hz hu ⟨rfl, rfl⟩).use st₄ fun w' s₅ ρ₅ H₅ sm₅ st₅ ⟨e1, e6, e3⟩ => ?_
    subst e1 e3
    have := abs_bool e6; subst this
    exact wpAny_truthy_bool (k _ _ _ _ (sm₁.trans (sm₂.trans (sm₃.trans (sm₄.trans sm₅)))) st₅ ⟨rfl, p₂⟩)
theorem zs_append {xs ys : List Int} : zs (xs ++ ys) = zs xs ++ zs ys := by simp [zs]
end
def compScope (outer scope : Scope) : Bool := scope.kind == .function && scope.names.all fun y => y.2 != .cell && scope.names.lookup y.1 == some y.2 && (y.2 != .free || outer.names.lookup y.1 == some .cell || outer.names.lookup y.1 == some .free)
theorem compOk_of {c : Cx} {outer scope : Scope} (hk : c.env.scope = outer) (h : compScope outer scope = true) : CompOk c scope := by
  simp only [compScope, Bool.and_eq_true, beq_iff_eq, List.all_eq_true, bne_iff_ne, Bool.or_eq_true] at h
  obtain ⟨h1, h2⟩ := h
  refine ⟨fun y hy => (h2 y hy).1.1, h1, fun y hy => (h2 y hy).1.2, fun x hx => ?_⟩
  have := (h2 _ hx).2
  unfold cellKind Env.kindOf
  rw [hk]
  rcases this with (q | q) | q
  · exact absurd rfl q
  · exact .inl q
  · exact .inr q
/-- what a comprehension sees of the frame around -/
theorem freeLoc_get {scope : Scope} {ρ : Loc} {x : Str} {v : AV} (h : scope.names.lookup x = some .free) (hv : ρ x = some v) : freeLoc scope ρ x = some v := by simp only [freeLoc, h, if_true]; exact hv
theorem comp_kd {c : Cx} {scope : Scope} {cl : List (Str × Addr)} {C : Addr} {x : Str} {k : NameKind} (h : scope.names.lookup x = some k) (hk : k ≠ .free) : (compCx c scope cl C).env.kindOf x = some k := by
  show (relabel scope c.env).names.lookup x = some k
  rw [relabel_lookup, h]
  cases k <;> first | rfl | exact absurd rfl hk
/-- a name from around, read in a comprehension -/
theorem pv_around {c : Cx} {scope : Scope} {cl : List (Str × Addr)} {C : Addr} {ρ : Loc} {H : Hp} {x : Str} {pos : Pos} {v : AV} (ok : Ok (compCx c scope cl C)) (h : scope.names.lookup x = some .free) (hv : ρ x = some v) (hd : (x == ("__debug__" : Str)) = false := by decide +kernel)
    (hn : (x == ("__classdict__" : Str)) = false := by decide +kernel) : PV (compCx c scope cl C) ρ H (.Name x pos) v := by
  have hk : (compCx c scope cl C).env.kindOf x = some .cell ∨ (compCx c scope cl C).env.kindOf x = some .free := by
    show (relabel scope c.env).names.lookup x = some .cell ∨ (relabel scope c.env).names.lookup x = some .free
    rw [relabel_lookup, h]
    simp only [Option.map_some, Option.some.injEq]
    split
    · exact .inl rfl
    · exact .inr rfl
  rcases hk with hk | hk
  · exact pv_cell ok hk hv hd
  · exact pv_free ok hk hv hd hn
section
variable {c : Cx} {ρ : Loc} {H : Hp}
theorem units_ok (ok : Ok c) : c.A.units + 64 < cLine := by have := ok.units; have e : cLine = 9900 := rfl; rw [e]; omega
theorem ov_eqL {a b : Addr} {xs ys : List Int} {fa fb : Bool} {Φ : AV → Hp → Prop} (ok : Ok c) (ha : H a = some (.list (zs xs), fa)) (hb : H b = some (.list (zs ys), fb)) (h : Φ (.bool (decide (xs = ys))) H) : OV c ρ H (compareOp .Eq (.ref a) (.ref b)) Φ :=
  Tri.of fun F s Q st k => by
    obtain ⟨vs, hl, hi⟩ := st.ints ha
    obtain ⟨us, hl', hi'⟩ := st.ints hb
    exact eq_intsK hl hi hl' hi' (units_ok ok) (k _ _ _ _ (.refl s) st ⟨rfl, h⟩)
theorem ev_eqL {l r : Expr} {pos : Pos} {Φ : AV → Hp → Prop} (ok : Ok c) (h : EV c ρ H l fun v H₁ => EV c ρ H₁ r fun w H₂ => ∃ a b xs ys fa fb, v = .ref a ∧ w = .ref b ∧ H₂ a = some (.list (zs xs), fa) ∧ H₂ b = some (.list (zs ys), fb) ∧ Φ (.bool (decide (xs = ys))) H₂) : EV c ρ H (.Compare l [.Eq] [r] pos) Φ :=
  ev_cmp (behind_of rfl) (h.mono fun v H₁ h₁ => h₁.mono fun w H₂ ⟨a, b, xs, ys, fa, fb, hv, hw, ha, hb, p⟩ y z hy hz => by
    have := abs_ref (hy.trans hv); subst this
    have := abs_ref (hz.trans hw); subst this
    exact ov_eqL ok ha hb p)
theorem tv_eqL {l r : Expr} {pos : Pos} {Φ : Bool → Hp → Prop} (ok : Ok c) (h : EV c ρ H l fun v H₁ => EV c ρ H₁ r fun w H₂ => ∃ a b xs ys fa fb, v = .ref a ∧ w = .ref b ∧ H₂ a = some (.list (zs xs), fa) ∧ H₂ b = some (.list (zs ys), fb) ∧ Φ (decide (xs = ys)) H₂) : TV c ρ H (.Compare l [.Eq] [r] pos) Φ :=
  tv_cmp (ev_eqL ok (h.mono fun v H₁ h₁ => h₁.mono fun w H₂ ⟨a, b, xs, ys, fa, fb, hv, hw, ha, hb, p⟩ => ⟨a, b, xs, ys, fa, fb, hv, hw, ha, hb, _, rfl, p⟩))
end
section
variable {c : Cx} {ρ : Loc} {H : Hp}
theorem Hp.ne_flag {a b : Addr} {o o' : AObj} (h1 : H a = some (o, false)) (h2 : H b = some (o', true)) : a ≠ b := by
  intro q; rw [q, h2] at h1; have := congrArg Prod.snd (Option.some.inj h1); simp at this
structure RowsAt (H : Hp) (as : List Addr) (rows : List (List Int)) : Prop where
  len : as.length = rows.length
  at' : ∀ (j : Nat) (a : Addr) (r : List Int), as[j]? = some a → rows[j]? = some r → H a = some (.list (zs r), true)
def refs (as : List Addr) : List AV := as.map .ref
theorem refs_len {as : List Addr} : (refs as).length = as.length := by simp [refs]
theorem refs_get {as : List Addr} {j : Nat} {a : Addr} (h : as[j]? = some a) : (refs as)[j]? = some (.ref a) := by simp [refs, h]
theorem refs_append {as bs : List Addr} : refs (as ++ bs) = refs as ++ refs bs := by simp [refs]
theorem RowsAt.nil : RowsAt H [] [] := ⟨rfl, by simp⟩
theorem RowsAt.get {as : List Addr} {rows : List (List Int)} (h : RowsAt H as rows) {j : Nat} (hj : j < rows.length) : ∃ a, as[j]? = some a ∧ H a = some (.list (zs (rows[j])), true) := by
  have hl := h.len
  exact ⟨as[j]'(by omega), by simp [show j < as.length by omega], h.at' j _ _ (by simp [show j < as.length by omega]) (by simp [hj])⟩
theorem RowsAt.mem {as : List Addr} {rows : List (List Int)} (h : RowsAt H as rows) {a : Addr} (ha : a ∈ as) : ∃ r, H a = some (.list (zs r), true) := by
  obtain ⟨j, hj⟩ := List.getElem?_of_mem ha
  have hl := h.len
  have hlt := (List.getElem?_eq_some_iff.mp hj).1
  exact ⟨_, h.at' j a _ hj (List.getElem?_eq_getElem (by omega))⟩
theorem RowsAt.fresh {as : List Addr} {rows : List (List Int)} (h : RowsAt H as rows) {D : Addr} (hD : H D = none) : D ∉ as := fun hm => by
  obtain ⟨r, hr⟩ := h.mem hm; rw [hD] at hr; cases hr
theorem RowsAt.keep {as : List Addr} {rows : List (List Int)} {a : Addr} {o : AObj} (h : RowsAt H as rows) (ha : a ∉ as) : RowsAt (H.set a o) as rows :=
  ⟨h.len, fun j b r hb hr => Hp.set_ne (fun q => ha (q ▸ List.mem_of_getElem? hb)) (h.at' j b r hb hr)⟩
theorem RowsAt.mono {as : List Addr} {rows : List (List Int)} {H' : Hp} (h : RowsAt H as rows) (hH : ∀ a ∈ as, H' a = H a) : RowsAt H' as rows :=
  ⟨h.len, fun j b r hb hr => (hH b (List.mem_of_getElem? hb)).trans (h.at' j b r hb hr)⟩
theorem nodup_get {as : List Addr} (hn : as.Nodup) {i j : Nat} {a : Addr} (hi : as[i]? = some a) (hj : as[j]? = some a) : i = j := by
  obtain ⟨h1, e1⟩ := List.getElem?_eq_some_iff.mp hi
  obtain ⟨h2, e2⟩ := List.getElem?_eq_some_iff.mp hj
  exact (List.getElem_inj (h₀ := h1) (h₁ := h2) hn).mp (e1.trans e2.symm)
theorem RowsAt.set {as : List Addr} {rows : List (List Int)} {j : Nat} {a : Addr} {r' : List Int} (h : RowsAt H as rows) (hn : as.Nodup) (ha : as[j]? = some a) : RowsAt (H.set a (.list (zs r'))) as (rows.set j r') := by
  refine ⟨by simp [h.len], fun i b r hb hr => ?_⟩
  by_cases q : b = a
  · subst q
    have hij := nodup_get hn hb ha
    subst hij
    have hlt : i < rows.length := by have := (List.getElem?_eq_some_iff.mp ha).1; have := h.len; omega
    rw [List.getElem?_set_self hlt] at hr
    cases hr; exact Hp.set_same
  · have hij : j ≠ i := by intro e; subst e; rw [ha] at hb; cases hb; exact q rfl
    rw [List.getElem?_set_ne hij] at hr
    exact Hp.set_ne q (h.at' i b r hb hr)
theorem RowsAt.snoc {as : List Addr} {rows : List (List Int)} {a : Addr} {r : List Int} (h : RowsAt H as rows) (ha : H a = some (.list (zs r), true)) : RowsAt H (as ++ [a]) (rows ++ [r]) := by
  refine ⟨by simp [h.len], fun j b q hb hq => ?_⟩
  rcases Nat.lt_or_ge j as.length with hlt | hge
  · rw [List.getElem?_append_left hlt] at hb
    rw [List.getElem?_append_left (by have := h.len; omega)] at hq
    exact h.at' j b q hb hq
  · rw [List.getElem?_append_right hge] at hb
    rw [List.getElem?_append_right (by have := h.len; omega)] at hq
    have e1 : j - as.length = 0 := by
      have := (List.getElem?_eq_some_iff.mp hb).1; simp at this; omega
    rw [e1] at hb
    rw [← h.len, e1] at hq
    simp at hb hq
    subst hb hq; exact ha
/-- reading an item of an item -/
theorem pv_row {v i : Expr} {pos : Pos} {T : Addr} {as : List Addr} {fl : Bool} {k : Nat} {a : Addr} (hv : PV c ρ H v (.ref T)) (hk : PV c ρ H i (.int k)) (hT : H T = some (.list (refs as), fl)) (hlen : as.length < 1000000) (ha : as[k]? = some a)
    (hi : plainIdx i = true := by rfl) : PV c ρ H (.Subscript v i pos) (.ref a) :=
  pv_item hv hk hT (by rw [refs_len]; omega) (by omega) (by rw [show ((k : Int)).toNat = k by omega]; exact refs_get ha) hi
theorem pv_addN {l r : Expr} {pos : Pos} {a b : Nat} (hl : PV c ρ H l (.int a)) (hr : PV c ρ H r (.int b)) : PV c ρ H (.BinOp l .Add r pos) (.int ((a + b : Nat) : Int)) := by
  have := pv_add (pos := pos) hl hr
  rwa [show ((a : Int) + (b : Int)) = ((a + b : Nat) : Int) by push_cast; rfl] at this
theorem pv_intN {k pos} {n : Nat} {i : Int} (h : i = n) : PV c ρ H (.Constant (.int i) k pos) (.int n) := by rw [← h]; exact pv_int
end
section
variable {c : Cx} {ρ : Loc} {H : Hp}
end
section
variable {c : Cx} {ρ : Loc} {H : Hp}
/-- an object laid aside -/
theorem Tri.frame {α : Type} {t : Sem α} {Φ : α → Loc → Hp → Prop} {H₁ : Hp} {P : Addr} {o : AObj} (hnc : NoCell o) (hP : H P = some (o, true)) (hP₁ : H₁ P = none) (hsub : ∀ a, a ≠ P → H₁ a = H a) (h : Tri c ρ H₁ t Φ) :
    Tri c ρ H t fun a ρ' H' => ∃ H₁', Φ a ρ' H₁' ∧ H' = H₁'.set P o := by
  intro F s st
  obtain ⟨obP, gP, rP, oP, _⟩ := st.has P o true hP
  have hFP : F P = none := st.dis P (by rw [hP]; exact nofun)
  have st₁ : St c ρ H₁ (F.set P o) s := by
    refine ⟨st.ns, fun x a e => ?_, st.keep, st.above, fun a o' b e => ?_, fun a o' b e => ?_, fun a ha => ?_⟩
    · obtain ⟨ob, o', g, d, ne, r1, r0, r2, r3⟩ := st.cel x a e
      have hne : a ≠ P := by intro q; rw [q, hP] at r0; cases r0
      refine ⟨ob, o', g, d, ne, r1, by rw [hsub a hne]; exact r0, fun ow => ⟨(r2 ow).1, ?_⟩, r3⟩
      simp only [Hp.set, if_neg hne]; exact (r2 ow).2
    · have hne : a ≠ P := by intro q; rw [q, hP₁] at e; cases e
      rw [hsub a hne] at e; exact st.has a o' b e
    · by_cases q : a = P
      · subst q; simp only [Hp.set, if_pos rfl] at e; cases e; exact st.has a o true hP
      · simp only [Hp.set, if_neg q] at e; exact st.hasF a o' b e
    · have hne : a ≠ P := by intro q; rw [q, hP₁] at ha; exact ha rfl
      simp only [Hp.set, if_neg hne]
      rw [hsub a hne] at ha; exact st.dis a ha
  refine wpAny_mono (h _ s st₁) (fun a s' ⟨ρ', H', sm, st', p⟩ => ?_) fun _ _ x => x
  have hH' : H' P = none := by
    cases e : H' P with
    | none => rfl
    | some z => have := st'.dis P (by rw [e]; exact nofun); rw [Hp.set_same] at this; cases this
  obtain ⟨obP', gP', rP', oP', _⟩ := st'.hasF P o true Hp.set_same
  refine ⟨ρ', H'.set P o, ⟨sm.same, fun a o' e => ?_⟩, ?_, H', p, rfl⟩
  · have hne : a ≠ P := by intro q; subst q; rw [Hp.set_same] at e; cases e
    simp only [Hp.set, if_neg hne] at e
    rw [← hsub a hne]; exact sm.fz a o' e
  · refine ⟨st'.ns, fun x a e => ?_, st'.keep, st'.above, fun a o' b e => ?_, fun a o' b e => ?_, fun a ha => ?_⟩
    · obtain ⟨ob, o', g, d, ne, r1, r0, r2, r3⟩ := st'.cel x a e
      have hne : a ≠ P := by intro q; rw [q, gP'] at g; cases g; exact hnc _ rP' _ d
      refine ⟨ob, o', g, d, ne, r1, ?_, fun ow => ⟨(r2 ow).1, ?_⟩, r3⟩
      · simp only [Hp.set, if_neg hne]; exact r0
      · have := (r2 ow).2; simp only [Hp.set, if_neg hne] at this; exact this
    · by_cases q : a = P
      · subst q; simp only [Hp.set, if_pos rfl] at e; cases e; exact st'.hasF a o true Hp.set_same
      · simp only [Hp.set, if_neg q] at e; exact st'.has a o' b e
    · have hne : a ≠ P := by intro q; rw [q, hFP] at e; cases e
      exact st'.hasF a o' b (by simp only [Hp.set, if_neg hne]; exact e)
    · by_cases q : a = P
      · subst q; exact hFP
      · simp only [Hp.set, if_neg q] at ha
        have := st'.dis a ha
        simp only [Hp.set, if_neg q] at this; exact this
end
section
variable {c : Cx} {ρ : Loc} {H : Hp}
end
/-- all that stands stays -/
def Keeps (H H' : Hp) : Prop := ∀ a x, H a = some x → H' a = some x
theorem Keeps.refl {H : Hp} : Keeps H H := fun _ _ e => e
theorem Keeps.trans {H H' H'' : Hp} (h : Keeps H H') (h' : Keeps H' H'') : Keeps H H'' := fun a x e => h' a x (h a x e)
theorem Keeps.set {H H' : Hp} {a : Addr} {o : AObj} (h : Keeps H H') (ha : H a = none) : Keeps H (H'.set a o) := fun b x e => by
  have : b ≠ a := by intro q; rw [q, ha] at e; cases e
  exact Hp.set_ne this (h b x e)
theorem Keeps.new {H H' : Hp} {a : Addr} {o : AObj} (h : Keeps H H') (ha : H' a = none) : Keeps H (H'.set a o) := fun b x e => keepH (h b x e) ha
theorem Keeps.none {H H' : Hp} {a : Addr} (h : Keeps H H') (ha : H' a = none) : H a = none := by
  cases e : H a with
  | none => rfl
  | some x => rw [h a x e] at ha; cases ha
section
variable {prog : Program} {w : World} {A : Around} {s : Shared} {R : Result → Shared → Prop} {E : Value → Shared → Prop}
variable {I : Addr} {fp wr : List Addr} {G : Array GenState → Array GenState → Prop} {n : Nat} {P : Nat → Value → Prop} {St : Nat → Shared → Prop}
end
section
variable {c : Cx} {ρ : Loc} {H : Hp}
end
def runT {α : Type} (lt : Nat → Nat → Bool) : KasT α → α
  | .ret a => a
  | .ask i j k => runT lt (k (lt i j))
theorem runT_bind {α β : Type} {lt : Nat → Nat → Bool} {f : α → KasT β} : ∀ t : KasT α, runT lt (t.bind f) = runT lt (f (runT lt t))
  | .ret a => rfl
  | .ask i j k => runT_bind (k (lt i j))
section
variable (r : Nat → Int)
def ltR (i j : Nat) : Bool := decide (r i < r j)
def RK (p : Array Nat) (k : Nat) : Int := r (p.getD k 0)
def SortT (p : Array Nat) (k : Nat) : Prop := ∀ i j, i ≤ j → j < k → RK r p i ≤ RK r p j
def NonT (p : Array Nat) (k : Nat) : Prop := ∀ i j, i ≤ j → j < k → RK r p j ≤ RK r p i
variable {r}
theorem ltR_pos {p : Array Nat} {i j : Nat} (h : RK r p i < RK r p j) : ltR r (p.getD i 0) (p.getD j 0) = true := decide_eq_true h
theorem ltR_neg {p : Array Nat} {i j : Nat} (h : ¬ RK r p i < RK r p j) : ¬ ltR r (p.getD i 0) (p.getD j 0) = true := fun q => h (of_decide_eq_true q)
theorem RK_congr {p q : Array Nat} {i j : Nat} (h : p[i]? = q[j]?) : RK r p i = RK r q j := by
  unfold RK; rw [Array.getD_eq_getD_getElem?, Array.getD_eq_getD_getElem?, h]
theorem RK_mirror {p : Array Nat} {i j : Nat} (hj : j ≤ p.size) (k : Nat) : RK r (kas_rev p i j) k = if i ≤ k ∧ k < j then RK r p (i + j - 1 - k) else RK r p k := by
  have e := getElem?_mirror_all (i := i) hj k
  unfold kas_rev
  by_cases h : i ≤ k ∧ k < j
  · rw [if_pos h] at e ⊢; exact RK_congr e
  · rw [if_neg h] at e ⊢; exact RK_congr e
theorem RK_mirror_eq {p : Array Nat} {i j : Nat} (hj : j ≤ p.size) (he : ∀ k, i ≤ k → k < j → RK r p k = RK r p (j - 1)) (k : Nat) : RK r (kas_rev p i j) k = RK r p k := by
  rw [RK_mirror hj]
  by_cases h : i ≤ k ∧ k < j
  · rw [if_pos h, he _ (by omega) (by omega), he k h.1 h.2]
  · rw [if_neg h]
theorem RK_bubble {p : Array Nat} {src d : Nat} (hs : src < p.size) (hd : d ≤ src) (k : Nat) : RK r (bubble p src d) k = if k = src - d then RK r p src else if src - d < k ∧ k ≤ src then RK r p (k - 1) else RK r p k := by
  have e := getElem?_bubble hs d hd k
  by_cases h1 : k = src - d
  · rw [if_pos h1] at e ⊢; exact RK_congr e
  · rw [if_neg h1] at e ⊢
    by_cases h2 : src - d < k ∧ k ≤ src
    · rw [if_pos h2] at e ⊢; exact RK_congr e
    · rw [if_neg h2] at e ⊢; exact RK_congr e
theorem SortT.step {p : Array Nat} {n : Nat} (h : SortT r p n) (h1 : 1 ≤ n) (hn : RK r p (n - 1) ≤ RK r p n) : SortT r p (n + 1) := by
  intro i j hij hj
  by_cases hjn : j < n
  · exact h i j hij hjn
  · have : j = n := by omega
    subst this
    by_cases hi : i = j
    · subst hi; exact Int.le_refl _
    · exact Int.le_trans (h i (j - 1) (by omega) (by omega)) hn
theorem NonT.step {p : Array Nat} {n : Nat} (h : NonT r p n) (h1 : 1 ≤ n) (hn : RK r p n ≤ RK r p (n - 1)) : NonT r p (n + 1) := by
  intro i j hij hj
  by_cases hjn : j < n
  · exact h i j hij hjn
  · have : j = n := by omega
    subst this
    by_cases hi : i = j
    · subst hi; exact Int.le_refl _
    · exact Int.le_trans hn (h i (j - 1) (by omega) (by omega))
theorem asc_run {p : Array Nat} : ∀ (f n : Nat), 1 ≤ n → SortT r p n → n ≤ runT (ltR r) (kas_asc p f n) ∧ runT (ltR r) (kas_asc p f n) ≤ n + f ∧ SortT r p (runT (ltR r) (kas_asc p f n)) ∧
    (runT (ltR r) (kas_asc p f n) = n + f ∨ RK r p (runT (ltR r) (kas_asc p f n)) < RK r p (runT (ltR r) (kas_asc p f n) - 1))
  | 0, n, h1, hs => ⟨Nat.le_refl _, Nat.le_refl _, hs, .inl rfl⟩
  | f + 1, n, h1, hs => by
    have e : runT (ltR r) (kas_asc p (f + 1) n) = if RK r p n < RK r p (n - 1) then n else runT (ltR r) (kas_asc p f (n + 1)) := by
      show runT (ltR r) (if (ltR r (p.getD n 0) (p.getD (n - 1) 0)) = true then .ret n else kas_asc p f (n + 1)) = _
      by_cases h : RK r p n < RK r p (n - 1)
      · rw [if_pos h, if_pos (ltR_pos h)]; rfl
      · rw [if_neg h, if_neg (ltR_neg h)]
    rw [e]
    by_cases h : RK r p n < RK r p (n - 1)
    · rw [if_pos h]; exact ⟨Nat.le_refl _, by omega, hs, .inr h⟩
    · rw [if_neg h]
      obtain ⟨a1, a2, a3, a4⟩ := asc_run f (n + 1) (by omega) (hs.step h1 (by omega))
      exact ⟨by omega, by omega, a3, by rcases a4 with q | q; exact .inl (by omega); exact .inr q⟩
def GoodRun (r : Nat → Int) (p : Array Nat) (nrem : Nat) (z : Nat × Array Nat) : Prop := z.2.Perm p ∧ 1 ≤ z.1 ∧ z.1 ≤ nrem ∧ SortT r z.2 z.1
theorem tail3_run {p : Array Nat} {n nrem : Nat} (h1 : 1 ≤ n) (hn : n ≤ nrem) (hz : nrem ≤ p.size) (hs : NonT r p n) : GoodRun r p nrem (runT (ltR r) (kas_tail3 n nrem p)) := by
  unfold kas_tail3
  rw [runT_bind]
  have hs' : SortT r (kas_rev p 0 n) n := by
    intro i j hij hj
    rw [RK_mirror (by omega), RK_mirror (by omega), if_pos (by omega), if_pos (by omega)]
    exact hs _ _ (by omega) (by omega)
  obtain ⟨a1, a2, a3, _⟩ := asc_run (p := kas_rev p 0 n) (nrem - n) n h1 hs'
  exact ⟨mirror_perm _ _ _ _, by show 1 ≤ runT _ _; omega, by show runT _ _ ≤ nrem; omega, a3⟩
def DescIn (r : Nat → Int) (p : Array Nat) (n q : Nat) : Prop := NonT r p n ∧ q + 1 ≤ n ∧ ∀ i, n - (q + 1) ≤ i → i < n → RK r p i = RK r p (n - 1)
theorem desc_run : ∀ (f : Nat) (p : Array Nat) (n q : Nat), 1 ≤ n → n + f ≤ p.size → DescIn r p n q →
    ∃ p' m q', runT (ltR r) (kas_desc f p n q) = (p', m, q') ∧ p'.Perm p ∧ n ≤ m ∧ m ≤ n + f ∧ DescIn r p' m q'
  | 0, p, n, q, h1, hz, hd => ⟨p, n, q, rfl, Array.Perm.refl _, Nat.le_refl _, Nat.le_refl _, hd⟩
  | f + 1, p, n, q, h1, hz, ⟨hs, hq, he⟩ => by
    have e : runT (ltR r) (kas_desc (f + 1) p n q) = if RK r p n < RK r p (n - 1) then (if q > 0 then runT (ltR r) (kas_desc f (kas_rev p (n - (q + 1)) n) (n + 1) 0) else runT (ltR r) (kas_desc f p (n + 1) 0))
        else if RK r p (n - 1) < RK r p n then (p, n, q) else runT (ltR r) (kas_desc f p (n + 1) (q + 1)) := by
      show runT (ltR r) (if (ltR r (p.getD n 0) (p.getD (n - 1) 0)) = true then (if q > 0 then kas_desc f (kas_rev p (n - (q + 1)) n) (n + 1) 0 else kas_desc f p (n + 1) 0)
        else .ask (p.getD (n - 1) 0) (p.getD n 0) fun d => if d = true then .ret (p, n, q) else kas_desc f p (n + 1) (q + 1)) = _
      by_cases h : RK r p n < RK r p (n - 1)
      · rw [if_pos h, if_pos (ltR_pos h)]
        split <;> rfl
      · rw [if_neg h, if_neg (ltR_neg h)]
        show runT (ltR r) (if (ltR r (p.getD (n - 1) 0) (p.getD n 0)) = true then .ret (p, n, q) else kas_desc f p (n + 1) (q + 1)) = _
        by_cases h' : RK r p (n - 1) < RK r p n
        · rw [if_pos h', if_pos (ltR_pos h')]; rfl
        · rw [if_neg h', if_neg (ltR_neg h')]
    rw [e]
    by_cases h : RK r p n < RK r p (n - 1)
    · rw [if_pos h]
      have hs1 := hs.step h1 (Int.le_of_lt h)
      by_cases hq0 : q > 0
      · rw [if_pos hq0]
        have hk := RK_mirror_eq (r := r) (p := p) (i := n - (q + 1)) (j := n) (by omega) he
        have hd' : DescIn r (kas_rev p (n - (q + 1)) n) (n + 1) 0 := by
          refine ⟨fun i j hij hj => by rw [hk, hk]; exact hs1 i j hij hj, by omega, fun i h1 h2 => by congr 1; omega⟩
        obtain ⟨p', m, q', a1, a2, a3, a4, a5⟩ := desc_run f (kas_rev p (n - (q + 1)) n) (n + 1) 0 (by omega) (by unfold kas_rev; rw [mirror_size]; omega) hd'
        exact ⟨p', m, q', a1, a2.trans (mirror_perm _ _ _ _), by omega, by omega, a5⟩
      · rw [if_neg hq0]
        obtain ⟨p', m, q', a1, a2, a3, a4, a5⟩ := desc_run f p (n + 1) 0 (by omega) (by omega) ⟨hs1, by omega, fun i h1 h2 => by congr 1; omega⟩
        exact ⟨p', m, q', a1, a2, by omega, by omega, a5⟩
    · rw [if_neg h]
      by_cases h' : RK r p (n - 1) < RK r p n
      · rw [if_pos h']
        exact ⟨p, n, q, rfl, Array.Perm.refl _, Nat.le_refl _, by omega, hs, hq, he⟩
      · rw [if_neg h']
        have heq : RK r p n = RK r p (n - 1) := by omega
        obtain ⟨p', m, q', a1, a2, a3, a4, a5⟩ := desc_run f p (n + 1) (q + 1) (by omega) (by omega) ⟨hs.step h1 (by omega), by omega, fun i h1 h2 => by
          rw [show n + 1 - 1 = n by omega]
          by_cases hi : i = n
          · rw [hi]
          · rw [heq]; exact he i (by omega) (by omega)⟩
        exact ⟨p', m, q', a1, a2, by omega, by omega, a5⟩
theorem descPart_run {p : Array Nat} {n nrem : Nat} (hn : n + 1 ≤ nrem) (hz : nrem ≤ p.size) (hs : NonT r p (n + 1)) : GoodRun r p nrem (runT (ltR r) (kas_descPart n nrem p)) := by
  unfold kas_descPart
  rw [runT_bind]
  obtain ⟨p', m, q', a1, a2, a3, a4, b1, b2, b3⟩ := desc_run (r := r) (nrem - (n + 1)) p (n + 1) 0 (by omega) (by omega) ⟨hs, by omega, fun i h1 h2 => by congr 1; omega⟩
  rw [a1]
  dsimp only
  have hps : p'.size = p.size := a2.size_eq
  by_cases hq : q' > 0
  · rw [if_pos hq]
    have hk := RK_mirror_eq (r := r) (p := p') (i := m - (q' + 1)) (j := m) (by omega) b3
    obtain ⟨c1, c2, c3, c4⟩ := tail3_run (r := r) (p := kas_rev p' (m - (q' + 1)) m) (n := m) (nrem := nrem) (by omega) (by omega) (by unfold kas_rev; rw [mirror_size]; omega) (fun i j hij hj => by rw [hk, hk]; exact b1 i j hij hj)
    exact ⟨c1.trans ((mirror_perm _ _ _ _).trans a2), c2, c3, c4⟩
  · rw [if_neg hq]
    obtain ⟨c1, c2, c3, c4⟩ := tail3_run (r := r) (p := p') (n := m) (nrem := nrem) (by omega) (by omega) (by omega) b1
    exact ⟨c1.trans a2, c2, c3, c4⟩
theorem sort_one {p : Array Nat} : SortT r p 1 := fun i j hij hj => by
  have : i = j := by omega
  subst this; exact Int.le_refl _
theorem count_run {p : Array Nat} {nrem : Nat} (h1 : 1 ≤ nrem) (hz : nrem ≤ p.size) : GoodRun r p nrem (runT (ltR r) (kas_count nrem p)) := by
  unfold kas_count
  rw [runT_bind]
  obtain ⟨a1, a2, a3, a4⟩ := asc_run (r := r) (p := p) (nrem - 1) 1 (Nat.le_refl _) sort_one
  generalize runT (ltR r) (kas_asc p (nrem - 1) 1) = n at a1 a2 a3 a4 ⊢
  by_cases hn : n = nrem
  · rw [if_pos (by simpa using hn)]
    exact ⟨Array.Perm.refl _, a1, by show n ≤ nrem; omega, a3⟩
  · rw [if_neg (by simpa using hn)]
    have hlt : RK r p n < RK r p (n - 1) := by rcases a4 with q | q; omega; exact q
    by_cases hgt : n > 1
    · rw [if_pos hgt]
      have e : runT (ltR r) (KasT.ask (p.getD 0 0) (p.getD (n - 1) 0) fun c => if c = true then .ret (n, p) else kas_descPart n nrem (kas_rev p 0 n)) = if RK r p 0 < RK r p (n - 1) then (n, p) else runT (ltR r) (kas_descPart n nrem (kas_rev p 0 n)) := by
        show runT (ltR r) (if (ltR r (p.getD 0 0) (p.getD (n - 1) 0)) = true then .ret (n, p) else kas_descPart n nrem (kas_rev p 0 n)) = _
        by_cases h : RK r p 0 < RK r p (n - 1)
        · rw [if_pos h, if_pos (ltR_pos h)]; rfl
        · rw [if_neg h, if_neg (ltR_neg h)]
      rw [e]
      by_cases h : RK r p 0 < RK r p (n - 1)
      · rw [if_pos h]; exact ⟨Array.Perm.refl _, a1, by show n ≤ nrem; omega, a3⟩
      · rw [if_neg h]
        have hall : ∀ k, 0 ≤ k → k < n → RK r p k = RK r p (n - 1) := by
          intro k _ hk
          have b1 := a3 0 k (by omega) hk
          have b2 := a3 k (n - 1) (by omega) (by omega)
          omega
        have hk := RK_mirror_eq (r := r) (p := p) (i := 0) (j := n) (by omega) hall
        obtain ⟨c1, c2, c3, c4⟩ := descPart_run (r := r) (p := kas_rev p 0 n) (n := n) (nrem := nrem) (by omega) (by unfold kas_rev; rw [mirror_size]; omega) (by
          refine NonT.step (fun i j hij hj => ?_) (by omega) ?_
          · rw [hk, hk, hall i (by omega) (by omega), hall j (by omega) hj]; exact Int.le_refl _
          · rw [hk, hk]; omega)
        exact ⟨c1.trans (mirror_perm _ _ _ _), c2, c3, c4⟩
    · rw [if_neg hgt]
      have : n = 1 := by omega
      subst this
      have h0 : NonT r p 1 := fun i j hij hj => by
        have : i = j := by omega
        subst this; exact Int.le_refl _
      exact descPart_run (by omega) hz (h0.step (by omega) (by omega))
theorem place_run {p : Array Nat} {k : Nat} : ∀ (f l rr : Nat), l ≤ rr → rr ≤ k → rr - l ≤ f → (∀ i, i < l → RK r p i ≤ RK r p k) → (∀ i, rr ≤ i → i < k → RK r p k < RK r p i) → SortT r p k →
    runT (ltR r) (kas_place p k f l rr) ≤ k ∧ (∀ i, i < runT (ltR r) (kas_place p k f l rr) → RK r p i ≤ RK r p k) ∧ (∀ i, runT (ltR r) (kas_place p k f l rr) ≤ i → i < k → RK r p k < RK r p i)
  | 0, l, rr, h1, h2, h3, hl, hr, hs => by
    have : l = rr := by omega
    subst this
    exact ⟨h2, hl, hr⟩
  | f + 1, l, rr, h1, h2, h3, hl, hr, hs => by
    by_cases hlr : l ≥ rr
    · have : l = rr := by omega
      subst this
      have e : runT (ltR r) (kas_place p k (f + 1) l l) = l := by
        show runT (ltR r) (if l ≥ l then .ret l else .ask (p.getD k 0) (p.getD ((l + l) / 2) 0) fun c => if c = true then kas_place p k f l ((l + l) / 2) else kas_place p k f ((l + l) / 2 + 1) l) = _
        rw [if_pos hlr]; rfl
      rw [e]; exact ⟨h2, hl, hr⟩
    · have e : runT (ltR r) (kas_place p k (f + 1) l rr) = if RK r p k < RK r p ((l + rr) / 2) then runT (ltR r) (kas_place p k f l ((l + rr) / 2)) else runT (ltR r) (kas_place p k f ((l + rr) / 2 + 1) rr) := by
        show runT (ltR r) (if l ≥ rr then .ret l else .ask (p.getD k 0) (p.getD ((l + rr) / 2) 0) fun c => if c = true then kas_place p k f l ((l + rr) / 2) else kas_place p k f ((l + rr) / 2 + 1) rr) = _
        rw [if_neg hlr]
        show runT (ltR r) (if (ltR r (p.getD k 0) (p.getD ((l + rr) / 2) 0)) = true then kas_place p k f l ((l + rr) / 2) else kas_place p k f ((l + rr) / 2 + 1) rr) = _
        by_cases h : RK r p k < RK r p ((l + rr) / 2)
        · rw [if_pos h, if_pos (ltR_pos h)]
        · rw [if_neg h, if_neg (ltR_neg h)]
      rw [e]
      by_cases h : RK r p k < RK r p ((l + rr) / 2)
      · rw [if_pos h]
        exact place_run f l _ (by omega) (by omega) (by omega) hl (fun i hi hik => Int.lt_of_lt_of_le h (hs _ i hi hik)) hs
      · rw [if_neg h]
        exact place_run f _ rr (by omega) h2 (by omega) (fun i hi => Int.le_trans (hs i ((l + rr) / 2) (by omega) (by omega)) (by omega)) hr hs
theorem bin_run : ∀ (f : Nat) (p : Array Nat) (k : Nat), k + f = p.size → SortT r p k → (runT (ltR r) (kas_bin f p k)).Perm p ∧ SortT r (runT (ltR r) (kas_bin f p k)) p.size
  | 0, p, k, hz, hs => ⟨Array.Perm.refl _, by show SortT r p p.size; rw [← hz]; exact hs⟩
  | f + 1, p, k, hz, hs => by
    have e : runT (ltR r) (kas_bin (f + 1) p k) = runT (ltR r) (kas_bin f (bubble p k (k - runT (ltR r) (kas_place p k k 0 k))) (k + 1)) := by
      show runT (ltR r) ((kas_place p k k 0 k).bind fun l => kas_bin f (bubble p k (k - l)) (k + 1)) = _
      rw [runT_bind]
    rw [e]
    obtain ⟨a1, a2, a3⟩ := place_run (r := r) (p := p) (k := k) k 0 k (Nat.zero_le _) (Nat.le_refl _) (by omega) (fun i hi => by omega) (fun i h1 h2 => by omega) hs
    generalize runT (ltR r) (kas_place p k k 0 k) = m at a1 a2 a3 ⊢
    have hb := fun i => RK_bubble (r := r) (p := p) (src := k) (d := k - m) (by omega) (by omega) i
    rw [show k - (k - m) = m by omega] at hb
    have hs' : SortT r (bubble p k (k - m)) (k + 1) := by
      intro i j hij hj
      rw [hb, hb]
      by_cases i1 : i = m
      · rw [if_pos i1]
        by_cases j1 : j = m
        · rw [if_pos j1]; exact Int.le_refl _
        · rw [if_neg j1, if_pos (by omega)]
          exact Int.le_of_lt (a3 _ (by omega) (by omega))
      · rw [if_neg i1]
        by_cases i2 : m < i ∧ i ≤ k
        · rw [if_pos i2, if_neg (by omega), if_pos (by omega)]
          exact hs _ _ (by omega) (by omega)
        · rw [if_neg i2]
          by_cases j1 : j = m
          · rw [if_pos j1]; exact a2 i (by omega)
          · rw [if_neg j1]
            by_cases j2 : m < j ∧ j ≤ k
            · rw [if_pos j2]; exact hs _ _ (by omega) (by omega)
            · rw [if_neg j2]; exact hs _ _ hij (by omega)
    obtain ⟨c1, c2⟩ := bin_run f (bubble p k (k - m)) (k + 1) (by rw [bubble_size]; omega) hs'
    rw [bubble_size] at c2
    exact ⟨c1.trans (bubble_perm _ _ _), c2⟩
theorem sort_run {n : Nat} (hn : 1 ≤ n) : (runT (ltR r) (kas_sort n)).toList.Perm (List.range n) ∧ (runT (ltR r) (kas_sort n)).toList.Pairwise (fun i j => r i ≤ r j) := by
  have hsz : (List.toArray (List.range n)).size = n := by simp
  have main : (runT (ltR r) (kas_sort n)).Perm (List.toArray (List.range n)) ∧ SortT r (runT (ltR r) (kas_sort n)) n := by
    unfold kas_sort
    rw [runT_bind]
    obtain ⟨a1, a2, a3, a4⟩ := count_run (r := r) (p := List.toArray (List.range n)) (nrem := n) hn (by rw [hsz]; exact Nat.le_refl _)
    generalize runT (ltR r) (kas_count n (List.toArray (List.range n))) = z at a1 a2 a3 a4 ⊢
    have hz2 : z.2.size = n := by rw [a1.size_eq, hsz]
    by_cases h : z.1 < n
    · rw [if_pos h, show max z.1 1 = z.1 by omega]
      obtain ⟨b1, b2⟩ := bin_run (r := r) (n - z.1) z.2 z.1 (by omega) a4
      exact ⟨b1.trans a1, by rw [hz2] at b2; exact b2⟩
    · rw [if_neg h]
      have : z.1 = n := by omega
      exact ⟨a1, by show SortT r z.2 n; rw [← this]; exact a4⟩
  generalize runT (ltR r) (kas_sort n) = p at main ⊢
  obtain ⟨hp, hs⟩ := main
  refine ⟨by have := Array.perm_iff_toList_perm.mp hp; simpa using this, ?_⟩
  have hps : p.size = n := by rw [hp.size_eq, hsz]
  rw [List.pairwise_iff_getElem]
  intro i j hi hj hij
  have hi' : i < p.size := by simpa using hi
  have hj' : j < p.size := by simpa using hj
  have := hs i j (by omega) (by omega)
  unfold RK at this
  simpa [Array.getD, hi', hj'] using this
end
def OkT {α : Type} (n : Nat) (P : α → Prop) : KasT α → Prop
  | .ret a => P a
  | .ask i j k => i < n ∧ j < n ∧ ∀ b, OkT n P (k b)
theorem OkT.bind {α β : Type} {n : Nat} {P : α → Prop} {Q : β → Prop} {f : α → KasT β} (hf : ∀ a, P a → OkT n Q (f a)) : ∀ {t : KasT α}, OkT n P t → OkT n Q (t.bind f)
  | .ret a, h => hf a h
  | .ask i j k, ⟨h1, h2, h3⟩ => ⟨h1, h2, fun b => OkT.bind hf (h3 b)⟩
theorem kasWp_ok {α : Type} {n : Nat} {P : α → Prop} {cmp : Nat → Nat → (Bool → Shared → Prop) → Shared → Prop} {lt : Nat → Nat → Bool} {s : Shared} (h : ∀ i j C, i < n → j < n → C (lt i j) s → cmp i j C s) {Q : α → Shared → Prop} :
    ∀ t : KasT α, OkT n P t → Q (runT lt t) s → t.kasWp cmp Q s
  | .ret a, _, hq => hq
  | .ask i j k, ⟨h1, h2, h3⟩, hq => h i j _ h1 h2 (kasWp_ok h (k (lt i j)) (h3 _) hq)
def AllLt (n : Nat) (p : Array Nat) : Prop := 0 < n ∧ ∀ x ∈ p.toList, x < n
theorem AllLt.get {n : Nat} {p : Array Nat} (h : AllLt n p) (k : Nat) : p.getD k 0 < n := by
  by_cases hk : k < p.size
  · have e : p.getD k 0 = p[k] := by simp [Array.getD, hk]
    rw [e]; exact h.2 _ (by simp)
  · have e : p.getD k 0 = 0 := by simp [Array.getD, hk]
    rw [e]; exact h.1
theorem AllLt.perm {n : Nat} {p q : Array Nat} (h : AllLt n p) (hp : q.Perm p) : AllLt n q := ⟨h.1, fun x hx => h.2 x ((Array.perm_iff_toList_perm.mp hp).mem_iff.mp hx)⟩
theorem AllLt.rev {n : Nat} {p : Array Nat} (h : AllLt n p) (i j : Nat) : AllLt n (kas_rev p i j) := h.perm (mirror_perm _ _ _ _)
theorem AllLt.bub {n : Nat} {p : Array Nat} (h : AllLt n p) (i j : Nat) : AllLt n (bubble p i j) := h.perm (bubble_perm _ _ _)
section
variable {n : Nat}
theorem ok_asc {p : Array Nat} (h : AllLt n p) : ∀ f m, OkT n (fun _ => True) (kas_asc p f m)
  | 0, m => trivial
  | f + 1, m => ⟨h.get _, h.get _, fun b => by cases b <;> first | exact trivial | exact ok_asc h f (m + 1)⟩
theorem ok_desc : ∀ (f : Nat) (p : Array Nat) (m q : Nat), AllLt n p → OkT n (fun z : Array Nat × Nat × Nat => AllLt n z.1) (kas_desc f p m q)
  | 0, p, m, q, h => h
  | f + 1, p, m, q, h => by
    refine ⟨h.get _, h.get _, fun b => ?_⟩
    cases b with
    | true =>
      show OkT n _ (if q > 0 then kas_desc f (kas_rev p (m - (q + 1)) m) (m + 1) 0 else kas_desc f p (m + 1) 0)
      split
      · exact ok_desc f _ _ _ (h.rev _ _)
      · exact ok_desc f _ _ _ h
    | false =>
      refine ⟨h.get _, h.get _, fun d => ?_⟩
      cases d with
      | true => exact h
      | false => exact ok_desc f _ _ _ h
theorem ok_tail3 {p : Array Nat} (h : AllLt n p) (m nrem : Nat) : OkT n (fun z : Nat × Array Nat => AllLt n z.2) (kas_tail3 m nrem p) := by
  unfold kas_tail3
  refine OkT.bind (P := fun _ => True) (fun a _ => ?_) (ok_asc (h.rev 0 m) _ _)
  exact h.rev 0 m
theorem ok_descPart {p : Array Nat} (h : AllLt n p) (m nrem : Nat) : OkT n (fun z : Nat × Array Nat => AllLt n z.2) (kas_descPart m nrem p) := by
  refine OkT.bind (fun z hz => ?_) (ok_desc _ _ _ _ h)
  show OkT n _ (if z.2.2 > 0 then kas_tail3 z.2.1 nrem (kas_rev z.1 (z.2.1 - (z.2.2 + 1)) z.2.1) else kas_tail3 z.2.1 nrem z.1)
  split
  · exact ok_tail3 (hz.rev _ _) _ _
  · exact ok_tail3 hz _ _
theorem ok_count {p : Array Nat} (h : AllLt n p) (nrem : Nat) : OkT n (fun z : Nat × Array Nat => AllLt n z.2) (kas_count nrem p) := by
  refine OkT.bind (fun m _ => ?_) (ok_asc h _ _)
  show OkT n _ (if (m == nrem) = true then .ret (m, p) else if m > 1 then .ask (p.getD 0 0) (p.getD (m - 1) 0) fun c => if c = true then .ret (m, p) else kas_descPart m nrem (kas_rev p 0 m) else kas_descPart m nrem p)
  split
  · exact h
  · split
    · refine ⟨h.get _, h.get _, fun b => ?_⟩
      cases b with
      | true => exact h
      | false => exact ok_descPart (h.rev _ _) _ _
    · exact ok_descPart h _ _
theorem ok_place {p : Array Nat} (h : AllLt n p) (k : Nat) : ∀ f l r, OkT n (fun _ => True) (kas_place p k f l r)
  | 0, l, r => trivial
  | f + 1, l, r => by
    show OkT n _ (if l ≥ r then .ret l else .ask (p.getD k 0) (p.getD ((l + r) / 2) 0) fun c => if c = true then kas_place p k f l ((l + r) / 2) else kas_place p k f ((l + r) / 2 + 1) r)
    split
    · trivial
    · refine ⟨h.get _, h.get _, fun b => ?_⟩
      cases b with
      | true => exact ok_place h k f _ _
      | false => exact ok_place h k f _ _
theorem ok_bin : ∀ (f : Nat) (p : Array Nat) (k : Nat), AllLt n p → OkT n (fun _ => True) (kas_bin f p k)
  | 0, p, k, h => trivial
  | f + 1, p, k, h => OkT.bind (fun l _ => ok_bin f _ _ (h.bub _ _)) (ok_place h k k 0 k)
theorem ok_sort (hn : 0 < n) : OkT n (fun _ => True) (kas_sort n) := by
  have h : AllLt n (List.toArray (List.range n)) := ⟨hn, fun x hx => by simpa using hx⟩
  refine OkT.bind (fun z hz => ?_) (ok_count h n)
  show OkT n _ (if z.1 < n then kas_bin (n - max z.1 1) z.2 (max z.1 1) else .ret z.2)
  split
  · exact ok_bin _ _ _ hz
  · trivial
end
abbrev Pr := Int × Int
def plt (a b : Pr) : Bool := decide (a.1 < b.1) || (decide (a.1 = b.1) && decide (a.2 < b.2))
theorem plt_iff {a b : Pr} : plt a b = true ↔ a.1 < b.1 ∨ (a.1 = b.1 ∧ a.2 < b.2) := by simp [plt]
def ple (a b : Pr) : Prop := a.1 < b.1 ∨ (a.1 = b.1 ∧ a.2 ≤ b.2)
def rankP (ps : List Pr) (i : Nat) : Int := (ps.countP fun q => plt q (ps.getD i (0, 0)) : Nat)
theorem rank_lt {ps : List Pr} {i j : Nat} (hi : i < ps.length) (hj : j < ps.length) : plt (ps.getD i (0, 0)) (ps.getD j (0, 0)) = decide (rankP ps i < rankP ps j) := by
  have ei : ps.getD i (0, 0) = ps[i] := by simp [hi]
  have ej : ps.getD j (0, 0) = ps[j] := by simp [hj]
  unfold rankP
  rw [ei, ej]
  generalize ha : ps[i] = a
  generalize hb : ps[j] = b
  have hmem : a ∈ ps := by rw [← ha]; exact List.getElem_mem hi
  cases h : plt a b with
  | true =>
    symm
    have hab := plt_iff.mp h
    have hlt : (ps.countP fun q => plt q a) < ps.countP fun q => plt q b := by
      have gen : ∀ l : List Pr, (l.countP fun q => plt q a) ≤ (l.countP fun q => plt q b) ∧ (a ∈ l → (l.countP fun q => plt q a) < l.countP fun q => plt q b) := by
        intro l
        induction l with
        | nil => exact ⟨Nat.le_refl _, fun h => by cases h⟩
        | cons x l ih =>
          have hx : plt x a = true → plt x b = true := fun q => by
            rw [plt_iff] at q ⊢; omega
          rw [List.countP_cons, List.countP_cons]
          refine ⟨?_, fun hm => ?_⟩
          · by_cases q : plt x a = true
            · rw [if_pos q, if_pos (hx q)]; omega
            · rw [if_neg q]; split <;> omega
          · rcases List.mem_cons.mp hm with e | e
            · subst e
              have : ¬ plt a a = true := by rw [plt_iff]; omega
              rw [if_neg this, if_pos h]; omega
            · have := ih.2 e
              by_cases q : plt x a = true
              · rw [if_pos q, if_pos (hx q)]; omega
              · rw [if_neg q]; split <;> omega
      exact (gen ps).2 hmem
    simpa using hlt
  | false =>
    symm
    have hab : ¬ (a.1 < b.1 ∨ (a.1 = b.1 ∧ a.2 < b.2)) := fun q => by rw [plt_iff.mpr q] at h; cases h
    have : (ps.countP fun q => plt q b) ≤ ps.countP fun q => plt q a := by
      refine List.countP_mono_left fun x _ hx => ?_
      rw [plt_iff] at hx ⊢; omega
    simp; omega
theorem ple_of {a b : Pr} (h : plt b a = false) : ple a b := by
  unfold ple
  have : ¬ (b.1 < a.1 ∨ (b.1 = a.1 ∧ b.2 < a.2)) := fun q => by rw [plt_iff.mpr q] at h; cases h
  omega
theorem sort_pairs {ps : List Pr} (hn : 1 ≤ ps.length) : ((runT (ltR (rankP ps)) (kas_sort ps.length)).toList.map fun i => ps.getD i (0, 0)).Perm ps ∧ ((runT (ltR (rankP ps)) (kas_sort ps.length)).toList.map fun i => ps.getD i (0, 0)).Pairwise ple := by
  obtain ⟨h1, h2⟩ := sort_run (r := rankP ps) hn
  constructor
  · refine (h1.map _).trans ?_
    have : (List.range ps.length).map (fun i => ps.getD i (0, 0)) = ps := by
      refine List.ext_getElem? fun i => ?_
      by_cases hi : i < ps.length
      · simp [hi]
      · simp [hi]
    rw [this]
  · rw [List.pairwise_map]
    refine h2.imp_of_mem fun {i j} hi hj hr => ?_
    have hi' : i < ps.length := by simpa using h1.mem_iff.mp hi
    have hj' : j < ps.length := by simpa using h1.mem_iff.mp hj
    refine ple_of ?_
    rw [rank_lt hj' hi']
    simpa using hr
section
variable {prog : Program} {w : World} {A : Around} {E : Value → Shared → Prop} {s : Shared}
/-- a list of fewer than two items, sorted -/
theorem listSort_short {a : Addr} {vs : List Value} {n : Nat} {P : PySem.Fin → Shared → Prop} (ho : s.heap.get? a = some (seqObj "list" vs.toArray n)) (h2 : vs.length < 2)
    (h : ∀ h' e, (∀ b o, b ≠ a → s.heap.get? b = some o → h'.get? b = some o) → h'.get? a = some (seqObj "list" vs.toArray e) → P (.done (.ret .none)) { s with heap := h' }) :
    wpAny (model prog w) A (Builtin.«list.sort» ⟨[.ref a], []⟩) P E s := by
  have ha : a < s.heap.objs.size := Heap.lt_size ho
  obtain ⟨e1, ho1⟩ : ∃ e1, (s.heap.update a (Obj.mapSeq fun _ => (#[] : Array Value))).get? a = some (seqObj "list" #[] e1) := ⟨_, get?_update_seq ho fun _ => #[]⟩
  rw [list_sort_plain]
  refine wpAny_bind (listItems_at ho rfl ?_)
  refine wpAny_bind (listUpdate_at ho rfl ?_ (by rw [List.size_toArray, sizeLine_eq]; omega) (Nat.zero_le _))
  refine wpAny_bind (seqEpoch_at ho1 rfl ?_)
  refine wpAny_bind (wpAny_newTuple ?_ (by show vs.length ≤ _; rw [sizeLine_eq]; omega))
  refine wpAny_bind (wpAny_newList ?_ (Nat.zero_le _))
  refine wpAny_holding ?_
  show wpAny (model prog w) A _ P E { s with heap := ((s.heap.update a (Obj.mapSeq fun _ => (#[] : Array Value))).push (seqObj "tuple" vs.toArray 0)).push (seqObj "list" #[] 0) }
  dsimp only
  have hn2 : vs.toArray.size < 2 := by rw [List.size_toArray]; omega
  rw [if_pos hn2, if_pos hn2]
  refine wpAny_bind (wpAny_pure ?_)
  have hp := Heap.get?_push_of_some (seqObj "list" #[] 0) (Heap.get?_push_of_some (seqObj "tuple" vs.toArray 0) ho1)
  have hout : (vs.toArray.zip vs.toArray).map (·.2) = vs.toArray := by
    apply Array.ext
    · simp
    · intro i h1 h2; simp
  refine wpAny_bind (m := (pure () : StateT SortSt Sem Unit).run (SortSt.mk' general' (vs.toArray.zip vs.toArray) #[] 7 none)) (wpAny_pure ?_)
  show wpAny (model prog w) A _ P E _
  dsimp only
  show wpAny (model prog w) A (do
      let __do_lift ← seqEpoch a
      let touched := (__do_lift) != e1
      Builtin.List.listUpdate (.ref a) fun _ => (vs.toArray.zip vs.toArray).map (·.2)
      _) P E _
  rw [hout]
  refine wpAny_bind (seqEpoch_at hp rfl ?_)
  refine wpAny_bind (listUpdate_at hp rfl ?_ (Nat.zero_le _) (by rw [List.size_toArray, sizeLine_eq]; omega))
  show wpAny (model prog w) A (if (e1 != e1) = true then _ else _) P E _
  simp only [bne_self_eq_false, Bool.false_eq_true, if_false]
  refine wpAny_pure (h _ _ (fun b o hb e => ?_) (get?_update_seq hp fun _ => vs.toArray))
  rw [Heap.get?_update_ne _ _ _ _ hb]
  refine Heap.get?_push_of_some _ (Heap.get?_push_of_some _ ?_)
  rw [Heap.get?_update_ne _ _ _ _ hb]; exact e
theorem sorted_short {l : Addr} {vs : List Value} {Q : Value → Shared → Prop} (hl : s.heap.IsList l vs.toArray) (h2 : vs.length < 2)
    (h : ∀ h' e, (∀ b o, s.heap.get? b = some o → h'.get? b = some o) → h'.get? (s.heap.objs.size + 1) = some (seqObj "list" vs.toArray e) → Q (.ref (s.heap.objs.size + 1)) { s with heap := h' }) :
    wpAny (model prog w) A (call (.builtin "sorted") [.ref l]) Q E s := by
  refine Calls.call_function_entry kind_sorted plain_sorted entry_sorted (args_sorted1 _) ?_
  unfold Builtin.«sorted»
  refine wpAny_bind (m := checkCount "sorted" 1 1 _) (wpAny_pure ?_)
  refine wpAny_bind (collect_list hl ?_ (by rw [sizeLine_eq]; omega))
  refine wpAny_bind (wpAny_newList ?_ (by rw [sizeLine_eq]; omega))
  have hsz : ((s.heap.push (seqObj "list" #[] 0)).update s.heap.objs.size (Obj.mapSeq (· ++ vs.toArray))).objs.size = s.heap.objs.size + 1 := by
    rw [Heap.size_update, size_push']
  have hoL : (((s.heap.push (seqObj "list" #[] 0)).update s.heap.objs.size (Obj.mapSeq (· ++ vs.toArray))).push (seqObj "list" vs.toArray 0)).get? (s.heap.objs.size + 1) = some (seqObj "list" vs.toArray 0) := by
    rw [← hsz]; exact Heap.get?_push_size _ rfl
  show wpAny _ _ _ _ _ { s with heap := ((s.heap.push (seqObj "list" #[] 0)).update s.heap.objs.size (Obj.mapSeq (· ++ vs.toArray))).push (seqObj "list" vs.toArray 0) }
  rw [hsz]
  refine wpAny_bind (wpAny_holding (wpAny_call_entry slot_list_sort ⟨_, hoL, rfl⟩ entry_list_sort ?body (args_list_sort _)))
  case body =>
    refine listSort_short (s := { s with heap := ((s.heap.push (seqObj "list" #[] 0)).update s.heap.objs.size (Obj.mapSeq (· ++ vs.toArray))).push (seqObj "list" vs.toArray 0) }) hoL h2 fun h' e hk he => ?_
    refine ⟨_, rfl, wpAny_pure ⟨_, rfl, h h' e (fun b o q => ?_) he⟩⟩
    have hlt : b < s.heap.objs.size := Heap.lt_size q
    refine hk b o (Nat.ne_of_lt (Nat.lt_succ_of_lt hlt)) ?_
    show (((s.heap.push (seqObj "list" #[] 0)).update s.heap.objs.size (Obj.mapSeq (· ++ vs.toArray))).push (seqObj "list" vs.toArray 0)).get? b = some o
    rw [Heap.get?_push_ne _ _ _ (by rw [hsz]; exact Nat.ne_of_lt (Nat.lt_succ_of_lt hlt)), Heap.get?_update_ne _ _ _ _ (Nat.ne_of_lt hlt), Heap.get?_push_ne _ _ _ (Nat.ne_of_lt hlt)]
    exact q
end
section
variable {c : Cx} {ρ : Loc} {H : Hp}
theorem pv_to {e : Expr} {i j : Int} (h : PV c ρ H e (.int i)) (q : i = j) : PV c ρ H e (.int j) := q ▸ h
/-- a list of pairs of ints, by their places -/
structure PairsAt (H : Hp) (as : List Addr) (ps : List Pr) : Prop where
  len : as.length = ps.length
  at' : ∀ (j : Nat) (a : Addr) (p : Pr), as[j]? = some a → ps[j]? = some p → ∃ fl, H a = some (.tup [.int p.1, .int p.2], fl)
theorem PairsAt.nil : PairsAt H [] [] := ⟨rfl, fun j a p h => by simp at h⟩
theorem PairsAt.mono {H' : Hp} {as : List Addr} {ps : List Pr} (h : PairsAt H as ps) (hk : ∀ a x, H a = some x → H' a = some x) : PairsAt H' as ps :=
  ⟨h.len, fun j a p ha hp => let ⟨fl, e⟩ := h.at' j a p ha hp; ⟨fl, hk _ _ e⟩⟩
theorem PairsAt.snoc {as : List Addr} {ps : List Pr} {a : Addr} {p : Pr} {fl : Bool} (h : PairsAt H as ps) (ha : H a = some (.tup [.int p.1, .int p.2], fl)) : PairsAt H (as ++ [a]) (ps ++ [p]) := by
  refine ⟨by simp [h.len], fun j b q hb hq => ?_⟩
  by_cases hj : j < as.length
  · rw [List.getElem?_append_left hj] at hb
    rw [List.getElem?_append_left (by rw [← h.len]; exact hj)] at hq
    exact h.at' j b q hb hq
  · rw [List.getElem?_append_right (by omega)] at hb
    rw [List.getElem?_append_right (by rw [← h.len]; omega)] at hq
    rw [h.len] at hb
    cases e : j - ps.length with
    | zero => rw [e] at hb hq; simp at hb hq; subst hb hq; exact ⟨fl, ha⟩
    | succ n => rw [e] at hb; simp at hb
theorem PairsAt.get {as : List Addr} {ps : List Pr} (h : PairsAt H as ps) {j : Nat} (hj : j < ps.length) : ∃ a fl, as[j]? = some a ∧ H a = some (.tup [.int (ps[j]).1, .int (ps[j]).2], fl) := by
  have hj' : j < as.length := by rw [h.len]; exact hj
  obtain ⟨fl, e⟩ := h.at' j as[j] ps[j] (by simp) (by simp)
  exact ⟨as[j], fl, by simp, e⟩
theorem PairsAt.perm {as : List Addr} {ps : List Pr} (h : PairsAt H as ps) {is : List Nat} (hi : ∀ i ∈ is, i < ps.length) : PairsAt H (is.map fun i => as.getD i 0) (is.map fun i => ps.getD i (0, 0)) := by
  refine ⟨by simp, fun j a p ha hp => ?_⟩
  rw [List.getElem?_map] at ha hp
  cases e : is[j]? with
  | none => rw [e] at ha; cases ha
  | some i =>
    rw [e] at ha hp
    have hlt := hi i (List.mem_of_getElem? e)
    have hlt' : i < as.length := by rw [h.len]; exact hlt
    simp only [Option.map_some, Option.some.injEq] at ha hp
    subst ha hp
    exact h.at' i _ _ (by simp [hlt']) (by simp [hlt])
theorem PairsAt.upd {as : List Addr} {ps : List Pr} {S : Addr} {xs : List AV} {fl : Bool} {o : AObj} (h : PairsAt H as ps) (hS : H S = some (.list xs, fl)) : PairsAt (H.set S o) as ps :=
  ⟨h.len, fun j a p ha hp => let ⟨f, e⟩ := h.at' j a p ha hp; ⟨f, Hp.set_ne (fun q => by rw [q, hS] at e; cases e) e⟩⟩
theorem PairsAt.new {as : List Addr} {ps : List Pr} {D : Addr} {o : AObj} (h : PairsAt H as ps) (hD : H D = none) : PairsAt (H.set D o) as ps := h.mono fun _ _ e => keepH e hD
theorem rangeSize_two {n i : Nat} (h : i < (Builtin.Range.rangeSize 0 ((n : Int) - 1) 2).toNat) : 2 * i + 1 < n := by
  unfold Builtin.Range.rangeSize at h
  rw [if_pos (by omega)] at h
  split at h
  · have := Int.ediv_mul_le ((n : Int) - 1 - 0 - 1) (b := 2) (by omega)
    omega
  · simp at h
theorem St.tup2 {F : Hp} {s : Shared} {a : Addr} {x y : Int} {fl : Bool} (st : St c ρ H F s) (h : H a = some (.tup [.int x, .int y], fl)) :
    ∃ ob t u n, s.heap.get? a = some ob ∧ ob.cls = .type "tuple" ∧ ob.data = .seq #[.int x t, .int y u] n := by
  obtain ⟨its, ⟨ob, g, hc, n, hd⟩, hm⟩ := st.isTup h
  obtain ⟨l⟩ := its
  obtain ⟨v1, v2, e, h1, h2⟩ := two_of hm
  simp only at e; subst e
  obtain ⟨t, rfl⟩ := abs_int h1
  obtain ⟨u, rfl⟩ := abs_int h2
  exact ⟨ob, t, u, n, g, hc, hd⟩
theorem abs_refs : ∀ {vs : List Value} {as : List Addr}, vs.map abs = refs as → vs = as.map .ref
  | [], [], _ => rfl
  | [], _ :: _, h => by simp [refs] at h
  | _ :: _, [], h => by simp [refs] at h
  | v :: vs, a :: as, h => by
    simp only [refs, List.map_cons, List.cons.injEq] at h
    rw [abs_ref h.1, abs_refs (as := as) h.2]; rfl
theorem ask_pair {F : Hp} {s : Shared} {a b : Addr} {p q : Pr} {f1 f2 : Bool} {Q : Bool → Shared → Prop} {E : Value → Shared → Prop} {A : Around} (st : St c ρ H F s) (ha : H a = some (.tup [.int p.1, .int p.2], f1)) (hb : H b = some (.tup [.int q.1, .int q.2], f2)) (h : Q (plt p q) s) :
    wpAny (model c.prog c.w) A (keyLt' (tuples' (Value.type "int" != Value.type "tuple")) (.ref a) (.ref b)) Q E s := by
  obtain ⟨oa, t1, u1, n1, g1, c1, d1⟩ := st.tup2 ha
  obtain ⟨ob, t2, u2, n2, g2, c2, d2⟩ := st.tup2 hb
  refine kat_lt g1 d1 g2 d2 ?_
  refine kat_cons (wpAny_eqBool_int ?_)
  by_cases e1 : p.1 = q.1
  · rw [beq_iff_eq.mpr e1]
    refine kat_yes (kat_cons (wpAny_eqBool_int ?_))
    by_cases e2 : p.2 = q.2
    · rw [beq_iff_eq.mpr e2]
      refine kat_yes (kat_nil ?_)
      have : plt p q = false := by
        rw [Bool.eq_false_iff]; intro h; rw [plt_iff] at h; omega
      rw [this] at h; exact h
    · rw [beq_eq_false_iff_ne.mpr e2]
      refine kat_no ?_
      refine kat_one _ _ ?_
      have : plt p q = decide (p.2 < q.2) := by
        simp [plt, e1]
      rw [this] at h
      exact PyProof.Rows.lt_int h
  · rw [beq_eq_false_iff_ne.mpr e1]
    refine kat_no ?_
    have : plt p q = decide (p.1 < q.1) := by
      simp [plt, e1]
    rw [this] at h
    exact oneLt_int h
theorem katTups_of {F : Hp} {s : Shared} (st : St c ρ H F s) : ∀ {as : List Addr} {ps : List Pr}, PairsAt H as ps → ∃ fs : List Value, fs.length = ps.length ∧ KatTups s.heap (as.map .ref) fs ∧ ∀ v ∈ fs, ∃ i t, v = .int i t
  | [], ps, h => by
    have : ps = [] := by have := h.len; simp at this; exact List.eq_nil_of_length_eq_zero this.symm
    subst this; exact ⟨[], rfl, .nil, by simp⟩
  | a :: as, [], h => by have := h.len; simp at this
  | a :: as, p :: ps, h => by
    obtain ⟨fs, h1, h2, h3⟩ := katTups_of st (as := as) (ps := ps) ⟨by have := h.len; simpa using this, fun j b q hb hq => h.at' (j + 1) b q (by simpa using hb) (by simpa using hq)⟩
    obtain ⟨fl, e⟩ := h.at' 0 a p rfl rfl
    obtain ⟨ob, t, u, n, g, hc, hd⟩ := st.tup2 e
    exact ⟨.int p.1 t :: fs, by simp [h1], .cons g hc hd rfl h2, fun v hv => by
      rcases List.mem_cons.mp hv with rfl | hv
      · exact ⟨_, _, rfl⟩
      · exact h3 v hv⟩
/-- sorted of a list of pairs -/
theorem ev_sortedT {x : Str} {np pos : Pos} {e : Expr} {Φ : AV → Hp → Prop} (ok : Ok c) (hl : c.env.kindOf x = some .globalImplicit) (hg : gl c.K x = some (.builtin "sorted"))
    (he : EV c ρ H e fun v H' => ∃ l as ps fl, v = .ref l ∧ H' l = some (.list (refs as), fl) ∧ PairsAt H' as ps ∧ ps.length < 64 ∧ ∀ D bs qs, H' D = none → qs.Perm ps → qs.Pairwise ple → PairsAt H' bs qs → Φ (.ref D) (H'.set D (.list (refs bs))))
    (hns : noStars [e] = true := by decide +kernel) (hd : (x == ("__debug__" : Str)) = false := by decide +kernel) (hn : x ≠ ("__name__" : Str) := by decide +kernel) : EV c ρ H (.Call (.Name x np) [e] [] pos) Φ :=
  ev_call_bi ok hl hg (es_cons (he.mono fun v H' ⟨l, as, ps, fl, hv, hx, hP, hlen, p⟩ => es_nil fun ys hys => by
    obtain ⟨y, rfl, hy⟩ := one_of hys
    rw [hv] at hy
    have := abs_ref hy; subst this
    exact Tri.of fun F s Q st kk => by
      obtain ⟨its, hL, hm⟩ := st.isList hx
      obtain ⟨vs⟩ := its
      have hvs := abs_refs hm
      simp only at hvs; subst hvs
      have hl2 : (as.map Value.ref).length = ps.length := by simp [hP.len]
      by_cases h2 : ps.length < 2
      · refine sorted_short hL (by omega) fun h' e' hk he' => ?_
        have hnone : s.heap.get? (s.heap.objs.size + 1) = none := Heap.get?_none_of_le (Nat.le_succ _)
        have st' := st.alloc (tk := s.toks) (o := .list (refs as)) hnone hk he' (orep_list (by simpa using hm))
        refine kk _ _ _ _ (.set s h' s.toks) st' ⟨rfl, p _ _ ps (st.fresh hnone).1 (List.Perm.refl _) ?_ hP⟩
        match ps, h2 with
        | [], _ => exact .nil
        | [q], _ => exact List.pairwise_singleton _ _
      · obtain ⟨m, Fm, N, via⟩ := st.viaNew
        refine kat_sorted Fm N hL (by omega) (by omega) fun D e1 h' F' N' hlt => ?_
        obtain ⟨hD, st'⟩ := via h' s.toks D _ (.list []) F' N' hlt (orep_list (by simp)) (noCell_plain rfl)
        have hP' : PairsAt (H'.set D (.list [])) as ps := hP.mono fun a x e => keepH e hD
        obtain ⟨fs, f1, f2, f3⟩ := katTups_of st' hP'
        refine kat_kind (T := .type "int") f2 (by omega) (fun v hv => by obtain ⟨i, t, rfl⟩ := f3 v hv; exact Looks.of_pure rfl) rfl ?_
        rw [hl2]
        have hpos : 0 < ps.length := by omega
        obtain ⟨r1, r2⟩ := sort_pairs (ps := ps) (by omega)
        obtain ⟨q1, _⟩ := sort_run (r := rankP ps) (n := ps.length) (by omega)
        refine kasWp_ok (n := ps.length) (P := fun _ => True) (lt := ltR (rankP ps)) ?_ _ (ok_sort hpos) ?_
        · intro i j C hi hj hC
          unfold kas_ask
          obtain ⟨a, fa, ea, ha⟩ := hP'.get hi
          obtain ⟨b, fb, eb, hb⟩ := hP'.get hj
          have ga : (as.map Value.ref).getD i Value.none = .ref a := by rw [List.getD_eq_getElem?_getD, List.getElem?_map, ea]; rfl
          have gb : (as.map Value.ref).getD j Value.none = .ref b := by rw [List.getD_eq_getElem?_getD, List.getElem?_map, eb]; rfl
          rw [ga, gb]
          refine ask_pair st' ha hb ?_
          have := rank_lt hi hj
          have ei : ps.getD i (0, 0) = ps[i] := by simp [hi]
          have ej : ps.getD j (0, 0) = ps[j] := by simp [hj]
          rw [ei, ej] at this
          rw [this]; exact hC
        · refine KasFin.intro F' N' (.head fun q hq => Nat.ne_of_lt (hlt q hq)) fun h'' cc F'' N'' => ?_
          have hin : ∀ i ∈ (runT (ltR (rankP ps)) (kas_sort ps.length)).toList, i < ps.length := fun i hi => by simpa using q1.mem_iff.mp hi
          generalize hz : (runT (ltR (rankP ps)) (kas_sort ps.length)).toList = zz at hin r1 r2 N'' ⊢
          have ev : (zz.map fun i => (as.map Value.ref).getD i Value.none) = (zz.map fun i => as.getD i 0).map Value.ref := by
            rw [List.map_map]
            refine List.map_congr_left fun i hi => ?_
            have := hin i hi
            have h' : i < as.length := by rw [hP.len]; exact this
            simp [h']
          rw [ev] at N''
          obtain ⟨_, st''⟩ := via h'' s.toks D _ (.list (refs (zz.map fun i => as.getD i 0))) F'' N'' hlt (orep_list (by simp [refs, abs, Function.comp_def])) (noCell_plain rfl)
          exact kk _ _ _ _ (.set s h'' s.toks) st'' ⟨rfl, p _ _ _ hD r1 r2 (hP.perm hin)⟩)) hns hd hn
end

local macro_rules | `(tactic| walk_at "loc") => `(tactic| first | with_reducible assumption | with_reducible exact Loc.set_same | exact freeLoc_get (by decide +kernel) (by walk_at "loc") | ((with_reducible refine' Loc.set_ne ?k1 ?_); (case k1 => decide); walk_at "loc"))
local macro_rules | `(tactic| walk_at "kd") => `(tactic| first | exact kd_of (by with_reducible assumption) (by decide +kernel) | exact comp_kd (by decide +kernel) (by decide))
local macro_rules | `(tactic| walk_at "hne") => `(tactic| first | with_reducible assumption | (apply Ne.symm; with_reducible assumption))
local macro_rules | `(tactic| walk_at "hp") => `(tactic| first | with_reducible assumption | with_reducible exact Hp.set_same | ((with_reducible refine' Hp.set_ne ?k1 ?_); (case k1 => walk_at "hne"); walk_at "hp"))
local macro_rules | `(tactic| walk_at "st") => `(tactic| first | exact Or.inl (by walk_at "kd") | exact Or.inr ⟨by with_reducible assumption, by walk_at "kd"⟩)
local macro_rules | `(tactic| walk_at "side") => `(tactic| first | with_reducible assumption | omega | decide)
local macro_rules | `(tactic| walk_at "lens") => `(tactic| first | (simp only [zs_len, refs_len, List.length_append, List.length_cons, List.length_nil]; omega) | omega)
local macro_rules | `(tactic| walk_at "pv") => `(tactic| first
  | with_reducible exact pv_int | with_reducible exact pv_none | with_reducible exact pv_bool
  | ((with_reducible refine' pv_local ?k1 ?k2 ?k3); (case k1 => assumption); (case k2 => walk_at "kd"); (case k3 => walk_at "loc"))
  | ((with_reducible refine' pv_cell ?k1 ?k2 ?k3); (case k1 => assumption); (case k2 => walk_at "kd"); (case k3 => walk_at "loc"))
  | ((with_reducible refine' pv_free ?k1 ?k2 ?k3); (case k1 => assumption); (case k2 => walk_at "kd"); (case k3 => walk_at "loc"))
  | ((with_reducible refine' pv_around ?k1 ?k2 ?k3); (case k1 => assumption); (case k2 => decide +kernel); (case k3 => walk_at "loc"))
  | ((with_reducible refine' pv_add ?k1 ?k2); (case k1 => walk_at "pv"); (case k2 => walk_at "pv"))
  | ((with_reducible refine' pv_sub ?k1 ?k2); (case k1 => walk_at "pv"); (case k2 => walk_at "pv"))
  | ((with_reducible refine' pv_neg ?k1); (case k1 => walk_at "pv"))
  | ((with_reducible refine' pv_lt ?k1 ?k2); (case k1 => walk_at "pv"); (case k2 => walk_at "pv"))
  | ((with_reducible refine' pv_le ?k1 ?k2); (case k1 => walk_at "pv"); (case k2 => walk_at "pv"))
  | ((with_reducible refine' pv_gt ?k1 ?k2); (case k1 => walk_at "pv"); (case k2 => walk_at "pv"))
  | ((with_reducible refine' pv_ge ?k1 ?k2); (case k1 => walk_at "pv"); (case k2 => walk_at "pv"))
  | ((with_reducible refine' pv_eq ?k1 ?k2); (case k1 => walk_at "pv"); (case k2 => walk_at "pv"))
  | ((with_reducible refine' pv_ne ?k1 ?k2); (case k1 => walk_at "pv"); (case k2 => walk_at "pv"))
  | ((with_reducible refine' pv_fdiv ?k1 ?k2 ?k3 ?k4); (case k1 => walk_at "pv"); (case k2 => walk_at "pv"); (case k3 => walk_at "side"); (case k4 => walk_at "side"))
  | ((with_reducible refine' pv_mod ?k1 ?k2 ?k3); (case k1 => walk_at "pv"); (case k2 => walk_at "pv"); (case k3 => walk_at "side"))
  | ((with_reducible refine' pv_len ?k1 ?k2 ?k3 ?k4 ?k5 ?k6); (case k1 => assumption); (case k2 => walk_at "kd"); (case k3 => with_reducible assumption); (case k4 => walk_at "pv"); (case k5 => walk_at "hp"); (case k6 => walk_at "lens"))
  | ((with_reducible refine' pv_max2 ?k1 ?k2 ?k3 ?k4 ?k5); (case k1 => assumption); (case k2 => walk_at "kd"); (case k3 => with_reducible assumption); (case k4 => walk_at "pv"); (case k5 => walk_at "pv"))
  | ((with_reducible refine' pv_min2 ?k1 ?k2 ?k3 ?k4 ?k5); (case k1 => assumption); (case k2 => walk_at "kd"); (case k3 => with_reducible assumption); (case k4 => walk_at "pv"); (case k5 => walk_at "pv"))
  | ((with_reducible refine' pv_abs ?k1 ?k2 ?k3 ?k4); (case k1 => assumption); (case k2 => walk_at "kd"); (case k3 => with_reducible assumption); (case k4 => walk_at "pv")))
abbrev P08 := PySem.Challenge.pw_da0001_08

theorem bisL_body {K : Frag} (g1 : gl K "len" = some (.builtin "len")) : BisBody P08 1 (fun x y => decide (y < x)) K := by
  intro c ρ H l xs x fl hK ok hk h1 h2 h3 h4 h5 hl hs hn
  rw [← hK] at g1
  refine xs_cons ?_
  refine ex_ifp (pt_cmp (by walk_at "pv")) (fun h => absurd h (by decide)) fun _ => ?_
  refine xs_nil ?_
  refine xs_cons ?_
  refine ex_ifp (pt_is_none (by walk_at "pv") true rfl trivial) (fun _ => ?_) (fun h => absurd h (by decide))
  refine xs_cons (ex_assignp ok (by walk_at "st") (by walk_at "pv") (xs_nil ?_))
  refine xs_cons ?_
  refine ex_ifp (pt_is_none (by walk_at "pv") true rfl trivial) (fun _ => ?_) (fun h => absurd h (by decide))
  refine xs_cons ?_
  refine ex_while (fun n ρ' H' => H' = H ∧ ∃ lo hi : Nat, n = hi - lo ∧ lo ≤ hi ∧ hi ≤ xs.length ∧ ρ' "a" = some (.ref l) ∧ ρ' "x" = some (.int x) ∧ ρ' "lo" = some (.int lo) ∧ ρ' "hi" = some (.int hi) ∧
    (∀ i y, i < lo → xs[i]? = some y → y < x) ∧ (∀ i y, hi ≤ i → xs[i]? = some y → ¬ (y < x))) xs.length ⟨rfl, 0, xs.length, rfl, Nat.zero_le _, Nat.le_refl _, by walk_at "loc", by walk_at "loc", Loc.set_ne (by decide) h3, ?_, ?_, ?_⟩ ?_
  · rw [Loc.set_same, zs_len]
  · intro i y h; omega
  · intro i y h e; obtain ⟨h', _⟩ := List.getElem?_eq_some_iff.mp e; omega
  rintro n ρ' H' ⟨rfl, lo, hi, rfl, hle, hhi, a1, a2, a3, a4, b1, b2⟩
  refine (pt_cmp (by walk_at "pv")).tv ?_
  by_cases hlt : (lo : Int) < hi
  · rw [decide_eq_true hlt, if_pos rfl]
    refine xs_cons (ex_assignp ok (by walk_at "st") (by walk_at "pv") ?_)
    obtain ⟨mid, hmid, hm1, hm2⟩ : ∃ mid : Nat, ((lo : Int) + hi).fdiv 2 = mid ∧ lo ≤ mid ∧ mid < hi := by
      refine ⟨(lo + hi) / 2, ?_, by omega, by omega⟩
      rw [Int.fdiv_eq_ediv_of_nonneg _ (by omega)]; omega
    rw [hmid]
    obtain ⟨y, hy⟩ : ∃ y, xs[mid]? = some y := ⟨xs[mid]'(by omega), by simp⟩
    refine xs_cons (ex_ifp (pt_cmp (pv_lt (pv_itemZ (by walk_at "pv") (by walk_at "pv") hl (by omega) hy) (by walk_at "pv"))) (fun h => ?_) fun h => ?_)
    · have h' : y < x := of_decide_eq_true h
      refine xs_cons (ex_assignp (v := .int ((mid : Int) + 1)) ok (by walk_at "st") (by walk_at "pv") (xs_nil (xs_nil ⟨hi - (mid + 1), by omega, rfl, mid + 1, hi, rfl, by omega, by omega, by walk_at "loc", by walk_at "loc", Loc.set_same, by walk_at "loc", ?_, b2⟩)))
      intro i z hi' e
      have := hs.le (i := i) (j := mid) (by omega) e hy
      omega
    · have h' : ¬ y < x := of_decide_eq_false h
      refine xs_cons (ex_assignp ok (by walk_at "st") (by walk_at "pv") (xs_nil (xs_nil ⟨mid - lo, by omega, rfl, lo, mid, rfl, by omega, by omega, by walk_at "loc", by walk_at "loc", by walk_at "loc", by walk_at "loc", b1, ?_⟩)))
      intro i z hi' e
      have := hs.le hi' hy e
      omega
  · rw [decide_eq_false hlt, if_neg (by decide)]
    refine xs_nil ?_
    refine xs_cons ?_
    refine ex_returnp (by walk_at "pv") ⟨?_, rfl⟩
    have : lo = hi := by omega
    subst this
    rw [countP_split xs lo hhi (fun i y h e => by simpa using b1 i y h e) (fun i y h e => by simpa using b2 i y h e)]
structure KF (K : Frag) : Prop where
  len : gl K "len" = some (.builtin "len")
  rng : gl K "range" = some (.type "range")
  mx : gl K "max" = some (.builtin "max")
  mn : gl K "min" = some (.builtin "min")
  so : gl K "sorted" = some (.builtin "sorted")
  bL : Bis K P08 1 "bisect_left"
-- the plain law
structure Greedy (done : List Pr) (points : List Int) (ap : List Pr) : Prop where
  srt : Sorted points
  sub : ∀ p ∈ points, ∃ q ∈ done, p = q.1
  hit : ∀ q ∈ done, ∃ p ∈ points, q.2 ≤ p ∧ p ≤ q.1
  mp : ap.map (·.2) = points
  sep : ∀ k a b, ap[k]? = some a → ap[k + 1]? = some b → a.2 < b.1
theorem greedy_nil : Greedy [] [] [] := ⟨by simp [Sorted], by simp, by simp, rfl, by simp⟩
theorem greedy_set {done : List Pr} {points : List Int} {ap : List Pr} {q : Pr} (g : Greedy done points ap) (hq : q.2 ≤ q.1) (hp : ∀ p ∈ points, p < q.2) : Greedy (done ++ [q]) (points ++ [q.1]) (ap ++ [(q.2, q.1)]) := by
  refine ⟨?_, ?_, ?_, by simp [g.mp], ?_⟩
  · unfold Sorted
    rw [List.pairwise_append]
    exact ⟨g.srt, by simp, fun a ha b hb => by simp at hb; subst hb; have := hp a ha; omega⟩
  · intro p h
    rcases List.mem_append.mp h with h | h
    · obtain ⟨r, hr, e⟩ := g.sub p h; exact ⟨r, List.mem_append_left _ hr, e⟩
    · simp at h; subst h; exact ⟨q, by simp, rfl⟩
  · intro r h
    rcases List.mem_append.mp h with h | h
    · obtain ⟨p, h1, h2⟩ := g.hit r h; exact ⟨p, List.mem_append_left _ h1, h2⟩
    · simp at h; subst h; exact ⟨r.1, by simp, hq, Int.le_refl _⟩
  · intro k a b ha hb
    rcases Nat.lt_or_ge (k + 1) ap.length with h | h
    · rw [List.getElem?_append_left (by omega)] at ha
      rw [List.getElem?_append_left h] at hb
      exact g.sep k a b ha hb
    · have hk : k + 1 = ap.length := by have := (List.getElem?_eq_some_iff.mp hb).1; simp at this; omega
      rw [List.getElem?_append_left (by omega)] at ha
      rw [List.getElem?_append_right h, hk] at hb
      simp at hb; subst hb
      refine hp a.2 ?_
      rw [← g.mp]
      exact List.mem_map_of_mem (List.mem_of_getElem? ha)
theorem greedy_pass {done : List Pr} {points : List Int} {ap : List Pr} {q : Pr} (g : Greedy done points ap) (hd : ∀ r ∈ done, r.1 ≤ q.1) (hp : ∃ p ∈ points, ¬ p < q.2) : Greedy (done ++ [q]) points ap := by
  refine ⟨g.srt, fun p h => ?_, ?_, g.mp, g.sep⟩
  · obtain ⟨r, hr, e⟩ := g.sub p h; exact ⟨r, List.mem_append_left _ hr, e⟩
  · intro r h
    rcases List.mem_append.mp h with h | h
    · exact g.hit r h
    · simp at h; subst h
      obtain ⟨p, h1, h2⟩ := hp
      obtain ⟨r', hr, e⟩ := g.sub p h1
      have := hd r' hr
      exact ⟨p, h1, by omega, by omega⟩
theorem take_snoc {α : Type} {l : List α} {i : Nat} {x : α} (h : l[i]? = some x) : l.take (i + 1) = l.take i ++ [x] := by
  rw [List.take_add_one, h]; rfl
theorem take_before {qs : List Pr} (h : qs.Pairwise ple) {i : Nat} {q : Pr} (hq : qs[i]? = some q) : ∀ r ∈ qs.take i, r.1 ≤ q.1 := by
  intro r hr
  obtain ⟨j, hj, e⟩ := List.mem_take_iff_getElem.mp hr
  obtain ⟨hi, e2⟩ := List.getElem?_eq_some_iff.mp hq
  have := List.pairwise_iff_getElem.mp h j i (by omega) hi (by omega)
  rw [e, e2] at this
  unfold ple at this; omega
theorem law_main {c : Cx} {ns : List Int} {l : Addr} (ok : Ok c) (okc : OkC c 20) (hk : c.env.scope = fnScope P08 3) (own : c.own = true) (hlen : ns.length ≤ 63) (kf : KF c.K) :
    XS c (scriptLoc l) (scriptHp l ns) (fnBody P08 3) fun f _ _ => f = .ret (.bool true) := by
  obtain ⟨g_len, g_rng, g_mx, g_mn, g_so, hbL⟩ := kf
  have r0 : scriptLoc l "script" = some (.ref l) := by simp [scriptLoc]
  have hl : scriptHp l ns l = some (.list (zs ns), false) := by simp [scriptHp]
  generalize scriptLoc l = ρ at r0 ⊢
  generalize scriptHp l ns = H at hl ⊢
  refine xs_cons (ex_assign ok (by walk_at "st") (ev_list (PS.es ps_nil ⟨by decide, fun S hS => ?_⟩)))
  have a1 := keepH (o := .list []) hl hS
  have a2 : Hp.set H S (.list []) S = some (.list (refs []), true) := Hp.set_same
  generalize Hp.set H S _ = H1 at a1 a2 ⊢
  -- the stretches
  refine xs_cons (ex_for ?_)
  refine itr_range3 ok (by walk_at "kd") g_rng (by walk_at "pv") (by walk_at "pv") (by walk_at "pv") (by omega) (by walk_at "lens") (by omega) ?_
  rw [zs_len]
  refine ⟨fun i ρ' H' => ∃ as ps, H' l = some (.list (zs ns), false) ∧ H' S = some (.list (refs as), true) ∧ PairsAt H' as ps ∧ ps.length = i ∧ (∀ p ∈ ps, p.2 ≤ p.1) ∧ ρ' "script" = some (.ref l) ∧ ρ' "stretches" = some (.ref S),
    ⟨[], [], a1, a2, .nil, rfl, by simp, by walk_at "loc", by walk_at "loc"⟩, fun _ _ _ _ => trivial, ?_, ?_⟩
  · rintro i ρ' H' hi ⟨as, ps, p1, p2, p3, p4, p5, q1, q2⟩
    have hi3 := rangeSize_two hi
    refine asg_name ok (by walk_at "st") ?_
    dsimp only
    obtain ⟨n0, hn0⟩ : ∃ n0 : Nat, n0 = 2 * i := ⟨_, rfl⟩
    rw [show ((0 : Int) + (i : Int) * 2) = (n0 : Int) by rw [hn0]; push_cast; omega]
    obtain ⟨x0, hx0⟩ : ∃ x, ns[n0]? = some x := ⟨_, List.getElem?_eq_getElem (by omega)⟩
    obtain ⟨x1, hx1⟩ : ∃ x, ns[n0 + 1]? = some x := ⟨_, List.getElem?_eq_getElem (by omega)⟩
    refine xs_cons (ex_expr ok (ev_append (PV.ev (v := .ref S) (by walk_at "pv") ⟨S, _, rfl, p2, ?_⟩)))
    refine ev_tuple (PS.es (ps_cons (pv_max2 ok (by walk_at "kd") g_mx (pv_itemZ (k := n0) (by walk_at "pv") (by walk_at "pv") p1 (by omega) hx0) (pv_itemZ (k := n0 + 1) (by walk_at "pv") (pv_addN (by walk_at "pv") (pv_intN rfl)) p1 (by omega) hx1))
      (ps_cons (pv_min2 ok (by walk_at "kd") g_mn (pv_itemZ (k := n0) (by walk_at "pv") (by walk_at "pv") p1 (by omega) hx0) (pv_itemZ (k := n0 + 1) (by walk_at "pv") (pv_addN (by walk_at "pv") (pv_intN rfl)) p1 (by omega) hx1)) ps_nil)) ⟨by simp, fun D hD => ?_⟩)
    have e0 := p3.len
    refine ⟨_, keepH p2 hD, by rw [refs_len]; omega, xs_nil ?_⟩
    rw [show refs as ++ [AV.ref D] = refs (as ++ [D]) by rw [refs_append]; rfl]
    have b3 := (p3.new (o := .tup [.int (max x0 x1), .int (min x0 x1)]) hD).snoc (p := (max x0 x1, min x0 x1)) (fl := true) Hp.set_same
    refine ⟨as ++ [D], ps ++ [(max x0 x1, min x0 x1)], Hp.set_ne (Hp.ne_flag p1 p2) (keepH p1 hD), Hp.set_same, b3.upd (keepH p2 hD), by simp [p4], ?_, by walk_at "loc", by walk_at "loc"⟩
    intro p hp
    rcases List.mem_append.mp hp with h | h
    · exact p5 p h
    · simp at h; subst h; show min x0 x1 ≤ max x0 x1; omega
  rintro ρ' H' ⟨as, ps, p1, p2, p3, p4, p5, q1, q2⟩
  have hps : ps.length < 64 := by
    rw [p4]
    rcases Nat.lt_or_ge (Builtin.Range.rangeSize 0 ((ns.length : Int) - 1) 2).toNat 64 with h | h
    · exact h
    · have := rangeSize_two (n := ns.length) (i := 63) (by omega); omega
  clear p4
  dsimp only
  have hal := p3.len
  refine xs_cons (ex_assign ok (by walk_at "st") (ev_list (PS.es ps_nil ⟨by decide, fun U hU => ?_⟩)))
  have b1 := keepH (o := .list []) p2 hU
  have b2 := p3.new (o := .list []) hU
  have b3 : Hp.set H' U (.list []) U = some (.list (zs []), true) := Hp.set_same
  have ne1 : S ≠ U := Hp.ne_of p2 hU
  generalize Hp.set H' U _ = H2 at b1 b2 b3 ⊢
  refine xs_cons (ex_assign ok (by walk_at "st") (ev_list (PS.es ps_nil ⟨by decide, fun V hV => ?_⟩)))
  have c1 := keepH (o := .list []) b1 hV
  have c2 := b2.new (o := .list []) hV
  have c3 := keepH (o := .list []) b3 hV
  have c4 : Hp.set H2 V (.list []) V = some (.list (refs []), true) := Hp.set_same
  have ne2 : S ≠ V := Hp.ne_of b1 hV
  have ne3 : U ≠ V := Hp.ne_of b3 hV
  generalize Hp.set H2 V _ = H3 at c1 c2 c3 c4 ⊢
  -- by rising ends
  refine xs_cons (ex_for ?_)
  refine itr_list ok.hand (ev_sortedT ok (by walk_at "kd") g_so (PV.ev (v := .ref S) (by walk_at "pv") ⟨S, as, ps, _, rfl, c1, c2, hps, fun T bs qs hT hperm hsrt hbs => ?_⟩))
  have ne4 : S ≠ T := Hp.ne_of c1 hT
  have ne5 : U ≠ T := Hp.ne_of c3 hT
  have ne6 : V ≠ T := Hp.ne_of c4 hT
  have d1 := keepH (o := .list (refs bs)) c1 hT
  have d2 := c2.new (o := .list (refs bs)) hT
  have d3 := keepH (o := .list (refs bs)) c3 hT
  have d4 := keepH (o := .list (refs bs)) c4 hT
  have d5 := hbs.new (o := .list (refs bs)) hT
  have d6 : Hp.set H3 T (.list (refs bs)) T = some (.list (refs bs), true) := Hp.set_same
  generalize Hp.set H3 T _ = H4 at d1 d2 d3 d4 d5 d6 ⊢
  have hbl := d5.len
  have hql := hperm.length_eq
  refine ⟨T, refs bs, _, rfl, d6, ?_⟩
  rw [refs_len]
  refine ⟨fun i ρ' H' => ∃ points vs ap, H' S = some (.list (refs as), true) ∧ H' T = some (.list (refs bs), true) ∧ H' U = some (.list (zs points), true) ∧ H' V = some (.list (refs vs), true) ∧ PairsAt H' as ps ∧ PairsAt H' bs qs ∧ PairsAt H' vs ap ∧ Greedy (qs.take i) points ap ∧ points.length ≤ i ∧
    ρ' "stretches" = some (.ref S) ∧ ρ' "points" = some (.ref U) ∧ ρ' "apart" = some (.ref V),
    ⟨[], [], [], d1, d6, d3, d4, d2, d5, .nil, by simpa using greedy_nil, Nat.le_refl _, by walk_at "loc", by walk_at "loc", by walk_at "loc"⟩, fun i ρ' H' ⟨_, _, _, _, h, _⟩ => ⟨_, h⟩, ?_, ?_⟩
  · rintro i ρ' H' hi ⟨points, vs, ap, e1, e2, e3, e4, e5, e6, e7, e8, e9, q1, q2, q3⟩
    have hiq : i < qs.length := by omega
    obtain ⟨b, fb, hb, hHb⟩ := e6.get hiq
    obtain ⟨q, hq⟩ : ∃ q, qs[i] = q := ⟨_, rfl⟩
    rw [hq] at hHb
    have hq' : qs[i]? = some q := by rw [← hq]; exact List.getElem?_eq_getElem hiq
    have hqle : q.2 ≤ q.1 := p5 q (hperm.mem_iff.mp (List.mem_of_getElem? hq'))
    dsimp only
    rw [show (refs bs).getD i AV.none = .ref b by rw [List.getD_eq_getElem?_getD, refs_get hb]; rfl]
    refine asg_two ok (.inl hHb) (asg_name ok (by walk_at "st") (asg_name ok (by walk_at "st") ?_)) rfl
    have hvl := e7.len
    have hpl : ap.length = points.length := by rw [← e8.mp]; simp
    refine xs_cons (ex_ifp (pt_cmp (pv_eq (pv_bis (q := fun x y => decide (y < x)) ok okc hbL (bisL_body g_len) (by walk_at "kd") (by walk_at "pv") (by walk_at "pv") e3 e8.srt (by omega)) (by walk_at "pv"))) (fun h => ?_) fun h => ?_)
    · rw [zs_len] at h
      have h' := beq_iff_eq.mp h
      have hall : ∀ p ∈ points, p < q.2 := by
        have : points.countP (fun y => decide (y < q.2)) = points.length := by omega
        intro p hp
        simpa using List.countP_eq_length.mp this p hp
      refine xs_cons (ex_expr ok (ev_append (PV.ev (v := .ref U) (by walk_at "pv") ⟨U, _, rfl, e3, PV.ev (v := .int q.1) (by walk_at "pv") ⟨_, e3, by walk_at "lens", ?_⟩⟩)))
      rw [show zs points ++ [AV.int q.1] = zs (points ++ [q.1]) by rw [zs_append]; rfl]
      have f1 := Hp.set_ne (o := .list (zs (points ++ [q.1]))) ne1 e1
      have f2 := Hp.set_ne (o := .list (zs (points ++ [q.1]))) (Ne.symm ne5) e2
      have f3 : Hp.set H' U (.list (zs (points ++ [q.1]))) U = _ := Hp.set_same
      have f4 := Hp.set_ne (o := .list (zs (points ++ [q.1]))) (Ne.symm ne3) e4
      have f5 := e5.upd (o := .list (zs (points ++ [q.1]))) e3
      have f6 := e6.upd (o := .list (zs (points ++ [q.1]))) e3
      have f7 := e7.upd (o := .list (zs (points ++ [q.1]))) e3
      generalize Hp.set H' U _ = H5 at f1 f2 f3 f4 f5 f6 f7 ⊢
      refine xs_cons (ex_expr ok (ev_append (PV.ev (v := .ref V) (by walk_at "pv") ⟨V, _, rfl, f4, ?_⟩)))
      refine ev_tuple (PS.es (ps_cons (v := .int q.2) (by walk_at "pv") (ps_cons (v := .int q.1) (by walk_at "pv") ps_nil)) ⟨by simp, fun D hD => ?_⟩)
      refine ⟨_, keepH f4 hD, by rw [refs_len]; omega, xs_nil (xs_nil ?_)⟩
      rw [show refs vs ++ [AV.ref D] = refs (vs ++ [D]) by rw [refs_append]; rfl]
      have k7 := (f7.new (o := .tup [.int q.2, .int q.1]) hD).snoc (p := (q.2, q.1)) (fl := true) Hp.set_same
      refine ⟨points ++ [q.1], vs ++ [D], ap ++ [(q.2, q.1)], Hp.set_ne ne2 (keepH f1 hD), Hp.set_ne (Ne.symm ne6) (keepH f2 hD), Hp.set_ne ne3 (keepH f3 hD), Hp.set_same, (f5.new hD).upd (keepH f4 hD), (f6.new hD).upd (keepH f4 hD), k7.upd (keepH f4 hD), ?_, by simp; omega, by walk_at "loc", by walk_at "loc", by walk_at "loc"⟩
      rw [take_snoc hq']
      exact greedy_set e8 hqle hall
    · rw [zs_len] at h
      have h' := beq_eq_false_iff_ne.mp h
      have hex : ∃ p ∈ points, ¬ p < q.2 := by
        refine Classical.byContradiction fun hno => h' ?_
        have : points.countP (fun y => decide (y < q.2)) = points.length := by
          rw [List.countP_eq_length]; intro p hp
          refine decide_eq_true (Classical.byContradiction fun h => hno ⟨p, hp, h⟩)
        omega
      refine xs_nil (xs_nil ⟨points, vs, ap, e1, e2, e3, e4, e5, e6, e7, ?_, by omega, by walk_at "loc", by walk_at "loc", by walk_at "loc"⟩)
      rw [take_snoc hq']
      exact greedy_pass e8 (take_before hsrt hq') hex
  rintro ρ' H' ⟨points, vs, ap, e1, e2, e3, e4, e5, e6, e7, e8, e9, q1, q2, q3⟩
  dsimp only
  rw [hbl, List.take_length] at e8
  have hvl := e7.len
  have hpl : ap.length = points.length := by rw [← e8.mp]; simp
  have hpn : points.length ≤ 63 := by omega
  -- every stretch has a point
  refine xs_cons (ex_for ?_)
  refine itr_list ok.hand (PV.ev (v := .ref S) (by walk_at "pv") ⟨S, refs as, _, rfl, e1, ?_⟩)
  rw [refs_len]
  refine ⟨fun i ρ' H' => H' S = some (.list (refs as), true) ∧ H' U = some (.list (zs points), true) ∧ H' V = some (.list (refs vs), true) ∧ PairsAt H' as ps ∧ PairsAt H' vs ap ∧
    ρ' "stretches" = some (.ref S) ∧ ρ' "points" = some (.ref U) ∧ ρ' "apart" = some (.ref V),
    ⟨e1, e3, e4, e5, e7, q1, q2, q3⟩, fun i ρ' H' ⟨h, _⟩ => ⟨_, h⟩, ?_, ?_⟩
  · rintro i ρ' H' hi ⟨f1, f3, f4, f5, f7, q1, q2, q3⟩
    have hip : i < ps.length := by omega
    obtain ⟨b, fb, hb, hHb⟩ := f5.get hip
    obtain ⟨q, hq⟩ : ∃ q, ps[i] = q := ⟨_, rfl⟩
    rw [hq] at hHb
    have hqm : q ∈ qs := hperm.mem_iff.mpr (by rw [← hq]; exact List.getElem_mem hip)
    dsimp only
    rw [show (refs as).getD i AV.none = .ref b by rw [List.getD_eq_getElem?_getD, refs_get hb]; rfl]
    refine asg_two ok (.inl hHb) (asg_name ok (by walk_at "st") (asg_name ok (by walk_at "st") ?_)) rfl
    have s1 : ((ρ'.set "end" (.int q.1)).set "start" (.int q.2)) "end" = some (.int q.1) := by walk_at "loc"
    have s2 : ((ρ'.set "end" (.int q.1)).set "start" (.int q.2)) "start" = some (.int q.2) := by walk_at "loc"
    have s3 : ((ρ'.set "end" (.int q.1)).set "start" (.int q.2)) "points" = some (.ref U) := by walk_at "loc"
    have s4 : ((ρ'.set "end" (.int q.1)).set "start" (.int q.2)) "stretches" = some (.ref S) := by walk_at "loc"
    have s5 : ((ρ'.set "end" (.int q.1)).set "start" (.int q.2)) "apart" = some (.ref V) := by walk_at "loc"
    generalize (ρ'.set "end" (.int q.1)).set "start" (.int q.2) = ρ2 at s1 s2 s3 s4 s5 ⊢
    refine xs_cons (ex_if (tv_eqL ok (ev_comp ok (compOk_of hk (by decide +kernel)) (by decide +kernel) ?_)))
    refine itr_list ok.hand (PV.ev (v := .ref U) (by walk_at "pv") ⟨U, _, _, rfl, f3, ?_⟩)
    rw [zs_len]
    refine ⟨by omega, fun t ys H'' => H'' = H' ∧ ys = zs ((points.take t).filter fun p => decide (q.2 ≤ p) && decide (p ≤ q.1)), ⟨rfl, by simp [zs]⟩, fun _ _ _ h => by rw [h.1]; exact ⟨_, f3⟩, ?_, ?_⟩
    · rintro C t ys H'' ht ⟨rfl, rfl⟩ ok'
      obtain ⟨p, hp⟩ : ∃ p, points[t]? = some p := ⟨_, List.getElem?_eq_getElem ht⟩
      dsimp only
      rw [show (zs points).getD t AV.none = .int p by rw [List.getD_eq_getElem?_getD, zs_get hp]; rfl]
      refine ifs_one (tv_chain (PV.ev (v := .int q.2) (by walk_at "pv") (PV.ev (v := .int p) (by walk_at "pv") ⟨_, _, _, rfl, rfl, rfl, ?_⟩)))
      rw [take_snoc hp, List.filter_append]
      by_cases h1 : q.2 ≤ p
      · rw [decide_eq_true h1, if_pos rfl]
        refine PV.ev (v := .int q.1) (by walk_at "pv") ⟨_, _, rfl, rfl, ?_⟩
        by_cases h2 : p ≤ q.1
        · rw [decide_eq_true h2, if_pos rfl]
          refine PV.ev (v := .int p) (by walk_at "pv") ⟨rfl, ?_⟩
          simp [zs, h1, h2]
        · rw [decide_eq_false h2, if_neg (by decide)]
          refine ⟨rfl, ?_⟩
          simp [zs, h1, h2]
      · rw [decide_eq_false h1, if_neg (by decide), if_neg (by decide)]
        refine ⟨rfl, ?_⟩
        simp [zs, h1]
    · rintro ys H'' ⟨rfl, rfl⟩ D hD
      refine ev_list (PS.es ps_nil ⟨by decide, fun D2 hD2 => ?_⟩)
      refine ⟨D, D2, _, [], _, _, rfl, rfl, keepH Hp.set_same hD2, Hp.set_same, ?_⟩
      have hne : ¬ (((points.take points.length).filter fun p => decide (q.2 ≤ p) && decide (p ≤ q.1)) = []) := by
        rw [List.take_length]
        obtain ⟨p, h1, h2, h3⟩ := e8.hit q hqm
        intro h
        have : p ∈ points.filter fun p => decide (q.2 ≤ p) && decide (p ≤ q.1) := List.mem_filter.mpr ⟨h1, by simp [h2, h3]⟩
        rw [h] at this; cases this
      rw [decide_eq_false hne, if_neg (by decide)]
      refine xs_nil (xs_nil ⟨keepH (keepH f1 hD) hD2, keepH (keepH f3 hD) hD2, keepH (keepH f4 hD) hD2, (f5.new hD).new hD2, (f7.new hD).new hD2, s4, s3, s5⟩)
  rintro ρ' H' ⟨f1, f3, f4, f5, f7, q1, q2, q3⟩
  dsimp only
  -- they lie apart
  refine xs_cons (ex_for ?_)
  refine itr_range2 ok (by walk_at "kd") g_rng (by walk_at "pv") (by walk_at "pv") (by omega) (by rw [refs_len]; omega) ?_
  rw [refs_len]
  refine ⟨fun i ρ' H' => H' U = some (.list (zs points), true) ∧ H' V = some (.list (refs vs), true) ∧ PairsAt H' vs ap ∧ ρ' "points" = some (.ref U) ∧ ρ' "apart" = some (.ref V),
    ⟨f3, f4, f7, q2, q3⟩, fun _ _ _ _ => trivial, ?_, ?_⟩
  · rintro i ρ' H' hi ⟨g3, g4, g7, q2, q3⟩
    refine asg_name ok (by walk_at "st") ?_
    dsimp only
    have h1 : i + 1 < ap.length := by omega
    obtain ⟨a, fa, ha, hHa⟩ := g7.get (j := i) (by omega)
    obtain ⟨b, fb, hb, hHb⟩ := g7.get (j := i + 1) h1
    have hsep := e8.sep i ap[i] ap[i + 1] (List.getElem?_eq_getElem (by omega)) (List.getElem?_eq_getElem h1)
    refine xs_cons (ex_ifp (pt_not (pt_cmp (pv_lt (pv_itemT (l := a) (pv_row (k := i) (by walk_at "pv") ?_ g4 (by omega) ha) (by walk_at "pv") hHa (by simp) (by decide) rfl) (pv_itemT (l := b) (pv_row (k := i + 1) (by walk_at "pv") ?_ g4 (by omega) hb) (by walk_at "pv") hHb (by simp) (by decide) rfl)))) (fun h => ?_) fun h => ?_)
    · exact pv_to (i := (1 + (i : Int)) - 1) (by walk_at "pv") (by omega)
    · exact pv_to (i := 1 + (i : Int)) (by walk_at "pv") (by omega)
    · rw [decide_eq_true hsep] at h; cases h
    · refine xs_nil (xs_nil ⟨g3, g4, g7, by walk_at "loc", by walk_at "loc"⟩)
  rintro ρ' H' ⟨g3, g4, g7, q2, q3⟩
  dsimp only
  refine xs_cons (ex_returnp (by walk_at "pv") ?_)
  rw [zs_len, refs_len, hvl, hpl]
  simp

end Mine

set_option maxRecDepth 100000 in
set_option maxHeartbeats 8000000 in
theorem PySem.Challenge.cw_da0001_08_holds : PySem.Challenge.rw_da0001_08.Holds := by
  w_on
  o_law
  k_head
  (case hw => w_witness2)
  k_fill
  intro w s₀ s₁ mg mb G Y fa o pm cd doc dV kV ho hd hcd hD hmg hg args vals as hpre hlay hrd hwl hlo
  have KX := kIn_of Y
  refine Ground.open G ?_
  intro T B D TE TW
  clear hmg
  wrow_args hpre hlay hrd hwl hlo
  first | refine callC_kw (enter_call ?_) | refine enter_call ?_ | refine callC_kw (enter_callW ?_) | refine enter_callW ?_ | w_how
  try refine codeAny_mono ?_ (fun _ _ g => GoodW.toG g)
  have he := Dflts.none hD rfl; subst he; have he := Dflts.noKw hD; subst he
  rename IntsAre _ _ => hI
  rename Heap.IsList _ _ _ => hL
  rename (¬ (_ < _)) => hlen
  refine Mine.law_enter ho (fd_plain hd) T KX hcd hL hI rfl (by decide +kernel) (by decide +kernel) (by decide +kernel) rfl rfl rfl (fun c ok okc hK hs own => ?_) (fun s' m F sm => ?_)
  · refine Mine.law_main ok okc hs own (by omega) ?_
    rw [hK]
    exact ⟨rfl, rfl, rfl, rfl, rfl, ⟨_, _, _, _, _, _, _, _, _, _, _, ⟨⟨rfl, rfl, rfl⟩, fun _ _ => ⟨_, fun s X => kp_binds X (fun S => rfl)⟩, fun _ _ _ _ s X => kp_binds X (fun S => rfl)⟩⟩⟩
  · obtain ⟨h, tk, rfl⟩ := sm
    exact goodW_bool F hg (raisesW_false (by intro ct h; cases h)) (postW_of rfl rfl (by decide +kernel)) rfl

