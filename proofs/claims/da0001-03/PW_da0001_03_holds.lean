import PyProof.Rows.All
import Wide.All
import OpenK.AllK
import Wide.FinOn
import PySem.Challenge.RW_da0001_03
open PySem PySem.W PySem.Calls PyProof.Rows
set_option Elab.async false
set_option maxRecDepth 100000
set_option linter.all false
set_option linter.unusedVariables false
set_option linter.unusedSimpArgs false
set_option maxHeartbeats 2000000
namespace Mine
/-- values without their tokens -/
inductive AV where
  | int (i : Int) | bool (b : Bool) | none | ref (a : Addr) | bi (id : String) | ty (n : String) | oth
def abs : Value → AV
  | .int i _ => .int i
  | .bool b => .bool b
  | .none => .none
  | .ref a => .ref a
  | .builtin i => .bi i
  | .type n => .ty n
  | _ => .oth
theorem abs_int {y : Value} {i : Int} (h : abs y = .int i) : ∃ t, y = .int i t := by
  cases y <;> simp [abs] at h; subst h; exact ⟨_, rfl⟩
theorem abs_bool {y : Value} {b : Bool} (h : abs y = .bool b) : y = .bool b := by
  cases y <;> simp [abs] at h; subst h; rfl
theorem abs_none {y : Value} (h : abs y = .none) : y = .none := by
  cases y <;> simp [abs] at h; rfl
theorem abs_ref {y : Value} {a : Addr} (h : abs y = .ref a) : y = .ref a := by
  cases y <;> simp [abs] at h; subst h; rfl
abbrev Loc := Str → Option AV
def Loc.set (ρ : Loc) (x : Str) (v : AV) : Loc := fun y => if y = x then some v else ρ y
/-- what an object holds -/
inductive AObj where
  | list (xs : List AV)
  | tup (xs : List AV)
  | dict (es : List (AV × AV))
  | raw (ob : Obj)
abbrev Hp := Addr → Option (AObj × Bool)
def Hp.set (H : Hp) (a : Addr) (o : AObj) : Hp := fun b => if b = a then some (o, true) else H b
def ORep (o : AObj) (own : Bool) (ob : Obj) : Prop := match o with
  | .list xs => ∃ its n, ob.cls = .type "list" ∧ ob.data = .seq its n ∧ its.toList.map abs = xs ∧ (own = true → ob = { cls := .type "list", data := .seq its n })
  | .tup xs => ∃ its n, ob.cls = .type "tuple" ∧ ob.data = .seq its n ∧ its.toList.map abs = xs ∧ (own = true → ob = { cls := .type "tuple", data := .seq its n })
  | .dict es => ∃ en n, ob = { cls := .type "dict", data := .dict en n } ∧ en.toList.map (fun e => (abs e.key, abs e.val)) = es
  | .raw o => ob = o
def AObj.plain : AObj → Bool
  | .raw _ => false
  | _ => true
theorem ORep.not_cell {o : AObj} {own : Bool} {ob : Obj} (h : ORep o own ob) (hp : o.plain = true) (v : Option Value) : ob.data ≠ .cell v := by
  cases o with
  | list xs => obtain ⟨its, n, _, hd, _⟩ := h; rw [hd]; exact nofun
  | tup xs => obtain ⟨its, n, _, hd, _⟩ := h; rw [hd]; exact nofun
  | dict es => obtain ⟨en, n, he, _⟩ := h; rw [he]; exact nofun
  | raw o => exact absurd hp (by simp [AObj.plain])
structure Cx where
  prog : Program
  w : World
  A : Around
  env : Env
  h₀ : Heap
  own : Bool
  K : Frag
abbrev Cx.L (c : Cx) : Addr := c.env.locals
abbrev Cx.M (c : Cx) : Model := model c.prog c.w
def HasP (c : Cx) (a : Addr) (o : AObj) (b : Bool) (h : Heap) : Prop :=
  ∃ ob, h.get? a = some ob ∧ ORep o b ob ∧ (b = true → a ≠ c.L ∧ c.h₀.get? a = none) ∧ (b = false → c.h₀.get? a = some ob)
def Has (c : Cx) (H : Hp) (h : Heap) : Prop := ∀ a o b, H a = some (o, b) → HasP c a o b h
def cellKind (env : Env) (x : Str) : Prop := env.kindOf x = some .cell ∨ env.kindOf x = some .free
structure St (c : Cx) (ρ : Loc) (H F : Hp) (s : Shared) : Prop where
  ns : ∃ m, s.heap.Ns c.L m ∧ ∀ x v, ρ x = some v → c.env.kindOf x = some .local → ∃ y, m x = some y ∧ abs y = v
  cel : ∀ x a, c.env.cells.lookup x = some a → ∃ ob o, s.heap.get? a = some ob ∧ ob.data = .cell o ∧ a ≠ c.L ∧ (c.h₀.get? a = none ∨ c.h₀.get? a = some ob) ∧
    H a = none ∧ (c.own = true → c.h₀.get? a = none ∧ F a = none) ∧ ∀ v, ρ x = some v → cellKind c.env x → ∃ y, o = some y ∧ abs y = v
  keep : ∀ b o, c.h₀.get? b = some o → s.heap.get? b = some o
  above : c.h₀.objs.size ≤ c.L
  has : Has c H s.heap
  hasF : Has c F s.heap
  dis : ∀ a, H a ≠ none → F a = none
def Same (s s' : Shared) : Prop := ∃ h tk, s' = { s with heap := h, toks := tk }
theorem Same.refl (s : Shared) : Same s s := ⟨s.heap, s.toks, rfl⟩
theorem Same.trans {s s₁ s₂ : Shared} (h : Same s s₁) (h' : Same s₁ s₂) : Same s s₂ := by
  obtain ⟨a, b, rfl⟩ := h; obtain ⟨d, e, rfl⟩ := h'; exact ⟨d, e, rfl⟩
/-- from one moment to a later one: the world's rest is the same, and nothing new is known of what may not change -/
structure Stp (s : Shared) (H : Hp) (s' : Shared) (H' : Hp) : Prop where
  same : Same s s'
  fz : ∀ a o, H' a = some (o, false) → H a = some (o, false)
theorem Stp.refl (s : Shared) {H : Hp} : Stp s H s H := ⟨.refl s, fun _ _ e => e⟩
theorem Stp.trans {s s₁ s₂ : Shared} {H H₁ H₂ : Hp} (h : Stp s H s₁ H₁) (h' : Stp s₁ H₁ s₂ H₂) : Stp s H s₂ H₂ := ⟨h.same.trans h'.same, fun a o e => h.fz a o (h'.fz a o e)⟩
theorem Stp.mem (s : Shared) (h : Heap) (tk : Nat) {H : Hp} : Stp s H { s with heap := h, toks := tk } H := ⟨⟨h, tk, rfl⟩, fun _ _ e => e⟩
theorem Stp.set (s : Shared) (h : Heap) (tk : Nat) {H : Hp} {a : Addr} {o : AObj} : Stp s H { s with heap := h, toks := tk } (H.set a o) := ⟨⟨h, tk, rfl⟩, fun b o' e => by
  simp only [Hp.set] at e; split at e
  · cases e
  · exact e⟩
/-- a triple: from locals ρ and objects H the tree ends, no exception, in Φ -/
def Tri {α : Type} (c : Cx) (ρ : Loc) (H : Hp) (t : Sem α) (Φ : α → Loc → Hp → Prop) : Prop :=
  ∀ F s, St c ρ H F s → wpAny c.M c.A t (fun a s' => ∃ ρ' H', Stp s H s' H' ∧ St c ρ' H' F s' ∧ Φ a ρ' H') (fun _ _ => False) s
theorem Tri.mono {α : Type} {c : Cx} {ρ : Loc} {H : Hp} {t : Sem α} {Φ Ψ : α → Loc → Hp → Prop} (h : Tri c ρ H t Φ) (hi : ∀ a ρ' H', Φ a ρ' H' → Ψ a ρ' H') : Tri c ρ H t Ψ :=
  fun F s st => wpAny_mono (h F s st) (fun a s' ⟨ρ', H', sm, st', p⟩ => ⟨ρ', H', sm, st', hi _ _ _ p⟩) fun _ _ x => x
theorem Tri.pure {α : Type} {c : Cx} {ρ : Loc} {H : Hp} {a : α} {Φ : α → Loc → Hp → Prop} (h : Φ a ρ H) : Tri c ρ H (Pure.pure a) Φ :=
  fun _ s st => wpAny_pure ⟨ρ, H, .refl s, st, h⟩
/-- use: a triple in the place of a wpAny with a post of its own -/
theorem Tri.use {α : Type} {c : Cx} {ρ : Loc} {H F : Hp} {t : Sem α} {Φ : α → Loc → Hp → Prop} {s : Shared} {Q : α → Shared → Prop} {E : Value → Shared → Prop}
    (h : Tri c ρ H t Φ) (st : St c ρ H F s) (k : ∀ a s' ρ' H', Stp s H s' H' → St c ρ' H' F s' → Φ a ρ' H' → Q a s') : wpAny c.M c.A t Q E s :=
  wpAny_mono (h F s st) (fun a s' ⟨ρ', H', sm, st', p⟩ => k a s' ρ' H' sm st' p) fun _ _ x => x.elim
theorem HasP.keeps {c : Cx} {a : Addr} {o : AObj} {b : Bool} {h h' : Heap} (x : HasP c a o b h) (hk : ∀ o, a ≠ c.L → h.get? a = some o → h'.get? a = some o) (hab : c.h₀.objs.size ≤ c.L) : HasP c a o b h' := by
  obtain ⟨ob, ho, hr, h1, h2⟩ := x
  refine ⟨ob, hk ob ?_ ho, hr, h1, h2⟩
  cases b with
  | true => exact (h1 rfl).1
  | false => intro e; have := Heap.lt_size (h2 rfl); rw [e] at this; exact absurd this (Nat.not_lt_of_le hab)
/-- everything but the frame's own names stays; the names are the same -/
theorem St.keeps {c : Cx} {ρ : Loc} {H F : Hp} {s : Shared} {h' : Heap} {tk : Nat} (st : St c ρ H F s) (hk : ∀ b o, b ≠ c.L → s.heap.get? b = some o → h'.get? b = some o)
    (hn : ∀ m, s.heap.Ns c.L m → h'.Ns c.L m) : St c ρ H F { s with heap := h', toks := tk } := by
  obtain ⟨⟨m, hm, hv⟩, hc, hkp, hab, hh, hf, hd⟩ := st
  refine ⟨⟨m, hn m hm, hv⟩, fun x a e => ?_, fun b o e => hk b o ?_ (hkp b o e), hab, fun a o b e => (hh a o b e).keeps (fun o' n e' => hk a o' n e') hab, fun a o b e => (hf a o b e).keeps (fun o' n e' => hk a o' n e') hab, hd⟩
  · obtain ⟨ob, o, g, d, ne, r⟩ := hc x a e
    exact ⟨ob, o, hk a ob ne g, d, ne, r⟩
  · intro e'; have := Heap.lt_size e; rw [e'] at this; exact absurd this (Nat.not_lt_of_le hab)
theorem St.toks {c : Cx} {ρ : Loc} {H F : Hp} {s : Shared} {tk : Nat} (st : St c ρ H F s) : St c ρ H F { s with toks := tk } :=
  st.keeps (h' := s.heap) (fun _ _ _ e => e) fun _ e => e
theorem St.keepsAll {c : Cx} {ρ : Loc} {H F : Hp} {s : Shared} {h' : Heap} {tk : Nat} (st : St c ρ H F s) (hk : ∀ b o, s.heap.get? b = some o → h'.get? b = some o) : St c ρ H F { s with heap := h', toks := tk } :=
  st.keeps (fun b o _ e => hk b o e) fun _ hn => hn.keeps hk
theorem St.fresh {c : Cx} {ρ : Loc} {H F : Hp} {s : Shared} {a : Addr} (st : St c ρ H F s) (ha : s.heap.get? a = none) : H a = none ∧ F a = none := by
  constructor
  · cases e : H a with
    | none => rfl
    | some p => obtain ⟨ob, g, _⟩ := st.has a p.1 p.2 e; rw [ha] at g; cases g
  · cases e : F a with
    | none => rfl
    | some p => obtain ⟨ob, g, _⟩ := st.hasF a p.1 p.2 e; rw [ha] at g; cases g
theorem St.Llt {c : Cx} {ρ : Loc} {H F : Hp} {s : Shared} (st : St c ρ H F s) : c.L < s.heap.objs.size := by
  obtain ⟨m, hm, _⟩ := st.ns; exact hm.lt
/-- a new object of the call -/
theorem St.alloc {c : Cx} {ρ : Loc} {H F : Hp} {s : Shared} {h' : Heap} {tk : Nat} {a : Addr} {ob : Obj} {o : AObj} (st : St c ρ H F s) (ha : s.heap.get? a = none) (hk : ∀ b o, s.heap.get? b = some o → h'.get? b = some o)
    (ho : h'.get? a = some ob) (hr : ORep o true ob) : St c ρ (H.set a o) F { s with heap := h', toks := tk } := by
  have st' := st.keepsAll (tk := tk) hk
  have hfr := st.fresh ha
  have hL : a ≠ c.L := by
    intro e; obtain ⟨m, ⟨o', es, ep, ho', _⟩, _⟩ := st.ns; rw [← e, ha] at ho'; cases ho'
  have h0 : c.h₀.get? a = none := by
    cases e : c.h₀.get? a with
    | none => rfl
    | some p => have := st.keep a p e; rw [ha] at this; cases this
  refine ⟨st'.ns, fun x b e => ?_, st'.keep, st'.above, fun b o' fl e => ?_, st'.hasF, fun b hb => ?_⟩
  · obtain ⟨ob', o', g, d, ne, r1, r0, r2, r3⟩ := st.cel x b e
    refine ⟨ob', o', hk b ob' g, d, ne, r1, ?_, r2, r3⟩
    have : b ≠ a := by intro q; rw [q, ha] at g; cases g
    simp only [Hp.set, if_neg this]; exact r0
  · by_cases q : b = a
    · subst q; simp only [Hp.set, if_pos rfl] at e; cases e
      exact ⟨ob, ho, hr, fun _ => ⟨hL, h0⟩, fun x => by cases x⟩
    · simp only [Hp.set, if_neg q] at e; exact st'.has b o' fl e
  · by_cases q : b = a
    · subst q; exact hfr.2
    · simp only [Hp.set, if_neg q] at hb; exact st.dis b hb
/-- an object of the call's own is changed -/
theorem St.upd {c : Cx} {ρ : Loc} {H F : Hp} {s : Shared} {h' : Heap} {tk : Nat} {a : Addr} {ob' : Obj} {o o' : AObj} (st : St c ρ H F s) (ha : H a = some (o, true)) (hp : o.plain = true) (hs : Heap.SameBut a s.heap h')
    (ho : h'.get? a = some ob') (hr : ORep o' true ob') : St c ρ (H.set a o') F { s with heap := h', toks := tk } := by
  obtain ⟨ob, hob, hrep, hown, _⟩ := st.has a o true ha
  obtain ⟨hL, h0⟩ := hown rfl
  obtain ⟨m, hm, hv⟩ := st.ns
  have hFa : F a = none := st.dis a (by rw [ha]; exact nofun)
  refine ⟨⟨m, hm.extBut hs.extBut (Ne.symm hL), hv⟩, fun x b e => ?_, fun b o e => hs.extBut b o (fun q => by rw [q, h0] at e; cases e) (st.keep b o e), st.above, fun b o₁ fl e => ?_, fun b o₁ fl e => ?_, fun b hb => ?_⟩
  · obtain ⟨ob₁, o₁, g, d, ne, r1, r0, r2, r3⟩ := st.cel x b e
    have hne : b ≠ a := by
      intro q; rw [q, ha] at r0; cases r0
    refine ⟨ob₁, o₁, hs.extBut b ob₁ hne g, d, ne, r1, ?_, r2, r3⟩
    simp only [Hp.set, if_neg hne]; exact r0
  · by_cases q : b = a
    · subst q; simp only [Hp.set, if_pos rfl] at e; cases e
      exact ⟨ob', ho, hr, fun _ => ⟨hL, h0⟩, fun x => by cases x⟩
    · simp only [Hp.set, if_neg q] at e
      exact (st.has b o₁ fl e).keeps (fun o₂ _ e' => hs.extBut b o₂ q e') st.above
  · have q : b ≠ a := by intro q; rw [q, hFa] at e; cases e
    exact (st.hasF b o₁ fl e).keeps (fun o₂ _ e' => hs.extBut b o₂ q e') st.above
  · by_cases q : b = a
    · subst q; exact hFa
    · simp only [Hp.set, if_neg q] at hb; exact st.dis b hb
/-- every object that is not of the base nor the frame's -/
def allNews (h₀ : Heap) (L : Addr) (h : Heap) : List (Addr × Obj) :=
  (List.range h.objs.size).filterMap fun a => if a = L then none else match h₀.get? a, h.get? a with
    | none, some o => some (a, o)
    | _, _ => none
theorem mem_allNews {h₀ h : Heap} {L a : Addr} {o : Obj} : (a, o) ∈ allNews h₀ L h ↔ a ≠ L ∧ h₀.get? a = none ∧ h.get? a = some o := by
  unfold allNews
  rw [List.mem_filterMap]
  constructor
  · rintro ⟨b, _, e⟩
    split at e
    · cases e
    · rename_i hne
      split at e
      · rename_i x y; cases e; exact ⟨hne, x, y⟩
      · cases e
  · rintro ⟨h1, h2, h3⟩
    exact ⟨a, List.mem_range.mpr (Heap.lt_size h3), by rw [if_neg h1, h2, h3]⟩
theorem allNews_news {h₀ h : Heap} {L : Addr} : News h₀ L h (allNews h₀ L h) := fun p hp => by
  obtain ⟨a, o⟩ := p
  obtain ⟨h1, h2, h3⟩ := mem_allNews.mp hp
  exact ⟨h3, h1, h2⟩
theorem St.fr {c : Cx} {ρ : Loc} {H F : Hp} {s : Shared} (st : St c ρ H F s) : ∃ m, Fr c.h₀ c.L s.heap m ∧ ∀ x v, ρ x = some v → c.env.kindOf x = some .local → ∃ y, m x = some y ∧ abs y = v := by
  obtain ⟨m, hm, hv⟩ := st.ns; exact ⟨m, ⟨hm, st.keep, st.above⟩, hv⟩
theorem kept_of_news {h₀ h h' : Heap} {L : Addr} {m m' : Str → Option Value} (F : Fr h₀ L h m) (F' : Fr h₀ L h' m') (N' : News h₀ L h' (allNews h₀ L h)) : ∀ b o, b ≠ L → h.get? b = some o → h'.get? b = some o := by
  intro b o hb e
  cases e0 : h₀.get? b with
  | none => exact (N' _ (mem_allNews.mpr ⟨hb, e0, e⟩)).1
  | some o' => have := F.keep b o' e0; rw [e] at this; cases this; exact F'.keep b o e0
/-- the library's rules upon a frame and a ledger that they leave as they are -/
theorem St.via {c : Cx} {ρ : Loc} {H F : Hp} {s : Shared} (st : St c ρ H F s) : ∃ m, Fr c.h₀ c.L s.heap m ∧ News c.h₀ c.L s.heap (allNews c.h₀ c.L s.heap) ∧
    ∀ h' tk, Fr c.h₀ c.L h' m → News c.h₀ c.L h' (allNews c.h₀ c.L s.heap) → St c ρ H F { s with heap := h', toks := tk } := by
  obtain ⟨m, hm, hv⟩ := st.fr
  refine ⟨m, hm, allNews_news, fun h' tk F' N' => ?_⟩
  have hk := kept_of_news hm F' N'
  have st' := st.keeps (h' := h') (tk := tk) (fun b o hb e => hk b o hb e)
  obtain ⟨m₁, hm₁, _⟩ := st.ns
  refine ⟨⟨m, F'.ns, hv⟩, fun x a e => ?_, F'.keep, st.above, fun a o b e => (st.has a o b e).keeps (fun o' n e' => hk a o' n e') st.above, fun a o b e => (st.hasF a o b e).keeps (fun o' n e' => hk a o' n e') st.above, st.dis⟩
  obtain ⟨ob, o, g, d, ne, r⟩ := st.cel x a e
  exact ⟨ob, o, hk a ob ne g, d, ne, r⟩
def gl (K : Frag) (x : Str) : Option Value := match nsIn K mainGlobals x with
  | some (some v) => some v
  | some none => bootBuiltins x
  | none => none
structure Ok (c : Cx) : Prop where
  kin : c.K.In c.h₀
  top : ∃ p loose mean mg mb, Top p loose mean mg mb c.h₀
  kind : c.env.scope.kind = .function
  glob : c.env.globals = mainGlobals
  blt : c.env.builtins = builtinsNs
  hand : c.A.handled = none
  depth : c.A.depth < 900
  units : c.A.units < 500
  cells : ∀ x, cellKind c.env x → ∃ a, c.env.cells.lookup x = some a
  inj : c.own = true → ∀ x y a, c.env.cells.lookup x = some a → c.env.cells.lookup y = some a → x = y
def EV (c : Cx) (ρ : Loc) (H : Hp) (e : Expr) (Φ : AV → Hp → Prop) : Prop := Tri c ρ H (eval e c.env) fun y ρ' H' => ρ' = ρ ∧ Φ (abs y) H'
def PV (c : Cx) (ρ : Loc) (H : Hp) (e : Expr) (v : AV) : Prop := EV c ρ H e fun v' H' => v' = v ∧ H' = H
def TV (c : Cx) (ρ : Loc) (H : Hp) (e : Expr) (Φ : Bool → Hp → Prop) : Prop := Tri c ρ H (isTrue e c.env (eval e c.env)) fun b ρ' H' => ρ' = ρ ∧ Φ b H'
def PT (c : Cx) (ρ : Loc) (H : Hp) (e : Expr) (b : Bool) : Prop := TV c ρ H e fun b' H' => b' = b ∧ H' = H
/-- an operation upon values known by what they hold -/
def OV (c : Cx) (ρ : Loc) (H : Hp) (t : Sem Value) (Φ : AV → Hp → Prop) : Prop := Tri c ρ H t fun y ρ' H' => ρ' = ρ ∧ Φ (abs y) H'
inductive AF where
  | next | brk | cont | ret (v : AV)
def absF : Flow → AF
  | .next => .next
  | .brk => .brk
  | .cont => .cont
  | .ret v => .ret (abs v)
def EX (c : Cx) (ρ : Loc) (H : Hp) (e : Stmt) (Φ : AF → Loc → Hp → Prop) : Prop := Tri c ρ H (exec e c.env) fun y ρ' H' => Φ (absF y) ρ' H'
def XS (c : Cx) (ρ : Loc) (H : Hp) (e : List Stmt) (Φ : AF → Loc → Hp → Prop) : Prop := Tri c ρ H (execs e c.env) fun y ρ' H' => Φ (absF y) ρ' H'
section
variable {c : Cx} {ρ : Loc} {H : Hp}
theorem EV.mono {e : Expr} {Φ Ψ : AV → Hp → Prop} (h : EV c ρ H e Φ) (hi : ∀ v H', Φ v H' → Ψ v H') : EV c ρ H e Ψ := Tri.mono h fun _ _ _ ⟨a, b⟩ => ⟨a, hi _ _ b⟩
theorem TV.mono {e : Expr} {Φ Ψ : Bool → Hp → Prop} (h : TV c ρ H e Φ) (hi : ∀ v H', Φ v H' → Ψ v H') : TV c ρ H e Ψ := Tri.mono h fun _ _ _ ⟨a, b⟩ => ⟨a, hi _ _ b⟩
theorem OV.mono {e : Sem Value} {Φ Ψ : AV → Hp → Prop} (h : OV c ρ H e Φ) (hi : ∀ v H', Φ v H' → Ψ v H') : OV c ρ H e Ψ := Tri.mono h fun _ _ _ ⟨a, b⟩ => ⟨a, hi _ _ b⟩
theorem EX.mono {e : Stmt} {Φ Ψ : AF → Loc → Hp → Prop} (h : EX c ρ H e Φ) (hi : ∀ v ρ' H', Φ v ρ' H' → Ψ v ρ' H') : EX c ρ H e Ψ := Tri.mono h fun _ _ _ b => hi _ _ _ b
theorem XS.mono {e : List Stmt} {Φ Ψ : AF → Loc → Hp → Prop} (h : XS c ρ H e Φ) (hi : ∀ v ρ' H', Φ v ρ' H' → Ψ v ρ' H') : XS c ρ H e Ψ := Tri.mono h fun _ _ _ b => hi _ _ _ b
theorem PV.ev {e : Expr} {v : AV} {Φ : AV → Hp → Prop} (h : PV c ρ H e v) (hi : Φ v H) : EV c ρ H e Φ := EV.mono h fun _ _ ⟨a, b⟩ => by subst a b; exact hi
theorem PT.tv {e : Expr} {v : Bool} {Φ : Bool → Hp → Prop} (h : PT c ρ H e v) (hi : Φ v H) : TV c ρ H e Φ := TV.mono h fun _ _ ⟨a, b⟩ => by subst a b; exact hi
/-- from a rule of the library with a post of one's own -/
theorem Tri.of {α : Type} {t : Sem α} {Φ : α → Loc → Hp → Prop}
    (h : ∀ F s (Q : α → Shared → Prop), St c ρ H F s → (∀ a s' ρ' H', Stp s H s' H' → St c ρ' H' F s' → Φ a ρ' H' → Q a s') → wpAny c.M c.A t Q (fun _ _ => False) s) : Tri c ρ H t Φ :=
  fun F s st => h F s _ st fun a s' ρ' H' sm st' p => ⟨ρ', H', sm, st', p⟩
theorem pv_int {i : Int} {k pos} : PV c ρ H (.Constant (.int i) k pos) (.int i) :=
  Tri.of fun F s Q st k => wpAny_Constant_int (k _ _ ρ H (.mem s s.heap _) st.toks ⟨rfl, rfl, rfl⟩)
theorem pv_none {k pos} : PV c ρ H (.Constant .none k pos) .none :=
  Tri.of fun F s Q st k => wpAny_Constant_none (k _ _ ρ H (.refl s) st ⟨rfl, rfl, rfl⟩)
theorem pv_bool {b k pos} : PV c ρ H (.Constant (.bool b) k pos) (.bool b) :=
  Tri.of fun F s Q st k => wpAny_Constant_bool (k _ _ ρ H (.refl s) st ⟨rfl, rfl, rfl⟩)
theorem pv_local {x : Str} {pos : Pos} {v : AV} (ok : Ok c) (hl : c.env.kindOf x = some .local) (hv : ρ x = some v) (hd : (x == ("__debug__" : Str)) = false := by decide +kernel) : PV c ρ H (.Name x pos) v :=
  Tri.of fun F s Q st k => by
    obtain ⟨m, hm, hr⟩ := st.ns
    obtain ⟨y, hy, e⟩ := hr x v hv hl
    exact wpAny_Name (wpAny_loadName_local ok.kind hl hm hy (k _ _ ρ H (.refl s) st ⟨rfl, e, rfl⟩)) hd
theorem pv_cell {x : Str} {pos : Pos} {v : AV} (ok : Ok c) (hl : c.env.kindOf x = some .cell) (hv : ρ x = some v) (hd : (x == ("__debug__" : Str)) = false := by decide +kernel) : PV c ρ H (.Name x pos) v :=
  Tri.of fun F s Q st k => by
    obtain ⟨a, hc⟩ := ok.cells x (.inl hl)
    obtain ⟨ob, o, g, d, _, _, _, _, r⟩ := st.cel x a hc
    obtain ⟨y, rfl, e⟩ := r v hv (.inl hl)
    exact wpAny_Name (wpAny_loadName_cell ok.kind hl hc ⟨ob, g, d⟩ (k _ _ ρ H (.refl s) st ⟨rfl, e, rfl⟩)) hd
theorem pv_free {x : Str} {pos : Pos} {v : AV} (ok : Ok c) (hl : c.env.kindOf x = some .free) (hv : ρ x = some v) (hd : (x == ("__debug__" : Str)) = false := by decide +kernel)
    (hn : (x == ("__classdict__" : Str)) = false := by decide +kernel) : PV c ρ H (.Name x pos) v :=
  Tri.of fun F s Q st k => by
    obtain ⟨a, hc⟩ := ok.cells x (.inr hl)
    obtain ⟨ob, o, g, d, _, _, _, _, r⟩ := st.cel x a hc
    obtain ⟨y, rfl, e⟩ := r v hv (.inr hl)
    exact wpAny_Name (wpAny_loadName_free ok.kind hl hc ⟨ob, g, d⟩ (k _ _ ρ H (.refl s) st ⟨rfl, e, rfl⟩) hn) hd
theorem gl_loads {x : Str} {pos : Pos} {v : Value} (ok : Ok c) (hl : c.env.kindOf x = some .globalImplicit) (hv : gl c.K x = some v) (hd : (x == ("__debug__" : Str)) = false := by decide +kernel) (hn : x ≠ ("__name__" : Str) := by decide +kernel)
    {F : Hp} {s : Shared} {Q : Value → Shared → Prop} {E : Value → Shared → Prop} (st : St c ρ H F s) (h : Q v s) : wpAny c.M c.A (eval (.Name x pos) c.env) Q E s := by
  obtain ⟨p, loose, mean, mg, mb, T⟩ := ok.top
  refine Name_function_global ok.kind hl ?_ hd
  have hg : s.heap.Ns c.env.globals mg := by rw [ok.glob]; exact T.g.keeps st.keep
  have hb : s.heap.Ns c.env.builtins mb := by rw [ok.blt]; exact T.b.keeps st.keep
  unfold gl at hv
  split at hv
  · rename_i v' e
    cases hv
    exact loadGlobal_global hg (mg_of ok.kin T.g e) h
  · rename_i e
    exact loadGlobal_builtin hg (mg_none_of ok.kin T.g e) hb ((T.builtins x hn).trans hv) h
  · cases hv
theorem behind_of {op : CmpOp} {r : Expr} (h : (op == .In || op == .NotIn) = false) : behindInMarks op r = false := by
  cases r <;> simp [behindInMarks, h]
theorem ev_bin {l r : Expr} {op : Operator} {pos : Pos} {Φ : AV → Hp → Prop} (h : EV c ρ H l fun a H₁ => EV c ρ H₁ r fun b H₂ => ∀ y z, abs y = a → abs z = b → OV c ρ H₂ (binaryOp op y z) Φ) : EV c ρ H (.BinOp l op r pos) Φ :=
  Tri.of fun F s Q st k => wpAny_BinOp (h.use st fun a s₁ ρ₁ H₁ sm₁ st₁ ⟨e₁, h₁⟩ => by
    subst e₁
    exact h₁.use st₁ fun b s₂ ρ₂ H₂ sm₂ st₂ ⟨e₂, h₂⟩ => by
      subst e₂
      exact (h₂ a b rfl rfl).use st₂ fun r s₃ ρ₃ H₃ sm₃ st₃ ⟨e₃, h₃⟩ => by
        subst e₃; exact k _ _ _ _ (sm₁.trans (sm₂.trans sm₃)) st₃ ⟨rfl, h₃⟩)
theorem ev_un {l : Expr} {op : UnaryOp} {pos : Pos} {Φ : AV → Hp → Prop} (h : EV c ρ H l fun a H₁ => ∀ y, abs y = a → OV c ρ H₁ (unaryOp op y) Φ) : EV c ρ H (.UnaryOp op l pos) Φ :=
  Tri.of fun F s Q st k => wpAny_UnaryOp (h.use st fun a s₁ ρ₁ H₁ sm₁ st₁ ⟨e₁, h₁⟩ => by
    subst e₁
    exact (h₁ a rfl).use st₁ fun r s₃ ρ₃ H₃ sm₃ st₃ ⟨e₃, h₃⟩ => by
        subst e₃; exact k _ _ _ _ (sm₁.trans sm₃) st₃ ⟨rfl, h₃⟩)
theorem ev_cmp {l r : Expr} {op : CmpOp} {pos : Pos} {Φ : AV → Hp → Prop} (hm : behindInMarks op r = false) (h : EV c ρ H l fun a H₁ => EV c ρ H₁ r fun b H₂ => ∀ y z, abs y = a → abs z = b → OV c ρ H₂ (compareOp op y z) Φ) : EV c ρ H (.Compare l [op] [r] pos) Φ :=
  Tri.of fun F s Q st k => wpAny_Compare1 (h.use st fun a s₁ ρ₁ H₁ sm₁ st₁ ⟨e₁, h₁⟩ => by
    subst e₁
    exact h₁.use st₁ fun b s₂ ρ₂ H₂ sm₂ st₂ ⟨e₂, h₂⟩ => by
      subst e₂
      exact (h₂ a b rfl rfl).use st₂ fun r s₃ ρ₃ H₃ sm₃ st₃ ⟨e₃, h₃⟩ => by
        subst e₃; exact k _ _ _ _ (sm₁.trans (sm₂.trans sm₃)) st₃ ⟨rfl, h₃⟩) hm
theorem ov_pure1 {op : Operator} {i j r : Int} (y z : Value) (hy : abs y = .int i) (hz : abs z = .int j)
    (h : ∀ t u (s : Shared) (Q : Value → Shared → Prop), Q (.int r s.toks) { s with toks := s.toks + 1 } → wpAny c.M c.A (binaryOp op (.int i t) (.int j u)) Q (fun _ _ => False) s) {Φ : AV → Hp → Prop} (hΦ : Φ (.int r) H) : OV c ρ H (binaryOp op y z) Φ :=
  Tri.of fun F s Q st k => by
    obtain ⟨t, rfl⟩ := abs_int hy
    obtain ⟨u, rfl⟩ := abs_int hz
    exact h t u s Q (k _ _ ρ H (.mem s s.heap _) st.toks ⟨rfl, hΦ⟩)
theorem ov_cmp1 {op : CmpOp} {i j : Int} {r : Bool} (y z : Value) (hy : abs y = .int i) (hz : abs z = .int j)
    (h : ∀ t u (s : Shared) (Q : Value → Shared → Prop), Q (.bool r) s → wpAny c.M c.A (compareOp op (.int i t) (.int j u)) Q (fun _ _ => False) s) {Φ : AV → Hp → Prop} (hΦ : Φ (.bool r) H) : OV c ρ H (compareOp op y z) Φ :=
  Tri.of fun F s Q st k => by
    obtain ⟨t, rfl⟩ := abs_int hy
    obtain ⟨u, rfl⟩ := abs_int hz
    exact h t u s Q (k _ _ ρ H (.refl s) st ⟨rfl, hΦ⟩)
theorem pv_bin_of {l r : Expr} {op : Operator} {pos : Pos} {a b v : AV} (hl : PV c ρ H l a) (hr : PV c ρ H r b) (h : ∀ y z, abs y = a → abs z = b → OV c ρ H (binaryOp op y z) fun v' H' => v' = v ∧ H' = H) : PV c ρ H (.BinOp l op r pos) v :=
  ev_bin (hl.ev (hr.ev h))
theorem pv_cmp_of {l r : Expr} {op : CmpOp} {pos : Pos} {a b v : AV} (hl : PV c ρ H l a) (hr : PV c ρ H r b) (hm : behindInMarks op r = false) (h : ∀ y z, abs y = a → abs z = b → OV c ρ H (compareOp op y z) fun v' H' => v' = v ∧ H' = H) : PV c ρ H (.Compare l [op] [r] pos) v :=
  ev_cmp hm (hl.ev (hr.ev h))
theorem pv_add {l r : Expr} {pos : Pos} {i j : Int} (hl : PV c ρ H l (.int i)) (hr : PV c ρ H r (.int j)) : PV c ρ H (.BinOp l .Add r pos) (.int (i + j)) :=
  pv_bin_of hl hr fun y z hy hz => ov_pure1 y z hy hz (fun _ _ _ _ h => PyProof.Rows.add_int h) ⟨rfl, rfl⟩
theorem pv_sub {l r : Expr} {pos : Pos} {i j : Int} (hl : PV c ρ H l (.int i)) (hr : PV c ρ H r (.int j)) : PV c ρ H (.BinOp l .Sub r pos) (.int (i - j)) :=
  pv_bin_of hl hr fun y z hy hz => ov_pure1 y z hy hz (fun _ _ _ _ h => PyProof.Rows.sub_int h) ⟨rfl, rfl⟩
theorem pv_fdiv {l r : Expr} {pos : Pos} {i j : Int} (hl : PV c ρ H l (.int i)) (hr : PV c ρ H r (.int j)) (h0 : j ≠ 0) (hj : j.natAbs < 1073741824) : PV c ρ H (.BinOp l .FloorDiv r pos) (.int (i.fdiv j)) :=
  pv_bin_of hl hr fun y z hy hz => ov_pure1 y z hy hz (fun _ _ _ _ h => PyProof.Rows.floordiv_int h0 h (.inl (PyProof.noPylong_small hj))) ⟨rfl, rfl⟩
theorem pv_mod {l r : Expr} {pos : Pos} {i j : Int} (hl : PV c ρ H l (.int i)) (hr : PV c ρ H r (.int j)) (h0 : j ≠ 0) : PV c ρ H (.BinOp l .Mod r pos) (.int (i.fmod j)) :=
  pv_bin_of hl hr fun y z hy hz => ov_pure1 y z hy hz (fun _ _ _ _ h => PyProof.Rows.mod_int' h0 h) ⟨rfl, rfl⟩
theorem pv_neg {l : Expr} {pos : Pos} {i : Int} (hl : PV c ρ H l (.int i)) : PV c ρ H (.UnaryOp .USub l pos) (.int (-i)) :=
  ev_un (hl.ev fun y hy => Tri.of fun F s Q st k => by
    obtain ⟨t, rfl⟩ := abs_int hy
    exact PyProof.Rows.neg_int (k _ _ ρ H (.mem s s.heap _) st.toks ⟨rfl, rfl, rfl⟩))
theorem pv_lt {l r : Expr} {pos : Pos} {i j : Int} (hl : PV c ρ H l (.int i)) (hr : PV c ρ H r (.int j)) : PV c ρ H (.Compare l [.Lt] [r] pos) (.bool (decide (i < j))) :=
  pv_cmp_of hl hr (behind_of rfl) fun y z hy hz => ov_cmp1 y z hy hz (fun _ _ _ _ h => PyProof.Rows.lt_int h) ⟨rfl, rfl⟩
theorem pv_le {l r : Expr} {pos : Pos} {i j : Int} (hl : PV c ρ H l (.int i)) (hr : PV c ρ H r (.int j)) : PV c ρ H (.Compare l [.LtE] [r] pos) (.bool (decide (i ≤ j))) :=
  pv_cmp_of hl hr (behind_of rfl) fun y z hy hz => ov_cmp1 y z hy hz (fun _ _ _ _ h => PyProof.Rows.le_int h) ⟨rfl, rfl⟩
theorem pv_gt {l r : Expr} {pos : Pos} {i j : Int} (hl : PV c ρ H l (.int i)) (hr : PV c ρ H r (.int j)) : PV c ρ H (.Compare l [.Gt] [r] pos) (.bool (decide (j < i))) :=
  pv_cmp_of hl hr (behind_of rfl) fun y z hy hz => ov_cmp1 y z hy hz (fun _ _ _ _ h => PyProof.Rows.gt_int h) ⟨rfl, rfl⟩
theorem pv_ge {l r : Expr} {pos : Pos} {i j : Int} (hl : PV c ρ H l (.int i)) (hr : PV c ρ H r (.int j)) : PV c ρ H (.Compare l [.GtE] [r] pos) (.bool (decide (j ≤ i))) :=
  pv_cmp_of hl hr (behind_of rfl) fun y z hy hz => ov_cmp1 y z hy hz (fun _ _ _ _ h => PyProof.Rows.ge_int h) ⟨rfl, rfl⟩
theorem pv_eq {l r : Expr} {pos : Pos} {i j : Int} (hl : PV c ρ H l (.int i)) (hr : PV c ρ H r (.int j)) : PV c ρ H (.Compare l [.Eq] [r] pos) (.bool (i == j)) :=
  pv_cmp_of hl hr (behind_of rfl) fun y z hy hz => ov_cmp1 y z hy hz (fun _ _ _ _ h => PyProof.Rows.eq_int h) ⟨rfl, rfl⟩
theorem pv_ne {l r : Expr} {pos : Pos} {i j : Int} (hl : PV c ρ H l (.int i)) (hr : PV c ρ H r (.int j)) : PV c ρ H (.Compare l [.NotEq] [r] pos) (.bool (i != j)) :=
  pv_cmp_of hl hr (behind_of rfl) fun y z hy hz => ov_cmp1 y z hy hz (fun _ _ _ _ h => PyProof.Rows.ne_int h) ⟨rfl, rfl⟩
theorem tv_cmp {l r : Expr} {op : CmpOp} {pos : Pos} {Φ : Bool → Hp → Prop} (h : EV c ρ H (.Compare l [op] [r] pos) fun v H' => ∃ b, v = .bool b ∧ Φ b H') (ho : (op == .In || op == .NotIn) = false := by rfl) : TV c ρ H (.Compare l [op] [r] pos) Φ := by
  have hm : behindInMarks op r = false := behind_of ho
  refine Tri.of fun F s Q st k => ?_
  have h' := Tri.use (Q := fun v s' => ∃ b ρ' H', v = .bool b ∧ Stp s H s' H' ∧ St c ρ' H' F s' ∧ ρ' = ρ ∧ Φ b H') (E := fun _ _ => False) h st (fun a s₁ ρ₁ H₁ sm₁ st₁ ⟨e₁, b, hb, p⟩ => ⟨b, ρ₁, H₁, abs_bool hb, sm₁, st₁, e₁, p⟩)
  intro Γ p hΓ
  have h2 := h' Γ p hΓ
  simp only [eval_Compare1, isTrue_Compare1, markedBehindIn_of_false hm, Sem.wp_bind', Sem.wp_holding, Sem.wp_cmd_standAt, Sem.wp_operate] at h2 ⊢
  refine Sem.wp_mono _ Γ _ (fun a p₁ s₁ h₁ => Sem.wp_mono _ Γ _ (fun b p₂ s₂ h₂ => Sem.wp_mono _ Γ _ (fun v p₃ s₃ h₃ => ?_) (fun _ _ _ h' => h') _ _ h₂) (fun _ _ _ h' => h') _ _ h₁) (fun _ _ _ h' => h') _ _ h2
  obtain ⟨b, ρ', H', rfl, sm, st', e, hp⟩ := h₃
  exact wpAny_truthy_bool (k _ _ _ _ sm st' ⟨e, hp⟩) Γ p₃ hΓ
theorem pt_cmp {l r : Expr} {op : CmpOp} {pos : Pos} {b : Bool} (h : PV c ρ H (.Compare l [op] [r] pos) (.bool b)) (ho : (op == .In || op == .NotIn) = false := by rfl) : PT c ρ H (.Compare l [op] [r] pos) b :=
  tv_cmp (h.ev ⟨b, rfl, rfl, rfl⟩) ho
theorem tv_and {x y : Expr} {pos : Pos} {Φ : Bool → Hp → Prop} (h : TV c ρ H x fun b H' => if b then TV c ρ H' y Φ else Φ false H') : TV c ρ H (.BoolOp .And [x, y] pos) Φ :=
  Tri.of fun F s Q st k => isTrue_and (h.use st fun a s₁ ρ₁ H₁ sm st₁ ⟨e, p⟩ => by
    subst e
    cases a with
    | false => exact k _ _ _ _ sm st₁ ⟨rfl, p⟩
    | true => exact isTrue_and (p.use st₁ fun b s₂ ρ₂ H₂ sm₂ st₂ ⟨e₂, p₂⟩ => by
        subst e₂
        cases b with
        | false => exact k _ _ _ _ (sm.trans sm₂) st₂ ⟨rfl, p₂⟩
        | true => exact isTrue_and_nil (k _ _ _ _ (sm.trans sm₂) st₂ ⟨rfl, p₂⟩)))
theorem tv_or {x y : Expr} {pos : Pos} {Φ : Bool → Hp → Prop} (h : TV c ρ H x fun b H' => if b then Φ true H' else TV c ρ H' y Φ) : TV c ρ H (.BoolOp .Or [x, y] pos) Φ :=
  Tri.of fun F s Q st k => isTrue_or (h.use st fun a s₁ ρ₁ H₁ sm st₁ ⟨e, p⟩ => by
    subst e
    cases a with
    | true => exact k _ _ _ _ sm st₁ ⟨rfl, p⟩
    | false => exact isTrue_or (p.use st₁ fun b s₂ ρ₂ H₂ sm₂ st₂ ⟨e₂, p₂⟩ => by
        subst e₂
        cases b with
        | true => exact k _ _ _ _ (sm.trans sm₂) st₂ ⟨rfl, p₂⟩
        | false => exact isTrue_or_nil (k _ _ _ _ (sm.trans sm₂) st₂ ⟨rfl, p₂⟩)))
theorem ex_if {test : Expr} {body orelse : List Stmt} {pos : Pos} {Φ : AF → Loc → Hp → Prop} (h : TV c ρ H test fun b H' => if b then XS c ρ H' body Φ else XS c ρ H' orelse Φ) : EX c ρ H (.If test body orelse pos) Φ :=
  Tri.of fun F s Q st k => wpAny_If (h.use st fun a s₁ ρ₁ H₁ sm st₁ ⟨e, p⟩ => by
    subst e
    cases a with
    | true => exact p.use st₁ fun b s₂ ρ₂ H₂ sm₂ st₂ p₂ => k _ _ _ _ (sm.trans sm₂) st₂ p₂
    | false => exact p.use st₁ fun b s₂ ρ₂ H₂ sm₂ st₂ p₂ => k _ _ _ _ (sm.trans sm₂) st₂ p₂)
theorem xs_nil {Φ : AF → Loc → Hp → Prop} (h : Φ .next ρ H) : XS c ρ H [] Φ := Tri.of fun F s Q st k => wpAny_execs_nil (k _ _ _ _ (.refl s) st h)
theorem xs_cons {e : Stmt} {r : List Stmt} {Φ : AF → Loc → Hp → Prop} (h : EX c ρ H e fun f ρ' H' => match f with | .next => XS c ρ' H' r Φ | f => Φ f ρ' H') : XS c ρ H (e :: r) Φ :=
  Tri.of fun F s Q st k => wpAny_execs_cons (h.use st fun a s₁ ρ₁ H₁ sm st₁ p => by
    cases a with
    | next => exact p.use st₁ fun b s₂ ρ₂ H₂ sm₂ st₂ p₂ => k _ _ _ _ (sm.trans sm₂) st₂ p₂
    | brk => exact k _ _ _ _ sm st₁ p
    | cont => exact k _ _ _ _ sm st₁ p
    | ret v => exact k _ _ _ _ sm st₁ p)
theorem ex_return {e : Expr} {pos : Pos} {Φ : AF → Loc → Hp → Prop} (h : EV c ρ H e fun v H' => Φ (.ret v) ρ H') : EX c ρ H (.Return (some e) pos) Φ :=
  Tri.of fun F s Q st k => wpAny_Return_some (h.use st fun a s₁ ρ₁ H₁ sm st₁ ⟨e, p⟩ => by subst e; exact k _ _ _ _ sm st₁ p)
theorem Loc.set_same {x : Str} {v : AV} : Loc.set ρ x v x = some v := by simp [Loc.set]
theorem Loc.set_ne {x y : Str} {v : AV} {r : Option AV} (hn : y ≠ x) (h : ρ y = r) : Loc.set ρ x v y = r := by simp [Loc.set, hn, h]
theorem Hp.set_same {a : Addr} {o : AObj} : Hp.set H a o a = some (o, true) := by simp [Hp.set]
theorem Hp.set_ne {a b : Addr} {o : AObj} {r : Option (AObj × Bool)} (hn : b ≠ a) (h : H b = r) : Hp.set H a o b = r := by simp [Hp.set, hn, h]
/-- the frame stores a name of its own -/
theorem St.setLocal {F : Hp} {s : Shared} {h' : Heap} {tk : Nat} {x : Str} {y : Value} (st : St c ρ H F s) (hl : c.env.kindOf x = some .local)
    (h : ∀ m, s.heap.Ns c.L m → h'.Ns c.L (fun z => if z = x then some y else m z)) (hs : Heap.SameBut c.L s.heap h') : St c (ρ.set x (abs y)) H F { s with heap := h', toks := tk } := by
  obtain ⟨m, hm, hv⟩ := st.ns
  have hk : ∀ b o, b ≠ c.L → s.heap.get? b = some o → h'.get? b = some o := fun b o n e => hs.extBut b o n e
  refine ⟨⟨_, h m hm, fun z v e kz => ?_⟩, fun z a e => ?_, fun b o e => hk b o ?_ (st.keep b o e), st.above, fun a o b e => (st.has a o b e).keeps (fun o' n e' => hk a o' n e') st.above, fun a o b e => (st.hasF a o b e).keeps (fun o' n e' => hk a o' n e') st.above, st.dis⟩
  · by_cases q : z = x
    · subst q; rw [Loc.set_same] at e; cases e; exact ⟨y, by simp, rfl⟩
    · simp only [Loc.set, if_neg q] at e ⊢; exact hv z v e kz
  · obtain ⟨ob, o, g, d, ne, r1, r0, r2, r3⟩ := st.cel z a e
    refine ⟨ob, o, hk a ob ne g, d, ne, r1, r0, r2, fun v e' kz => ?_⟩
    have q : z ≠ x := by
      intro q; subst q
      rcases kz with k | k <;> (rw [hl] at k; cases k)
    simp only [Loc.set, if_neg q] at e'
    exact r3 v e' kz
  · intro e'; have := Heap.lt_size e; rw [e'] at this; exact absurd this (Nat.not_lt_of_le st.above)
theorem tri_store_local {x : Str} {y : Value} (ok : Ok c) (hl : c.env.kindOf x = some .local) : Tri c ρ H (storeName c.env x y) fun _ ρ' H' => ρ' = ρ.set x (abs y) ∧ H' = H :=
  Tri.of fun F s Q st k => by
    obtain ⟨m, hm, hv⟩ := st.ns
    have hp : (c.env.scope.kind == .class || (c.env.scope.kind == .module && c.env.locals != c.env.globals)) = false := by rw [ok.kind]; rfl
    refine wpAny_storeName_local hl hm (fun h' hn hs => k _ _ _ _ (.mem s _ _) (st.setLocal hl (fun m' hm' => ?_) hs) ⟨rfl, rfl⟩) hp
    have : m' = m := by
      obtain ⟨o, es, ep, g, d, _, f⟩ := hm
      obtain ⟨o', es', ep', g', d', _, f'⟩ := hm'
      rw [g] at g'; cases g'; rw [d] at d'; cases d'
      funext z; rw [← f, ← f']
    subst this; exact hn
theorem tri_store_cell {x : Str} {y : Value} {a : Addr} (ok : Ok c) (ho : c.own = true) (hl : c.env.kindOf x = some .cell) (hc : c.env.cells.lookup x = some a) : Tri c ρ H (storeName c.env x y) fun _ ρ' H' => ρ' = ρ.set x (abs y) ∧ H' = H :=
  Tri.of fun F s Q st k => by
    obtain ⟨ob, o, g, d, ne, r1, hH, r2, r3⟩ := st.cel x a hc
    refine wpAny_storeName_cell ok.kind hl hc ⟨ob, g, d⟩ fun h' hc' hs => k _ _ _ _ (.mem s h' s.toks) ?_ ⟨rfl, rfl⟩
    obtain ⟨h0, hF⟩ := r2 ho
    have hk : ∀ b o, b ≠ a → s.heap.get? b = some o → h'.get? b = some o := fun b o n e => hs.extBut b o n e
    obtain ⟨m, hm, hv⟩ := st.ns
    refine ⟨⟨m, hm.extBut hs.extBut (Ne.symm ne), fun z v e kz => ?_⟩, fun z b e => ?_, fun b o e => hk b o (fun q => by rw [q, h0] at e; cases e) (st.keep b o e), st.above,
      fun b o fl e => (st.has b o fl e).keeps (fun o' n e' => hk b o' (fun q => by rw [q, hH] at e; cases e) e') st.above, fun b o fl e => (st.hasF b o fl e).keeps (fun o' n e' => hk b o' (fun q => by rw [q, hF] at e; cases e) e') st.above, st.dis⟩
    · have q : z ≠ x := by
        intro q; subst q; rw [hl] at kz; cases kz
      simp only [Loc.set, if_neg q] at e
      exact hv z v e kz
    · by_cases q : z = x
      · subst q
        rw [hc] at e; cases e
        obtain ⟨ob', g', d'⟩ := hc'
        refine ⟨ob', _, g', d', ne, .inl h0, hH, r2, fun v e' _ => ?_⟩
        rw [Loc.set_same] at e'; cases e'; exact ⟨y, rfl, rfl⟩
      · obtain ⟨ob₁, o₁, g₁, d₁, ne₁, s1, s0, s2, s3⟩ := st.cel z b e
        have qa : b ≠ a := fun qa => q (ok.inj ho z x a (qa ▸ e) hc)
        refine ⟨ob₁, o₁, hk b ob₁ qa g₁, d₁, ne₁, s1, s0, s2, fun v e' kz => ?_⟩
        simp only [Loc.set, if_neg q] at e'
        exact s3 v e' kz
/-- a name that the frame stores -/
def Stores (c : Cx) (x : Str) : Prop := c.env.kindOf x = some .local ∨ (c.own = true ∧ c.env.kindOf x = some .cell)
theorem tri_store {x : Str} {y : Value} (ok : Ok c) (h : Stores c x) : Tri c ρ H (storeName c.env x y) fun _ ρ' H' => ρ' = ρ.set x (abs y) ∧ H' = H := by
  rcases h with h | ⟨h1, h2⟩
  · exact tri_store_local ok h
  · obtain ⟨a, h3⟩ := ok.cells x (.inl h2)
    exact tri_store_cell ok h1 h2 h3
theorem ex_assign {x : Str} {pos' pos : Pos} {e : Expr} {Φ : AF → Loc → Hp → Prop} (ok : Ok c) (hx : Stores c x) (h : EV c ρ H e fun v H' => Φ .next (ρ.set x v) H')
    (hs : swapsWith e (some (.Name x pos')) pos.line c.env = pure false := by rfl) : EX c ρ H (.Assign [.Name x pos'] e pos) Φ :=
  Tri.of fun F s Q st k => wpAny_Assign_Name (h.use st fun a s₁ ρ₁ H₁ sm st₁ ⟨e, p⟩ => by
    subst e
    exact (tri_store ok hx).use st₁ fun _ s₂ ρ₂ H₂ sm₂ st₂ ⟨e₁, e₂⟩ => by subst e₁ e₂; exact k _ _ _ _ (sm.trans sm₂) st₂ p) hs
theorem ex_expr {e : Expr} {pos : Pos} {Φ : AF → Loc → Hp → Prop} (ok : Ok c) (h : EV c ρ H e fun _ H' => Φ .next ρ H') (hs : swapsWith e none pos.line c.env = pure false := by rfl) : EX c ρ H (.Expr e pos) Φ :=
  Tri.of fun F s Q st k => wpAny_Expr_any (h.use st fun a s₁ ρ₁ H₁ sm st₁ ⟨e, p⟩ => by subst e; exact k _ _ _ _ sm st₁ p) (by unfold interactive; rw [ok.kind]; rfl) hs
/-- a while by an invariant with a measure -/
theorem ex_while {test : Expr} {body : List Stmt} {pos : Pos} {Φ : AF → Loc → Hp → Prop} (I : Nat → Loc → Hp → Prop) (n : Nat) (h0 : I n ρ H)
    (turn : ∀ n ρ H, I n ρ H → TV c ρ H test fun b H' => if b then XS c ρ H' body fun f ρ₂ H₂ => (match f with
      | .next | .cont => ∃ k, k < n ∧ I k ρ₂ H₂
      | .brk => Φ .next ρ₂ H₂
      | .ret v => Φ (.ret v) ρ₂ H₂) else Φ .next ρ H') : EX c ρ H (.While test body [] pos) Φ :=
  Tri.of fun F s Q st k => by
    refine wpAny_While (codeAny_whileLoop (fun n s' => ∃ ρ' H', Stp s H s' H' ∧ St c ρ' H' F s' ∧ I n ρ' H') ?_ n ⟨ρ, H, .refl s, st, h0⟩)
    rintro n s₁ ⟨ρ₁, H₁, sm, st₁, hI⟩
    refine (turn n ρ₁ H₁ hI).use st₁ fun b s₂ ρ₂ H₂ sm₂ st₂ ⟨e, p⟩ => ?_
    subst e
    cases b with
    | true =>
      refine p.use st₂ fun f s₃ ρ₃ H₃ sm₃ st₃ p₃ => ?_
      cases f with
      | next => obtain ⟨k', hk, hI'⟩ := p₃; exact ⟨k', hk, ρ₃, H₃, sm.trans (sm₂.trans sm₃), st₃, hI'⟩
      | cont => obtain ⟨k', hk, hI'⟩ := p₃; exact ⟨k', hk, ρ₃, H₃, sm.trans (sm₂.trans sm₃), st₃, hI'⟩
      | brk => exact k _ _ _ _ (sm.trans (sm₂.trans sm₃)) st₃ p₃
      | ret v => exact k _ _ _ _ (sm.trans (sm₂.trans sm₃)) st₃ p₃
    | false => exact wpAny_execs_nil (k _ _ _ _ (sm.trans sm₂) st₂ p)
end
/-- a frame that calls, n deep -/
structure OkC (c : Cx) (n : Nat) : Prop where
  below : ∃ A₀ base outer, Below A₀ base outer c.h₀ ∧ c.A.frames = some (c.env :: outer)
  frame : c.env.frame = some c.env.locals
  depth : c.A.depth + n < 900
  units : c.A.units + 3 * n < 500
theorem lookup_mem {β : Type} {x : Str} {v : β} : ∀ {l : List (Str × β)}, l.lookup x = some v → (x, v) ∈ l
  | [], h => by cases h
  | (y, w) :: r, h => by
    by_cases q : x = y
    · subst q; simp [List.lookup_cons] at h; subst h; exact .head _
    · have : (x == y) = false := by simpa using q
      rw [List.lookup_cons, this] at h
      exact .tail _ (lookup_mem h)
def retv : AF → AV
  | .ret v => v
  | _ => .none
section
variable {c : Cx} {ρ : Loc} {H : Hp}
def cxOf (c : Cx) (qual : Str) (scope : Scope) (L' f : Addr) (cdv : Value) (g : Heap) : Cx :=
  { prog := c.prog, w := c.w, A := c.A.deeper (envOf qual scope L' f cdv), env := envOf qual scope L' f cdv, h₀ := g, own := true, K := c.K }
open Classical in
theorem call_def {name qual : Str} {params : Arguments} {body : List Stmt} {scope : Scope} {dV kV doc pm cdv ct oc : Value} {an od : Option Addr} {osl : Array (Option Value)} {f : Addr} {vs : List Value} {binds : List (Str × Value)} {n : Nat} {Φ : AV → Hp → Prop}
    (ok : Ok c) (okc : OkC c (n + 1)) (ho : c.K.lookup f = some ⟨oc, od, .func (fnOf name qual params body scope dV kV doc pm an cdv ct), osl⟩) (hcd : codeIn c.K cdv qual = true)
    (hbind : ∀ s : Shared, c.K.In s.heap → BindsTo s (fnOf name qual params body scope dV kV doc pm an cdv ct) ⟨vs, []⟩ binds) (hloc : ∀ y ∈ binds, scope.names.lookup y.1 = some .local)
    (hco : scope.isCoroutine = false) (hgen : scope.isGenerator = false) (hk : scope.kind = .function) (hcell : ∀ x ∈ scope.names, x.2 ≠ .cell) (hfree : ∀ x ∈ scope.names, x.2 ≠ .free)
    (h : ∀ L' g, Ok (cxOf c qual scope L' f cdv g) → OkC (cxOf c qual scope L' f cdv g) n →
      XS (cxOf c qual scope L' f cdv g) (fun y => (binds.reverse.lookup y).map abs) H body fun fl _ H' => Φ (retv fl) H') :
    OV c ρ H (call (.ref f) vs) Φ :=
  Tri.of fun F s Q st k => by
    obtain ⟨A₀, base, outer, B, hA⟩ := okc.below
    obtain ⟨p, loose, mean, mg, mb, T⟩ := ok.top
    obtain ⟨m, hm, hv⟩ := st.fr
    have hroom : c.A.depth < recursionLimit := by have := ok.depth; have e : recursionLimit = 1000 := rfl; rw [e]; omega
    refine wpAny_call (code_def B hm ok.kin (allNews_news (h := s.heap)) T hA okc.frame ok.kind ho hcd hroom (hbind s (ok.kin.keeps st.keep)) hloc ?_ hco hgen hk hcell)
    intro g L' h₁ FG F' N' B' X' T'
    have hok : Ok (cxOf c qual scope L' f cdv g) := ⟨X', ⟨p, loose, mean, mg, mb, T'⟩, hk, rfl, rfl, ok.hand, by show c.A.depth + 1 < 900; have := okc.depth; omega, by show c.A.units + 3 < 500; have := okc.units; omega, by
      rintro x (e | e)
      · exact absurd rfl (hcell _ (lookup_mem e))
      · exact absurd rfl (hfree _ (lookup_mem e)), by intro _ x y a e; cases e⟩
    have hokc : OkC (cxOf c qual scope L' f cdv g) n := ⟨⟨c.A, base, c.env :: outer, B', by show (c.A.frames.map _) = _; rw [hA]; rfl⟩, rfl, by show c.A.depth + 1 + n < 900; have := okc.depth; omega, by show c.A.units + 3 + 3 * n < 500; have := okc.units; omega⟩
    -- the callee's frame: what it does not know of stays
    let F₂ : Hp := fun a => match F a with
      | some x => some x
      | none => if H a ≠ none then none else match (allNews c.h₀ c.L s.heap).lookup a with
        | some o => some (.raw o, true)
        | none => none
    have look : ∀ a o, s.heap.get? a = some o → c.h₀.get? a = none → a ≠ c.L → (allNews c.h₀ c.L s.heap).lookup a = some o := by
      intro a o e e0 hne
      have hmem := mem_allNews.mpr ⟨hne, e0, e⟩
      have hall : ∀ q ∈ allNews c.h₀ c.L s.heap, q.1 = a → q.2 = o := by
        rintro ⟨b, o'⟩ hq rfl
        have := (mem_allNews.mp hq).2.2
        rw [e] at this; cases this; rfl
      revert hmem hall
      generalize allNews c.h₀ c.L s.heap = l
      intro hmem hall
      induction l with
      | nil => cases hmem
      | cons q r ih =>
        obtain ⟨b, o'⟩ := q
        by_cases hb : a = b
        · subst hb; have := hall (a, o') (.head _) rfl; dsimp only at this; subst this; simp [List.lookup_cons]
        · have : (a == b) = false := by simpa using hb
          rw [List.lookup_cons, this]
          refine ih ?_ fun q hq => hall q (.tail _ hq)
          rcases List.mem_cons.mp hmem with e | e
          · cases e; exact absurd rfl hb
          · exact e
    have unlook : ∀ a o, (allNews c.h₀ c.L s.heap).lookup a = some o → (a, o) ∈ allNews c.h₀ c.L s.heap := by
      intro a o
      generalize allNews c.h₀ c.L s.heap = l
      induction l with
      | nil => intro e; cases e
      | cons q r ih =>
        obtain ⟨b, o'⟩ := q
        intro e
        by_cases hb : a = b
        · subst hb; simp [List.lookup_cons] at e; subst e; exact .head _
        · have : (a == b) = false := by simpa using hb
          rw [List.lookup_cons, this] at e
          exact .tail _ (ih e)
    have trans : ∀ a o b, HasP c a o b s.heap → HasP (cxOf c qual scope L' f cdv g) a o b h₁ := by
      rintro a o b ⟨ob, e, r, r1, r2⟩
      cases b with
      | true =>
        obtain ⟨n1, n2⟩ := r1 rfl
        have z := N' _ (mem_allNews.mpr ⟨n1, n2, e⟩)
        exact ⟨ob, z.1, r, fun _ => ⟨z.2.1, z.2.2⟩, fun x => by cases x⟩
      | false =>
        have z := FG.keep a ob (r2 rfl)
        exact ⟨ob, F'.keep a ob z, r, (fun x => by cases x), fun _ => z⟩
    have st₁ : St (cxOf c qual scope L' f cdv g) (fun y => (binds.reverse.lookup y).map abs) H F₂ { s with heap := h₁, toks := s.toks + binds.length } := by
      refine ⟨⟨_, F'.ns, fun x v e _ => ?_⟩, (fun x a e => by cases e), F'.keep, F'.above, fun a o b e => trans a o b (st.has a o b e), fun a o b e => ?_, fun a ha => ?_⟩
      · simp only [Option.map_eq_some_iff] at e
        obtain ⟨y, e1, e2⟩ := e
        exact ⟨y, e1, e2⟩
      · show HasP _ _ _ _ _
        simp only [F₂] at e
        split at e
        · rename_i x hx; cases e; exact trans a o b (st.hasF a o b hx)
        · split at e
          · cases e
          · split at e
            · rename_i ob hob
              cases e
              obtain ⟨n1, n2, n3⟩ := mem_allNews.mp (unlook a ob hob)
              exact trans a _ true ⟨ob, n3, rfl, fun _ => ⟨n1, n2⟩, fun x => by cases x⟩
            · cases e
      · simp only [F₂, st.dis a ha, if_pos ha]
    refine (h L' g hok hokc).use st₁ fun fl s' ρ' H' sm st' p => ?_
    obtain ⟨m₂, hm₂, _⟩ := st'.fr
    refine leaveK_ (news' := allNews g L' s'.heap) hm₂ allNews_news fun Fb Nb => ?_
    -- back in the caller
    have back : ∀ a o b, HasP (cxOf c qual scope L' f cdv g) a o b s'.heap → (b = false → ∃ ob, c.h₀.get? a = some ob ∧ s'.heap.get? a = some ob) → HasP c a o b s'.heap := by
      rintro a o b ⟨ob, e, r, r1, r2⟩ hb
      cases b with
      | true =>
        obtain ⟨n1, n2⟩ := r1 rfl
        have z := Nb _ (mem_allNews.mpr ⟨n1, n2, e⟩)
        exact ⟨ob, e, r, fun _ => ⟨z.2.1, z.2.2⟩, fun x => by cases x⟩
      | false =>
        obtain ⟨ob', z, z'⟩ := hb rfl
        rw [e] at z'; cases z'
        exact ⟨ob, e, r, (fun x => by cases x), fun _ => z⟩
    have F₂_of : ∀ a x, F a = some x → F₂ a = some x := by intro a x e; simp only [F₂, e]
    have stb : St c ρ H' F s' := by
      refine ⟨⟨m, Fb.ns, hv⟩, fun x a e => ?_, Fb.keep, st.above, fun a o b e => back a o b (st'.has a o b e) ?_, fun a o b e => back a o b (st'.hasF a o b (F₂_of _ _ e)) ?_, fun a ha => ?_⟩
      · obtain ⟨ob, o, g₁, d, ne, r1, r0, r2, r3⟩ := st.cel x a e
        have hkeep : s'.heap.get? a = some ob := by
          rcases r1 with r1 | r1
          · have : ∃ x, F₂ a = some (.raw ob, x) := by
              cases eF : F a with
              | none =>
                refine ⟨true, ?_⟩
                simp only [F₂, eF, r0, look a ob g₁ r1 ne]
                simp
              | some y =>
                obtain ⟨oy, by'⟩ := y
                obtain ⟨ob', e', rr, _⟩ := st.hasF a oy by' eF
                rw [g₁] at e'; cases e'
                cases oy with
                | raw o₂ => cases rr; exact ⟨by', F₂_of _ _ eF⟩
                | list xs => exact absurd d (ORep.not_cell rr rfl o)
                | tup xs => exact absurd d (ORep.not_cell rr rfl o)
                | dict xs => exact absurd d (ORep.not_cell rr rfl o)
            obtain ⟨y, hy⟩ := this
            obtain ⟨ob', e', rr, _⟩ := st'.hasF a _ y hy
            cases rr; exact e'
          · exact Fb.keep a ob r1
        have hH : H' a = none := by
          cases eH : H' a with
          | none => rfl
          | some y =>
            obtain ⟨oy, by'⟩ := y
            obtain ⟨ob', e', rr, z1, z2⟩ := st'.has a oy by' eH
            exfalso
            have hF2 := st'.dis a (by rw [eH]; exact nofun)
            rcases r1 with r1 | r1
            · cases eF : F a with
              | none =>
                simp only [F₂, eF, r0, look a ob g₁ r1 ne] at hF2
                simp at hF2
              | some y => rw [F₂_of _ _ eF] at hF2; cases hF2
            · cases by' with
              | true => have z3 : g.get? a = none := (z1 rfl).2; rw [FG.keep a ob r1] at z3; cases z3
              | false => have := sm.fz a oy eH; rw [r0] at this; cases this
        exact ⟨ob, o, hkeep, d, ne, r1, hH, r2, r3⟩
      · rintro rfl
        have e2 := sm.fz a o e
        obtain ⟨ob, _, _, _, z⟩ := st.has a o false e2
        exact ⟨ob, z rfl, Fb.keep a ob (z rfl)⟩
      · rintro rfl
        obtain ⟨ob, _, _, _, z⟩ := st.hasF a o false e
        exact ⟨ob, z rfl, Fb.keep a ob (z rfl)⟩
      · have := st'.dis a ha
        cases eF : F a with
        | none => rfl
        | some y => rw [F₂_of _ _ eF] at this; cases this
    have hs : Stp s H s' H' := ⟨Same.trans ⟨h₁, s.toks + binds.length, rfl⟩ sm.same, sm.fz⟩
    cases fl with
    | ret v => exact k v s' ρ H' hs stb ⟨rfl, p⟩
    | next => exact k .none s' ρ H' hs stb ⟨rfl, p⟩
    | brk => exact k .none s' ρ H' hs stb ⟨rfl, p⟩
    | cont => exact k .none s' ρ H' hs stb ⟨rfl, p⟩
end
section
variable {c : Cx} {ρ : Loc} {H : Hp}
def noStars : List Expr → Bool
  | [] => true
  | .Starred .. :: _ => false
  | _ :: r => noStars r
theorem back_plain {pos : Pos} {env : Env} : ∀ {es : List Expr}, noStars es = true → backTo pos (starEach es env) = es.map (fun e => (false, eval e env))
  | [], _ => rfl
  | e :: r, h => by
    have ih := @back_plain pos env r
    unfold backTo at ih ⊢
    cases e <;> first | (cases h; done) | (simp only [starEach, List.map_cons, Bool.false_eq_true, if_false]; rw [ih h])
def ES (c : Cx) (ρ : Loc) (H : Hp) (es : List Expr) (Φ : List AV → Hp → Prop) : Prop :=
  Tri c ρ H (spliced (es.map fun e => (false, eval e c.env))) fun ys ρ' H' => ρ' = ρ ∧ Φ (ys.map abs) H'
theorem es_nil {Φ : List AV → Hp → Prop} (h : Φ [] H) : ES c ρ H [] Φ := Tri.of fun F s Q st k => spliced_nil (k _ _ _ _ (.refl s) st ⟨rfl, h⟩)
theorem es_cons {e : Expr} {es : List Expr} {Φ : List AV → Hp → Prop} (h : EV c ρ H e fun v H₁ => ES c ρ H₁ es fun vs H₂ => Φ (v :: vs) H₂) : ES c ρ H (e :: es) Φ :=
  Tri.of fun F s Q st k => spliced_cons (h.use st fun v s₁ ρ₁ H₁ sm₁ st₁ ⟨e₁, h₁⟩ => by
    subst e₁
    exact h₁.use st₁ fun vs s₂ ρ₂ H₂ sm₂ st₂ ⟨e₂, h₂⟩ => by subst e₂; exact k _ _ _ _ (sm₁.trans sm₂) st₂ ⟨rfl, h₂⟩)
theorem es_pv {e : Expr} {es : List Expr} {v : AV} {Φ : List AV → Hp → Prop} (h : PV c ρ H e v) (h' : ES c ρ H es fun vs H₂ => Φ (v :: vs) H₂) : ES c ρ H (e :: es) Φ := es_cons (h.ev h')
def PS (c : Cx) (ρ : Loc) (H : Hp) (es : List Expr) (vs : List AV) : Prop := ES c ρ H es fun vs' H' => vs' = vs ∧ H' = H
theorem ps_nil : PS c ρ H [] [] := es_nil ⟨rfl, rfl⟩
theorem ps_cons {e : Expr} {es : List Expr} {v : AV} {vs : List AV} (h : PV c ρ H e v) (h' : PS c ρ H es vs) : PS c ρ H (e :: es) (v :: vs) :=
  es_pv h (Tri.mono h' fun _ _ _ ⟨a, b, d⟩ => ⟨a, by rw [b], d⟩)
theorem PS.es {es : List Expr} {vs : List AV} {Φ : List AV → Hp → Prop} (h : PS c ρ H es vs) (hi : Φ vs H) : ES c ρ H es Φ :=
  Tri.mono h fun _ _ _ ⟨a, b, d⟩ => ⟨a, by rw [b, d]; exact hi⟩
theorem ev_call_bi {x : Str} {np pos : Pos} {e : Expr} {es : List Expr} {id : String} {Φ : AV → Hp → Prop} (ok : Ok c) (hl : c.env.kindOf x = some .globalImplicit) (hg : gl c.K x = some (.builtin id))
    (h : ES c ρ H (e :: es) fun vs H₁ => ∀ ys, ys.map abs = vs → OV c ρ H₁ (call (.builtin id) ys) Φ)
    (hns : noStars (e :: es) = true := by decide +kernel) (hd : (x == ("__debug__" : Str)) = false := by decide +kernel) (hn : x ≠ ("__name__" : Str) := by decide +kernel) :
    EV c ρ H (.Call (.Name x np) (e :: es) [] pos) Φ :=
  Tri.of fun F s Q st k => wpAny_Call_NameR (gl_loads ok hl hg hd hn st (by
    rw [back_plain hns]
    refine callWith_builtin (by simp [List.any_eq]) (evalArgs_plain ?_)
    exact h.use st fun ys s₁ ρ₁ H₁ sm₁ st₁ ⟨e₁, h₁⟩ => by
      subst e₁
      rw [List.nil_append]
      exact (h₁ ys rfl).use st₁ fun r s₂ ρ₂ H₂ sm₂ st₂ ⟨e₂, h₂⟩ => by subst e₂; exact k _ _ _ _ (sm₁.trans sm₂) st₂ ⟨rfl, h₂⟩))
theorem ev_call_ty {x : Str} {np pos : Pos} {e : Expr} {es : List Expr} {id : String} {Φ : AV → Hp → Prop} (ok : Ok c) (hl : c.env.kindOf x = some .globalImplicit) (hg : gl c.K x = some (.type id))
    (h : ES c ρ H (e :: es) fun vs H₁ => ∀ ys, ys.map abs = vs → OV c ρ H₁ (call (.type id) ys) Φ)
    (hns : noStars (e :: es) = true := by decide +kernel) (hd : (x == ("__debug__" : Str)) = false := by decide +kernel) (hn : x ≠ ("__name__" : Str) := by decide +kernel) :
    EV c ρ H (.Call (.Name x np) (e :: es) [] pos) Φ :=
  Tri.of fun F s Q st k => wpAny_Call_NameR (gl_loads ok hl hg hd hn st (by
    rw [back_plain hns]
    refine PyProof.Rows.callWith_type (by simp [List.any_eq]) (evalArgs_plain ?_)
    exact h.use st fun ys s₁ ρ₁ H₁ sm₁ st₁ ⟨e₁, h₁⟩ => by
      subst e₁
      rw [List.nil_append]
      exact (h₁ ys rfl).use st₁ fun r s₂ ρ₂ H₂ sm₂ st₂ ⟨e₂, h₂⟩ => by subst e₂; exact k _ _ _ _ (sm₁.trans sm₂) st₂ ⟨rfl, h₂⟩))
theorem ev_call_fn {x : Str} {np pos : Pos} {e : Expr} {es : List Expr} {f : Addr} {oc : Value} {od : Option Addr} {fd : FuncData} {osl : Array (Option Value)} {Φ : AV → Hp → Prop} (ok : Ok c) (hl : c.env.kindOf x = some .globalImplicit) (hg : gl c.K x = some (.ref f))
    (ho : c.K.lookup f = some ⟨oc, od, .func fd, osl⟩)
    (h : ES c ρ H (e :: es) fun vs H₁ => ∀ ys, ys.map abs = vs → OV c ρ H₁ (call (.ref f) ys) Φ)
    (hns : noStars (e :: es) = true := by decide +kernel) (hd : (x == ("__debug__" : Str)) = false := by decide +kernel) (hn : x ≠ ("__name__" : Str) := by decide +kernel) :
    EV c ρ H (.Call (.Name x np) (e :: es) [] pos) Φ :=
  Tri.of fun F s Q st k => wpAny_Call_NameR (gl_loads ok hl hg hd hn st (by
    rw [back_plain hns]
    refine callWith_function (o := ⟨oc, od, .func fd, osl⟩) (fd := fd) (evalArgs_plain ?_)
    exact h.use st fun ys s₁ ρ₁ H₁ sm₁ st₁ ⟨e₁, h₁⟩ => by
      subst e₁
      rw [List.nil_append]
      exact ⟨⟨st₁.keep _ _ (ok.kin _ _ ho), rfl⟩, (h₁ ys rfl).use st₁ fun r s₂ ρ₂ H₂ sm₂ st₂ ⟨e₂, h₂⟩ => by subst e₂; exact k _ _ _ _ (sm₁.trans sm₂) st₂ ⟨rfl, h₂⟩⟩))
theorem St.isList {F : Hp} {s : Shared} {a : Addr} {xs : List AV} {fl : Bool} (st : St c ρ H F s) (h : H a = some (.list xs, fl)) : ∃ its : Array Value, s.heap.IsList a its ∧ its.toList.map abs = xs := by
  obtain ⟨ob, g, ⟨its, n, hc, hd, he, _⟩, _⟩ := st.has a _ fl h
  exact ⟨its, ⟨ob, g, hc, n, hd⟩, he⟩
theorem St.isTup {F : Hp} {s : Shared} {a : Addr} {xs : List AV} {fl : Bool} (st : St c ρ H F s) (h : H a = some (.tup xs, fl)) : ∃ its : Array Value, IsTup s.heap a its ∧ its.toList.map abs = xs := by
  obtain ⟨ob, g, ⟨its, n, hc, hd, he, _⟩, _⟩ := st.has a _ fl h
  exact ⟨its, ⟨ob, g, hc, n, hd⟩, he⟩
theorem size_of_map {its : Array Value} {xs : List AV} (h : its.toList.map abs = xs) : its.size = xs.length := by rw [← h]; simp
theorem item_of_map {its : Array Value} {xs : List AV} {k : Nat} {v : AV} (h : its.toList.map abs = xs) (hv : xs[k]? = some v) : ∃ y, its[k]? = some y ∧ abs y = v := by
  rw [← h, List.getElem?_map, Option.map_eq_some_iff] at hv
  obtain ⟨y, h1, h2⟩ := hv
  exact ⟨y, by simpa using h1, h2⟩
theorem seqIndex_pos {k : Int} {n : Nat} (h0 : 0 ≤ k) (h1 : k.toNat < n) : seqIndex? k n = some k.toNat := by
  unfold seqIndex?
  have e : ¬ (k < 0) := by omega
  simp only [e, if_false]
  rw [if_pos]
  simp only [Bool.and_eq_true, decide_eq_true_eq]; omega
theorem seqIndex_neg {k : Int} {n : Nat} (h0 : k < 0) (h1 : 0 ≤ k + n) (h2 : (k + n).toNat < n) : seqIndex? k n = some (k + n).toNat := by
  unfold seqIndex?
  simp only [h0, if_true]
  rw [if_pos]
  simp only [Bool.and_eq_true, decide_eq_true_eq]; omega
/-- the written place is no slice -/
def plainIdx : Expr → Bool
  | .Slice .. => false
  | _ => true
theorem subscripted_plain {i : Expr} (h : plainIdx i = true) (o v : Value) : subscripted i false o v = operate [o, v] (getItem o v) := by
  cases i <;> first | rfl | cases h
theorem ev_sub {v i : Expr} {pos : Pos} {Φ : AV → Hp → Prop} (hi : plainIdx i = true) (h : EV c ρ H v fun a H₁ => EV c ρ H₁ i fun b H₂ => ∃ l k xs fl, a = .ref l ∧ b = .int k ∧ (H₂ l = some (.list xs, fl) ∨ H₂ l = some (.tup xs, fl)) ∧ xs.length < 1000000000 ∧
      ∃ y, ((0 ≤ k ∧ xs[k.toNat]? = some y) ∨ (k < 0 ∧ 0 ≤ k + xs.length ∧ xs[(k + xs.length).toNat]? = some y)) ∧ Φ y H₂) : EV c ρ H (.Subscript v i pos) Φ :=
  Tri.of fun F s Q st k => Subscript_ (h.use st fun a s₁ ρ₁ H₁ sm₁ st₁ ⟨e₁, h₁⟩ => by
    subst e₁
    exact h₁.use st₁ fun b s₂ ρ₂ H₂ sm₂ st₂ ⟨e₂, h₂⟩ => by
      subst e₂
      obtain ⟨l, n, xs, fl, ha, hb, hl, hlen, y, hy, p⟩ := h₂
      have := abs_ref ha; subst this
      obtain ⟨u, rfl⟩ := abs_int hb
      rcases hl with hl | hl
      · obtain ⟨its, hits, he⟩ := st₂.isList hl
        have hsz := size_of_map he
        rcases hy with ⟨h0, hx⟩ | ⟨h0, h1, hx⟩
        · obtain ⟨z, hz, hzy⟩ := item_of_map he hx
          have hlt : n.toNat < its.size := (Array.getElem?_eq_some_iff.mp hz).1
          exact tail_any hits.typeIs slot_list_getitem.lookup (wpAny_getItem_list hits h0 (by omega) hz (k _ _ _ _ (sm₁.trans sm₂) st₂ ⟨rfl, by rw [hzy]; exact p⟩)) (subscripted_plain hi _ _)
        · rw [← hsz] at hx h1
          obtain ⟨z, hz, hzy⟩ := item_of_map he hx
          exact tail_any hits.typeIs slot_list_getitem.lookup (wpAny_getItem_list_neg hits h0 (by omega) (by omega) hz (k _ _ _ _ (sm₁.trans sm₂) st₂ ⟨rfl, by rw [hzy]; exact p⟩)) (subscripted_plain hi _ _)
      · obtain ⟨its, hits, he⟩ := st₂.isTup hl
        have hsz := size_of_map he
        obtain ⟨ob, g, hc, _⟩ := id hits
        have hty : s₂.TypeIs (.ref l) "tuple" := ⟨ob, g, hc⟩
        rcases hy with ⟨h0, hx⟩ | ⟨h0, h1, hx⟩
        · obtain ⟨z, hz, hzy⟩ := item_of_map he hx
          have hlt : n.toNat < its.size := (Array.getElem?_eq_some_iff.mp hz).1
          have hb1 : -(2 ^ 63) ≤ n := by omega
          have hb2 : n < 2 ^ 63 := by omega
          refine tail_any hty slot_tuple_getitem.lookup (PyProof.Rows.getItem_tuple hits hb1 hb2 (j := n.toNat) ?_ hz (k _ _ _ _ (sm₁.trans sm₂) st₂ ⟨rfl, by rw [hzy]; exact p⟩)) (subscripted_plain hi _ _)
          exact seqIndex_pos h0 hlt
        · rw [← hsz] at hx h1
          obtain ⟨z, hz, hzy⟩ := item_of_map he hx
          have hlt : (n + its.size).toNat < its.size := (Array.getElem?_eq_some_iff.mp hz).1
          have hb1 : -(2 ^ 63) ≤ n := by omega
          have hb2 : n < 2 ^ 63 := by omega
          refine tail_any hty slot_tuple_getitem.lookup (PyProof.Rows.getItem_tuple hits hb1 hb2 (j := (n + its.size).toNat) ?_ hz (k _ _ _ _ (sm₁.trans sm₂) st₂ ⟨rfl, by rw [hzy]; exact p⟩)) (subscripted_plain hi _ _)
          exact seqIndex_neg h0 h1 hlt)
theorem pv_item {v i : Expr} {pos : Pos} {l : Addr} {k : Int} {xs : List AV} {fl : Bool} {y : AV} (hv : PV c ρ H v (.ref l)) (hk : PV c ρ H i (.int k)) (hl : H l = some (.list xs, fl)) (hlen : xs.length < 1000000000) (h0 : 0 ≤ k) (hy : xs[k.toNat]? = some y)
    (hi : plainIdx i = true := by rfl) : PV c ρ H (.Subscript v i pos) y :=
  ev_sub hi (hv.ev (hk.ev ⟨l, k, xs, fl, rfl, rfl, .inl hl, hlen, y, .inl ⟨h0, hy⟩, rfl, rfl⟩))
theorem pv_len {x : Str} {np pos : Pos} {e : Expr} {l : Addr} {xs : List AV} {fl : Bool} (ok : Ok c) (hl : c.env.kindOf x = some .globalImplicit) (hg : gl c.K x = some (.builtin "len")) (he : PV c ρ H e (.ref l)) (hx : H l = some (.list xs, fl)) (hlen : xs.length < 1000000000)
    (hns : noStars [e] = true := by decide +kernel) (hd : (x == ("__debug__" : Str)) = false := by decide +kernel) (hn : x ≠ ("__name__" : Str) := by decide +kernel) :
    PV c ρ H (.Call (.Name x np) [e] [] pos) (.int xs.length) :=
  ev_call_bi ok hl hg (es_pv he (es_nil fun ys hys => by
    obtain ⟨y, rfl⟩ : ∃ y, ys = [y] := by
      cases ys with
      | nil => cases hys
      | cons y r => cases r with
        | nil => exact ⟨y, rfl⟩
        | cons _ _ => simp at hys
    have hy : abs y = .ref l := by simpa using hys
    have := abs_ref hy; subst this
    exact Tri.of fun F s Q st k => by
      obtain ⟨its, hits, hm⟩ := st.isList hx
      have hsz := size_of_map hm
      refine call_len_list hits (by omega) (k _ _ ρ H (.mem s s.heap _) st.toks ⟨rfl, by rw [← hsz]; rfl, rfl⟩))) hns hd hn
def ownedKinds : List String := ["enumerate", "zip", "dict_itemiterator", "dict_reverseitemiterator", "odict_iterator", "itertools.zip_longest", "itertools.pairwise"]
structure ItOk (c : Cx) (I : Addr) (n : Nat) (val : Nat → AV) (P : Nat → Obj → Prop) (G : Hp → Prop) : Prop where
  cls : ∀ i ob, P i ob → ∃ t, ob.cls = .type t ∧ ownedKinds.contains t = false
  next : ∀ i ρ H F s ob (Q : Option Value → Shared → Prop) E, i < n → P i ob → G H → St c ρ H F s → s.heap.get? I = some ob →
    (∀ v h' tk ob', abs v = val i → Heap.SameBut I s.heap h' → h'.get? I = some ob' → P (i + 1) ob' → Q (some v) { s with heap := h', toks := tk }) → wpAny c.M c.A (pyNext (.ref I)) Q E s
  done : ∀ ρ H F s ob (Q : Option Value → Shared → Prop) E, P n ob → G H → St c ρ H F s → s.heap.get? I = some ob →
    (∀ h' tk, Heap.ExtBut I s.heap h' → Q none { s with heap := h', toks := tk }) → wpAny c.M c.A (pyNext (.ref I)) Q E s
  self : ∀ i s ob (Q : Value → Shared → Prop) E, P i ob → s.heap.get? I = some ob → Q (.ref I) s → wpAny c.M c.A (pyIter (.ref I)) Q E s
theorem itok_list {l I : Addr} {xs : List AV} (hh : c.A.handled = none) : ItOk c I xs.length (fun i => xs.getD i .none) (fun i ob => ob.cls = .type "list_iterator" ∧ ob.data = .fields #[.ref l, .int (i : Nat) 0]) (fun H => ∃ fl, H l = some (.list xs, fl)) where
  cls := fun i ob ⟨h, _⟩ => ⟨_, h, by decide⟩
  next := by
    rintro i ρ H F s ob Q E hi ⟨h1, h2⟩ ⟨fl, hl⟩ st g hQ
    obtain ⟨its, hits, he⟩ := st.isList hl
    obtain ⟨y, hy, hya⟩ := item_of_map (k := i) (v := xs.getD i .none) he (by simp [List.getD, hi])
    refine wpAny_pyNext_list_item ⟨ob, g, h1, h2⟩ hits hy fun h' hit' hs' => ?_
    obtain ⟨ob', g', c', d'⟩ := hit'
    exact hQ y h' s.toks ob' hya hs' g' ⟨c', d'⟩
  done := by
    rintro ρ H F s ob Q E ⟨h1, h2⟩ ⟨fl, hl⟩ st g hQ
    obtain ⟨its, hits, he⟩ := st.isList hl
    have hsz := size_of_map he
    exact wpAny_pyNext_list_end hh ⟨ob, g, h1, h2⟩ hits (by rw [← hsz]; simp) fun h' hx => hQ h' s.toks hx
  self := by
    rintro i s ob Q E ⟨h1, h2⟩ g hQ
    exact wpAny_pyIter_listiter ⟨ob, g, h1, h2⟩ hQ
theorem itok_range {I : Addr} {a st : Int} {n : Nat} (hh : c.A.handled = none) : ItOk c I n (fun i => .int (a + i * st)) (fun i ob => ob = { cls := .type "range_iterator", dict := none, data := .fields #[rawInt (a + (i : Nat) * st), rawInt ((n : Int) - (i : Nat)), rawInt st], slots := #[] }) (fun _ => True) where
  cls := fun i ob h => by subst h; exact ⟨_, rfl, by decide⟩
  next := by
    rintro i ρ H F s ob Q E hi rfl _ _ g hQ
    refine wpAny_pyNext_range_item g (by omega) fun h' hit' hs' => ?_
    have e1 : a + ((i + 1 : Nat) : Int) * st = a + (i : Int) * st + st := by push_cast; rw [Int.add_mul, Int.one_mul, Int.add_assoc]
    have e2 : (n : Int) - ((i + 1 : Nat) : Int) = (n : Int) - (i : Int) - 1 := by push_cast; omega
    exact hQ _ h' _ _ rfl hs' hit' (by rw [e1, e2])
  done := by
    rintro ρ H F s ob Q E rfl _ _ g hQ
    exact wpAny_pyNext_range_end hh g (by omega) fun h' hx => hQ h' s.toks hx
  self := by
    rintro i s ob Q E rfl g hQ
    exact wpAny_pyIter_rangeiter g hQ
theorem St.addF {F : Hp} {s : Shared} {I : Addr} {ob : Obj} {h' : Heap} {tk : Nat} (st : St c ρ H F s) (hI : s.heap.get? I = none) (hk : ∀ b o, s.heap.get? b = some o → h'.get? b = some o) (ho : h'.get? I = some ob) :
    St c ρ H (F.set I (.raw ob)) { s with heap := h', toks := tk } := by
  have st' := st.keepsAll (tk := tk) hk
  have hfr := st.fresh hI
  have hL : I ≠ c.L := by
    intro e; obtain ⟨m, ⟨o', es, ep, ho', _⟩, _⟩ := st.ns; rw [← e, hI] at ho'; cases ho'
  have h0 : c.h₀.get? I = none := by
    cases e : c.h₀.get? I with
    | none => rfl
    | some p => have := st.keep I p e; rw [hI] at this; cases this
  refine ⟨st'.ns, fun x b e => ?_, st'.keep, st'.above, st'.has, fun b o' fl e => ?_, fun b hb => ?_⟩
  · obtain ⟨ob', o', g, d, ne, r1, r0, r2, r3⟩ := st.cel x b e
    have : b ≠ I := by intro q; rw [q, hI] at g; cases g
    exact ⟨ob', o', hk b ob' g, d, ne, r1, r0, fun h => ⟨(r2 h).1, by simp only [Hp.set, if_neg this]; exact (r2 h).2⟩, r3⟩
  · by_cases q : b = I
    · subst q; simp only [Hp.set, if_pos rfl] at e; cases e
      exact ⟨ob, ho, rfl, fun _ => ⟨hL, h0⟩, fun x => by cases x⟩
    · simp only [Hp.set, if_neg q] at e; exact st'.hasF b o' fl e
  · have q : b ≠ I := by intro q; rw [q] at hb; exact hb hfr.1
    simp only [Hp.set, if_neg q]; exact st.dis b hb
/-- the hidden object changes -/
theorem St.updF {F : Hp} {s : Shared} {I : Addr} {ob ob' : Obj} {h' : Heap} {tk : Nat} (st : St c ρ H (F.set I (.raw ob)) s) (hF : F I = none) (hcell : ∀ v, ob.data ≠ .cell v) (hs : Heap.SameBut I s.heap h') (ho : h'.get? I = some ob') :
    St c ρ H (F.set I (.raw ob')) { s with heap := h', toks := tk } := by
  have hII : (F.set I (.raw ob)) I = some (.raw ob, true) := Hp.set_same
  obtain ⟨ob₁, hob, hrep, hown, _⟩ := st.hasF I _ true hII
  cases hrep
  obtain ⟨hL, h0⟩ := hown rfl
  obtain ⟨m, hm, hv⟩ := st.ns
  refine ⟨⟨m, hm.extBut hs.extBut (Ne.symm hL), hv⟩, fun x b e => ?_, fun b o e => hs.extBut b o (fun q => by rw [q, h0] at e; cases e) (st.keep b o e), st.above, fun b o₁ fl e => ?_, fun b o₁ fl e => ?_, fun b hb => ?_⟩
  · obtain ⟨ob₁, o₁, g, d, ne, r1, r0, r2, r3⟩ := st.cel x b e
    have hne : b ≠ I := by intro q; rw [q, hob] at g; cases g; exact hcell _ d
    exact ⟨ob₁, o₁, hs.extBut b ob₁ hne g, d, ne, r1, r0, fun h => ⟨(r2 h).1, by have := (r2 h).2; simp only [Hp.set, if_neg hne] at this ⊢; exact this⟩, r3⟩
  · have q : b ≠ I := by
      intro q; have := st.dis b (by rw [e]; exact nofun); rw [q, hII] at this; cases this
    exact (st.has b o₁ fl e).keeps (fun o₂ _ e' => hs.extBut b o₂ q e') st.above
  · by_cases q : b = I
    · subst q; simp only [Hp.set, if_pos rfl] at e; cases e
      exact ⟨ob', ho, rfl, fun _ => ⟨hL, h0⟩, fun x => by cases x⟩
    · simp only [Hp.set, if_neg q] at e
      exact (st.hasF b o₁ fl (by simp only [Hp.set, if_neg q]; exact e)).keeps (fun o₂ _ e' => hs.extBut b o₂ q e') st.above
  · have := st.dis b hb
    by_cases q : b = I
    · subst q; rw [hII] at this; cases this
    · simp only [Hp.set, if_neg q] at this ⊢; exact this
/-- the hidden object is let go -/
theorem St.dropF {F : Hp} {s : Shared} {I : Addr} {ob : Obj} {h' : Heap} {tk : Nat} (st : St c ρ H (F.set I (.raw ob)) s) (hF : F I = none) (hcell : ∀ v, ob.data ≠ .cell v) (hs : Heap.ExtBut I s.heap h') :
    St c ρ H F { s with heap := h', toks := tk } := by
  have hII : (F.set I (.raw ob)) I = some (.raw ob, true) := Hp.set_same
  obtain ⟨ob₁, hob, hrep, hown, _⟩ := st.hasF I _ true hII
  cases hrep
  obtain ⟨hL, h0⟩ := hown rfl
  obtain ⟨m, hm, hv⟩ := st.ns
  refine ⟨⟨m, hm.extBut hs (Ne.symm hL), hv⟩, fun x b e => ?_, fun b o e => hs b o (fun q => by rw [q, h0] at e; cases e) (st.keep b o e), st.above, fun b o₁ fl e => ?_, fun b o₁ fl e => ?_, fun b hb => ?_⟩
  · obtain ⟨ob₁, o₁, g, d, ne, r1, r0, r2, r3⟩ := st.cel x b e
    have hne : b ≠ I := by intro q; rw [q, hob] at g; cases g; exact hcell _ d
    exact ⟨ob₁, o₁, hs b ob₁ hne g, d, ne, r1, r0, fun h => ⟨(r2 h).1, by have := (r2 h).2; simp only [Hp.set, if_neg hne] at this; exact this⟩, r3⟩
  · have q : b ≠ I := by
      intro q; have := st.dis b (by rw [e]; exact nofun); rw [q, hII] at this; cases this
    exact (st.has b o₁ fl e).keeps (fun o₂ _ e' => hs b o₂ q e') st.above
  · have q : b ≠ I := by intro q; rw [q, hF] at e; cases e
    exact (st.hasF b o₁ fl (by simp only [Hp.set, if_neg q]; exact e)).keeps (fun o₂ _ e' => hs b o₂ q e') st.above
  · have := st.dis b hb
    by_cases q : b = I
    · subst q; rw [hII] at this; cases this
    · simp only [Hp.set, if_neg q] at this; exact this
/-- a source of items: what a for's head comes to -/
def ITR (c : Cx) (ρ : Loc) (H : Hp) (iter : Expr) (Ψ : Nat → (Nat → AV) → (Hp → Prop) → Hp → Prop) : Prop :=
  ∀ F s (Q : Addr → Shared → Prop) E, St c ρ H F s →
    (∀ I ob s' n val P G H', ItOk c I n val P G → (∀ i ob v, P i ob → ob.data ≠ .cell v) → F I = none → Stp s H s' H' → St c ρ H' (F.set I (.raw ob)) s' → P 0 ob → Ψ n val G H' → Q I s') →
    wpAny c.M c.A (eval iter c.env) (fun x s₁ => wpAny c.M c.A (pyIter x) (fun it s₂ => ∃ I, it = .ref I ∧ Q I s₂) E s₁) E s
theorem itr_list {iter : Expr} {Ψ : Nat → (Nat → AV) → (Hp → Prop) → Hp → Prop} (hh : c.A.handled = none) (h : EV c ρ H iter fun v H' => ∃ l xs fl, v = .ref l ∧ H' l = some (.list xs, fl) ∧ Ψ xs.length (fun i => xs.getD i .none) (fun H => ∃ fl, H l = some (.list xs, fl)) H') :
    ITR c ρ H iter Ψ := by
  intro F s Q E st k
  refine h.use st fun v s₁ ρ₁ H₁ sm₁ st₁ ⟨e₁, l, xs, fl, hv, hl, p⟩ => ?_
  subst e₁
  have := abs_ref hv; subst this
  obtain ⟨its, hits, he⟩ := st₁.isList hl
  refine wpAny_pyIter_list hits ⟨_, rfl, ?_⟩
  have hnone : s₁.heap.get? s₁.heap.objs.size = none := by
    cases e : s₁.heap.get? s₁.heap.objs.size with
    | none => rfl
    | some o => exact absurd (Heap.lt_size e) (Nat.lt_irrefl _)
  have st₂ := st₁.addF (I := s₁.heap.objs.size) (ob := { cls := .type "list_iterator", data := .fields #[.ref l, .int 0 0] }) (tk := s₁.toks) hnone (fun b o e => Heap.get?_push_of_some _ e) (Heap.get?_push_size _ rfl)
  exact k _ _ _ _ _ _ _ _ (itok_list (l := l) (xs := xs) hh) (by rintro i ob v ⟨_, h⟩; rw [h]; exact nofun) (st₁.fresh hnone).2 (sm₁.trans (.mem s₁ _ _)) st₂ ⟨rfl, rfl⟩ p
theorem itr_rangeV {iter : Expr} {Ψ : Nat → (Nat → AV) → (Hp → Prop) → Hp → Prop} (hh : c.A.handled = none)
    (h : ∀ F s (Q : Value → Shared → Prop) E, St c ρ H F s → (∀ r s' a b d t u v H', Stp s H s' H' → St c ρ H' F s' → IsRange s'.heap r a b d t u v → Builtin.Range.small a b d = true → Ψ (Builtin.Range.rangeSize a b d).toNat (fun i => .int (a + i * d)) (fun _ => True) H' → 0 ≤ Builtin.Range.rangeSize a b d → Q (.ref r) s') → wpAny c.M c.A (eval iter c.env) Q E s) :
    ITR c ρ H iter Ψ := by
  intro F s Q E st k
  refine h F s _ E st fun r s₁ a b d t u v H₁ sm₁ st₁ hr hsm p hn => ?_
  refine wpAny_pyIter_range hr hsm ⟨_, rfl, ?_⟩
  have hnone : s₁.heap.get? s₁.heap.objs.size = none := by
    cases e : s₁.heap.get? s₁.heap.objs.size with
    | none => rfl
    | some o => exact absurd (Heap.lt_size e) (Nat.lt_irrefl _)
  have st₂ := st₁.addF (I := s₁.heap.objs.size) (ob := { cls := .type "range_iterator", data := .fields #[rawInt a, rawInt (Builtin.Range.rangeSize a b d), rawInt d] }) (tk := s₁.toks) hnone (fun b o e => Heap.get?_push_of_some _ e) (Heap.get?_push_size _ rfl)
  refine k _ _ _ _ _ _ _ _ (itok_range (a := a) (st := d) (n := (Builtin.Range.rangeSize a b d).toNat) hh) (by rintro i ob v rfl; exact nofun) (st₁.fresh hnone).2 (sm₁.trans (.mem s₁ _ _)) st₂ ?_ p
  have e1 : a + ((0 : Nat) : Int) * d = a := by simp
  have e2 : ((Builtin.Range.rangeSize a b d).toNat : Int) - ((0 : Nat) : Int) = Builtin.Range.rangeSize a b d := by rw [Int.toNat_of_nonneg hn]; simp
  rw [e1, e2]
def ASG (c : Cx) (ρ : Loc) (H : Hp) (t : Expr) (v : AV) (Φ : Loc → Hp → Prop) : Prop := ∀ y, abs y = v → Tri c ρ H (assign t c.env y) fun _ ρ' H' => Φ ρ' H'
theorem asg_name {x : Str} {pos : Pos} {v : AV} {Φ : Loc → Hp → Prop} (ok : Ok c) (hx : Stores c x) (h : Φ (ρ.set x v) H) : ASG c ρ H (.Name x pos) v Φ := fun y hy =>
  Tri.of fun F s Q st k => wpAny_assign_Name ((tri_store ok hx).use st fun _ s₂ ρ₂ H₂ sm₂ st₂ ⟨e₁, e₂⟩ => by subst e₁ e₂; rw [hy] at st₂; exact k _ _ _ _ sm₂ st₂ h)
theorem letOwned_other {M : Model} {A : Around} {target : Expr} {I : Addr} {ob : Obj} {v : Value} {s : Shared} {Q : Unit → Shared → Prop} {E : Value → Shared → Prop} (g : s.heap.get? I = some ob) (hc : ∃ t, ob.cls = .type t ∧ ownedKinds.contains t = false) (h : Q () s) :
    wpAny M A (letOwnedTupleGo target (.ref I) v) Q E s := by
  obtain ⟨t, hc, hn⟩ := hc
  have key : wpAny M A (do
      let (.ref r, .ref a) := ((Value.ref I), v) | return
      let o ← load r
      match o.cls, o.data with
      | .type n, .fields vs =>
        if ["enumerate", "zip", "dict_itemiterator", "dict_reverseitemiterator", "odict_iterator", "itertools.zip_longest", "itertools.pairwise"].contains n && vs[0]? == some (rawInt a) then
          rule "for.unpacks-the-owned-tuple"
          updateField r 0 .none
      | _, _ => pure ()) Q E s := by
    cases v with
    | ref a =>
      refine wpAny_bind (wpAny_load g ?_)
      rw [hc]
      cases hd : ob.data with
      | fields vs =>
        have hn' : (["enumerate", "zip", "dict_itemiterator", "dict_reverseitemiterator", "odict_iterator", "itertools.zip_longest", "itertools.pairwise"].contains t) = false := hn
        simp only [hn', Bool.false_and, Bool.false_eq_true, if_false]
        exact wpAny_pure h
      | _ => exact wpAny_pure h
    | _ => exact wpAny_pure h
  cases target with
  | Tuple => exact key
  | List => exact key
  | _ => exact wpAny_pure h
/-- a for by an invariant over its turns -/
theorem ex_for {target iter : Expr} {body : List Stmt} {pos : Pos} {Φ : AF → Loc → Hp → Prop}
    (h : ITR c ρ H iter fun n val G H' => ∃ Inv : Nat → Loc → Hp → Prop, Inv 0 ρ H' ∧ (∀ i ρ H, Inv i ρ H → G H) ∧
      (∀ i ρ H, i < n → Inv i ρ H → ASG c ρ H target (val i) fun ρ₁ H₁ => XS c ρ₁ H₁ body fun f ρ₂ H₂ => match f with
        | .next | .cont => Inv (i + 1) ρ₂ H₂
        | .brk => Φ .next ρ₂ H₂
        | .ret v => Φ (.ret v) ρ₂ H₂) ∧ ∀ ρ H, Inv n ρ H → Φ .next ρ H)
    (hs : ∀ x, foldedSetIterable iter c.env x = pure x := by intro _; rfl) : EX c ρ H (.For target iter body [] pos) Φ :=
  Tri.of fun F s Q st k => by
    refine wpAny_For (wpAny_mono (h F s (fun I s₂ => codeAny c.M c.A (.forLoop target (.ref I) body [] c.env) (fun r s' => match r with | .ok f => Q f s' | .error e => cameBackBy c.M c.A c.env (fun _ _ => False) e s') s₂) (fun _ _ => False) st ?_)
      (fun x s₁ h₁ => wpAny_mono h₁ (fun it s₂ h₂ => by obtain ⟨I, rfl, h₂⟩ := h₂; exact h₂) fun _ _ x => x) fun _ _ x => x) hs
    intro I ob s' n val P G H' W hnc hFI sm st' hP hΨ
    obtain ⟨Inv, h0, hG, turn, done⟩ := hΨ
    refine codeAny_forLoop_any (fun k s₁ => ∃ i ρ₁ H₁ ob₁, k = n + 1 - i ∧ i ≤ n ∧ Stp s H s₁ H₁ ∧ St c ρ₁ H₁ (F.set I (.raw ob₁)) s₁ ∧ P i ob₁ ∧ Inv i ρ₁ H₁) ?_ (n + 1) ⟨0, ρ, H', ob, rfl, Nat.zero_le _, sm, st', hP, h0⟩
    rintro kk s₁ ⟨i, ρ₁, H₁, ob₁, rfl, hi, sm₁, st₁, hP₁, hI₁⟩
    have gI : s₁.heap.get? I = some ob₁ := by
      obtain ⟨o, g, r, _⟩ := st₁.hasF I (.raw ob₁) true Hp.set_same
      cases r; exact g
    by_cases hlt : i < n
    · refine W.next i ρ₁ H₁ _ s₁ ob₁ _ _ hlt hP₁ (hG i ρ₁ H₁ hI₁) st₁ gI fun v h' tk ob' hv hs' g' hP' => ?_
      have st₂ := st₁.updF (tk := tk) hFI (fun v => hnc i ob₁ v hP₁) hs' g'
      refine letOwned_other (ob := ob') g' (W.cls _ _ hP') ?_
      refine (turn i ρ₁ H₁ hlt hI₁ v hv).use st₂ fun _ s₃ ρ₃ H₃ sm₃ st₃ p₃ => ?_
      refine p₃.use st₃ fun f s₄ ρ₄ H₄ sm₄ st₄ p₄ => ?_
      have smx : Stp s H s₄ H₄ := sm₁.trans ((Stp.mem s₁ h' tk).trans (sm₃.trans sm₄))
      have drop : St c ρ₄ H₄ F s₄ := st₄.dropF (h' := s₄.heap) (tk := s₄.toks) hFI (fun v => hnc _ ob' v hP') (fun _ _ _ e => e)
      cases f with
      | next => exact ⟨n + 1 - (i + 1), by omega, i + 1, ρ₄, H₄, ob', rfl, hlt, smx, st₄, hP', p₄⟩
      | cont => exact ⟨n + 1 - (i + 1), by omega, i + 1, ρ₄, H₄, ob', rfl, hlt, smx, st₄, hP', p₄⟩
      | brk => exact k _ _ _ _ smx drop p₄
      | ret v => exact k _ _ _ _ smx drop p₄
    · have : i = n := by omega
      subst this
      refine W.done ρ₁ H₁ _ s₁ ob₁ _ _ hP₁ (hG i ρ₁ H₁ hI₁) st₁ gI fun h' tk hx => ?_
      have st₂ := st₁.dropF (tk := tk) hFI (fun v => hnc i ob₁ v hP₁) hx
      exact wpAny_execs_nil (k _ _ _ _ (sm₁.trans (Stp.mem s₁ h' tk)) st₂ (done ρ₁ H₁ hI₁))
end
def fnBody (p : Program) (i : Nat) : List Stmt := match p.main.body[i]? with
  | some (.FunctionDef _ _ body _ _ _ _ _ _ _) => body
  | _ => []
def fnScope (p : Program) (i : Nat) : Scope := match p.main.body[i]? with
  | some (.FunctionDef _ _ _ _ _ _ scope _ _ _) => scope
  | _ => { kind := .function, names := [], isGenerator := false, isCoroutine := false, more := [] }
def fnArgs (p : Program) (i : Nat) : Arguments := match p.main.body[i]? with
  | some (.FunctionDef _ args _ _ _ _ _ _ _ _) => args
  | _ => ⟨[], [], none, [], [], none, []⟩
theorem countP_split {p : Int → Bool} : ∀ (xs : List Int) (n : Nat), n ≤ xs.length → (∀ i y, i < n → xs[i]? = some y → p y = true) → (∀ i y, n ≤ i → xs[i]? = some y → p y = false) → xs.countP p = n
  | [], n, hn, _, _ => by simp at hn; simp [hn]
  | x :: xs, 0, _, _, h2 => by
    rw [List.countP_eq_zero]
    intro y hy
    obtain ⟨i, hi⟩ := List.getElem?_of_mem hy
    simp [h2 i y (Nat.zero_le _) hi]
  | x :: xs, n + 1, hn, h1, h2 => by
    have hx : p x = true := h1 0 x (Nat.succ_pos _) rfl
    rw [List.countP_cons, hx, countP_split xs n (by simpa using hn) (fun i y hi e => h1 (i + 1) y (by omega) (by simpa using e)) (fun i y hi e => h2 (i + 1) y (by omega) (by simpa using e))]
    simp
def zs (xs : List Int) : List AV := xs.map AV.int
theorem zs_get {xs : List Int} {k : Nat} {y : Int} (h : xs[k]? = some y) : (zs xs)[k]? = some (.int y) := by simp [zs, h]
theorem zs_len {xs : List Int} : (zs xs).length = xs.length := by simp [zs]
def Sorted (xs : List Int) : Prop := xs.Pairwise (· ≤ ·)
theorem Sorted.le {xs : List Int} (h : Sorted xs) {i j : Nat} {x y : Int} (hij : i ≤ j) (hx : xs[i]? = some x) (hy : xs[j]? = some y) : x ≤ y := by
  rcases Nat.lt_or_ge i j with q | q
  · obtain ⟨hi, rfl⟩ := List.getElem?_eq_some_iff.mp hx
    obtain ⟨hj, rfl⟩ := List.getElem?_eq_some_iff.mp hy
    exact (List.pairwise_iff_getElem.mp h) i j hi hj q
  · have : i = j := by omega
    subst this; rw [hx] at hy; cases hy; exact Int.le_refl _
theorem kd_of {c : Cx} {x : Str} {k : NameKind} {sc : Scope} (hk : c.env.scope = sc) (h : sc.names.lookup x = some k) : c.env.kindOf x = some k := by rw [Env.kindOf, hk]; exact h
theorem ex_ifp {c : Cx} {ρ : Loc} {H : Hp} {test : Expr} {body orelse : List Stmt} {pos : Pos} {b : Bool} {Φ : AF → Loc → Hp → Prop} (h : PT c ρ H test b) (ht : b = true → XS c ρ H body Φ) (hf : b = false → XS c ρ H orelse Φ) : EX c ρ H (.If test body orelse pos) Φ :=
  ex_if (h.tv (by cases b with | true => exact ht rfl | false => exact hf rfl))
theorem ex_assignp {c : Cx} {ρ : Loc} {H : Hp} {x : Str} {pos' pos : Pos} {e : Expr} {v : AV} {Φ : AF → Loc → Hp → Prop} (ok : Ok c) (hx : Stores c x) (h : PV c ρ H e v) (hΦ : Φ .next (ρ.set x v) H)
    (hs : swapsWith e (some (.Name x pos')) pos.line c.env = pure false := by rfl) : EX c ρ H (.Assign [.Name x pos'] e pos) Φ := ex_assign ok hx (h.ev hΦ) hs
theorem pt_is_none {c : Cx} {ρ : Loc} {H : Hp} {l : Expr} {k pos pos'} {v : AV} (h : PV c ρ H l v) (b : Bool) (hb : b = (match v with | .none => true | _ => false)) (hv : match v with | .none | .int _ | .bool _ | .ref _ => True | _ => False) : PT c ρ H (.Compare l [.Is] [.Constant .none k pos] pos') b :=
  pt_cmp (pv_cmp_of h pv_none (behind_of rfl) fun y z hy hz => Tri.of fun F s Q st kk => by
    have := abs_none hz; subst this
    subst hb
    cases v with
    | none => have := abs_none hy; subst this; exact PyProof.Rows.is_none_none (kk _ _ _ _ (.refl s) st ⟨rfl, rfl, rfl⟩)
    | int i => obtain ⟨t, rfl⟩ := abs_int hy; exact PyProof.Rows.is_int_none (kk _ _ _ _ (.refl s) st ⟨rfl, rfl, rfl⟩)
    | bool i => have := abs_bool hy; subst this; exact PyProof.Rows.is_bool_none (kk _ _ _ _ (.refl s) st ⟨rfl, rfl, rfl⟩)
    | ref i => have := abs_ref hy; subst this; exact PyProof.Rows.is_ref_none (kk _ _ _ _ (.refl s) st ⟨rfl, rfl, rfl⟩)
    | _ => exact hv.elim)
/-- an item of a list of ints, the place a natural number -/
theorem pv_itemZ {c : Cx} {ρ : Loc} {H : Hp} {v i : Expr} {pos : Pos} {l : Addr} {k : Nat} {xs : List Int} {fl : Bool} {y : Int} (hv : PV c ρ H v (.ref l)) (hk : PV c ρ H i (.int k)) (hl : H l = some (.list (zs xs), fl)) (hlen : xs.length < 1000000000) (hy : xs[k]? = some y)
    (hi : plainIdx i = true := by rfl) : PV c ρ H (.Subscript v i pos) (.int y) :=
  pv_item hv hk hl (by rw [zs_len]; exact hlen) (by omega) (by rw [show ((k : Int)).toNat = k by omega]; exact zs_get hy) hi
/-- a def of the text stands in the written part -/
def fdOf (p : Program) (i : Nat) (name : Str) (dV kV doc pm : Value) (an : Option Addr) (cdv ct : Value) : FuncData := fnOf name name (fnArgs p i) (fnBody p i) (fnScope p i) dV kV doc pm an cdv ct
structure FnK (K : Frag) (p : Program) (i : Nat) (name : Str) (f : Addr) (oc : Value) (od : Option Addr) (dV kV doc pm : Value) (an : Option Addr) (cdv ct : Value) (osl : Array (Option Value)) : Prop where
  g : gl K name = some (.ref f)
  o : K.lookup f = some ⟨oc, od, .func (fdOf p i name dV kV doc pm an cdv ct), osl⟩
  cd : codeIn K cdv name = true
def BindsK (K : Frag) (fd : FuncData) (vs : List Value) (binds : List (Str × Value)) : Prop := ∀ s : Shared, K.In s.heap → BindsTo s fd ⟨vs, []⟩ binds
theorem ex_returnp {c : Cx} {ρ : Loc} {H : Hp} {e : Expr} {v : AV} {pos : Pos} {Φ : AF → Loc → Hp → Prop} (h : PV c ρ H e v) (hΦ : Φ (.ret v) ρ H) : EX c ρ H (.Return (some e) pos) Φ := ex_return (h.ev hΦ)
section
variable {c : Cx} {ρ : Loc} {H : Hp}
/-- a comprehension's own frame -/
def compCx (c : Cx) (scope : Scope) (cl : List (Str × Addr)) (C : Addr) : Cx := { c with env := compEnvC scope cl C c.env, own := false }
/-- what it sees from around it -/
def freeLoc (scope : Scope) (ρ : Loc) : Loc := fun x => if scope.names.lookup x = some .free then ρ x else none
def closOf (env : Env) : List (Str × NameKind) → List (Str × Addr) → List (Str × Addr)
  | [], acc => acc
  | (n, k) :: r, acc => if k == .free then closOf env r ((n, (env.cells.lookup n).getD 0) :: acc) else closOf env r acc
theorem closureFor_is {scope : Scope} {env : Env} (h : ∀ n, (n, NameKind.free) ∈ scope.names → ∃ a, env.cells.lookup n = some a) : closureFor scope env = pure (closOf env scope.names []) := by
  unfold closureFor
  have gen : ∀ (l : List (Str × NameKind)) (acc : List (Str × Addr)), (∀ n, (n, NameKind.free) ∈ l → ∃ a, env.cells.lookup n = some a) →
      (forIn l acc fun x r => (match x with | (name, kind) => if (kind == NameKind.free) = true then do let a ← cellOf env name; pure (ForInStep.yield ((name, a) :: r)) else pure (ForInStep.yield r) : Sem (ForInStep (List (Str × Addr))))) = pure (closOf env l acc) := by
    intro l
    induction l with
    | nil => intro acc _; rfl
    | cons x r ih =>
      intro acc hx
      obtain ⟨n, k⟩ := x
      rw [List.forIn_cons]
      by_cases hk : (k == NameKind.free) = true
      · have hk' : k = .free := by simpa using hk
        subst hk'
        obtain ⟨a, ha⟩ := hx n (.head _)
        have e : cellOf env n = pure a := by unfold cellOf; rw [ha]
        simp only [hk, if_true, e, pure_bind, closOf, ha, Option.getD_some]
        exact ih _ fun m hm => hx m (.tail _ hm)
      · simp only [hk, if_false, pure_bind, closOf]
        exact ih _ fun m hm => hx m (.tail _ hm)
  have := gen scope.names [] h
  simpa using this
theorem closOf_lookup {env : Env} {x : Str} : ∀ (l : List (Str × NameKind)) (acc : List (Str × Addr)) (a : Addr), (closOf env l acc).lookup x = some a → acc.lookup x = some a ∨ ((x, NameKind.free) ∈ l ∧ a = (env.cells.lookup x).getD 0)
  | [], acc, a, h => .inl h
  | (n, k) :: r, acc, a, h => by
    unfold closOf at h
    split at h
    · rename_i hk
      have hk' : k = .free := by simpa using hk
      subst hk'
      rcases closOf_lookup r _ a h with q | q
      · by_cases e : x = n
        · subst e; simp [List.lookup_cons] at q; exact .inr ⟨.head _, q.symm⟩
        · have : (x == n) = false := by simpa using e
          rw [List.lookup_cons, this] at q; exact .inl q
      · exact .inr ⟨.tail _ q.1, q.2⟩
    · rcases closOf_lookup r _ a h with q | q
      · exact .inl q
      · exact .inr ⟨.tail _ q.1, q.2⟩
theorem closOf_some {env : Env} {x : Str} : ∀ (l : List (Str × NameKind)) (acc : List (Str × Addr)), ((x, NameKind.free) ∈ l ∨ ∃ a, acc.lookup x = some a) → ∃ a, (closOf env l acc).lookup x = some a
  | [], acc, h => h.elim (fun h => by cases h) id
  | (n, k) :: r, acc, h => by
    unfold closOf
    split
    · rename_i hk
      refine closOf_some r _ ?_
      by_cases e : x = n
      · subst e; exact .inr ⟨_, by simp [List.lookup_cons]; rfl⟩
      · rcases h with h | ⟨a, h⟩
        · rcases List.mem_cons.mp h with q | q
          · cases q; exact absurd rfl e
          · exact .inl q
        · have : (x == n) = false := by simpa using e
          exact .inr ⟨a, by rw [List.lookup_cons, this]; exact h⟩
    · rename_i hk
      refine closOf_some r _ ?_
      rcases h with h | h
      · rcases List.mem_cons.mp h with q | q
        · cases q; exact absurd rfl hk
        · exact .inl q
      · exact .inr h
theorem relabel_lookup {scope : Scope} {env : Env} {x : Str} : (relabel scope env).names.lookup x = (scope.names.lookup x).map fun k => if (k == .free && env.scope.kind == .function && env.kindOf x == some .cell) then .cell else k := by
  unfold relabel
  dsimp only
  generalize scope.names = l
  induction l with
  | nil => rfl
  | cons y r ih =>
    obtain ⟨n, k⟩ := y
    by_cases e : x = n
    · subst e
      simp only [List.map_cons]
      split
      · rename_i h; simp only [List.lookup_cons, beq_self_eq_true, Option.map_some]; rw [if_pos h]
      · rename_i h; simp only [List.lookup_cons, beq_self_eq_true, Option.map_some]; rw [if_neg h]
    · have q : (x == n) = false := by simpa using e
      simp only [List.map_cons]
      split <;> simp only [List.lookup_cons, q] <;> exact ih
/-- the scopes that the rules below take: no cells of its own, what is free is a cell around -/
structure CompOk (c : Cx) (scope : Scope) : Prop where
  cell : ∀ y ∈ scope.names, y.2 ≠ .cell
  kind : scope.kind = .function
  names : ∀ y ∈ scope.names, scope.names.lookup y.1 = some y.2
  free : ∀ x, (x, NameKind.free) ∈ scope.names → cellKind c.env x
theorem CompOk.clos {scope : Scope} (ok : Ok c) (k : CompOk c scope) : closureFor scope c.env = pure (closOf c.env scope.names []) := closureFor_is fun n hn => ok.cells n (k.free n hn)
theorem CompOk.ok {scope : Scope} {C : Addr} (ok : Ok c) (k : CompOk c scope) : Ok (compCx c scope (closOf c.env scope.names []) C) := by
  refine ⟨ok.kin, ok.top, k.kind, ok.glob, ok.blt, ok.hand, ok.depth, ok.units, fun x hx => ?_, fun h => by cases h⟩
  have : (x, NameKind.free) ∈ scope.names := by
    have hx' : (relabel scope c.env).names.lookup x = some .cell ∨ (relabel scope c.env).names.lookup x = some .free := hx
    rw [relabel_lookup] at hx'
    cases e : scope.names.lookup x with
    | none => rw [e] at hx'; rcases hx' with q | q <;> cases q
    | some kk =>
      have hm := lookup_mem e
      rw [e] at hx'
      cases kk with
      | free => exact hm
      | cell => exact absurd rfl (k.cell _ hm)
      | _ => rcases hx' with q | q <;> simp at q
  exact closOf_some _ _ (.inl this)
open Classical in
/-- all that stands around and is not known by H -/
noncomputable def restF (c : Cx) (H F : Hp) (h : Heap) (C : Addr) : Hp := fun a => match F a with
  | some x => some x
  | none => if H a ≠ none ∨ a = C ∨ c.h₀.get? a ≠ none then none else (h.get? a).map fun ob => (.raw ob, true)
theorem restF_of {F : Hp} {h : Heap} {C a : Addr} {x : AObj × Bool} (e : F a = some x) : restF c H F h C a = some x := by simp only [restF, e]
theorem restF_raw {F : Hp} {h : Heap} {C a : Addr} {ob : Obj} (e : F a = none) (e1 : H a = none) (e2 : a ≠ C) (e3 : c.h₀.get? a = none) (e4 : h.get? a = some ob) : restF c H F h C a = some (.raw ob, true) := by
  simp only [restF, e]
  rw [if_neg (by simp [e1, e2, e3]), e4]; rfl
/-- into a comprehension's frame -/
theorem St.inComp {F : Hp} {s s₁ : Shared} {scope : Scope} {C : Addr} (ok : Ok c) (k : CompOk c scope) (st : St c ρ H F s) (hCn : s.heap.get? C = none) (hCs : s.heap.objs.size ≤ C) (hk : ∀ b o, s.heap.get? b = some o → s₁.heap.get? b = some o) (hns : ∃ m, s₁.heap.Ns C m) :
    St (compCx c scope (closOf c.env scope.names []) C) (freeLoc scope ρ) H (restF c H F s.heap C) s₁ := by
  have hcn : ∀ b o, s.heap.get? b = some o → b ≠ C := fun b o e q => by rw [q, hCn] at e; cases e
  have conv : ∀ a o b, HasP c a o b s.heap → HasP (compCx c scope (closOf c.env scope.names []) C) a o b s₁.heap := by
    rintro a o b ⟨ob, e, r, r1, r2⟩
    exact ⟨ob, hk a ob e, r, fun hb => ⟨hcn a ob e, (r1 hb).2⟩, r2⟩
  obtain ⟨m, hm⟩ := hns
  refine ⟨⟨m, hm, fun x v e kx => ?_⟩, fun x a e => ?_, fun b o e => hk b o (st.keep b o e), ?_, fun a o b e => conv a o b (st.has a o b e), fun a o b e => ?_, fun a ha => ?_⟩
  · have hx : scope.names.lookup x = some .free := by
      simp only [freeLoc] at e; split at e
      · assumption
      · cases e
    have kx' : (relabel scope c.env).names.lookup x = some .local := kx
    rw [relabel_lookup, hx] at kx'
    simp only [Option.map_some, Option.some.injEq] at kx'
    split at kx' <;> cases kx'
  · rcases closOf_lookup _ _ _ e with q | ⟨q1, q2⟩
    · cases q
    · obtain ⟨a', ha'⟩ := ok.cells x (k.free x q1)
      rw [ha'] at q2; cases q2
      obtain ⟨ob, o, g, d, ne, r1, r0, r2, r3⟩ := st.cel x _ ha'
      refine ⟨ob, o, hk _ ob g, d, hcn _ ob g, r1, r0, (fun h => by cases h), fun v e' _ => r3 v ?_ (k.free x q1)⟩
      simp only [freeLoc] at e'; split at e'
      · exact e'
      · cases e'
  · have := st.Llt; have h2 := st.above
    exact Nat.le_trans h2 (Nat.le_trans (Nat.le_of_lt this) hCs)
  · simp only [restF] at e
    split at e
    · rename_i x hx; cases e; exact conv a o b (st.hasF a o b hx)
    · split at e
      · cases e
      · rename_i hn
        simp only [not_or, Decidable.not_not] at hn
        rw [Option.map_eq_some_iff] at e
        obtain ⟨ob, g, e⟩ := e
        cases e
        exact ⟨ob, hk a ob g, rfl, fun _ => ⟨hn.2.1, by show c.h₀.get? a = none; simpa using hn.2.2⟩, fun x => by cases x⟩
  · simp only [restF, st.dis a ha]
    rw [if_pos (.inl ha)]
/-- and out of it -/
theorem St.outComp {F F₃ : Hp} {s s' : Shared} {scope : Scope} {cl : List (Str × Addr)} {C : Addr} {ρ' : Loc} {H' : Hp} {h' : Heap} {tk : Nat} (st : St c ρ H F s) (hCn : s.heap.get? C = none) (st' : St (compCx c scope cl C) ρ' H' F₃ s')
    (hF : ∀ a x, restF c H F s.heap C a = some x → F₃ a = some x) (fz : ∀ a o, H' a = some (o, false) → H a = some (o, false)) (hs : Heap.SameBut C s'.heap h') : St c ρ H' F { s' with heap := h', toks := tk } := by
  have hcn : ∀ b o, s.heap.get? b = some o → b ≠ C := fun b o e q => by rw [q, hCn] at e; cases e
  -- what stood and is not known stands
  have old : ∀ b ob, s.heap.get? b = some ob → H b = none → c.h₀.get? b = none → F b = none → F₃ b = some (.raw ob, true) ∧ s'.heap.get? b = some ob := by
    intro b ob e e1 e2 e3
    have := hF b _ (restF_raw e3 e1 (hcn b ob e) e2 e)
    obtain ⟨ob', g, r, _⟩ := st'.hasF b _ true this
    cases r; exact ⟨this, g⟩
  have keep' : ∀ b o, c.h₀.get? b = some o → s'.heap.get? b = some o := st'.keep
  obtain ⟨m, hm, hv⟩ := st.ns
  have hL0 : c.h₀.get? c.L = none := by
    cases e : c.h₀.get? c.L with
    | none => rfl
    | some o => exact absurd (Heap.lt_size e) (Nat.not_lt_of_le st.above)
  have hHL : H c.L = none := by
    cases e : H c.L with
    | none => rfl
    | some x =>
      obtain ⟨o, b⟩ := x
      obtain ⟨ob, g, _, r1, r2⟩ := st.has c.L o b e
      cases b with
      | true => exact absurd rfl (r1 rfl).1
      | false => have := r2 rfl; rw [hL0] at this; cases this
  have hFL : F c.L = none := by
    cases e : F c.L with
    | none => rfl
    | some x =>
      obtain ⟨o, b⟩ := x
      obtain ⟨ob, g, _, r1, r2⟩ := st.hasF c.L o b e
      cases b with
      | true => exact absurd rfl (r1 rfl).1
      | false => have := r2 rfl; rw [hL0] at this; cases this
  obtain ⟨oL, es, ep, gL, rL⟩ := id hm
  obtain ⟨hF₃L, gL'⟩ := old c.L oL gL hHL hL0 hFL
  have hCL : c.L ≠ C := hcn _ _ gL
  have ext : ∀ b o, b ≠ C → s'.heap.get? b = some o → h'.get? b = some o := fun b o n e => hs.extBut b o n e
  have conv : ∀ a o b, HasP (compCx c scope cl C) a o b s'.heap → a ≠ c.L → a ≠ C → HasP c a o b h' := by
    rintro a o b ⟨ob, e, r, r1, r2⟩ hne hnc
    exact ⟨ob, ext a ob hnc e, r, fun hb => ⟨hne, (r1 hb).2⟩, r2⟩
  have notC : ∀ a o b, HasP (compCx c scope cl C) a o b s'.heap → a ≠ C := by
    rintro a o b ⟨ob, e, r, r1, r2⟩ q
    cases b with
    | true => exact (r1 rfl).1 q
    | false => exact absurd (Heap.lt_size (r2 rfl)) (by subst q; exact Nat.not_lt_of_le st'.above)
  have hF3L : ∀ a o b, F a = some (o, b) → a ≠ c.L := by
    intro a o b e q; rw [q, hFL] at e; cases e
  refine ⟨⟨m, ⟨oL, es, ep, ext _ _ hCL gL', rL⟩, hv⟩, fun x a e => ?_, fun b o e => ext b o ?_ (keep' b o e), st.above, fun a o b e => ?_, fun a o b e => ?_, fun a ha => ?_⟩
  · obtain ⟨ob, o, g, d, ne, r1, r0, r2, r3⟩ := st.cel x a e
    have hg : s'.heap.get? a = some ob ∧ H' a = none := by
      rcases r1 with r1 | r1
      · cases eF : F a with
        | none =>
          have := old a ob g r0 r1 eF
          refine ⟨this.2, ?_⟩
          cases eH : H' a with
          | none => rfl
          | some y => have q := st'.dis a (by rw [eH]; exact nofun); rw [this.1] at q; cases q
        | some y =>
          obtain ⟨oy, by'⟩ := y
          obtain ⟨ob', e', rr, _⟩ := st.hasF a oy by' eF
          rw [g] at e'; cases e'
          have h3 := hF a _ (restF_of eF)
          have hH : H' a = none := by
            cases eH : H' a with
            | none => rfl
            | some y => have q := st'.dis a (by rw [eH]; exact nofun); rw [h3] at q; cases q
          cases oy with
          | raw o₂ =>
            cases rr
            obtain ⟨ob'', g'', rr', _⟩ := st'.hasF a _ by' h3
            cases rr'; exact ⟨g'', hH⟩
          | list xs => exact absurd d (ORep.not_cell rr rfl o)
          | tup xs => exact absurd d (ORep.not_cell rr rfl o)
          | dict xs => exact absurd d (ORep.not_cell rr rfl o)
      · refine ⟨keep' a ob r1, ?_⟩
        cases eH : H' a with
        | none => rfl
        | some y =>
          obtain ⟨oy, by'⟩ := y
          obtain ⟨ob', e', rr, z1, z2⟩ := st'.has a oy by' eH
          cases by' with
          | true => have := (z1 rfl).2; rw [show (compCx c scope cl C).h₀ = c.h₀ from rfl, r1] at this; cases this
          | false =>
            have := fz a oy eH; rw [r0] at this; cases this
    exact ⟨ob, o, ext a ob (hcn a ob g) hg.1, d, ne, r1, hg.2, r2, r3⟩
  · intro q; subst q; have := Heap.lt_size e; exact absurd this (Nat.not_lt_of_le (by exact st'.above))
  · have hp := st'.has a o b e
    refine conv a o b hp ?_ (notC a o b hp)
    intro q; have := st'.dis a (by rw [e]; exact nofun); rw [q, hF₃L] at this; cases this
  · have hp := st'.hasF a o b (hF a _ (restF_of e))
    exact conv a o b hp (hF3L a o b e) (notC a o b hp)
  · have := st'.dis a ha
    cases eF : F a with
    | none => rfl
    | some y => rw [hF a _ (restF_of eF)] at this; cases this
end
section
variable {c : Cx} {ρ : Loc} {H : Hp}
theorem St.get {F : Hp} {s : Shared} {a : Addr} {o : AObj} {b : Bool} (st : St c ρ H F s) (h : H a = some (o, b)) : ∃ ob, s.heap.get? a = some ob ∧ ORep o b ob := let ⟨ob, g, r, _⟩ := st.has a o b h; ⟨ob, g, r⟩
theorem St.getF {F : Hp} {s : Shared} {a : Addr} {o : AObj} {b : Bool} (st : St c ρ H F s) (h : F a = some (o, b)) : ∃ ob, s.heap.get? a = some ob ∧ ORep o b ob := let ⟨ob, g, r, _⟩ := st.hasF a o b h; ⟨ob, g, r⟩
/-- an object that holds no cell -/
def NoCell (o : AObj) : Prop := ∀ ob, ORep o true ob → ∀ v, ob.data ≠ .cell v
theorem noCell_plain {o : AObj} (h : o.plain = true) : NoCell o := fun _ r v => r.not_cell h v
theorem noCell_raw {ob : Obj} (h : ∀ v, ob.data ≠ .cell v) : NoCell (.raw ob) := fun _ r v => by cases r; exact h v
theorem St.toH {F : Hp} {s : Shared} {a : Addr} {o : AObj} (st : St c ρ H (F.set a o) s) (hF : F a = none) (hc : NoCell o) : St c ρ (H.set a o) F s := by
  have hFa : (F.set a o) a = some (o, true) := Hp.set_same
  have hHa : H a = none := by
    cases e : H a with
    | none => rfl
    | some x => have := st.dis a (by rw [e]; exact nofun); rw [hFa] at this; cases this
  have hFn : ∀ b, b ≠ a → (F.set a o) b = F b := fun b hb => by simp only [Hp.set, if_neg hb]
  obtain ⟨oba, ga, ra⟩ := st.getF hFa
  refine ⟨st.ns, fun x b e => ?_, st.keep, st.above, fun b o' fl e => ?_, fun b o' fl e => ?_, fun b hb => ?_⟩
  · obtain ⟨ob, o', g, d, ne, r1, r0, r2, r3⟩ := st.cel x b e
    have hb : b ≠ a := by intro q; rw [q, ga] at g; cases g; exact hc _ ra _ d
    exact ⟨ob, o', g, d, ne, r1, by simp only [Hp.set, if_neg hb]; exact r0, fun h => ⟨(r2 h).1, by rw [← hFn b hb]; exact (r2 h).2⟩, r3⟩
  · by_cases q : b = a
    · subst q; rw [Hp.set_same] at e; cases e; exact st.hasF b o true hFa
    · simp only [Hp.set, if_neg q] at e; exact st.has b o' fl e
  · have q : b ≠ a := by intro q; rw [q, hF] at e; cases e
    exact st.hasF b o' fl (by rw [hFn b q]; exact e)
  · by_cases q : b = a
    · subst q; exact hF
    · simp only [Hp.set, if_neg q] at hb; rw [← hFn b q]; exact st.dis b hb
theorem St.toF {F : Hp} {s : Shared} {a : Addr} {o : AObj} (st : St c ρ (H.set a o) F s) (hH : H a = none) : St c ρ H (F.set a o) s := by
  have hHa : (H.set a o) a = some (o, true) := Hp.set_same
  have hHn : ∀ b, b ≠ a → (H.set a o) b = H b := fun b hb => by simp only [Hp.set, if_neg hb]
  have hFa : F a = none := st.dis a (by rw [hHa]; exact nofun)
  refine ⟨st.ns, fun x b e => ?_, st.keep, st.above, fun b o' fl e => ?_, fun b o' fl e => ?_, fun b hb => ?_⟩
  · obtain ⟨ob, o', g, d, ne, r1, r0, r2, r3⟩ := st.cel x b e
    have hb : b ≠ a := by intro q; rw [q, hHa] at r0; cases r0
    exact ⟨ob, o', g, d, ne, r1, by rw [← hHn b hb]; exact r0, fun h => ⟨(r2 h).1, by simp only [Hp.set, if_neg hb]; exact (r2 h).2⟩, r3⟩
  · have q : b ≠ a := by intro q; rw [q, hH] at e; cases e
    exact st.has b o' fl (by rw [hHn b q]; exact e)
  · by_cases q : b = a
    · subst q; rw [Hp.set_same] at e; cases e; exact st.has b o true hHa
    · simp only [Hp.set, if_neg q] at e; exact st.hasF b o' fl e
  · have q : b ≠ a := by intro q; rw [q] at hb; exact hb hH
    simp only [Hp.set, if_neg q]; exact st.dis b (by rw [hHn b q]; exact hb)
theorem St.dropH {F : Hp} {s : Shared} {a : Addr} {o : AObj} (st : St c ρ (H.set a o) F s) (hH : H a = none) : St c ρ H F s := by
  have hHn : ∀ b, b ≠ a → (H.set a o) b = H b := fun b hb => by simp only [Hp.set, if_neg hb]
  have ne : ∀ b, H b ≠ none → b ≠ a := fun b hb q => hb (q ▸ hH)
  refine ⟨st.ns, fun x b e => ?_, st.keep, st.above, fun b o' fl e => ?_, st.hasF, fun b hb => ?_⟩
  · obtain ⟨ob, o', g, d, ne', r1, r0, r2, r3⟩ := st.cel x b e
    refine ⟨ob, o', g, d, ne', r1, ?_, r2, r3⟩
    by_cases q : b = a
    · subst q; exact hH
    · rw [← hHn b q]; exact r0
  · exact st.has b o' fl (by rw [hHn b (ne b (by rw [e]; exact nofun))]; exact e)
  · exact st.dis b (by rw [hHn b (ne b hb)]; exact hb)
theorem Hp.set_comm {F : Hp} {a b : Addr} {o o' : AObj} (h : a ≠ b) : (F.set a o).set b o' = (F.set b o').set a o := by
  funext x
  simp only [Hp.set]
  by_cases q : x = b
  · subst q; rw [if_pos rfl, if_neg (Ne.symm h), if_pos rfl]
  · rw [if_neg q, if_neg q]
theorem Hp.set_set {F : Hp} {a : Addr} {o o' : AObj} : (F.set a o).set a o' = F.set a o' := by
  funext x
  simp only [Hp.set]
  by_cases q : x = a
  · subst q; rw [if_pos rfl, if_pos rfl]
  · rw [if_neg q, if_neg q, if_neg q]
theorem St.updF' {F : Hp} {s : Shared} {a : Addr} {o o' : AObj} {ob' : Obj} {h' : Heap} {tk : Nat} (st : St c ρ H (F.set a o) s) (hF : F a = none) (hc : NoCell o) (hs : Heap.SameBut a s.heap h') (ho : h'.get? a = some ob') (hr : ORep o' true ob') :
    St c ρ H (F.set a o') { s with heap := h', toks := tk } := by
  have hFa : (F.set a o) a = some (o, true) := Hp.set_same
  obtain ⟨ob₁, hob, hrep, hown, _⟩ := st.hasF a _ true hFa
  obtain ⟨hL, h0⟩ := hown rfl
  obtain ⟨m, hm, hv⟩ := st.ns
  refine ⟨⟨m, hm.extBut hs.extBut (Ne.symm hL), hv⟩, fun x b e => ?_, fun b o e => hs.extBut b o (fun q => by rw [q, h0] at e; cases e) (st.keep b o e), st.above, fun b o₁ fl e => ?_, fun b o₁ fl e => ?_, fun b hb => ?_⟩
  · obtain ⟨ob₁, o₁, g, d, ne, r1, r0, r2, r3⟩ := st.cel x b e
    have hne : b ≠ a := by intro q; rw [q, hob] at g; cases g; exact hc _ hrep _ d
    exact ⟨ob₁, o₁, hs.extBut b ob₁ hne g, d, ne, r1, r0, fun h => ⟨(r2 h).1, by have := (r2 h).2; simp only [Hp.set, if_neg hne] at this ⊢; exact this⟩, r3⟩
  · have q : b ≠ a := by
      intro q; have := st.dis b (by rw [e]; exact nofun); rw [q, hFa] at this; cases this
    exact (st.has b o₁ fl e).keeps (fun o₂ _ e' => hs.extBut b o₂ q e') st.above
  · by_cases q : b = a
    · subst q; rw [Hp.set_same] at e; cases e
      exact ⟨ob', ho, hr, fun _ => ⟨hL, h0⟩, fun x => by cases x⟩
    · simp only [Hp.set, if_neg q] at e
      exact (st.hasF b o₁ fl (by simp only [Hp.set, if_neg q]; exact e)).keeps (fun o₂ _ e' => hs.extBut b o₂ q e') st.above
  · have := st.dis b hb
    by_cases q : b = a
    · subst q; rw [hFa] at this; cases this
    · simp only [Hp.set, if_neg q] at this ⊢; exact this
/-- less known of the names -/
theorem St.less {F : Hp} {s : Shared} {ρ' : Loc} (st : St c ρ H F s) (h : ∀ x v, ρ' x = some v → ρ x = some v) : St c ρ' H F s := by
  obtain ⟨m, hm, hv⟩ := st.ns
  refine ⟨⟨m, hm, fun x v e k => hv x v (h x v e) k⟩, fun x a e => ?_, st.keep, st.above, st.has, st.hasF, st.dis⟩
  obtain ⟨ob, o, g, d, ne, r1, r0, r2, r3⟩ := st.cel x a e
  exact ⟨ob, o, g, d, ne, r1, r0, r2, fun v e' k => r3 v (h x v e') k⟩
def IFS (c : Cx) (ρ : Loc) (H : Hp) (ifs : List Expr) (Φ : Bool → Hp → Prop) : Prop :=
  Tri c ρ H (forIn ifs true fun t r => if r = true then do let ok ← isTrue t c.env (eval t c.env); pure (ForInStep.yield ok) else pure (ForInStep.yield r)) fun b ρ' H' => ρ' = ρ ∧ Φ b H'
theorem ifs_nil {Φ : Bool → Hp → Prop} (h : Φ true H) : IFS c ρ H [] Φ := Tri.of fun F s Q st k => wpAny_tests_nil (k _ _ _ _ (.refl s) st ⟨rfl, h⟩)
/-- a comprehension's turns -/
def CompTurns (c : Cx) (ρ : Loc) (x : Str) (elt : Expr) (ifs : List Expr) (scope : Scope) (n : Nat) (val : Nat → AV) (Inv : Nat → List AV → Hp → Prop) : Prop :=
  ∀ C i ys H, i < n → Inv i ys H → Ok (compCx c scope (closOf c.env scope.names []) C) →
    IFS (compCx c scope (closOf c.env scope.names []) C) ((freeLoc scope ρ).set x (val i)) H ifs fun b H₂ =>
      if b then EV (compCx c scope (closOf c.env scope.names []) C) ((freeLoc scope ρ).set x (val i)) H₂ elt fun v H₃ => Inv (i + 1) (ys ++ [v]) H₃ else Inv (i + 1) ys H₂
theorem comp_core {elt iter : Expr} {x : Str} {px : Pos} {ifs : List Expr} {scope : Scope} {pos : Pos} {n : Nat} {val : Nat → AV} {P : Nat → Obj → Prop} {G : Hp → Prop} {I : Addr} {ob : Obj} {F : Hp} {s₂ : Shared}
    {RR : Value → Addr → Result → Shared → Prop} {E : Value → Shared → Prop} (ok : Ok c) (k : CompOk c scope) (hx : scope.names.lookup x = some .local) (W : ItOk c I n val P G) (hnc : ∀ i ob v, P i ob → ob.data ≠ .cell v) (hFI : F I = none)
    (st₂ : St c ρ H (F.set I (.raw ob)) s₂) (hP : P 0 ob) (hn : n ≤ 1000000) (Inv : Nat → List AV → Hp → Prop) (h0 : Inv 0 [] H) (hG : ∀ i ys H, Inv i ys H → G H) (turn : CompTurns c ρ x elt ifs scope n val Inv)
    (done : ∀ D C s' ys H', Inv n ys H' → H D = none → H' D = none → F D = none → Stp s₂ H s' H' → (∃ m, s'.heap.Ns C m) → s₂.heap.get? C = none → C ≠ D → s'.heap.get? D ≠ none → C ≠ c.L → (H' C = none ∧ F C = none ∧ c.h₀.get? C = none) → (∀ h' tk, Heap.SameBut C s'.heap h' → St c ρ (H'.set D (.list ys)) F { s' with heap := h', toks := tk }) → RR (.ref D) C (.ok .next) s') :
    wpAny c.M c.A (newList []) (fun acc s₃ => wpAny c.M c.A (newFunctionEnv scope c.env.globals (closOf c.env scope.names []) [] c.env.qual none .none (some c.env)) (fun cenv s₄ =>
      codeAny c.M c.A (.compStart (.ListComp elt [⟨.Name x px, iter, ifs, 0⟩] scope pos) 0 (.ref I) acc { cenv with scope := relabel scope c.env }) (RR acc cenv.locals) s₄) E s₃) E s₂ := by
  have fresh : ∀ (h : Heap) a, h.objs.size ≤ a → h.get? a = none := fun h a ha => by
    cases e : h.get? a with
    | none => rfl
    | some o' => exact absurd (Heap.lt_size e) (Nat.not_lt.mpr ha)
  refine wpAny_newList ?_ (by simp)
  refine wpAny_newFunctionEnv k.cell (by intro y hy; simp at hy) (fun h₁ hns₁ hsb₁ => ?_) k.kind
  dsimp only at hns₁ hsb₁ ⊢
  have hHI : H I = none := by
    cases e : H I with
    | none => rfl
    | some z => have := st₂.dis I (by rw [e]; exact nofun); rw [Hp.set_same] at this; cases this
  have stH := st₂.toH hFI (noCell_raw (hnc 0 ob · hP))
  obtain ⟨obI, gI, rI⟩ := stH.get (a := I) Hp.set_same
  have gI' : s₂.heap.get? I = some ob := by cases rI; exact gI
  generalize hD : s₂.heap.objs.size = D at hns₁ hsb₁ ⊢
  have hDn : s₂.heap.get? D = none := fresh _ _ (Nat.le_of_eq hD)
  have hHD : (H.set I (.raw ob)) D = none ∧ F D = none := stH.fresh hDn
  have hID : I ≠ D := by intro q; rw [q, hDn] at gI'; cases gI'
  have hHD' : H D = none := by have := hHD.1; simp only [Hp.set, if_neg (Ne.symm hID)] at this; exact this
  generalize hH2 : s₂.heap.push { cls := .type "list", dict := none, data := .seq ([] : List Value).toArray } = H2 at hns₁ hsb₁ ⊢
  have st₃ : St c ρ ((H.set I (.raw ob)).set D (.list [])) F { s₂ with heap := H2, toks := s₂.toks } := by
    subst hH2
    refine stH.alloc (a := D) (ob := { cls := .type "list", dict := none, data := .seq ([] : List Value).toArray }) hDn (fun b o e => Heap.get?_push_of_some _ e) (by rw [← hD]; exact Heap.get?_push_size _ rfl) ⟨_, _, rfl, rfl, rfl, fun _ => rfl⟩
  generalize hC : H2.objs.size = C at hns₁ hsb₁ ⊢
  have hCn : H2.get? C = none := fresh _ _ (Nat.le_of_eq hC)
  have hk : ∀ b o, H2.get? b = some o → h₁.get? b = some o := fun b o e => by
    have hb : b ≠ C := by intro q; rw [q, hCn] at e; cases e
    exact hsb₁.extBut b o hb (Heap.get?_push_of_some _ e)
  have okc := CompOk.ok (C := C) ok k
  have st₄ := St.inComp (C := C) (s₁ := { s₂ with heap := h₁, toks := s₂.toks + ([] : List (Str × Value)).length }) ok k st₃ hCn (Nat.le_of_eq hC) hk ⟨_, hns₁⟩
  generalize hR : restF c ((H.set I (.raw ob)).set D (.list [])) F H2 C = R at st₄
  have hRI : R I = none := st₄.dis I (by simp only [Hp.set, if_neg hID, if_pos rfl]; exact nofun)
  have hRD : R D = none := st₄.dis D (by rw [Hp.set_same]; exact nofun)
  have st₅ : St (compCx c scope (closOf c.env scope.names []) C) (freeLoc scope ρ) H ((R.set D (.list [])).set I (.raw ob)) { s₂ with heap := h₁, toks := s₂.toks + ([] : List (Str × Value)).length } :=
    (st₄.toF hHD.1).toF hHI
  have hCD : C ≠ D := by
    intro q
    have : H2.get? D = none := by rw [← q]; exact hCn
    obtain ⟨od, gd, _⟩ := st₃.get (a := D) Hp.set_same
    have gd' : H2.get? D = some od := gd
    rw [this] at gd'; cases gd'
  have hC₂ : s₂.heap.get? C = none := fresh _ _ (by rw [← hC, ← hH2, Heap.size_push]; exact Nat.le_succ _)
  have hCL : C ≠ c.L := by
    intro q; obtain ⟨m, ⟨o', es, ep, ho', _⟩, _⟩ := st₂.ns; rw [← q, hC₂] at ho'; cases ho'
  have hxl : (compCx c scope (closOf c.env scope.names []) C).env.kindOf x = some .local := by
    show (relabel scope c.env).names.lookup x = some .local
    rw [relabel_lookup, hx]; rfl
  -- the iterator's rules in the inner frame
  have loop : ∀ s₃ : Shared, s₃ = { s₂ with heap := h₁, toks := s₂.toks + ([] : List (Str × Value)).length } →
      codeAny c.M c.A (.compLoop (.ListComp elt [⟨.Name x px, iter, ifs, 0⟩] scope pos) 0 (.ref I) (.ref D) (compEnvC scope (closOf c.env scope.names []) C c.env)) (RR (.ref D) C) s₃ := by
    rintro s₃ rfl
    refine codeAny_compLoop_tests (fun kk s' => ∃ i H₁ ob₁ ys, kk = n + 1 - i ∧ i ≤ n ∧ ys.length ≤ i ∧ Stp s₂ H s' H₁ ∧ St (compCx c scope (closOf c.env scope.names []) C) (freeLoc scope ρ) H₁ ((R.set D (.list ys)).set I (.raw ob₁)) s' ∧ P i ob₁ ∧ Inv i ys H₁) ?_ (n + 1)
      ⟨0, H, ob, [], rfl, Nat.zero_le _, Nat.le_refl _, .mem s₂ _ _, st₅, hP, h0⟩
    rintro kk s' ⟨i, H₁, ob₁, ys, rfl, hi, hys, sm₁, st₁, hP₁, hI₁⟩
    have gI₁ : s'.heap.get? I = some ob₁ := by
      obtain ⟨o, g, r⟩ := st₁.getF (a := I) Hp.set_same
      cases r; exact g
    have hRDI : (R.set D (.list ys)) I = none := by simp only [Hp.set, if_neg hID]; exact hRI
    -- back in the frame around
    have out : ∀ (s'' : Shared) (ρ'' : Loc) (H'' : Hp) (ys' : List AV) (ob'' : Obj) (nc : ∀ v, ob''.data ≠ .cell v), Stp s₂ H s'' H'' → St (compCx c scope (closOf c.env scope.names []) C) ρ'' H'' ((R.set D (.list ys')).set I (.raw ob'')) s'' →
        H'' D = none ∧ (∀ h' tk, Heap.SameBut C s''.heap h' → St c ρ (H''.set D (.list ys')) F { s'' with heap := h', toks := tk }) := by
      intro s'' ρ'' H'' ys' ob'' nc sm st''
      have hRDI : (R.set D (.list ys')) I = none := by simp only [Hp.set, if_neg hID]; exact hRI
      have hH''I : H'' I = none := by
        cases e : H'' I with
        | none => rfl
        | some z => have := st''.dis I (by rw [e]; exact nofun); rw [Hp.set_same] at this; cases this
      have a1 := (st''.toH hRDI (noCell_raw nc))
      have hH''D : H'' D = none := by
        cases e : H'' D with
        | none => rfl
        | some z => have := st''.dis D (by rw [e]; exact nofun); rw [Hp.set_comm (Ne.symm hID), Hp.set_same] at this; cases this
      have a2 := a1.toH hRD (noCell_plain rfl)
      refine ⟨hH''D, fun h' tk hs => ?_⟩
      have a3 := St.outComp (h' := h') (tk := tk) st₃ hCn a2 (fun a x e => by rw [← hR]; exact e) (fun a o e => ?_) hs
      · rw [Hp.set_comm hID] at a3
        exact a3.dropH (by simp only [Hp.set, if_neg hID]; exact hH''I)
      · have hai : a ≠ D := by intro q; subst q; rw [Hp.set_same] at e; cases e
        have haI : a ≠ I := by intro q; subst q; simp only [Hp.set, if_neg hai, if_pos rfl] at e; cases e
        simp only [Hp.set, if_neg hai, if_neg haI] at e ⊢
        exact sm.fz a o e
    by_cases hlt : i < n
    · have Wn := W.next i ρ H₁ (fun a => none) 
      -- the iterator's step needs a state of the frame around
      obtain ⟨hH₁D, outst⟩ := out s' _ H₁ ys ob₁ (hnc i ob₁ · hP₁) sm₁ st₁
      have stO := outst s'.heap s'.toks (.refl ..)
      have GH : G H₁ := hG i ys H₁ hI₁
      refine W.next i ρ (H₁) (F.set D (.list ys)) s' ob₁ _ _ hlt hP₁ GH (stO.toF hH₁D) gI₁ fun v h' tk ob' hv hs' g' hP' => ?_
      have st₂' := st₁.updF' (tk := tk) hRDI (noCell_raw (hnc i ob₁ · hP₁)) hs' g' (o' := .raw ob') rfl
      refine (asg_name (x := x) (pos := px) (v := val i) (Φ := fun ρ' H' => ρ' = (freeLoc scope ρ).set x (val i) ∧ H' = H₁) okc (.inl hxl) ⟨rfl, rfl⟩ v hv).use st₂' fun _ s₃ ρ₃ H₃ sm₃ st₃' ⟨e1, e2⟩ => ?_
      subst e1 e2
      refine (turn C i ys _ hlt hI₁ okc).use st₃' fun b s₄ ρ₄ H₄ sm₄ st₄' ⟨e1, p₄⟩ => ?_
      subst e1
      cases b with
      | false =>
        simp only [Bool.false_eq_true, if_false] at p₄ ⊢
        refine ⟨n + 1 - (i + 1), by omega, i + 1, H₄, ob', ys, rfl, hlt, by omega, sm₁.trans ((Stp.mem s' h' tk).trans (sm₃.trans sm₄)), st₄'.less ?_, hP', p₄⟩
        intro z w e
        have hz : z ≠ x := by
          intro q; subst q; simp only [freeLoc] at e; split at e
          · rename_i q; rw [hx] at q; cases q
          · cases e
        simp only [Loc.set, if_neg hz]; exact e
      | true =>
        simp only [if_true] at p₄ ⊢
        refine p₄.use st₄' fun y s₅ ρ₅ H₅ sm₅ st₅' ⟨e1, p₅⟩ => ?_
        subst e1
        have hyI : (R.set I (.raw ob')) D = none := by simp only [Hp.set, if_neg (Ne.symm hID)]; exact hRD
        rw [Hp.set_comm (Ne.symm hID)] at st₅'
        obtain ⟨obD, gD, its, nn, hcD, hdD, hmD, hoD⟩ := st₅'.getF (a := D) Hp.set_same
        have hobD := hoD rfl
        subst hobD
        have hsz : its.size = ys.length := size_of_map hmD
        refine append_at (hsz := by have : sizeLine = 2 ^ 24 := rfl; rw [this]; omega) gD fun h₆ hs₆ g₆ => ?_
        have st₆ := st₅'.updF' (o' := .list (ys ++ [abs y])) (tk := s₅.toks) hyI (noCell_plain rfl) hs₆ g₆ ⟨its.push y, nn + 1, rfl, rfl, by simp [hmD], fun _ => rfl⟩
        rw [Hp.set_comm hID] at st₆
        refine ⟨n + 1 - (i + 1), by omega, i + 1, H₅, ob', ys ++ [abs y], rfl, hlt, by simp; omega, sm₁.trans ((Stp.mem s' h' tk).trans (sm₃.trans (sm₄.trans (sm₅.trans (Stp.mem s₅ h₆ s₅.toks))))), st₆.less ?_, hP', p₅⟩
        intro z w e
        have hz : z ≠ x := by
          intro q; subst q; simp only [freeLoc] at e; split at e
          · rename_i q; rw [hx] at q; cases q
          · cases e
        simp only [Loc.set, if_neg hz]; exact e
    · have : i = n := by omega
      subst this
      obtain ⟨hH₁D, outst⟩ := out s' _ H₁ ys ob₁ (hnc i ob₁ · hP₁) sm₁ st₁
      have stO := outst s'.heap s'.toks (.refl ..)
      refine W.done ρ H₁ (F.set D (.list ys)) s' ob₁ _ _ hP₁ (hG i ys H₁ hI₁) (stO.toF hH₁D) gI₁ fun h' tk hx' => ?_
      have st₇ := st₁.dropF (tk := tk) hRDI (fun v => hnc i ob₁ v hP₁) hx'
      -- the iterator may be gone; the rest stands
      have st₈ := st₇.toH hRD (noCell_plain rfl)
      obtain ⟨m, hm, _⟩ := st₇.ns
      obtain ⟨obD, gD, _⟩ := st₇.getF (a := D) Hp.set_same
      refine done D C _ ys H₁ hI₁ hHD' hH₁D hHD.2 (sm₁.trans (Stp.mem s' h' tk)) ⟨m, hm⟩ hC₂ hCD (by rw [gD]; exact nofun) hCL ⟨?_, (st₃.fresh hCn).2, ?_⟩ fun h'' tk' hs'' => ?_
      · cases e : H₁ C with
        | none => rfl
        | some z =>
          obtain ⟨oz, bz⟩ := z
          obtain ⟨_, _, _, q1, q2⟩ := st₁.has C oz bz e
          cases bz with
          | true => exact absurd rfl (q1 rfl).1
          | false => exact absurd (Heap.lt_size (q2 rfl)) (Nat.not_lt_of_le st₁.above)
      · cases e : c.h₀.get? C with
        | none => rfl
        | some z => exact absurd (Heap.lt_size e) (Nat.not_lt_of_le st₁.above)
      have hkeep : ∀ b o, b ≠ I → b ≠ C → s'.heap.get? b = some o → h''.get? b = some o := fun b o hb hbC e => hs''.extBut b o hbC (hx' b o hb e)
      have base := outst s'.heap tk' (.refl ..)
      -- transport to the later heap
      obtain ⟨m₀, hm₀, hv₀⟩ := base.ns
      have hIL : c.L ≠ I := by
        intro q; obtain ⟨o', es, ep, ho', hd', _⟩ := hm₀
        have : s'.heap.get? c.L = some o' := ho'
        rw [q, gI₁] at this; cases this
        obtain ⟨t, ht, _⟩ := W.cls _ _ hP₁
        have hIraw : ((R.set D (.list ys)).set I (.raw ob₁)) I = some (.raw ob₁, true) := Hp.set_same
        have hLraw : R c.L ≠ none := by
          rw [← hR]
          obtain ⟨mL, ⟨oL, esL, epL, hoL, _⟩, _⟩ := st₃.ns
          have hH₁L : ((H.set I (.raw ob)).set D (.list [])) c.L = none := by
            cases e : ((H.set I (.raw ob)).set D (.list [])) c.L with
            | none => rfl
            | some z =>
              obtain ⟨oz, bz⟩ := z
              obtain ⟨obz, gz, _, r1, r2⟩ := st₃.has c.L oz bz e
              cases bz with
              | true => exact absurd rfl (r1 rfl).1
              | false => exact absurd (Heap.lt_size (r2 rfl)) (Nat.not_lt_of_le st₃.above)
          rw [q] at hH₁L
          simp only [Hp.set, if_neg hID, if_pos rfl] at hH₁L
          cases hH₁L
        exact hLraw (by rw [q]; exact hRI)
      refine ⟨⟨m₀, hm₀.at' fun o e => hkeep _ o hIL (Ne.symm hCL) e, hv₀⟩, fun z a e => ?_, fun b o e => hkeep b o ?_ ?_ (base.keep b o e), base.above, fun a o b e => ?_, fun a o b e => ?_, base.dis⟩
      · obtain ⟨oz, o', g, d, ne, r1, r0, r2, r3⟩ := base.cel z a e
        have haI : a ≠ I := by
          intro q
          have : s'.heap.get? a = some oz := g
          rw [q, gI₁] at this; cases this; exact hnc _ _ _ hP₁ d
        have haC : a ≠ C := by
          intro q
          obtain ⟨ox, o'', g', _⟩ := st₃.cel z a e
          have g'' : H2.get? a = some ox := g'
          rw [q, hCn] at g''; cases g''
        exact ⟨oz, o', hkeep a oz haI haC g, d, ne, r1, r0, r2, r3⟩
      · intro q; subst q; have := st₃.has b (.raw ob) true (by simp [Hp.set, hID]); obtain ⟨_, _, _, r1, _⟩ := this; rw [(r1 rfl).2] at e; cases e
      · intro q; subst q; have := st₃.keep b o e; have g'' : H2.get? b = some o := this; rw [hCn] at g''; cases g''
      · have hp := base.has a o b e
        obtain ⟨oz, g, r, r1, r2⟩ := hp
        have haI : a ≠ I := by
          intro q; subst q
          simp only [Hp.set, if_neg hID] at e
          have := st₁.dis a (by rw [e]; exact nofun); rw [Hp.set_same] at this; cases this
        have haC : a ≠ C := by
          intro q; subst q
          by_cases qD : a = D
          · exact hCD qD
          · simp only [Hp.set, if_neg qD] at e
            obtain ⟨_, _, _, q1, q2⟩ := st₁.has a o b e
            cases b with
            | true => exact (q1 rfl).1 rfl
            | false => exact absurd (Heap.lt_size (q2 rfl)) (Nat.not_lt_of_le st₁.above)
        exact ⟨oz, hkeep a oz haI haC g, r, r1, r2⟩
      · have hp := base.hasF a o b e
        obtain ⟨oz, g, r, r1, r2⟩ := hp
        have haI : a ≠ I := by intro q; rw [q, hFI] at e; cases e
        have haC : a ≠ C := by
          intro q; subst q
          obtain ⟨_, g', _⟩ := st₃.hasF a o b e
          have g'' : H2.get? a = some _ := g'
          rw [hCn] at g''; cases g''
        exact ⟨oz, hkeep a oz haI haC g, r, r1, r2⟩
  have hself : wpAny c.M c.A (pyIter (.ref I)) (fun it' s' => codeAny c.M c.A (.compLoop (.ListComp elt [⟨.Name x px, iter, ifs, 0⟩] scope pos) 0 it' (.ref D) (compEnvC scope (closOf c.env scope.names []) C c.env)) (RR (.ref D) C) s') (notedBy c.M c.A (compEnvC scope (closOf c.env scope.names []) C c.env) fun x s' => RR (.ref D) C (.error x) s') { s₂ with heap := h₁, toks := s₂.toks + ([] : List (Str × Value)).length } := by
    have gI₅ : h₁.get? I = some ob := by
      obtain ⟨o, g, r⟩ := st₅.getF (a := I) Hp.set_same
      cases r; exact g
    exact W.self 0 _ ob _ _ hP gI₅ (loop _ rfl)
  exact codeAny_compStart_list (loop _ rfl) hself
end
section
variable {c : Cx} {ρ : Loc} {H : Hp}
def CompBody (c : Cx) (ρ : Loc) (x : Str) (elt : Expr) (ifs : List Expr) (scope : Scope) (Ψ : List AV → Hp → Prop) (n : Nat) (val : Nat → AV) (G : Hp → Prop) (H' : Hp) : Prop :=
  n ≤ 1000000 ∧ ∃ Inv : Nat → List AV → Hp → Prop, Inv 0 [] H' ∧ (∀ i ys H, Inv i ys H → G H) ∧ CompTurns c ρ x elt ifs scope n val Inv ∧ ∀ ys H', Inv n ys H' → Ψ ys H'
theorem ev_comp {elt iter : Expr} {x : Str} {px : Pos} {ifs : List Expr} {scope : Scope} {pos : Pos} {Φ : AV → Hp → Prop} (ok : Ok c) (k : CompOk c scope) (hx : scope.names.lookup x = some .local)
    (h : ITR c ρ H iter (CompBody c ρ x elt ifs scope fun ys H' => ∀ D, H' D = none → Φ (.ref D) (H'.set D (.list ys))))
    (hs : ∀ x, foldedSetIterable iter c.env x = pure x := by intro _; rfl) : EV c ρ H (.ListComp elt [⟨.Name x px, iter, ifs, 0⟩] scope pos) Φ :=
  Tri.of fun F s Q st kk => by
    rw [eval_ListComp]
    refine wpAny_comprehension_free (use := none) (cl := closOf c.env scope.names []) rfl hs (k.clos ok) k.kind (fun y hy e => by rw [k.names y hy, e]) ?_
    show wpAny c.M c.A (eval iter c.env) _ _ s
    refine wpAny_mono (h F s (fun I s₂ => wpAny c.M c.A (newList []) (fun acc s₃ => wpAny c.M c.A (newFunctionEnv scope c.env.globals (closOf c.env scope.names []) [] c.env.qual none .none (some c.env)) (fun cenv s₄ =>
      codeAny c.M c.A (.compStart (.ListComp elt [⟨.Name x px, iter, ifs, 0⟩] scope pos) 0 (.ref I) acc { cenv with scope := relabel scope c.env }) (compPost c.M c.A (fun _ _ => False) none Q acc cenv.locals) s₄) (fun _ _ => False) s₃) (fun _ _ => False) s₂) (fun _ _ => False) st ?_)
      (fun x s₁ h₁ => wpAny_mono h₁ (fun it s₂ h₂ => by obtain ⟨I, rfl, h₂⟩ := h₂; exact h₂) fun _ _ x => x) fun _ _ x => x
    intro I ob s' n val P G H' W hnc hFI sm st' hP hΨ
    obtain ⟨hn, Inv, h0, hG, turn, done⟩ := hΨ
    refine comp_core (RR := fun acc C => compPost c.M c.A (fun _ _ => False) none Q acc C) ok k hx W hnc hFI st' hP hn Inv h0 hG turn ?_
    intro D C s'' ys H'' hI hHD hH''D hFD sm'' hns hC2 hCD hgD hCL hCC out
    obtain ⟨m, hm⟩ := hns
    exact ⟨m, hm, fun h₃ hs₃ => kk _ _ _ _ (sm.trans (sm''.trans (Stp.set s'' h₃ s''.toks))) (out h₃ s''.toks hs₃) ⟨rfl, done ys H'' hI D hH''D⟩⟩
end
theorem intsAre_of : ∀ {vs : List Value} {ns : List Int}, vs.map abs = zs ns → IntsAre vs ns
  | [], [], _ => .nil
  | [], _ :: _, h => by simp [zs] at h
  | _ :: _, [], h => by simp [zs] at h
  | v :: vs, n :: ns, h => by
    simp only [List.map_cons, zs, List.cons.injEq] at h
    obtain ⟨t, rfl⟩ := abs_int h.1
    exact .cons n t (intsAre_of h.2)
theorem of_intsAre : ∀ {vs : List Value} {ns : List Int}, IntsAre vs ns → vs.map abs = zs ns
  | _, _, .nil => rfl
  | _, _, .cons n t r => by simp only [List.map_cons, zs]; rw [of_intsAre r]; rfl
def scriptLoc (l : Addr) : Loc := fun y => if y = ("script" : Str) then some (.ref l) else none
def scriptHp (l : Addr) (ns : List Int) : Hp := fun a => if a = l then some (.list (zs ns), false) else none
theorem cellsFrom_inj {x y : Str} : ∀ (names : List (Str × NameKind)) (n : Nat) (acc : List (Str × Addr)) (a : Addr), (∀ z b, acc.lookup z = some b → b < n) → (∀ z z' b, acc.lookup z = some b → acc.lookup z' = some b → z = z') →
    (cellsFrom n names acc).lookup x = some a → (cellsFrom n names acc).lookup y = some a → x = y
  | [], n, acc, a, _, hi, h1, h2 => hi _ _ _ h1 h2
  | (w, k) :: r, n, acc, a, hb, hi, h1, h2 => by
    unfold cellsFrom at h1 h2
    split at h1
    · rename_i hk
      rw [if_pos hk] at h2
      refine cellsFrom_inj r (n + 1) _ a ?_ ?_ h1 h2
      · intro z b e
        by_cases q : z = w
        · subst q; simp [List.lookup_cons] at e; rw [← e]; exact Nat.lt_succ_self _
        · have : (z == w) = false := by simpa using q
          rw [List.lookup_cons, this] at e; exact Nat.lt_succ_of_lt (hb z b e)
      · intro z z' b e e'
        by_cases q : z = w
        · subst q
          simp [List.lookup_cons] at e; subst e
          by_cases q' : z' = z
          · exact q'.symm
          · have : (z' == z) = false := by simpa using q'
            rw [List.lookup_cons, this] at e'; exact absurd (hb _ _ e') (Nat.lt_irrefl _)
        · have hq : (z == w) = false := by simpa using q
          rw [List.lookup_cons, hq] at e
          by_cases q' : z' = w
          · subst q'
            simp [List.lookup_cons] at e'; subst e'
            exact absurd (hb _ _ e) (Nat.lt_irrefl _)
          · have hq' : (z' == w) = false := by simpa using q'
            rw [List.lookup_cons, hq'] at e'; exact hi _ _ _ e e'
    · rename_i hk
      rw [if_neg hk] at h2
      exact cellsFrom_inj r n acc a hb hi h1 h2
theorem cellsAre_get {cm : Str → Option Value} {x : Str} {a : Addr} : ∀ {cs : List (Str × Addr)} {cells : List (Addr × Obj)}, CellsAre cm cs cells → cs.lookup x = some a → ∃ o, (a, o) ∈ cells ∧ o.data = .cell (cm x)
  | _, _, .nil, h => by cases h
  | _, _, .cons (n := n) (c := b) (o := o) (cs := cs) (cells := cells) hd r, h => by
    by_cases q : x = n
    · subst q; simp [List.lookup_cons] at h; subst h; exact ⟨o, .head _, hd⟩
    · have : (x == n) = false := by simpa using q
      rw [List.lookup_cons, this] at h
      obtain ⟨o', m, d⟩ := cellsAre_get r h
      exact ⟨o', .tail _ m, d⟩
theorem lookup_cellsFrom {x : Str} {names : List (Str × NameKind)} {n : Nat} (h : (x, NameKind.cell) ∈ names) : ∃ a, (cellsFrom n names []).lookup x = some a := by
  have gen : ∀ (l : List (Str × NameKind)) (n : Nat) (acc : List (Str × Addr)), ((x, NameKind.cell) ∈ l ∨ ∃ a, acc.lookup x = some a) → ∃ a, (cellsFrom n l acc).lookup x = some a := by
    intro l
    induction l with
    | nil => intro n acc h; exact h.elim (fun h => by cases h) id
    | cons y r ih =>
      intro n acc h
      obtain ⟨z, k⟩ := y
      unfold cellsFrom
      split
      · refine ih _ _ ?_
        by_cases q : x = z
        · subst q; exact .inr ⟨n, by simp [List.lookup_cons]⟩
        · rcases h with h | ⟨a, h⟩
          · rcases List.mem_cons.mp h with e | e
            · cases e; exact absurd rfl q
            · exact .inl e
          · have : (x == z) = false := by simpa using q
            exact .inr ⟨a, by rw [List.lookup_cons, this]; exact h⟩
      · rename_i hk
        refine ih _ _ ?_
        rcases h with h | h
        · rcases List.mem_cons.mp h with e | e
          · cases e; exact absurd rfl hk
          · exact .inl e
        · exact .inr h
  exact gen names n [] (.inl h)
/-- from the law's call to its body -/
theorem law_enter {prog : Program} {w : World} {K : Frag} {s : Shared} {R : Result → Shared → Prop} {name : Str} {params : Arguments} {body : List Stmt} {scope : Scope} {pm cd doc : Value} {fa l : Addr} {o : Obj} {vs : List Value} {ns : List Int}
    {p : Program} {loose : List Str} {mean : ExcName → Option Value} {mg mb : Str → Option Value}
    (ho : s.heap.get? fa = some o) (hdata : o.data = .func (Calls.docDef name params body scope pm cd doc)) (T : Top p loose mean mg mb s.heap) (KX : K.In s.heap) (hcd : s.heap.CodeRec cd name) (hL : s.heap.IsList l vs.toArray) (hI : IntsAre vs ns)
    (hbind : bindArgs (Calls.docDef name params body scope pm cd doc) ⟨[.ref l], []⟩ = pure [(Str.ofString "script", Value.ref l)])
    (hkind : scope.names.lookup (Str.ofString "script") = some .local ∨ scope.names.lookup (Str.ofString "script") = some .cell) (hnd : ((cellsFrom 0 scope.names []).map (·.1)).Nodup) (hfree : ∀ x ∈ scope.names, x.2 ≠ .free)
    (hco : scope.isCoroutine = false) (hgen : scope.isGenerator = false) (hk : scope.kind = .function)
    (h : ∀ c : Cx, Ok c → OkC c 20 → c.K = K → c.env.scope = scope → c.own = true → XS c (scriptLoc l) (scriptHp l ns) body fun f _ _ => f = .ret (.bool true))
    (hR : ∀ s' m, Fr s.heap s.heap.objs.size s'.heap m → Same s s' → R (.ok (.ret (.bool true))) s') : codeAny (model prog w) callerA (.call (.ref fa) ⟨[.ref l], []⟩) R s := by
  refine call_cellsN (by decide) ho hdata T.nolimit hcd hbind ?_ hnd (fun h₁ tk cells F N X => ?_) hco hgen hk
  · intro x hx
    simp only [List.mem_singleton] at hx
    subst hx
    rcases hkind with q | q
    · exact .inl q
    · refine .inr ⟨q, ?_⟩
      obtain ⟨a, ha⟩ := lookup_cellsFrom (n := s.heap.objs.size + 1) (lookup_mem q)
      rw [ha]; rfl
  let c : Cx := { prog := prog, w := w, A := callerA.deeper (envOfC name scope s.heap.objs.size fa cd), env := envOfC name scope s.heap.objs.size fa cd, h₀ := s.heap, own := true, K := K }
  have ok : Ok c := by
    refine ⟨KX, ⟨p, loose, mean, mg, mb, T⟩, hk, rfl, rfl, rfl, (by show callerA.depth + 1 < 900; decide), (by show callerA.units + 3 < 500; decide), ?_, ?_⟩
    · rintro x (q | q)
      · exact lookup_cellsFrom (lookup_mem q)
      · exact absurd rfl (hfree _ (lookup_mem q))
    · intro _ x y a e1 e2
      exact cellsFrom_inj _ _ _ a (fun z b e => by cases e) (fun z z' b e => by cases e) e1 e2
  have okc : OkC c 20 := ⟨⟨callerA, s.heap, [], below_caller s.heap, rfl⟩, rfl, (by show callerA.depth + 1 + 20 < 900; decide), (by show callerA.units + 3 + 3 * 20 < 500; decide)⟩
  have hlt : l < s.heap.objs.size := by obtain ⟨ob, g, _⟩ := hL; exact Heap.lt_size g
  have st : St c (scriptLoc l) (scriptHp l ns) (fun _ => none) { s with heap := h₁, toks := tk } := by
    refine ⟨⟨_, F.ns, fun x v e kx => ?_⟩, fun x a e => ?_, F.keep, F.above, fun a o b e => ?_, (fun a o b e => by cases e), fun a _ => rfl⟩
    · simp only [scriptLoc] at e
      split at e
      · rename_i q; subst q; cases e
        refine ⟨.ref l, ?_, rfl⟩
        have kx' : (envOfC name scope s.heap.objs.size fa cd).kindOf "script" = some .local := kx
        simp only [bindL, kx', if_true]
      · cases e
    · obtain ⟨ob, hm, hd⟩ := cellsAre_get X e
      obtain ⟨g, n1, n2⟩ := N _ hm
      refine ⟨ob, _, g, hd, n1, .inl n2, ?_, fun _ => ⟨n2, rfl⟩, fun v e' kx => ?_⟩
      · simp only [scriptHp]
        rw [if_neg]
        intro q
        obtain ⟨ob', g', _⟩ := hL
        rw [← q] at g'
        have n2' : s.heap.get? a = none := n2
        rw [n2'] at g'; cases g'
      · simp only [scriptLoc] at e'
        split at e'
        · rename_i q; subst q; cases e'
          refine ⟨.ref l, ?_, rfl⟩
          have hk2 : ¬ ((envOfC name scope s.heap.objs.size fa cd).kindOf "script" = some .local) := by
            intro q
            rcases kx with kx | kx
            · have : (envOfC name scope s.heap.objs.size fa cd).kindOf "script" = some .cell := kx
              rw [q] at this; cases this
            · have : (envOfC name scope s.heap.objs.size fa cd).kindOf "script" = some .free := kx
              rw [q] at this; cases this
          simp only [bindC, hk2, if_false]
          simp
        · cases e'
    · simp only [scriptHp] at e
      split at e
      · rename_i q; subst q; cases e
        obtain ⟨ob, g, hc, n, hd⟩ := hL
        exact ⟨ob, F.keep _ _ g, ⟨vs.toArray, n, hc, hd, by simpa using of_intsAre hI, fun x => by cases x⟩, (fun x => by cases x), fun _ => g⟩
      · cases e
  have := h c ok okc rfl rfl rfl
  refine Tri.use this st fun f s' ρ' H' sm st' hf => ?_
  obtain ⟨m, Fm, _⟩ := st'.fr
  have sm' : Same s s' := Same.trans ⟨h₁, tk, rfl⟩ sm.same
  cases f with
  | ret v =>
    have hv : abs v = .bool true := by simpa [absF] using hf
    have := abs_bool hv; subst this
    exact hR s' m Fm sm'
  | next => cases hf
  | brk => cases hf
  | cont => cases hf
section
variable {c : Cx} {ρ : Loc} {H : Hp}
theorem one_of {ys : List Value} {a : AV} (h : ys.map abs = [a]) : ∃ y, ys = [y] ∧ abs y = a := by
  match ys, h with
  | [y], h => exact ⟨y, rfl, by simpa using h⟩
theorem two_of {ys : List Value} {a b : AV} (h : ys.map abs = [a, b]) : ∃ y z, ys = [y, z] ∧ abs y = a ∧ abs z = b := by
  match ys, h with
  | [y, z], h => simp at h; exact ⟨y, z, rfl, h.1, h.2⟩
theorem four_of {ys : List Value} {a b d e : AV} (h : ys.map abs = [a, b, d, e]) : ∃ y z w u, ys = [y, z, w, u] ∧ abs y = a ∧ abs z = b ∧ abs w = d ∧ abs u = e := by
  match ys, h with
  | [y, z, w, u], h => simp at h; exact ⟨y, z, w, u, rfl, h.1, h.2.1, h.2.2.1, h.2.2.2⟩
theorem none_at_size (h : Heap) : h.get? h.objs.size = none := by
  cases e : h.get? h.objs.size with
  | none => rfl
  | some o => exact absurd (Heap.lt_size e) (Nat.lt_irrefl _)
theorem sizeLine_is : sizeLine = 16777216 := rfl
theorem orep_list {its : Array Value} {n : Nat} {xs : List AV} (h : its.toList.map abs = xs) : ORep (.list xs) true { cls := .type "list", data := .seq its n } := ⟨its, n, rfl, rfl, h, fun _ => rfl⟩
theorem orep_tup {its : Array Value} {n : Nat} {xs : List AV} (h : its.toList.map abs = xs) : ORep (.tup xs) true { cls := .type "tuple", data := .seq its n } := ⟨its, n, rfl, rfl, h, fun _ => rfl⟩
theorem small_of {a b d : Int} (ha : -1000000000 ≤ a ∧ a ≤ 1000000000) (hb : -1000000000 ≤ b ∧ b ≤ 1000000000) (hd : 0 < d ∧ d ≤ 1000) : Builtin.Range.small a b d = true ∧ 0 ≤ Builtin.Range.rangeSize a b d := by
  have hsz : 0 ≤ Builtin.Range.rangeSize a b d ∧ Builtin.Range.rangeSize a b d ≤ 2000000001 := by
    unfold Builtin.Range.rangeSize
    rw [if_pos hd.1]
    split
    · have h1 : 0 ≤ (b - a - 1) / d := Int.ediv_nonneg (by omega) (by omega)
      have h2 : (b - a - 1) / d ≤ b - a - 1 := Int.ediv_le_self _ (by omega)
      omega
    · omega
  refine ⟨?_, hsz.1⟩
  unfold Builtin.Range.small Builtin.Range.rangeFitsLong
  simp only [Bool.and_eq_true, Bool.or_eq_true, decide_eq_true_eq, beq_iff_eq]
  rw [if_pos hd.1]
  simp only [Bool.and_eq_true, decide_eq_true_eq]
  omega
theorem itr_range1 {x : Str} {np pos : Pos} {e1 : Expr} {b : Int} {Ψ : Nat → (Nat → AV) → (Hp → Prop) → Hp → Prop} (ok : Ok c) (hl : c.env.kindOf x = some .globalImplicit) (hg : gl c.K x = some (.type "range"))
    (h1 : PV c ρ H e1 (.int b)) (hb : -1000000000 ≤ b ∧ b ≤ 1000000000)
    (hΨ : Ψ b.toNat (fun i => .int i) (fun _ => True) H)
    (hns : noStars [e1] = true := by decide +kernel) (hdb : (x == ("__debug__" : Str)) = false := by decide +kernel) (hn : x ≠ ("__name__" : Str) := by decide +kernel) :
    ITR c ρ H (.Call (.Name x np) [e1] [] pos) Ψ := by
  refine itr_rangeV ok.hand fun F s Q E st k => ?_
  have hs := small_of (a := 0) (by omega) hb (d := 1) (by omega)
  have hΨ' : Ψ (Builtin.Range.rangeSize 0 b 1).toNat (fun i => .int (0 + i * 1)) (fun _ => True) H := by
    have e1 : (Builtin.Range.rangeSize 0 b 1).toNat = b.toNat := by
      unfold Builtin.Range.rangeSize
      rw [if_pos (by omega)]
      split
      · rw [Int.ediv_one]; omega
      · omega
    rw [e1]
    simpa using hΨ
  refine wpAny_mono (Q := fun y s' => ∃ r t u v, y = .ref r ∧ Stp s H s' H ∧ St c ρ H F s' ∧ IsRange s'.heap r 0 b 1 t u v) (E := fun _ _ => False) ?_ (fun y s' ⟨r, t, u, v, e, sm, st', hr⟩ => by subst e; exact k r s' 0 b 1 t u v H sm st' hr hs.1 hΨ' hs.2) fun _ _ x => x.elim
  refine wpAny_Call_NameR (gl_loads ok hl hg hdb hn st ?_)
  rw [back_plain hns]
  refine PyProof.Rows.callWith_type (by simp [List.any_eq]) (evalArgs_plain ?_)
  refine (ps_cons h1 ps_nil).use st fun ys s₁ ρ₁ H₁ sm₁ st₁ ⟨e₁, e2, e3⟩ => ?_
  subst e₁ e3
  obtain ⟨y1, rfl, a1⟩ := one_of e2
  obtain ⟨t1, rfl⟩ := abs_int a1
  exact call_range_1 ⟨_, _, t1, _, rfl, sm₁.trans (.mem s₁ _ _), st₁.keepsAll (fun b o e => Heap.get?_push_of_some _ e), Heap.get?_push_size _ rfl⟩
theorem ev_list {es : List Expr} {pos : Pos} {Φ : AV → Hp → Prop} (h : ES c ρ H es fun vs H' => vs.length ≤ 1000 ∧ ∀ D, H' D = none → Φ (.ref D) (H'.set D (.list vs))) (hns : noStars es = true := by decide +kernel) : EV c ρ H (.List es pos) Φ :=
  Tri.of fun F s Q st k => wpAny_List (by
    rw [back_plain hns]
    refine h.use st fun ys s₁ ρ₁ H₁ sm₁ st₁ ⟨e₁, hlen, p⟩ => ?_
    subst e₁
    have hn := none_at_size s₁.heap
    refine ⟨by rw [sizeLine_is]; simp at hlen; omega, k _ _ _ _ (sm₁.trans (.set s₁ _ s₁.toks)) (st₁.alloc (tk := s₁.toks) (o := .list (ys.map abs)) hn (fun b o e => Heap.get?_push_of_some _ e) (Heap.get?_push_size _ rfl) (orep_list (by simp))) ⟨rfl, p _ (st₁.fresh hn).1⟩⟩)
theorem ev_tuple {es : List Expr} {n : Nat} {pos : Pos} {Φ : AV → Hp → Prop} (h : ES c ρ H es fun vs H' => vs.length ≤ 1000 ∧ ∀ D, H' D = none → Φ (.ref D) (H'.set D (.tup vs))) (hns : noStars es = true := by decide +kernel) : EV c ρ H (.Tuple es n pos) Φ :=
  Tri.of fun F s Q st k => wpAny_Tuple (by
    rw [back_plain hns]
    refine h.use st fun ys s₁ ρ₁ H₁ sm₁ st₁ ⟨e₁, hlen, p⟩ => ?_
    subst e₁
    have hn := none_at_size s₁.heap
    refine ⟨by rw [sizeLine_is]; simp at hlen; omega, k _ _ _ _ (sm₁.trans (.set s₁ _ s₁.toks)) (st₁.alloc (tk := s₁.toks) (o := .tup (ys.map abs)) hn (fun b o e => Heap.get?_push_of_some _ e) (Heap.get?_push_size _ rfl) (orep_tup (by simp))) ⟨rfl, p _ (st₁.fresh hn).1⟩⟩)
theorem St.ints {F : Hp} {s : Shared} {a : Addr} {xs : List Int} {fl : Bool} (st : St c ρ H F s) (h : H a = some (.list (zs xs), fl)) : ∃ vs : List Value, s.heap.IsList a vs.toArray ∧ IntsAre vs xs := by
  obtain ⟨its, hl, he⟩ := st.isList h
  exact ⟨its.toList, by simpa using hl, intsAre_of he⟩
theorem ev_sum {x : Str} {np pos : Pos} {e : Expr} {Φ : AV → Hp → Prop} (ok : Ok c) (hl : c.env.kindOf x = some .globalImplicit) (hg : gl c.K x = some (.builtin "sum")) (he : EV c ρ H e fun v H' => ∃ l xs fl, v = .ref l ∧ H' l = some (.list (zs xs), fl) ∧ Φ (.int xs.sum) H')
    (hns : noStars [e] = true := by decide +kernel) (hd : (x == ("__debug__" : Str)) = false := by decide +kernel) (hn : x ≠ ("__name__" : Str) := by decide +kernel) : EV c ρ H (.Call (.Name x np) [e] [] pos) Φ :=
  ev_call_bi ok hl hg (es_cons (he.mono fun v H' ⟨l, xs, fl, hv, hx, p⟩ => es_nil fun ys hys => by
    obtain ⟨y, rfl, hy⟩ := one_of hys
    rw [hv] at hy
    have := abs_ref hy; subst this
    exact Tri.of fun F s Q st k => by
      obtain ⟨vs, hl', hi⟩ := st.ints hx
      obtain ⟨m, Fm, N, via⟩ := st.via
      exact PyProof.Rows.LSm.sum_ints Fm N ok.hand hl' hi fun h' tk t' F' N' => k _ _ _ _ (.mem s h' tk) (via h' tk F' N') ⟨rfl, p⟩)) hns hd hn
theorem pv_max2 {x : Str} {np pos : Pos} {e1 e2 : Expr} {a b : Int} (ok : Ok c) (hl : c.env.kindOf x = some .globalImplicit) (hg : gl c.K x = some (.builtin "max")) (h1 : PV c ρ H e1 (.int a)) (h2 : PV c ρ H e2 (.int b))
    (hns : noStars [e1, e2] = true := by decide +kernel) (hd : (x == ("__debug__" : Str)) = false := by decide +kernel) (hn : x ≠ ("__name__" : Str) := by decide +kernel) : PV c ρ H (.Call (.Name x np) [e1, e2] [] pos) (.int (max a b)) :=
  ev_call_bi ok hl hg ((ps_cons h1 (ps_cons h2 ps_nil)).es fun ys hys => by
    obtain ⟨y, z, rfl, hy, hz⟩ := two_of hys
    obtain ⟨t, rfl⟩ := abs_int hy
    obtain ⟨u, rfl⟩ := abs_int hz
    exact Tri.of fun F s Q st k => by
      obtain ⟨m, Fm, N, via⟩ := st.via
      refine max_two_N ok.hand Fm N fun h' tk F' N' => k _ _ _ _ (.mem s h' tk) (via h' tk F' N') ⟨rfl, ?_, rfl⟩
      show AV.int _ = AV.int _
      congr 1
      omega) hns hd hn
theorem pv_min2 {x : Str} {np pos : Pos} {e1 e2 : Expr} {a b : Int} (ok : Ok c) (hl : c.env.kindOf x = some .globalImplicit) (hg : gl c.K x = some (.builtin "min")) (h1 : PV c ρ H e1 (.int a)) (h2 : PV c ρ H e2 (.int b))
    (hns : noStars [e1, e2] = true := by decide +kernel) (hd : (x == ("__debug__" : Str)) = false := by decide +kernel) (hn : x ≠ ("__name__" : Str) := by decide +kernel) : PV c ρ H (.Call (.Name x np) [e1, e2] [] pos) (.int (min a b)) :=
  ev_call_bi ok hl hg ((ps_cons h1 (ps_cons h2 ps_nil)).es fun ys hys => by
    obtain ⟨y, z, rfl, hy, hz⟩ := two_of hys
    obtain ⟨t, rfl⟩ := abs_int hy
    obtain ⟨u, rfl⟩ := abs_int hz
    exact Tri.of fun F s Q st k => by
      obtain ⟨m, Fm, N, via⟩ := st.via
      refine min_two_N ok.hand Fm N fun h' tk F' N' => k _ _ _ _ (.mem s h' tk) (via h' tk F' N') ⟨rfl, ?_, rfl⟩
      show AV.int _ = AV.int _
      congr 1
      omega) hns hd hn
theorem ev_maxL {x : Str} {np pos : Pos} {e : Expr} {Φ : AV → Hp → Prop} (ok : Ok c) (hl : c.env.kindOf x = some .globalImplicit) (hg : gl c.K x = some (.builtin "max")) (he : EV c ρ H e fun v H' => ∃ l xs fl, v = .ref l ∧ H' l = some (.list (zs xs), fl) ∧ 0 < xs.length ∧ ∀ M, M ∈ xs → (∀ a, a ∈ xs → a ≤ M) → Φ (.int M) H')
    (hns : noStars [e] = true := by decide +kernel) (hd : (x == ("__debug__" : Str)) = false := by decide +kernel) (hn : x ≠ ("__name__" : Str) := by decide +kernel) : EV c ρ H (.Call (.Name x np) [e] [] pos) Φ :=
  ev_call_bi ok hl hg (es_cons (he.mono fun v H' ⟨l, xs, fl, hv, hx, hne, p⟩ => es_nil fun ys hys => by
    obtain ⟨y, rfl, hy⟩ := one_of hys
    rw [hv] at hy
    have := abs_ref hy; subst this
    exact Tri.of fun F s Q st k => by
      obtain ⟨vs, hl', hi⟩ := st.ints hx
      obtain ⟨m, Fm, N, via⟩ := st.via
      exact max_list_N ok.hand Fm N hl' hi hne fun h' M t tk F' N' hM hle => k _ _ _ _ (.mem s h' tk) (via h' tk F' N') ⟨rfl, p M hM hle⟩)) hns hd hn
theorem pv_abs {x : Str} {np pos : Pos} {e1 : Expr} {a : Int} (ok : Ok c) (hl : c.env.kindOf x = some .globalImplicit) (hg : gl c.K x = some (.builtin "abs")) (h1 : PV c ρ H e1 (.int a))
    (hns : noStars [e1] = true := by decide +kernel) (hd : (x == ("__debug__" : Str)) = false := by decide +kernel) (hn : x ≠ ("__name__" : Str) := by decide +kernel) : PV c ρ H (.Call (.Name x np) [e1] [] pos) (.int (a.natAbs : Int)) :=
  ev_call_bi ok hl hg ((ps_cons h1 ps_nil).es fun ys hys => by
    obtain ⟨y, rfl, hy⟩ := one_of hys
    obtain ⟨t, rfl⟩ := abs_int hy
    exact Tri.of fun F s Q st k => by
      refine call_abs_int fun u tk => k _ _ _ _ (.mem s s.heap tk) st.toks ⟨rfl, ?_, rfl⟩
      show AV.int _ = AV.int _
      congr 1
      omega) hns hd hn
theorem ev_method {o e : Expr} {es : List Expr} {name : Str} {id : String} {apos pos : Pos} {pl : Sem Bool} {Φ : AV → Hp → Prop} (slot : Slot "list" name id) (hty : typeOf (.builtin id) = pure (.type "method_descriptor"))
    (h : EV c ρ H o fun a H₁ => ∃ l xs, a = .ref l ∧ H₁ l = some (.list xs, true) ∧ ES c ρ H₁ (e :: es) fun vs H₂ => ∀ ys, ys.map abs = vs → OV c ρ H₂ (call (.builtin id) (.ref l :: ys)) Φ)
    (he : eval (.Call (.Attribute o name apos) (e :: es) [] pos) c.env = (do
      let ov ← eval o c.env
      standAt apos.atName
      let (f, first) ← holding [ov] (getMethod ov name pl)
      callWith pos f first (backTo pos (starEach (e :: es) c.env)) (backToKw pos (keywordEach [] c.env)))) (hns : noStars (e :: es) = true := by decide +kernel) : EV c ρ H (.Call (.Attribute o name apos) (e :: es) [] pos) Φ :=
  Tri.of fun F s Q st k => methodCall_KW (pl := pl) (h.use st fun ov s₁ ρ₁ H₁ sm₁ st₁ ⟨e₁, l, xs, ha, hl, p⟩ => by
    subst e₁
    have := abs_ref ha; subst this
    obtain ⟨ob, g, its, n, hc, hd, hm, ho⟩ := st₁.get hl
    have hob := ho rfl
    subst hob
    refine getMethod_list_of slot hty ⟨_, g, rfl, n, rfl⟩ (by exact ⟨_, g, rfl⟩) ?_
    show wpAny _ _ (callWith pos (.builtin id) [.ref l] (backTo pos (starEach (e :: es) c.env)) []) _ _ s₁
    rw [back_plain hns]
    refine callWith_builtin (by simp [List.any_eq]) (evalArgs_plain ?_)
    exact p.use st₁ fun ys s₂ ρ₂ H₂ sm₂ st₂ ⟨e₂, p₂⟩ => by
      subst e₂
      exact (p₂ ys rfl).use st₂ fun r s₃ ρ₃ H₃ sm₃ st₃ ⟨e₃, p₃⟩ => by subst e₃; exact k _ _ _ _ (sm₁.trans (sm₂.trans sm₃)) st₃ ⟨rfl, p₃⟩) he
theorem ov_append {l : Addr} {xs : List AV} {y : Value} {v : AV} {Φ : AV → Hp → Prop} (hy : abs y = v) (hl : H l = some (.list xs, true)) (hlen : xs.length ≤ 1000000) (h : Φ .none (H.set l (.list (xs ++ [v])))) : OV c ρ H (call (.builtin "list.append") [.ref l, y]) Φ :=
  Tri.of fun F s Q st k => by
    obtain ⟨ob, g, its, n, hc, hd, hm, ho⟩ := st.get hl
    have hob := ho rfl
    subst hob
    have hsz := size_of_map hm
    exact append_at (hsz := by rw [sizeLine_is]; omega) g fun h' hs g' => k _ _ _ _ (.set s h' s.toks) (st.upd (tk := s.toks) hl rfl hs g' (orep_list (by simp [hm, hy]))) ⟨rfl, h⟩
theorem ev_append {o e : Expr} {apos pos : Pos} {pl : Sem Bool} {Φ : AV → Hp → Prop}
    (h : EV c ρ H o fun a H₁ => ∃ l xs, a = .ref l ∧ H₁ l = some (.list xs, true) ∧ EV c ρ H₁ e fun v H₂ => ∃ xs, H₂ l = some (.list xs, true) ∧ xs.length ≤ 1000000 ∧ Φ .none (H₂.set l (.list (xs ++ [v]))))
    (he : eval (.Call (.Attribute o "append" apos) [e] [] pos) c.env = (do
      let ov ← eval o c.env
      standAt apos.atName
      let (f, first) ← holding [ov] (getMethod ov "append" pl)
      callWith pos f first (backTo pos (starEach [e] c.env)) (backToKw pos (keywordEach [] c.env))) := by rfl) (hns : noStars [e] = true := by decide +kernel) : EV c ρ H (.Call (.Attribute o "append" apos) [e] [] pos) Φ :=
  ev_method F.slot_list_append F.type_list_append (h.mono fun v H' ⟨l, xs, hv, hl, p⟩ => ⟨l, xs, hv, hl, es_cons (p.mono fun v H₂ ⟨xs, hl₂, hlen, p₂⟩ => es_nil fun ys hys => by
    obtain ⟨y, rfl, hy⟩ := one_of hys
    exact ov_append hy hl₂ hlen p₂)⟩) he hns
end
section
variable {c : Cx} {ρ : Loc} {H : Hp}
/-- a list of the call's own is changed -/
theorem St.updSeq {F : Hp} {s : Shared} {l : Addr} {xs ys : List AV} {f : Array Value → Array Value} {tk : Nat} (st : St c ρ H F s) (hl : H l = some (.list xs, true)) (hf : ∀ its : Array Value, its.toList.map abs = xs → (f its).toList.map abs = ys) :
    St c ρ (H.set l (.list ys)) F { s with heap := s.heap.update l (Obj.mapSeq f), toks := tk } := by
  obtain ⟨ob, g, its, n, hc, hd, hm, ho⟩ := st.get hl
  have hob := ho rfl
  subst hob
  refine st.upd hl rfl (Heap.SameBut.update ..) (Heap.get?_update_self _ g rfl) ?_
  exact ⟨f its, _, rfl, rfl, hf its hm, fun _ => rfl⟩
theorem St.plainL {F : Hp} {s : Shared} {l : Addr} {xs : List AV} (st : St c ρ H F s) (hl : H l = some (.list xs, true)) : ∃ its n, s.heap.get? l = some { cls := .type "list", data := .seq its n } ∧ its.toList.map abs = xs := by
  obtain ⟨ob, g, its, n, hc, hd, hm, ho⟩ := st.get hl
  have hob := ho rfl
  subst hob
  exact ⟨its, n, g, hm⟩
theorem ov_setItem {l : Addr} {xs : List AV} {y z : Value} {v : AV} {k : Nat} {Φ : Loc → Hp → Prop} (hy : abs y = .int k) (hz : abs z = v) (hl : H l = some (.list xs, true)) (hk : k < xs.length) (hlen : xs.length ≤ 1000000) (h : Φ ρ (H.set l (.list (xs.set k v)))) :
    Tri c ρ H (setItem (.ref l) y z) fun _ ρ' H' => Φ ρ' H' :=
  Tri.of fun F s Q st kk => by
    obtain ⟨u, rfl⟩ := abs_int hy
    obtain ⟨its, n, g, hm⟩ := st.plainL hl
    have hsz := size_of_map hm
    refine ki_setAt g (by omega) (by omega) (by omega) (kk _ _ _ _ (.set s _ s.toks) (st.updSeq (tk := s.toks) (ys := xs.set k v) hl fun its' hm' => ?_) h)
    have e : (k : Int).toNat = k := by omega
    rw [e, ← hm']
    simp [List.map_set, hz]
/-- a list's item as a target -/
theorem asg_item {o i : Expr} {pos : Pos} {v : AV} {Φ : Loc → Hp → Prop} (h : EV c ρ H o fun a H₁ => EV c ρ H₁ i fun b H₂ => ∃ l xs k, a = .ref l ∧ b = .int (k : Nat) ∧ H₂ l = some (.list xs, true) ∧ k < xs.length ∧ xs.length ≤ 1000000 ∧ Φ ρ (H₂.set l (.list (xs.set k v)))) :
    ASG c ρ H (.Subscript o i pos) v Φ := fun y hy => Tri.of fun F s Q st kk => by
  rw [assign_Subscript]
  refine wpAny_bind (wpAny_holding (h.use st fun a s₁ ρ₁ H₁ sm₁ st₁ ⟨e₁, h₁⟩ => ?_))
  subst e₁
  refine wpAny_bind (wpAny_holding (h₁.use st₁ fun b s₂ ρ₂ H₂ sm₂ st₂ ⟨e₂, l, xs, k, ha, hb, hl, hk, hlen, p⟩ => ?_))
  subst e₂
  have := abs_ref ha; subst this
  refine wpAny_bind (wpAny_standAt (wpAny_bind (wpAny_holding ((ov_setItem (ρ := ρ₂) (Φ := Φ) hb hy hl hk hlen p).use st₂ fun _ s₃ ρ₃ H₃ sm₃ st₃ p₃ => ?_))))
  exact wpAny_release' (kk _ _ _ _ (sm₁.trans (sm₂.trans sm₃)) st₃ p₃)
def OPV (c : Cx) (ρ : Loc) (H : Hp) (e : Option Expr) (v : Option Int) : Prop := match e with
  | none => v = none
  | some e => ∃ i, v = some i ∧ PV c ρ H e (.int i)
def cut {α : Type} (xs : List α) (lo hi : Option Int) : List α := (xs.drop (lo.elim 0 (clipAt xs.length))).take (hi.elim xs.length (clipAt xs.length) - lo.elim 0 (clipAt xs.length))
theorem tri_part {e : Option Expr} {v : Option Int} (h : OPV c ρ H e v) : Tri c ρ H (evalPart e c.env) fun y ρ' H' => ρ' = ρ ∧ H' = H ∧ IsPart y v := by
  cases e with
  | none => cases h; exact Tri.of fun F s Q st k => wpAny_pure (k _ _ _ _ (.refl s) st ⟨rfl, rfl, .none⟩)
  | some e =>
    obtain ⟨i, rfl, hp⟩ := h
    refine Tri.mono hp fun y ρ' H' ⟨a, b, d⟩ => ⟨a, d, ?_⟩
    obtain ⟨t, rfl⟩ := abs_int b
    exact .int i t
theorem ev_slice {v : Expr} {lo hi : Option Expr} {p pos : Pos} {Φ : AV → Hp → Prop} (h : EV c ρ H v fun a H₁ => ∃ l xs fl i j, a = .ref l ∧ H₁ l = some (.list xs, fl) ∧ xs.length ≤ 1000000 ∧ OPV c ρ H₁ lo i ∧ OPV c ρ H₁ hi j ∧ ∀ D, H₁ D = none → Φ (.ref D) (H₁.set D (.list (cut xs i j)))) :
    EV c ρ H (.Subscript v (.Slice lo hi none p) pos) Φ :=
  Tri.of fun F s Q st kk => Subscript_ (h.use st fun a s₁ ρ₁ H₁ sm₁ st₁ ⟨e₁, l, xs, fl, i, j, ha, hl, hlen, hi, hj, p⟩ => by
    subst e₁
    have := abs_ref ha; subst this
    refine wpAny_Slice ((tri_part hi).use st₁ fun y1 s₂ ρ₂ H₂ sm₂ st₂ ⟨e₂, e₃, p1⟩ => ?_)
    subst e₂ e₃
    refine (tri_part hj).use st₂ fun y2 s₃ ρ₃ H₃ sm₃ st₃ ⟨e₂, e₃, p2⟩ => ?_
    subst e₂ e₃
    refine wpAny_pure ?_
    obtain ⟨its, hits, hm⟩ := st₃.isList hl
    have hsz := size_of_map hm
    have st₄ := st₃.keepsAll (h' := s₃.heap.push { cls := .type "slice", data := .fields #[y1, y2, .none] }) (tk := s₃.toks) fun b o e => Heap.get?_push_of_some _ e
    have hits' : (s₃.heap.push { cls := .type "slice", data := .fields #[y1, y2, .none] }).IsList l its := hits.at fun o e => Heap.get?_push_of_some _ e
    refine tail_any (ops := [.ref s₃.heap.objs.size, .ref l]) (T := "list") (hits'.typeIs (s := { s₃ with heap := s₃.heap.push { cls := .type "slice", data := .fields #[y1, y2, .none] } })) slot_list_getitem.lookup ?_ rfl
    refine wpAny_getItem_list_slice (vl := y1) (vu := y2) (vs := .none) hits' ⟨_, Heap.get?_push_size _ rfl, rfl, rfl⟩ p1 p2 .none nofun ?_ (by rw [sizeLine_is]; omega)
    have hn := none_at_size (s₃.heap.push { cls := .type "slice", data := .fields #[y1, y2, .none] })
    refine kk _ _ _ _ (sm₁.trans (sm₂.trans (sm₃.trans ((Stp.mem s₃ _ s₃.toks).trans (Stp.set _ _ s₃.toks))))) (st₄.alloc (tk := s₃.toks) (o := .list (cut xs i j)) hn (fun b o e => Heap.get?_push_of_some _ e) (Heap.get?_push_size _ rfl) (orep_list ?_)) ⟨rfl, p _ (st₄.fresh hn).1⟩
    rw [slicePick_plain]
    simp only [cut, hsz, ← hm]
    simp [List.map_take, List.map_drop])
end
section
variable {c : Cx} {ρ : Loc} {H : Hp}
theorem unpackItems_list2 {prog : Program} {w : World} {A : Around} {E : Value → Shared → Prop} {s : Shared} {l : Addr} {y1 y2 : Value} {Q : List Value → Shared → Prop} (hh : A.handled = none) (hl : s.heap.IsList l #[y1, y2])
    (hQ : ∀ h', Heap.ExtBut s.heap.objs.size s.heap h' → Q [y1, y2] { s with heap := h' }) : wpAny (model prog w) A (unpackItems (.ref l) 2 none) Q E s := by
  have hlt : l ≠ s.heap.objs.size := by obtain ⟨o, ho, _⟩ := hl; exact Nat.ne_of_lt (Heap.lt_size ho)
  unfold unpackItems
  refine wpAny_bind ?_
  unfold notIterableAtAll
  refine wpAny_bind (wpAny_specialOf hl.typeIs PySem.F.slot_list_iter.lookup ?_)
  refine wpAny_pure ?_
  simp only [Bool.false_eq_true, if_false]
  refine wpAny_bind (wpAny_holding (wpAny_pyIter_list hl ?_))
  have hit : (s.heap.push { cls := .type "list_iterator", data := .fields #[.ref l, .int 0 0] }).IsListIter s.heap.objs.size l 0 := ⟨_, Heap.get?_push_size _ rfl, rfl, rfl⟩
  have hl0 : (s.heap.push { cls := .type "list_iterator", data := .fields #[.ref l, .int 0 0] }).IsList l #[y1, y2] := hl.at fun o e => Heap.get?_push_of_some _ e
  refine wpAny_bind (wpAny_holding ?_)
  show wpAny _ _ (pyNext (.ref s.heap.objs.size) >>= _) _ _ _
  refine wpAny_bind (wpAny_pyNext_list_item (x := y1) hit hl0 rfl fun h₁ hit₁ hs₁ => ?_)
  have hl1 : h₁.IsList l #[y1, y2] := hl0.extBut hs₁.extBut hlt
  refine wpAny_bind (wpAny_holding ?_)
  show wpAny _ _ (pyNext (.ref s.heap.objs.size) >>= _) _ _ _
  refine wpAny_bind (wpAny_pyNext_list_item (x := y2) hit₁ hl1 rfl fun h₂ hit₂ hs₂ => ?_)
  have hl2 : h₂.IsList l #[y1, y2] := hl1.extBut hs₂.extBut hlt
  refine wpAny_bind (wpAny_holding ?_)
  show wpAny _ _ (pure []) _ _ _
  refine wpAny_pure (wpAny_pure (wpAny_pure ?_))
  rw [if_neg (by simp)]
  refine wpAny_bind (wpAny_holding (wpAny_pyNext_list_end hh hit₂ hl2 rfl fun h₃ he₃ => ?_))
  simp only [Option.isSome_none, Bool.false_eq_true, if_false]
  exact wpAny_pure (hQ h₃ fun b o hb e => he₃ b o hb (hs₂.extBut b o hb (hs₁.extBut b o hb (Heap.get?_push_of_some _ e))))
theorem St.extNew {F : Hp} {s : Shared} {h' : Heap} {tk : Nat} (st : St c ρ H F s) (he : Heap.ExtBut s.heap.objs.size s.heap h') : St c ρ H F { s with heap := h', toks := tk } :=
  st.keepsAll fun b o e => he b o (Nat.ne_of_lt (Heap.lt_size e)) e
/-- two targets, the value a pair or a list of two -/
theorem asg_two {t1 t2 : Expr} {k : Nat} {pos : Pos} {a : Addr} {v1 v2 : AV} {fl : Bool} {Φ : Loc → Hp → Prop} (ok : Ok c) (ha : H a = some (.tup [v1, v2], fl) ∨ H a = some (.list [v1, v2], fl)) (h : ASG c ρ H t1 v1 fun ρ₁ H₁ => ASG c ρ₁ H₁ t2 v2 Φ)
    (hae : assignEach [t1, t2] c.env = [(false, assign t1 c.env), (false, assign t2 c.env)]) : ASG c ρ H (.Tuple [t1, t2] k pos) (.ref a) Φ := fun y hy => Tri.of fun F s Q st kk => by
  have := abs_ref hy; subst this
  rw [arm_assign_Tuple, hae]
  refine wpAny_bind (wpAny_standAt ?_)
  unfold unpack
  refine wpAny_bind (wpAny_holding ?_)
  have main : ∀ h' y1 y2, abs y1 = v1 → abs y2 = v2 → Heap.ExtBut s.heap.objs.size s.heap h' → wpAny c.M c.A (assignInOrder [assign t1 c.env, assign t2 c.env] [y1, y2]) Q (fun _ _ => False) { s with heap := h' } := by
    intro h' y1 y2 hy1 hy2 he
    have st' := st.extNew (tk := s.toks) he
    show wpAny _ _ (do holding [y2] (assign t1 c.env y1); assignInOrder [assign t2 c.env] [y2]) _ _ _
    refine wpAny_bind (wpAny_holding ((h y1 hy1).use st' fun _ s₁ ρ₁ H₁ sm₁ st₁ p => ?_))
    show wpAny _ _ (do holding [] (assign t2 c.env y2); assignInOrder [] []) _ _ _
    refine wpAny_bind (wpAny_holding ((p y2 hy2).use st₁ fun _ s₂ ρ₂ H₂ sm₂ st₂ p₂ => ?_))
    exact wpAny_pure (kk _ _ _ _ ((Stp.mem s h' s.toks).trans (sm₁.trans sm₂)) st₂ p₂)
  rcases ha with ha | ha
  · obtain ⟨its, hits, hm⟩ := st.isTup ha
    obtain ⟨y1, y2, he, hy1, hy2⟩ := two_of hm
    have hits' : its = #[y1, y2] := by apply Array.toList_inj.mp; rw [he]
    subst hits'
    refine unpackItems_tuple (items := #[y1, y2]) ok.hand hits fun h' he => main h' y1 y2 hy1 hy2 he
  · obtain ⟨its, hits, hm⟩ := st.isList ha
    obtain ⟨y1, y2, he, hy1, hy2⟩ := two_of hm
    have hits' : its = #[y1, y2] := by apply Array.toList_inj.mp; rw [he]
    subst hits'
    refine unpackItems_list2 ok.hand hits fun h' he => main h' y1 y2 hy1 hy2 he
theorem ex_assign_tuple {elts : List Expr} {k : Nat} {tpos pos : Pos} {e : Expr} {Φ : AF → Loc → Hp → Prop} (h : EV c ρ H e fun v H' => ASG c ρ H' (.Tuple elts k tpos) v fun ρ₁ H₁ => Φ .next ρ₁ H₁)
    (hs : swapsWithSole [.Tuple elts k tpos] e pos.line c.env = pure false) (hw : swappedStores [.Tuple elts k tpos] e c.env = pure none) : EX c ρ H (.Assign [.Tuple elts k tpos] e pos) Φ :=
  Tri.of fun F s Q st kk => Assign_Tuple (h.use st fun v s₁ ρ₁ H₁ sm₁ st₁ ⟨e₁, p⟩ => by
    subst e₁
    exact (p v rfl).use st₁ fun _ s₂ ρ₂ H₂ sm₂ st₂ p₂ => kk _ _ _ _ (sm₁.trans sm₂) st₂ p₂) hs hw
/-- two names that are not both plain locals: the stores are in order -/
theorem swapped_none {t1 t2 v1 v2 : Expr} {k k' : Nat} {tp vp : Pos} {env : Env}
    (h : ∀ l : Nat, ([t1, t2].filterMap fun | .Name id pos => if env.kindOf id == some .local && pos.line == l then some id else none | _ => none).length ≠ 2) : swappedStores [.Tuple [t1, t2] k tp] (.Tuple [v1, v2] k' vp) env = pure none := by
  unfold swappedStores
  dsimp only
  split
  · rfl
  · split
    · rfl
    · split
      · rfl
      · rename_i h1
        exact absurd (by
          simp only [Bool.or_eq_true, bne_iff_ne, ne_eq, not_or, Decidable.not_not] at h1
          exact h1.1) (h _)
end
section
variable {c : Cx} {ρ : Loc} {H : Hp}
theorem Hp.ne_of {a b : Addr} {x : AObj × Bool} (h1 : H a = some x) (h2 : H b = none) : a ≠ b := by intro q; rw [q, h2] at h1; cases h1
/-- the two searches as the text has them -/
structure BisK (K : Frag) (p : Program) (i : Nat) (name : Str) (f : Addr) (oc : Value) (od : Option Addr) (dV kV doc pm : Value) (an : Option Addr) (cdv ct : Value) (osl : Array (Option Value)) : Prop where
  fn : FnK K p i name f oc od dV kV doc pm an cdv ct osl
  b2 : ∀ y1 y2, ∃ t, BindsK K (fdOf p i name dV kV doc pm an cdv ct) [y1, y2] [("a", y1), ("x", y2), ("lo", .int 0 t), ("hi", .none), ("key", .none)]
  b4 : ∀ y1 y2 y3 y4, BindsK K (fdOf p i name dV kV doc pm an cdv ct) [y1, y2, y3, y4] [("a", y1), ("x", y2), ("lo", y3), ("hi", y4), ("key", .none)]
def Bis (K : Frag) (p : Program) (i : Nat) (name : Str) : Prop := ∃ f oc od dV kV doc pm an cdv ct osl, BisK K p i name f oc od dV kV doc pm an cdv ct osl
/-- what a search's body does -/
def BisBody (p : Program) (i : Nat) (q : Int → Int → Bool) (K : Frag) : Prop :=
  ∀ (c : Cx) (ρ : Loc) (H : Hp) (l : Addr) (xs : List Int) (x : Int) (fl : Bool), c.K = K → Ok c → c.env.scope = fnScope p i → ρ "a" = some (.ref l) → ρ "x" = some (.int x) → ρ "lo" = some (.int 0) → ρ "hi" = some .none → ρ "key" = some .none →
    H l = some (.list (zs xs), fl) → Sorted xs → xs.length < 1000000 → XS c ρ H (fnBody p i) fun f _ H' => f = .ret (.int (xs.countP (q x))) ∧ H' = H
/-- the scope of a plain def -/
def plainScope (s : Scope) : Bool := s.kind == .function && !s.isCoroutine && !s.isGenerator && s.names.all fun x => x.2 != .cell && x.2 != .free
theorem plainScope.of {s : Scope} (h : plainScope s = true) : s.isCoroutine = false ∧ s.isGenerator = false ∧ s.kind = .function ∧ (∀ x ∈ s.names, x.2 ≠ .cell) ∧ ∀ x ∈ s.names, x.2 ≠ .free := by
  simp only [plainScope, Bool.and_eq_true, beq_iff_eq, Bool.not_eq_true', List.all_eq_true, bne_iff_ne] at h
  exact ⟨h.1.1.2, h.1.2, h.1.1.1, fun x hx => (h.2 x hx).1, fun x hx => (h.2 x hx).2⟩
def bisNames (s : Scope) : Bool := [Str.ofString "a", "x", "lo", "hi", "key"].all fun n => s.names.lookup n == some .local
theorem bis_call {p : Program} {i : Nat} {name : Str} {q : Int → Int → Bool} {n : Nat} {ys : List Value} {l : Addr} {x : Int} {xs : List Int} {fl : Bool} {f : Addr} {oc : Value} {od : Option Addr} {dV kV doc pm : Value} {an : Option Addr} {cdv ct : Value} {osl : Array (Option Value)} {Φ : AV → Hp → Prop}
    (ok : Ok c) (okc : OkC c (n + 1)) (hb : BisK c.K p i name f oc od dV kV doc pm an cdv ct osl) (hbody : BisBody p i q c.K) (hsc : plainScope (fnScope p i) = true) (hnm : bisNames (fnScope p i) = true)
    (hys : ys.map abs = [.ref l, .int x] ∨ ys.map abs = [.ref l, .int x, .int 0, .none]) (hl : H l = some (.list (zs xs), fl)) (hs : Sorted xs) (hlen : xs.length < 1000000) (h : Φ (.int (xs.countP (q x))) H) : OV c ρ H (call (.ref f) ys) Φ := by
  obtain ⟨s1, s2, s3, s4, s5⟩ := plainScope.of hsc
  have hnm' : ∀ n ∈ [Str.ofString "a", "x", "lo", "hi", "key"], (fnScope p i).names.lookup n = some .local := fun n hn => by
    have := List.all_eq_true.mp hnm n hn; simpa using this
  have main : ∀ y1 y2 y3 y4 : Value, abs y1 = .ref l → abs y2 = .int x → abs y3 = .int 0 → abs y4 = .none → BindsK c.K (fdOf p i name dV kV doc pm an cdv ct) ys [("a", y1), ("x", y2), ("lo", y3), ("hi", y4), ("key", .none)] → OV c ρ H (call (.ref f) ys) Φ := by
    intro y1 y2 y3 y4 h1 h2 h3 h4 hbd
    refine call_def ok okc hb.fn.o hb.fn.cd hbd ?_ s1 s2 s3 s4 s5 fun L' g ok' okc' => ?_
    · intro y hy
      simp only [List.mem_cons, List.not_mem_nil, or_false] at hy
      rcases hy with rfl | rfl | rfl | rfl | rfl <;> exact hnm' _ (by simp)
    · refine XS.mono (hbody _ _ H l xs x fl rfl ok' rfl ?_ ?_ ?_ ?_ ?_ hl hs hlen) fun fl ρ' H' ⟨e1, e2⟩ => by subst e1 e2; exact h
      · show Option.map abs _ = _; rw [← h1]; rfl
      · show Option.map abs _ = _; rw [← h2]; rfl
      · show Option.map abs _ = _; rw [← h3]; rfl
      · show Option.map abs _ = _; rw [← h4]; rfl
      · rfl
  rcases hys with hys | hys
  · obtain ⟨y1, y2, rfl, h1, h2⟩ := two_of hys
    obtain ⟨t, hbd⟩ := hb.b2 y1 y2
    exact main y1 y2 (.int 0 t) .none h1 h2 rfl rfl hbd
  · obtain ⟨y1, y2, y3, y4, rfl, h1, h2, h3, h4⟩ := four_of hys
    exact main y1 y2 y3 y4 h1 h2 h3 h4 (hb.b4 y1 y2 y3 y4)
/-- a call of a search in the text -/
theorem pv_bis {p : Program} {i : Nat} {name : Str} {q : Int → Int → Bool} {n : Nat} {np pos : Pos} {e1 e2 : Expr} {l : Addr} {x : Int} {xs : List Int} {fl : Bool}
    (ok : Ok c) (okc : OkC c (n + 1)) (hb : Bis c.K p i name) (hbody : BisBody p i q c.K) (hl : c.env.kindOf name = some .globalImplicit) (h1 : PV c ρ H e1 (.ref l)) (h2 : PV c ρ H e2 (.int x)) (hx : H l = some (.list (zs xs), fl)) (hs : Sorted xs) (hlen : xs.length < 1000000)
    (hsc : plainScope (fnScope p i) = true := by decide +kernel) (hnm : bisNames (fnScope p i) = true := by decide +kernel) (hns : noStars [e1, e2] = true := by decide +kernel) (hd : (name == ("__debug__" : Str)) = false := by decide +kernel) (hn : name ≠ ("__name__" : Str) := by decide +kernel) :
    PV c ρ H (.Call (.Name name np) [e1, e2] [] pos) (.int (xs.countP (q x))) := by
  obtain ⟨f, oc, od, dV, kV, doc, pm, an, cdv, ct, osl, hb⟩ := hb
  exact ev_call_fn ok hl hb.fn.g hb.fn.o ((ps_cons h1 (ps_cons h2 ps_nil)).es fun ys hys => bis_call ok okc hb hbody hsc hnm (.inl hys) hx hs hlen ⟨rfl, rfl⟩) hns hd hn
end
section
variable {c : Cx} {ρ : Loc} {H : Hp}
theorem keepH {a D : Addr} {o : AObj} {x : AObj × Bool} (h : H a = some x) (hD : H D = none) : Hp.set H D o a = some x := Hp.set_ne (Hp.ne_of h hD) h
def cmpI : CmpOp → Int → Int → Option Bool
  | .Lt, i, j => some (decide (i < j))
  | .LtE, i, j => some (decide (i ≤ j))
  | .Gt, i, j => some (decide (j < i))
  | .GtE, i, j => some (decide (j ≤ i))
  | .Eq, i, j => some (i == j)
  | .NotEq, i, j => some (i != j)
  | _, _, _ => none
theorem ov_cmpI {op : CmpOp} {i j : Int} {b : Bool} (h : cmpI op i j = some b) (y z : Value) (hy : abs y = .int i) (hz : abs z = .int j) {Φ : AV → Hp → Prop} (hΦ : Φ (.bool b) H) : OV c ρ H (compareOp op y z) Φ := by
  cases op <;> simp only [cmpI] at h <;> cases h
  · exact ov_cmp1 y z hy hz (fun _ _ _ _ h => PyProof.Rows.eq_int h) hΦ
  · exact ov_cmp1 y z hy hz (fun _ _ _ _ h => PyProof.Rows.ne_int h) hΦ
  · exact ov_cmp1 y z hy hz (fun _ _ _ _ h => PyProof.Rows.lt_int h) hΦ
  · exact ov_cmp1 y z hy hz (fun _ _ _ _ h => PyProof.Rows.le_int h) hΦ
  · exact ov_cmp1 y z hy hz (fun _ _ _ _ h => PyProof.Rows.gt_int h) hΦ
  · exact ov_cmp1 y z hy hz (fun _ _ _ _ h => PyProof.Rows.ge_int h) hΦ
theorem ev_cmpI {l r : Expr} {op : CmpOp} {pos : Pos} {Φ : AV → Hp → Prop} (h : EV c ρ H l fun a H₁ => EV c ρ H₁ r fun b H₂ => ∃ i j v, a = .int i ∧ b = .int j ∧ cmpI op i j = some v ∧ Φ (.bool v) H₂) (ho : (op == .In || op == .NotIn) = false := by rfl) : EV c ρ H (.Compare l [op] [r] pos) Φ :=
  ev_cmp (behind_of ho) (h.mono fun a H₁ h₁ => h₁.mono fun b H₂ ⟨i, j, v, ha, hb, hv, p⟩ y z hy hz => ov_cmpI hv y z (hy.trans ha) (hz.trans hb) p)
theorem ev_add2 {l r : Expr} {pos : Pos} {Φ : AV → Hp → Prop} (h : EV c ρ H l fun a H₁ => EV c ρ H₁ r fun b H₂ => ∃ i j, a = .int i ∧ b = .int j ∧ Φ (.int (i + j)) H₂) : EV c ρ H (.BinOp l .Add r pos) Φ :=
  ev_bin (h.mono fun a H₁ h₁ => h₁.mono fun b H₂ ⟨i, j, ha, hb, p⟩ y z hy hz => ov_pure1 y z (hy.trans ha) (hz.trans hb) (fun _ _ _ _ h => PyProof.Rows.add_int h) p)
theorem zs_append {xs ys : List Int} : zs (xs ++ ys) = zs xs ++ zs ys := by simp [zs]
theorem cut_upto {α : Type} {xs : List α} {k : Nat} : cut xs none (some (k : Int)) = xs.take k := by
  unfold cut clipAt
  simp only [Option.elim_some, Option.elim_none, List.drop_zero, Nat.sub_zero]
  rcases Nat.le_total k xs.length with h | h
  · have e : (max (0 : Int) (min (if (k : Int) < 0 then (k : Int) + xs.length else k) xs.length)).toNat = k := by omega
    rw [e]
  · have e : (max (0 : Int) (min (if (k : Int) < 0 then (k : Int) + xs.length else k) xs.length)).toNat = xs.length := by omega
    rw [e, List.take_of_length_le h, List.take_of_length_le (Nat.le_refl _)]
end
def compScope (outer scope : Scope) : Bool := scope.kind == .function && scope.names.all fun y => y.2 != .cell && scope.names.lookup y.1 == some y.2 && (y.2 != .free || outer.names.lookup y.1 == some .cell || outer.names.lookup y.1 == some .free)
theorem compOk_of {c : Cx} {outer scope : Scope} (hk : c.env.scope = outer) (h : compScope outer scope = true) : CompOk c scope := by
  simp only [compScope, Bool.and_eq_true, beq_iff_eq, List.all_eq_true, bne_iff_ne, Bool.or_eq_true] at h
  obtain ⟨h1, h2⟩ := h
  refine ⟨fun y hy => (h2 y hy).1.1, h1, fun y hy => (h2 y hy).1.2, fun x hx => ?_⟩
  have := (h2 _ hx).2
  unfold cellKind Env.kindOf
  rw [hk]
  rcases this with (q | q) | q
  · exact absurd rfl q
  · exact .inl q
  · exact .inr q
/-- what a comprehension sees of the frame around -/
theorem freeLoc_get {scope : Scope} {ρ : Loc} {x : Str} {v : AV} (h : scope.names.lookup x = some .free) (hv : ρ x = some v) : freeLoc scope ρ x = some v := by simp only [freeLoc, h, if_true]; exact hv
theorem comp_kd {c : Cx} {scope : Scope} {cl : List (Str × Addr)} {C : Addr} {x : Str} {k : NameKind} (h : scope.names.lookup x = some k) (hk : k ≠ .free) : (compCx c scope cl C).env.kindOf x = some k := by
  show (relabel scope c.env).names.lookup x = some k
  rw [relabel_lookup, h]
  cases k <;> first | rfl | exact absurd rfl hk
/-- a name from around, read in a comprehension -/
theorem pv_around {c : Cx} {scope : Scope} {cl : List (Str × Addr)} {C : Addr} {ρ : Loc} {H : Hp} {x : Str} {pos : Pos} {v : AV} (ok : Ok (compCx c scope cl C)) (h : scope.names.lookup x = some .free) (hv : ρ x = some v) (hd : (x == ("__debug__" : Str)) = false := by decide +kernel)
    (hn : (x == ("__classdict__" : Str)) = false := by decide +kernel) : PV (compCx c scope cl C) ρ H (.Name x pos) v := by
  have hk : (compCx c scope cl C).env.kindOf x = some .cell ∨ (compCx c scope cl C).env.kindOf x = some .free := by
    show (relabel scope c.env).names.lookup x = some .cell ∨ (relabel scope c.env).names.lookup x = some .free
    rw [relabel_lookup, h]
    simp only [Option.map_some, Option.some.injEq]
    split
    · exact .inl rfl
    · exact .inr rfl
  rcases hk with hk | hk
  · exact pv_cell ok hk hv hd
  · exact pv_free ok hk hv hd hn
section
variable {c : Cx} {ρ : Loc} {H : Hp}
theorem units_ok (ok : Ok c) : c.A.units + 64 < cLine := by have := ok.units; have e : cLine = 9900 := rfl; rw [e]; omega
end
section
variable {c : Cx} {ρ : Loc} {H : Hp}
structure RowsAt (H : Hp) (as : List Addr) (rows : List (List Int)) : Prop where
  len : as.length = rows.length
  at' : ∀ (j : Nat) (a : Addr) (r : List Int), as[j]? = some a → rows[j]? = some r → H a = some (.list (zs r), true)
def refs (as : List Addr) : List AV := as.map .ref
theorem refs_len {as : List Addr} : (refs as).length = as.length := by simp [refs]
theorem refs_get {as : List Addr} {j : Nat} {a : Addr} (h : as[j]? = some a) : (refs as)[j]? = some (.ref a) := by simp [refs, h]
theorem refs_append {as bs : List Addr} : refs (as ++ bs) = refs as ++ refs bs := by simp [refs]
theorem RowsAt.nil : RowsAt H [] [] := ⟨rfl, by simp⟩
theorem RowsAt.get {as : List Addr} {rows : List (List Int)} (h : RowsAt H as rows) {j : Nat} (hj : j < rows.length) : ∃ a, as[j]? = some a ∧ H a = some (.list (zs (rows[j])), true) := by
  have hl := h.len
  exact ⟨as[j]'(by omega), by simp [show j < as.length by omega], h.at' j _ _ (by simp [show j < as.length by omega]) (by simp [hj])⟩
theorem RowsAt.mem {as : List Addr} {rows : List (List Int)} (h : RowsAt H as rows) {a : Addr} (ha : a ∈ as) : ∃ r, H a = some (.list (zs r), true) := by
  obtain ⟨j, hj⟩ := List.getElem?_of_mem ha
  have hl := h.len
  have hlt := (List.getElem?_eq_some_iff.mp hj).1
  exact ⟨_, h.at' j a _ hj (List.getElem?_eq_getElem (by omega))⟩
theorem RowsAt.fresh {as : List Addr} {rows : List (List Int)} (h : RowsAt H as rows) {D : Addr} (hD : H D = none) : D ∉ as := fun hm => by
  obtain ⟨r, hr⟩ := h.mem hm; rw [hD] at hr; cases hr
theorem RowsAt.keep {as : List Addr} {rows : List (List Int)} {a : Addr} {o : AObj} (h : RowsAt H as rows) (ha : a ∉ as) : RowsAt (H.set a o) as rows :=
  ⟨h.len, fun j b r hb hr => Hp.set_ne (fun q => ha (q ▸ List.mem_of_getElem? hb)) (h.at' j b r hb hr)⟩
theorem RowsAt.keepNew {as : List Addr} {rows : List (List Int)} {D : Addr} {o : AObj} (h : RowsAt H as rows) (hD : H D = none) : RowsAt (H.set D o) as rows := h.keep (h.fresh hD)
theorem RowsAt.mono {as : List Addr} {rows : List (List Int)} {H' : Hp} (h : RowsAt H as rows) (hH : ∀ a ∈ as, H' a = H a) : RowsAt H' as rows :=
  ⟨h.len, fun j b r hb hr => (hH b (List.mem_of_getElem? hb)).trans (h.at' j b r hb hr)⟩
theorem nodup_get {as : List Addr} (hn : as.Nodup) {i j : Nat} {a : Addr} (hi : as[i]? = some a) (hj : as[j]? = some a) : i = j := by
  obtain ⟨h1, e1⟩ := List.getElem?_eq_some_iff.mp hi
  obtain ⟨h2, e2⟩ := List.getElem?_eq_some_iff.mp hj
  exact (List.getElem_inj (h₀ := h1) (h₁ := h2) hn).mp (e1.trans e2.symm)
theorem RowsAt.set {as : List Addr} {rows : List (List Int)} {j : Nat} {a : Addr} {r' : List Int} (h : RowsAt H as rows) (hn : as.Nodup) (ha : as[j]? = some a) : RowsAt (H.set a (.list (zs r'))) as (rows.set j r') := by
  refine ⟨by simp [h.len], fun i b r hb hr => ?_⟩
  by_cases q : b = a
  · subst q
    have hij := nodup_get hn hb ha
    subst hij
    have hlt : i < rows.length := by have := (List.getElem?_eq_some_iff.mp ha).1; have := h.len; omega
    rw [List.getElem?_set_self hlt] at hr
    cases hr; exact Hp.set_same
  · have hij : j ≠ i := by intro e; subst e; rw [ha] at hb; cases hb; exact q rfl
    rw [List.getElem?_set_ne hij] at hr
    exact Hp.set_ne q (h.at' i b r hb hr)
theorem RowsAt.snoc {as : List Addr} {rows : List (List Int)} {a : Addr} {r : List Int} (h : RowsAt H as rows) (ha : H a = some (.list (zs r), true)) : RowsAt H (as ++ [a]) (rows ++ [r]) := by
  refine ⟨by simp [h.len], fun j b q hb hq => ?_⟩
  rcases Nat.lt_or_ge j as.length with hlt | hge
  · rw [List.getElem?_append_left hlt] at hb
    rw [List.getElem?_append_left (by have := h.len; omega)] at hq
    exact h.at' j b q hb hq
  · rw [List.getElem?_append_right hge] at hb
    rw [List.getElem?_append_right (by have := h.len; omega)] at hq
    have e1 : j - as.length = 0 := by
      have := (List.getElem?_eq_some_iff.mp hb).1; simp at this; omega
    rw [e1] at hb
    rw [← h.len, e1] at hq
    simp at hb hq
    subst hb hq; exact ha
/-- reading an item of an item -/
theorem pv_row {v i : Expr} {pos : Pos} {T : Addr} {as : List Addr} {fl : Bool} {k : Nat} {a : Addr} (hv : PV c ρ H v (.ref T)) (hk : PV c ρ H i (.int k)) (hT : H T = some (.list (refs as), fl)) (hlen : as.length < 1000000) (ha : as[k]? = some a)
    (hi : plainIdx i = true := by rfl) : PV c ρ H (.Subscript v i pos) (.ref a) :=
  pv_item hv hk hT (by rw [refs_len]; omega) (by omega) (by rw [show ((k : Int)).toNat = k by omega]; exact refs_get ha) hi
end
section
variable {c : Cx} {ρ : Loc} {H : Hp}
theorem St.updRaw {F : Hp} {s : Shared} {h' : Heap} {tk : Nat} {a : Addr} {ob' : Obj} {o o' : AObj} (st : St c ρ H F s) (ha : H a = some (o, true)) (hs : Heap.ExtBut a s.heap h')
    (ho : h'.get? a = some ob') (hr : ORep o' true ob') : St c ρ (H.set a o') F { s with heap := h', toks := tk } := by
  obtain ⟨ob, hob, hrep, hown, _⟩ := st.has a o true ha
  obtain ⟨hL, h0⟩ := hown rfl
  obtain ⟨m, hm, hv⟩ := st.ns
  have hFa : F a = none := st.dis a (by rw [ha]; exact nofun)
  refine ⟨⟨m, hm.extBut hs (Ne.symm hL), hv⟩, fun x b e => ?_, fun b o e => hs b o (fun q => by rw [q, h0] at e; cases e) (st.keep b o e), st.above, fun b o₁ fl e => ?_, fun b o₁ fl e => ?_, fun b hb => ?_⟩
  · obtain ⟨ob₁, o₁, g, d, ne, r1, r0, r2, r3⟩ := st.cel x b e
    have hne : b ≠ a := by
      intro q; rw [q, ha] at r0; cases r0
    refine ⟨ob₁, o₁, hs b ob₁ hne g, d, ne, r1, ?_, r2, r3⟩
    simp only [Hp.set, if_neg hne]; exact r0
  · by_cases q : b = a
    · subst q; simp only [Hp.set, if_pos rfl] at e; cases e
      exact ⟨ob', ho, hr, fun _ => ⟨hL, h0⟩, fun x => by cases x⟩
    · simp only [Hp.set, if_neg q] at e
      exact (st.has b o₁ fl e).keeps (fun o₂ _ e' => hs b o₂ q e') st.above
  · have q : b ≠ a := by intro q; rw [q, hFa] at e; cases e
    exact (st.hasF b o₁ fl e).keeps (fun o₂ _ e' => hs b o₂ q e') st.above
  · by_cases q : b = a
    · subst q; exact hFa
    · simp only [Hp.set, if_neg q] at hb; exact st.dis b hb
end
section
variable {c : Cx} {ρ : Loc} {H : Hp}
/-- an object laid aside -/
theorem Tri.frame {α : Type} {t : Sem α} {Φ : α → Loc → Hp → Prop} {H₁ : Hp} {P : Addr} {o : AObj} (hnc : NoCell o) (hP : H P = some (o, true)) (hP₁ : H₁ P = none) (hsub : ∀ a, a ≠ P → H₁ a = H a) (h : Tri c ρ H₁ t Φ) :
    Tri c ρ H t fun a ρ' H' => ∃ H₁', Φ a ρ' H₁' ∧ H' = H₁'.set P o := by
  intro F s st
  obtain ⟨obP, gP, rP, oP, _⟩ := st.has P o true hP
  have hFP : F P = none := st.dis P (by rw [hP]; exact nofun)
  have st₁ : St c ρ H₁ (F.set P o) s := by
    refine ⟨st.ns, fun x a e => ?_, st.keep, st.above, fun a o' b e => ?_, fun a o' b e => ?_, fun a ha => ?_⟩
    · obtain ⟨ob, o', g, d, ne, r1, r0, r2, r3⟩ := st.cel x a e
      have hne : a ≠ P := by intro q; rw [q, hP] at r0; cases r0
      refine ⟨ob, o', g, d, ne, r1, by rw [hsub a hne]; exact r0, fun ow => ⟨(r2 ow).1, ?_⟩, r3⟩
      simp only [Hp.set, if_neg hne]; exact (r2 ow).2
    · have hne : a ≠ P := by intro q; rw [q, hP₁] at e; cases e
      rw [hsub a hne] at e; exact st.has a o' b e
    · by_cases q : a = P
      · subst q; simp only [Hp.set, if_pos rfl] at e; cases e; exact st.has a o true hP
      · simp only [Hp.set, if_neg q] at e; exact st.hasF a o' b e
    · have hne : a ≠ P := by intro q; rw [q, hP₁] at ha; exact ha rfl
      simp only [Hp.set, if_neg hne]
      rw [hsub a hne] at ha; exact st.dis a ha
  refine wpAny_mono (h _ s st₁) (fun a s' ⟨ρ', H', sm, st', p⟩ => ?_) fun _ _ x => x
  have hH' : H' P = none := by
    cases e : H' P with
    | none => rfl
    | some z => have := st'.dis P (by rw [e]; exact nofun); rw [Hp.set_same] at this; cases this
  obtain ⟨obP', gP', rP', oP', _⟩ := st'.hasF P o true Hp.set_same
  refine ⟨ρ', H'.set P o, ⟨sm.same, fun a o' e => ?_⟩, ?_, H', p, rfl⟩
  · have hne : a ≠ P := by intro q; subst q; rw [Hp.set_same] at e; cases e
    simp only [Hp.set, if_neg hne] at e
    rw [← hsub a hne]; exact sm.fz a o' e
  · refine ⟨st'.ns, fun x a e => ?_, st'.keep, st'.above, fun a o' b e => ?_, fun a o' b e => ?_, fun a ha => ?_⟩
    · obtain ⟨ob, o', g, d, ne, r1, r0, r2, r3⟩ := st'.cel x a e
      have hne : a ≠ P := by intro q; rw [q, gP'] at g; cases g; exact hnc _ rP' _ d
      refine ⟨ob, o', g, d, ne, r1, ?_, fun ow => ⟨(r2 ow).1, ?_⟩, r3⟩
      · simp only [Hp.set, if_neg hne]; exact r0
      · have := (r2 ow).2; simp only [Hp.set, if_neg hne] at this; exact this
    · by_cases q : a = P
      · subst q; simp only [Hp.set, if_pos rfl] at e; cases e; exact st'.hasF a o true Hp.set_same
      · simp only [Hp.set, if_neg q] at e; exact st'.has a o' b e
    · have hne : a ≠ P := by intro q; rw [q, hFP] at e; cases e
      exact st'.hasF a o' b (by simp only [Hp.set, if_neg hne]; exact e)
    · by_cases q : a = P
      · subst q; exact hFP
      · simp only [Hp.set, if_neg q] at ha
        have := st'.dis a ha
        simp only [Hp.set, if_neg q] at this; exact this
end
section
variable {c : Cx} {ρ : Loc} {H : Hp}
/-- a def of the text that takes one argument -/
structure Fn1K (K : Frag) (p : Program) (i : Nat) (name arg : Str) (f : Addr) (oc : Value) (od : Option Addr) (dV kV doc pm : Value) (an : Option Addr) (cdv ct : Value) (osl : Array (Option Value)) : Prop where
  fn : FnK K p i name f oc od dV kV doc pm an cdv ct osl
  b1 : ∀ y, BindsK K (fdOf p i name dV kV doc pm an cdv ct) [y] [(arg, y)]
def Fn1 (K : Frag) (p : Program) (i : Nat) (name arg : Str) : Prop := ∃ f oc od dV kV doc pm an cdv ct osl, Fn1K K p i name arg f oc od dV kV doc pm an cdv ct osl
theorem ev_fn1 {p : Program} {i : Nat} {name arg : Str} {n : Nat} {np pos : Pos} {e1 : Expr} {Φ : AV → Hp → Prop}
    (ok : Ok c) (okc : OkC c (n + 1)) (hf : Fn1 c.K p i name arg) (hl : c.env.kindOf name = some .globalImplicit)
    (h1 : EV c ρ H e1 fun v H₁ => ∀ (c' : Cx) (ρ' : Loc), c'.K = c.K → Ok c' → OkC c' n → c'.own = true → c'.env.scope = fnScope p i → ρ' arg = some v → XS c' ρ' H₁ (fnBody p i) fun f _ H' => Φ (retv f) H')
    (hsc : plainScope (fnScope p i) = true := by decide +kernel) (hnm : (fnScope p i).names.lookup arg = some .local := by decide +kernel) (hns : noStars [e1] = true := by decide +kernel) (hd : (name == ("__debug__" : Str)) = false := by decide +kernel) (hn : name ≠ ("__name__" : Str) := by decide +kernel) :
    EV c ρ H (.Call (.Name name np) [e1] [] pos) Φ := by
  obtain ⟨f, oc, od, dV, kV, doc, pm, an, cdv, ct, osl, hb⟩ := hf
  obtain ⟨s1, s2, s3, s4, s5⟩ := plainScope.of hsc
  refine ev_call_fn ok hl hb.fn.g hb.fn.o (es_cons (h1.mono fun v H₁ hv => es_nil fun ys hys => ?_)) hns hd hn
  obtain ⟨y, rfl, hy⟩ := one_of hys
  refine call_def ok okc hb.fn.o hb.fn.cd (hb.b1 y) ?_ s1 s2 s3 s4 s5 fun L' g ok' okc' => ?_
  · intro z hz
    rw [List.mem_singleton.mp hz]; exact hnm
  · refine hv _ _ rfl ok' okc' rfl rfl ?_
    show Option.map abs _ = _
    rw [← hy]
    simp
end
theorem pv_lenZ {c : Cx} {ρ : Loc} {H : Hp} {x : Str} {np pos : Pos} {e : Expr} {l : Addr} {xs : List Int} {fl : Bool} (ok : Ok c) (hl : c.env.kindOf x = some .globalImplicit) (hg : gl c.K x = some (.builtin "len")) (he : PV c ρ H e (.ref l)) (hx : H l = some (.list (zs xs), fl)) (hlen : xs.length < 1000000000)
    (hns : noStars [e] = true := by decide +kernel) (hd : (x == ("__debug__" : Str)) = false := by decide +kernel) (hn : x ≠ ("__name__" : Str) := by decide +kernel) :
    PV c ρ H (.Call (.Name x np) [e] [] pos) (.int xs.length) := by
  have := pv_len (np := np) (pos := pos) ok hl hg he hx (by rw [zs_len]; exact hlen) hns hd hn
  rw [zs_len] at this; exact this
/-- all that stands stays -/
def Keeps (H H' : Hp) : Prop := ∀ a x, H a = some x → H' a = some x
theorem Keeps.refl {H : Hp} : Keeps H H := fun _ _ e => e
theorem Keeps.trans {H H' H'' : Hp} (h : Keeps H H') (h' : Keeps H' H'') : Keeps H H'' := fun a x e => h' a x (h a x e)
theorem Keeps.set {H H' : Hp} {a : Addr} {o : AObj} (h : Keeps H H') (ha : H a = none) : Keeps H (H'.set a o) := fun b x e => by
  have : b ≠ a := by intro q; rw [q, ha] at e; cases e
  exact Hp.set_ne this (h b x e)
theorem Keeps.new {H H' : Hp} {a : Addr} {o : AObj} (h : Keeps H H') (ha : H' a = none) : Keeps H (H'.set a o) := fun b x e => keepH (h b x e) ha
theorem Keeps.none {H H' : Hp} {a : Addr} (h : Keeps H H') (ha : H' a = none) : H a = none := by
  cases e : H a with
  | none => rfl
  | some x => rw [h a x e] at ha; cases ha
section
variable {prog : Program} {w : World} {A : Around} {s : Shared} {R : Result → Shared → Prop} {E : Value → Shared → Prop}
variable {I : Addr} {fp wr : List Addr} {G : Array GenState → Array GenState → Prop} {n : Nat} {P : Nat → Value → Prop} {St : Nat → Shared → Prop}
end
section
variable {c : Cx} {ρ : Loc} {H : Hp}
end
section
variable (r : Nat → Int)
def RK (p : Array Nat) (k : Nat) : Int := r (p.getD k 0)
def SortT (p : Array Nat) (k : Nat) : Prop := ∀ i j, i ≤ j → j < k → RK r p i ≤ RK r p j
def NonT (p : Array Nat) (k : Nat) : Prop := ∀ i j, i ≤ j → j < k → RK r p j ≤ RK r p i
variable {r}
theorem SortT.step {p : Array Nat} {n : Nat} (h : SortT r p n) (h1 : 1 ≤ n) (hn : RK r p (n - 1) ≤ RK r p n) : SortT r p (n + 1) := by
  intro i j hij hj
  by_cases hjn : j < n
  · exact h i j hij hjn
  · have : j = n := by omega
    subst this
    by_cases hi : i = j
    · subst hi; exact Int.le_refl _
    · exact Int.le_trans (h i (j - 1) (by omega) (by omega)) hn
theorem NonT.step {p : Array Nat} {n : Nat} (h : NonT r p n) (h1 : 1 ≤ n) (hn : RK r p n ≤ RK r p (n - 1)) : NonT r p (n + 1) := by
  intro i j hij hj
  by_cases hjn : j < n
  · exact h i j hij hjn
  · have : j = n := by omega
    subst this
    by_cases hi : i = j
    · subst hi; exact Int.le_refl _
    · exact Int.le_trans hn (h i (j - 1) (by omega) (by omega))
end
def AllLt (n : Nat) (p : Array Nat) : Prop := 0 < n ∧ ∀ x ∈ p.toList, x < n
theorem AllLt.get {n : Nat} {p : Array Nat} (h : AllLt n p) (k : Nat) : p.getD k 0 < n := by
  by_cases hk : k < p.size
  · have e : p.getD k 0 = p[k] := by simp [Array.getD, hk]
    rw [e]; exact h.2 _ (by simp)
  · have e : p.getD k 0 = 0 := by simp [Array.getD, hk]
    rw [e]; exact h.1
section
variable {n : Nat}
end
abbrev Pr := Int × Int
section
variable {prog : Program} {w : World} {A : Around} {E : Value → Shared → Prop} {s : Shared}
end
section
variable {c : Cx} {ρ : Loc} {H : Hp}
theorem pv_to {e : Expr} {i j : Int} (h : PV c ρ H e (.int i)) (q : i = j) : PV c ρ H e (.int j) := q ▸ h
/-- a list of pairs of ints, by their places -/
structure PairsAt (H : Hp) (as : List Addr) (ps : List Pr) : Prop where
  len : as.length = ps.length
  at' : ∀ (j : Nat) (a : Addr) (p : Pr), as[j]? = some a → ps[j]? = some p → ∃ fl, H a = some (.tup [.int p.1, .int p.2], fl)
theorem PairsAt.nil : PairsAt H [] [] := ⟨rfl, fun j a p h => by simp at h⟩
theorem PairsAt.mono {H' : Hp} {as : List Addr} {ps : List Pr} (h : PairsAt H as ps) (hk : ∀ a x, H a = some x → H' a = some x) : PairsAt H' as ps :=
  ⟨h.len, fun j a p ha hp => let ⟨fl, e⟩ := h.at' j a p ha hp; ⟨fl, hk _ _ e⟩⟩
theorem PairsAt.snoc {as : List Addr} {ps : List Pr} {a : Addr} {p : Pr} {fl : Bool} (h : PairsAt H as ps) (ha : H a = some (.tup [.int p.1, .int p.2], fl)) : PairsAt H (as ++ [a]) (ps ++ [p]) := by
  refine ⟨by simp [h.len], fun j b q hb hq => ?_⟩
  by_cases hj : j < as.length
  · rw [List.getElem?_append_left hj] at hb
    rw [List.getElem?_append_left (by rw [← h.len]; exact hj)] at hq
    exact h.at' j b q hb hq
  · rw [List.getElem?_append_right (by omega)] at hb
    rw [List.getElem?_append_right (by rw [← h.len]; omega)] at hq
    rw [h.len] at hb
    cases e : j - ps.length with
    | zero => rw [e] at hb hq; simp at hb hq; subst hb hq; exact ⟨fl, ha⟩
    | succ n => rw [e] at hb; simp at hb
theorem PairsAt.get {as : List Addr} {ps : List Pr} (h : PairsAt H as ps) {j : Nat} (hj : j < ps.length) : ∃ a fl, as[j]? = some a ∧ H a = some (.tup [.int (ps[j]).1, .int (ps[j]).2], fl) := by
  have hj' : j < as.length := by rw [h.len]; exact hj
  obtain ⟨fl, e⟩ := h.at' j as[j] ps[j] (by simp) (by simp)
  exact ⟨as[j], fl, by simp, e⟩
theorem PairsAt.upd {as : List Addr} {ps : List Pr} {S : Addr} {xs : List AV} {fl : Bool} {o : AObj} (h : PairsAt H as ps) (hS : H S = some (.list xs, fl)) : PairsAt (H.set S o) as ps :=
  ⟨h.len, fun j a p ha hp => let ⟨f, e⟩ := h.at' j a p ha hp; ⟨f, Hp.set_ne (fun q => by rw [q, hS] at e; cases e) e⟩⟩
theorem PairsAt.new {as : List Addr} {ps : List Pr} {D : Addr} {o : AObj} (h : PairsAt H as ps) (hD : H D = none) : PairsAt (H.set D o) as ps := h.mono fun _ _ e => keepH e hD
theorem St.tup2 {F : Hp} {s : Shared} {a : Addr} {x y : Int} {fl : Bool} (st : St c ρ H F s) (h : H a = some (.tup [.int x, .int y], fl)) :
    ∃ ob t u n, s.heap.get? a = some ob ∧ ob.cls = .type "tuple" ∧ ob.data = .seq #[.int x t, .int y u] n := by
  obtain ⟨its, ⟨ob, g, hc, n, hd⟩, hm⟩ := st.isTup h
  obtain ⟨l⟩ := its
  obtain ⟨v1, v2, e, h1, h2⟩ := two_of hm
  simp only at e; subst e
  obtain ⟨t, rfl⟩ := abs_int h1
  obtain ⟨u, rfl⟩ := abs_int h2
  exact ⟨ob, t, u, n, g, hc, hd⟩
end
def rowIns (d : Int) : List Int → Int → List Int × Option Int
  | [], x => ([x], none)
  | a :: r, x => if x + d ≤ a then (x :: r, some a) else (a :: (rowIns d r x).1, (rowIns d r x).2)
def NS (d : Int) (r : List Int) : Prop := r.Pairwise fun a b => a < b + d
theorem ns_one {r : List Int} : NS 1 r ↔ Sorted r := by
  unfold NS Sorted
  constructor
  · exact fun h => h.imp fun {a b} q => by omega
  · exact fun h => h.imp fun {a b} q => by omega
theorem rowIns_mem {d : Int} {y x : Int} : ∀ {r : List Int}, y ∈ (rowIns d r x).1 → y = x ∨ y ∈ r
  | [], h => by simp [rowIns] at h; exact .inl h
  | a :: r, h => by
    unfold rowIns at h
    split at h
    · rcases List.mem_cons.mp h with e | e
      · exact .inl e
      · exact .inr (.tail _ e)
    · rcases List.mem_cons.mp h with e | e
      · subst e; exact .inr (.head _)
      · rcases rowIns_mem e with e | e
        · exact .inl e
        · exact .inr (.tail _ e)
theorem rowIns_ns {d : Int} (hd : d = 0 ∨ d = 1) {x : Int} : ∀ {r : List Int}, NS d r → NS d (rowIns d r x).1
  | [], _ => by simp [rowIns, NS]
  | a :: r, h => by
    obtain ⟨h1, h2⟩ := List.pairwise_cons.mp h
    unfold rowIns
    split
    · rename_i hx
      refine List.pairwise_cons.mpr ⟨fun b hb => ?_, h2⟩
      have := h1 b hb; omega
    · rename_i hx
      refine List.pairwise_cons.mpr ⟨fun b hb => ?_, rowIns_ns hd h2⟩
      rcases rowIns_mem hb with e | e
      · subst e; omega
      · exact h1 b e
theorem rowIns_is {d : Int} (hd : d = 0 ∨ d = 1) {x : Int} : ∀ {r : List Int}, NS d r → rowIns d r x = (if r.countP (fun y => decide (y < x + d)) = r.length then r ++ [x] else r.set (r.countP fun y => decide (y < x + d)) x, r[r.countP fun y => decide (y < x + d)]?)
  | [], _ => by simp [rowIns]
  | a :: r, h => by
    obtain ⟨h1, h2⟩ := List.pairwise_cons.mp h
    unfold rowIns
    by_cases hx : x + d ≤ a
    · rw [if_pos hx]
      have h0 : (a :: r).countP (fun y => decide (y < x + d)) = 0 := by
        rw [List.countP_eq_zero]
        intro y hy
        rcases List.mem_cons.mp hy with e | e
        · subst e; simp; omega
        · have := h1 y e; simp; omega
      rw [h0]
      simp
    · have e : (a :: r).countP (fun y => decide (y < x + d)) = r.countP (fun y => decide (y < x + d)) + 1 := by
        rw [List.countP_cons, if_pos (decide_eq_true (by omega))]
      rw [if_neg hx, rowIns_is hd h2, e]
      simp only [List.length_cons, List.getElem?_cons_succ, List.set_cons_succ, List.cons_append, Nat.add_right_cancel_iff]
      split <;> rfl
abbrev Tab := List (List Int × List Int)
def ins2 (d : Int) : Tab → Int × Int → Tab
  | [], p => [([p.2], [p.1])]
  | (r, m) :: T, p => match rowIns d r p.2 with
    | (r', none) => (r', m ++ [p.1]) :: T
    | (r', some b) => (r', m) :: ins2 d T (p.1, b)
def tabs (d : Int) (ps : List (Int × Int)) : Tab := ps.foldl (ins2 d) []
abbrev Pt := Int × Int
/-- q, then p, neighbours on a line -/
structure Nb (S : List Pt) (h : Pt → Nat) (p q : Pt) : Prop where
  hp : p ∈ S
  hq : q ∈ S
  eq : h p = h q
  lt : q.1 < p.1
  no : ∀ r ∈ S, h r = h p → ¬ (q.1 < r.1 ∧ r.1 < p.1)
section
variable {H₀ H : Hp} {R M : Addr} {as bs : List Addr} {rows marks : List (List Int)}
/-- two tables of the call's own, made since H₀ -/
structure TabsIn (H₀ H : Hp) (R M : Addr) (as bs : List Addr) (rows marks : List (List Int)) : Prop where
  r : H R = some (.list (refs as), true)
  m : H M = some (.list (refs bs), true)
  ra : RowsAt H as rows
  rb : RowsAt H bs marks
  nd : (R :: M :: (as ++ bs)).Nodup
  kp : Keeps H₀ H
  fr : ∀ a ∈ R :: M :: (as ++ bs), H₀ a = none
theorem TabsIn.neRM (t : TabsIn H₀ H R M as bs rows marks) : R ≠ M := fun e => (List.nodup_cons.mp t.nd).1 (e ▸ .head _)
theorem TabsIn.Ra (t : TabsIn H₀ H R M as bs rows marks) : R ∉ as := fun h => (List.nodup_cons.mp t.nd).1 (.tail _ (List.mem_append_left _ h))
theorem TabsIn.Rb (t : TabsIn H₀ H R M as bs rows marks) : R ∉ bs := fun h => (List.nodup_cons.mp t.nd).1 (.tail _ (List.mem_append_right _ h))
theorem TabsIn.Ma (t : TabsIn H₀ H R M as bs rows marks) : M ∉ as := fun h => (List.nodup_cons.mp (List.nodup_cons.mp t.nd).2).1 (List.mem_append_left _ h)
theorem TabsIn.Mb (t : TabsIn H₀ H R M as bs rows marks) : M ∉ bs := fun h => (List.nodup_cons.mp (List.nodup_cons.mp t.nd).2).1 (List.mem_append_right _ h)
theorem TabsIn.nda (t : TabsIn H₀ H R M as bs rows marks) : as.Nodup := (List.nodup_append.mp (List.nodup_cons.mp (List.nodup_cons.mp t.nd).2).2).1
theorem TabsIn.ndb (t : TabsIn H₀ H R M as bs rows marks) : bs.Nodup := (List.nodup_append.mp (List.nodup_cons.mp (List.nodup_cons.mp t.nd).2).2).2.1
theorem TabsIn.ab (t : TabsIn H₀ H R M as bs rows marks) {a : Addr} (h1 : a ∈ as) (h2 : a ∈ bs) : False := (List.nodup_append.mp (List.nodup_cons.mp (List.nodup_cons.mp t.nd).2).2).2.2 a h1 a h2 rfl
theorem TabsIn.new {D : Addr} {o : AObj} (t : TabsIn H₀ H R M as bs rows marks) (hD : H D = none) : TabsIn H₀ (H.set D o) R M as bs rows marks :=
  ⟨keepH t.r hD, keepH t.m hD, t.ra.keepNew hD, t.rb.keepNew hD, t.nd, t.kp.new hD, t.fr⟩
theorem TabsIn.setR {j : Nat} {a : Addr} {r' : List Int} (t : TabsIn H₀ H R M as bs rows marks) (ha : as[j]? = some a) : TabsIn H₀ (H.set a (.list (zs r'))) R M as bs (rows.set j r') marks := by
  have hm := List.mem_of_getElem? ha
  refine ⟨Hp.set_ne (fun e => t.Ra (e ▸ hm)) t.r, Hp.set_ne (fun e => t.Ma (e ▸ hm)) t.m, t.ra.set t.nda ha, t.rb.keep (fun h => t.ab hm h), t.nd, t.kp.set (t.fr a (.tail _ (.tail _ (List.mem_append_left _ hm)))), t.fr⟩
theorem TabsIn.setM {j : Nat} {b : Addr} {r' : List Int} (t : TabsIn H₀ H R M as bs rows marks) (hb : bs[j]? = some b) : TabsIn H₀ (H.set b (.list (zs r'))) R M as bs rows (marks.set j r') := by
  have hm := List.mem_of_getElem? hb
  refine ⟨Hp.set_ne (fun e => t.Rb (e ▸ hm)) t.r, Hp.set_ne (fun e => t.Mb (e ▸ hm)) t.m, t.ra.keep (fun h => t.ab h hm), t.rb.set t.ndb hb, t.nd, t.kp.set (t.fr b (.tail _ (.tail _ (List.mem_append_right _ hm)))), t.fr⟩
theorem nodup_snocA {R M D : Addr} {as bs : List Addr} (nd : (R :: M :: (as ++ bs)).Nodup) (hD : D ∉ R :: M :: (as ++ bs)) : (R :: M :: ((as ++ [D]) ++ bs)).Nodup := by
  have hp : (R :: M :: ((as ++ [D]) ++ bs)).Perm (D :: R :: M :: (as ++ bs)) := by
    have : ((as ++ [D]) ++ bs).Perm (D :: (as ++ bs)) := by
      rw [List.append_assoc]; exact List.perm_middle
    exact ((this.cons M).cons R).trans (((List.Perm.swap D M _).cons R).trans (List.Perm.swap D R _))
  exact hp.nodup_iff.mpr (List.nodup_cons.mpr ⟨hD, nd⟩)
theorem nodup_snocB {R M D : Addr} {as bs : List Addr} (nd : (R :: M :: (as ++ bs)).Nodup) (hD : D ∉ R :: M :: (as ++ bs)) : (R :: M :: (as ++ (bs ++ [D]))).Nodup := by
  have hp : (R :: M :: (as ++ (bs ++ [D]))).Perm (D :: R :: M :: (as ++ bs)) := by
    have : (as ++ (bs ++ [D])).Perm (D :: (as ++ bs)) := by
      rw [← List.append_assoc]; exact List.perm_append_singleton _ _
    exact ((this.cons M).cons R).trans (((List.Perm.swap D M _).cons R).trans (List.Perm.swap D R _))
  exact hp.nodup_iff.mpr (List.nodup_cons.mpr ⟨hD, nd⟩)
theorem TabsIn.outside {D : Addr} (t : TabsIn H₀ H R M as bs rows marks) (hD : H D = none) : D ∉ R :: M :: (as ++ bs) := by
  intro h
  rcases List.mem_cons.mp h with e | h
  · rw [e, t.r] at hD; cases hD
  · rcases List.mem_cons.mp h with e | h
    · rw [e, t.m] at hD; cases hD
    · rcases List.mem_append.mp h with h | h
      · obtain ⟨r, e⟩ := t.ra.mem h; rw [e] at hD; cases hD
      · obtain ⟨r, e⟩ := t.rb.mem h; rw [e] at hD; cases hD
/-- rows.append([..]) -/
theorem TabsIn.pushR {D : Addr} {r : List Int} (t : TabsIn H₀ H R M as bs rows marks) (hD : H D = none) : TabsIn H₀ ((H.set D (.list (zs r))).set R (.list (refs (as ++ [D])))) R M (as ++ [D]) bs (rows ++ [r]) marks := by
  have hout := t.outside hD
  have t' := t.new (o := .list (zs r)) hD
  have hDR : D ≠ R := fun e => hout (e ▸ .head _)
  have nd' := nodup_snocA t.nd hout
  have hR' : R ∉ as ++ [D] := fun h => by
    rcases List.mem_append.mp h with h | h
    · exact t.Ra h
    · simp at h; exact hDR h.symm
  refine ⟨Hp.set_same, Hp.set_ne (Ne.symm t.neRM) t'.m, (t'.ra.snoc Hp.set_same).keep hR', t'.rb.keep t.Rb, nd', (t.kp.new hD).set (t.fr R (.head _)), fun a ha => ?_⟩
  rcases List.mem_cons.mp ha with e | ha
  · rw [e]; exact t.fr R (.head _)
  · rcases List.mem_cons.mp ha with e | ha
    · rw [e]; exact t.fr M (.tail _ (.head _))
    · rcases List.mem_append.mp ha with ha | ha
      · rcases List.mem_append.mp ha with ha | ha
        · exact t.fr a (.tail _ (.tail _ (List.mem_append_left _ ha)))
        · simp at ha; rw [ha]; exact t.kp.none hD
      · exact t.fr a (.tail _ (.tail _ (List.mem_append_right _ ha)))
theorem TabsIn.pushM {D : Addr} {r : List Int} (t : TabsIn H₀ H R M as bs rows marks) (hD : H D = none) : TabsIn H₀ ((H.set D (.list (zs r))).set M (.list (refs (bs ++ [D])))) R M as (bs ++ [D]) rows (marks ++ [r]) := by
  have hout := t.outside hD
  have t' := t.new (o := .list (zs r)) hD
  have hDM : D ≠ M := fun e => hout (e ▸ .tail _ (.head _))
  have nd' := nodup_snocB t.nd hout
  have hM' : M ∉ bs ++ [D] := fun h => by
    rcases List.mem_append.mp h with h | h
    · exact t.Mb h
    · simp at h; exact hDM h.symm
  refine ⟨Hp.set_ne t.neRM t'.r, Hp.set_same, t'.ra.keep t.Ma, (t'.rb.snoc Hp.set_same).keep hM', nd', (t.kp.new hD).set (t.fr M (.tail _ (.head _))), fun a ha => ?_⟩
  rcases List.mem_cons.mp ha with e | ha
  · rw [e]; exact t.fr R (.head _)
  · rcases List.mem_cons.mp ha with e | ha
    · rw [e]; exact t.fr M (.tail _ (.head _))
    · rcases List.mem_append.mp ha with ha | ha
      · exact t.fr a (.tail _ (.tail _ (List.mem_append_left _ ha)))
      · rcases List.mem_append.mp ha with ha | ha
        · exact t.fr a (.tail _ (.tail _ (List.mem_append_right _ ha)))
        · simp at ha; rw [ha]; exact t.kp.none hD
end
def Sz (N : Nat) (T : Tab) : Prop := T.length ≤ N ∧ ∀ x ∈ T, x.1.length ≤ N ∧ x.2.length ≤ N ∧ NS 1 x.1
theorem rowIns_len {d : Int} : ∀ (r : List Int) (x : Int), (rowIns d r x).1.length = r.length + (if (rowIns d r x).2.isSome then 0 else 1)
  | [], x => rfl
  | a :: r, x => by
    unfold rowIns
    split
    · simp
    · simp only [List.length_cons]; rw [rowIns_len r x]; omega
theorem Sz.mono {N N' : Nat} {T : Tab} (h : Sz N T) (hn : N ≤ N') : Sz N' T := ⟨by have := h.1; omega, fun x hx => by obtain ⟨a, b, e⟩ := h.2 x hx; exact ⟨by omega, by omega, e⟩⟩
theorem ins2_sz {N : Nat} : ∀ {T : Tab} (p : Int × Int), Sz N T → Sz (N + 1) (ins2 1 T p)
  | [], p, h => by
    refine ⟨by simp [ins2], fun x hx => ?_⟩
    simp [ins2] at hx; subst hx
    exact ⟨by simp, by simp, by simp [NS]⟩
  | (r, m) :: T, p, h => by
    have h0 := h.2 (r, m) (.head _)
    dsimp only at h0
    have hT : Sz N T := ⟨by have := h.1; simp at this; omega, fun x hx => h.2 x (.tail _ hx)⟩
    have hns := rowIns_ns (.inr rfl) (x := p.2) h0.2.2
    have hl := rowIns_len (d := 1) r p.2
    have hl0 := h.1
    unfold ins2
    rcases e : rowIns 1 r p.2 with ⟨r', _ | b⟩
    · rw [e] at hns hl
      refine ⟨by simp at hl0 ⊢; omega, fun x hx => ?_⟩
      rcases List.mem_cons.mp hx with e | hx
      · subst e; simp at hl ⊢; exact ⟨by omega, by omega, hns⟩
      · obtain ⟨a, b, e⟩ := hT.2 x hx; exact ⟨by omega, by omega, e⟩
    · rw [e] at hns hl
      have hlen : ∀ (T : Tab) (q : Int × Int), (ins2 1 T q).length ≤ T.length + 1 := by
        intro T
        induction T with
        | nil => intro q; simp [ins2]
        | cons y T ih =>
          intro q
          obtain ⟨r, m⟩ := y
          unfold ins2
          rcases rowIns 1 r q.2 with ⟨r', _ | b⟩
          · simp
          · simp; exact ih _
      refine ⟨by simp at hl0 ⊢; have := hlen T (p.1, b); omega, fun x hx => ?_⟩
      rcases List.mem_cons.mp hx with e | hx
      · subst e; simp at hl ⊢; exact ⟨by omega, by omega, hns⟩
      · exact (ins2_sz (p.1, b) hT).2 x hx
def ptsN (xs : List Int) (n : Nat) : List Pt := (List.range n).map fun j : Nat => ((j : Int), xs.getD j 0)
theorem ptsN_succ {xs : List Int} {n : Nat} {x : Int} (h : xs[n]? = some x) : ptsN xs (n + 1) = ptsN xs n ++ [((n : Int), x)] := by
  unfold ptsN
  rw [List.range_succ, List.map_append]
  simp [h]
theorem tabs_snoc {d : Int} (ps : List Pt) (p : Pt) : tabs d (ps ++ [p]) = ins2 d (tabs d ps) p := by
  unfold tabs; rw [List.foldl_append]; rfl
def pts (xs : List Int) : List Pt := ptsN xs xs.length
theorem ins2_push {T : Tab} {n : Nat} {r m : List Int} {t x : Int} (hn : T[n]? = some (r, m)) (hs : NS 1 r) (hk : r.countP (fun y => decide (y ≤ x)) < r.length) {b : Int} (hb : r[r.countP (fun y => decide (y ≤ x))]? = some b) :
    T.take n ++ ins2 1 (T.drop n) (t, x) = (T.set n (r.set (r.countP fun y => decide (y ≤ x)) x, m)).take (n + 1) ++ ins2 1 ((T.set n (r.set (r.countP fun y => decide (y ≤ x)) x, m)).drop (n + 1)) (t, b) := by
  obtain ⟨hlt, he⟩ := List.getElem?_eq_some_iff.mp hn
  have ec : r.countP (fun y => decide (y < x + 1)) = r.countP fun y => decide (y ≤ x) := List.countP_congr fun y _ => by simp; omega
  have hr := rowIns_is (.inr rfl) (x := x) hs
  rw [ec, if_neg (by omega), hb] at hr
  have hd : T.drop n = (r, m) :: T.drop (n + 1) := by rw [List.drop_eq_getElem_cons hlt, he]
  rw [hd]
  have : ins2 1 ((r, m) :: T.drop (n + 1)) (t, x) = (r.set (r.countP fun y => decide (y ≤ x)) x, m) :: ins2 1 (T.drop (n + 1)) (t, b) := by
    show (match rowIns 1 r x with | (r', none) => (r', m ++ [t]) :: T.drop (n + 1) | (r', some b) => (r', m) :: ins2 1 (T.drop (n + 1)) (t, b)) = _
    rw [hr]
  rw [this, List.take_add_one, List.getElem?_set_self hlt, List.take_set_of_le (Nat.le_refl _), List.drop_set_of_lt (Nat.lt_succ_self _)]
  simp
theorem ins2_stay {T : Tab} {n : Nat} {r m : List Int} {t x : Int} (hn : T[n]? = some (r, m)) (hs : NS 1 r) (hk : r.countP (fun y => decide (y ≤ x)) = r.length) : T.take n ++ ins2 1 (T.drop n) (t, x) = T.set n (r ++ [x], m ++ [t]) := by
  obtain ⟨hlt, he⟩ := List.getElem?_eq_some_iff.mp hn
  have ec : r.countP (fun y => decide (y < x + 1)) = r.countP fun y => decide (y ≤ x) := List.countP_congr fun y _ => by simp; omega
  have hr := rowIns_is (.inr rfl) (x := x) hs
  rw [ec, if_pos hk, hk, List.getElem?_eq_none (Nat.le_refl _)] at hr
  have hd : T.drop n = (r, m) :: T.drop (n + 1) := by rw [List.drop_eq_getElem_cons hlt, he]
  rw [hd]
  have : ins2 1 ((r, m) :: T.drop (n + 1)) (t, x) = (r ++ [x], m ++ [t]) :: T.drop (n + 1) := by
    show (match rowIns 1 r x with | (r', none) => (r', m ++ [t]) :: T.drop (n + 1) | (r', some b) => (r', m) :: ins2 1 (T.drop (n + 1)) (t, b)) = _
    rw [hr]
  rw [this, List.set_eq_take_append_cons_drop, if_pos hlt]
theorem map_set1 {T : Tab} {n : Nat} {r m r' : List Int} (hn : T[n]? = some (r, m)) : (T.set n (r', m)).map (·.1) = (T.map (·.1)).set n r' ∧ (T.set n (r', m)).map (·.2) = T.map (·.2) := by
  constructor
  · rw [List.map_set]
  · rw [List.map_set]
    refine List.ext_getElem? fun i => ?_
    rw [List.getElem?_set]
    split
    · rename_i e
      subst e
      rw [List.getElem?_map, hn]
      have := (List.getElem?_eq_some_iff.mp hn).1
      simp [this]
    · rfl
section
open PySem.Spec
variable {c : Cx} {ρ : Loc} {H : Hp}
end
def Below (d : Int) : List Int → List Int → Prop
  | _, [] => True
  | [], _ :: _ => False
  | a :: r, b :: s => a + d ≤ b ∧ Below d r s
theorem below_nil {d : Int} {r : List Int} : Below d r [] := by cases r <;> trivial
theorem below_len {d : Int} : ∀ {r s : List Int}, Below d r s → s.length ≤ r.length
  | _, [], _ => Nat.zero_le _
  | [], _ :: _, h => h.elim
  | a :: r, b :: s, h => Nat.succ_le_succ (below_len h.2)
theorem below_get {d : Int} : ∀ {r s : List Int} {k : Nat} {v : Int}, Below d r s → s[k]? = some v → ∃ u, r[k]? = some u ∧ u + d ≤ v
  | _, [], k, v, _, e => by simp at e
  | [], _ :: _, _, _, h, _ => h.elim
  | a :: r, b :: s, 0, v, h, e => by simp at e; subst e; exact ⟨a, rfl, h.1⟩
  | a :: r, b :: s, k + 1, v, h, e => by
    obtain ⟨u, h1, h2⟩ := below_get (k := k) h.2 (by simpa using e)
    exact ⟨u, by simpa using h1, h2⟩
theorem rowIns_some {d x b : Int} : ∀ {r : List Int}, (rowIns d r x).2 = some b → x + d ≤ b ∧ b ∈ r
  | [], h => by simp [rowIns] at h
  | a :: r, h => by
    unfold rowIns at h
    split at h
    · simp at h; subst h; rename_i q; exact ⟨q, .head _⟩
    · obtain ⟨h1, h2⟩ := rowIns_some h; exact ⟨h1, .tail _ h2⟩
theorem rowIns_none {d x : Int} : ∀ {r : List Int}, (rowIns d r x).2 = none → (rowIns d r x).1 = r ++ [x] ∧ ∀ a ∈ r, a < x + d
  | [], h => by simp [rowIns]
  | a :: r, h => by
    unfold rowIns at h ⊢
    split at h
    · cases h
    · rename_i q
      obtain ⟨h1, h2⟩ := rowIns_none h
      rw [if_neg q]
      refine ⟨by simp [h1], fun b hb => ?_⟩
      rcases List.mem_cons.mp hb with e | e
      · subst e; omega
      · exact h2 b e
theorem below_ins {d x : Int} (hd : d = 0 ∨ d = 1) : ∀ {r s : List Int}, Below d r s → Below d (rowIns d r x).1 s
  | _, [], _ => below_nil
  | [], _ :: _, h => h.elim
  | a :: r, b :: s, h => by
    unfold rowIns
    split
    · rename_i q
      refine ⟨?_, h.2⟩
      have := h.1
      omega
    · exact ⟨h.1, below_ins hd h.2⟩
theorem below_step {d : Int} (hd : d = 0 ∨ d = 1) {x b : Int} : ∀ {r s : List Int}, Below d r s → (rowIns d r x).2 = some b → Below d (rowIns d r x).1 (rowIns d s b).1
  | [], _, _, h => by simp [rowIns] at h
  | a :: r, s, hb, h => by
    by_cases q : x + d ≤ a
    · have e : rowIns d (a :: r) x = (x :: r, some a) := by unfold rowIns; rw [if_pos q]
      rw [e] at h ⊢
      simp at h; subst h
      cases s with
      | nil => exact ⟨q, below_nil⟩
      | cons c s =>
        have e2 : rowIns d (c :: s) a = (a :: s, some c) := by unfold rowIns; rw [if_pos hb.1]
        rw [e2]; exact ⟨q, hb.2⟩
    · have e : rowIns d (a :: r) x = (a :: (rowIns d r x).1, (rowIns d r x).2) := by conv => lhs; unfold rowIns; rw [if_neg q]
      rw [e] at h ⊢
      have h1 := (rowIns_some h).1
      cases s with
      | nil => exact ⟨by omega, below_nil⟩
      | cons c s =>
        by_cases q2 : b + d ≤ c
        · have e2 : rowIns d (c :: s) b = (b :: s, some c) := by unfold rowIns; rw [if_pos q2]
          rw [e2]; exact ⟨by omega, below_ins hd hb.2⟩
        · have e2 : rowIns d (c :: s) b = (c :: (rowIns d s b).1, (rowIns d s b).2) := by conv => lhs; unfold rowIns; rw [if_neg q2]
          rw [e2]; exact ⟨hb.1, below_step hd hb.2 h⟩
def tabIns (d : Int) : List (List Int) → Int → List (List Int)
  | [], x => [[x]]
  | r :: T, x => match rowIns d r x with
    | (r', none) => r' :: T
    | (r', some b) => r' :: tabIns d T b
theorem tabIns_none {d x : Int} {r : List Int} {T : List (List Int)} (h : (rowIns d r x).2 = none) : tabIns d (r :: T) x = (rowIns d r x).1 :: T := by
  unfold tabIns
  rcases e : rowIns d r x with ⟨r', _ | b⟩
  · rfl
  · rw [e] at h; cases h
theorem tabIns_some {d x b : Int} {r : List Int} {T : List (List Int)} (h : (rowIns d r x).2 = some b) : tabIns d (r :: T) x = (rowIns d r x).1 :: tabIns d T b := by
  conv => lhs; unfold tabIns
  rcases e : rowIns d r x with ⟨r', _ | b'⟩
  · rw [e] at h; cases h
  · rw [e] at h; simp at h; subst h; rfl
theorem ins2_rows {d : Int} : ∀ (T : Tab) (p : Int × Int), (ins2 d T p).map (·.1) = tabIns d (T.map (·.1)) p.2
  | [], p => rfl
  | (r, m) :: T, p => by
    unfold ins2
    show _ = tabIns d (r :: T.map (·.1)) p.2
    conv => rhs; unfold tabIns
    rcases e : rowIns d r p.2 with ⟨r', _ | b⟩
    · rfl
    · show r' :: (ins2 d T (p.1, b)).map (·.1) = _
      rw [ins2_rows]
def tab (d : Int) (w : List Int) : List (List Int) := w.foldl (tabIns d) []
theorem tabs_rows {d : Int} (ps : List Pt) : (tabs d ps).map (·.1) = tab d (ps.map (·.2)) := by
  unfold tabs tab
  have : ∀ (ps : List Pt) (T : Tab), (ps.foldl (ins2 d) T).map (·.1) = (ps.map (·.2)).foldl (tabIns d) (T.map (·.1)) := by
    intro ps
    induction ps with
    | nil => intro T; rfl
    | cons p ps ih => intro T; rw [List.foldl_cons, ih, List.map_cons, List.foldl_cons, ins2_rows]
  exact this ps []
def hd0 : List (List Int) → List Int
  | [] => []
  | r :: _ => r
/-- rows in order, none empty, each below the one ahead -/
def Tb (d : Int) : List (List Int) → Prop
  | [] => True
  | r :: T => NS d r ∧ r ≠ [] ∧ Below d r (hd0 T) ∧ Tb d T
theorem rowIns_ne {d : Int} (r : List Int) (x : Int) : (rowIns d r x).1 ≠ [] := by
  cases r with
  | nil => simp [rowIns]
  | cons a r => unfold rowIns; split <;> simp
theorem hd0_tabIns {d : Int} (T : List (List Int)) (x : Int) : hd0 (tabIns d T x) = (rowIns d (hd0 T) x).1 := by
  cases T with
  | nil => rfl
  | cons r T =>
    unfold tabIns
    rcases e : rowIns d r x with ⟨r', _ | b⟩
    · show r' = (rowIns d r x).1; rw [e]
    · show r' = (rowIns d r x).1; rw [e]
theorem tb_ins {d : Int} (hd : d = 0 ∨ d = 1) : ∀ {T : List (List Int)} {x : Int}, Tb d T → Tb d (tabIns d T x)
  | [], x, _ => ⟨by simp [NS], by simp, below_nil, trivial⟩
  | r :: T, x, ⟨h1, h2, h3, h4⟩ => by
    rcases e : (rowIns d r x).2 with _ | b
    · rw [tabIns_none e]
      exact ⟨rowIns_ns hd h1, rowIns_ne r x, below_ins hd h3, h4⟩
    · rw [tabIns_some e]
      refine ⟨rowIns_ns hd h1, rowIns_ne r x, ?_, tb_ins hd h4⟩
      rw [hd0_tabIns]
      exact below_step hd h3 e
theorem tb_tab {d : Int} (hd : d = 0 ∨ d = 1) (w : List Int) : Tb d (tab d w) := by
  unfold tab
  have : ∀ (w : List Int) (T : List (List Int)), Tb d T → Tb d (w.foldl (tabIns d) T) := by
    intro w
    induction w with
    | nil => intro T h; exact h
    | cons x w ih => intro T h; exact ih _ (tb_ins hd h)
  exact this w [] trivial
theorem nodup_le : ∀ {l m : List Nat}, l.Nodup → (∀ a ∈ l, a ∈ m) → l.length ≤ m.length
  | [], _, _, _ => Nat.zero_le _
  | a :: l, m, hn, hs => by
    obtain ⟨h1, h2⟩ := List.nodup_cons.mp hn
    have ha := hs a (.head _)
    have := nodup_le (l := l) (m := m.erase a) h2 fun b hb => by
      refine (List.mem_erase_of_ne ?_).mpr (hs b (.tail _ hb))
      rintro rfl; exact h1 hb
    rw [List.length_erase_of_mem ha] at this
    have : 0 < m.length := List.length_pos_of_mem ha
    simp only [List.length_cons]; omega
section
variable {ps : List Pt} {h : Pt → Nat} {r m : List Int} {bs : List Pt}
end
section
variable {c : Cx} {ρ : Loc} {H : Hp}
end
section
variable {prog : Program} {w : World} {A : Around} {R : Result → Shared → Prop} {s : Shared}
abbrev two (elt t1 i1 t2 i2 : Expr) (scope : Scope) (pos : Pos) : Expr := .ListComp elt [⟨t1, i1, [], 0⟩, ⟨t2, i2, [], 0⟩] scope pos
end
section
variable {c : Cx} {ρ : Loc} {H : Hp}
end
inductive Kn (d : Int) : List Int → List Int → Prop
  | refl (w) : Kn d w w
  | k1 (u v : List Int) (x y z : Int) : x + d ≤ y → y < z + d → Kn d (u ++ y :: z :: x :: v) (u ++ y :: x :: z :: v)
  | k2 (u v : List Int) (x y z : Int) : x < y + d → y + d ≤ z → Kn d (u ++ x :: z :: y :: v) (u ++ z :: x :: y :: v)
  | symm {w w' : List Int} : Kn d w w' → Kn d w' w
  | trans {w w' w'' : List Int} : Kn d w w' → Kn d w' w'' → Kn d w w''
theorem Kn.of_eq {d : Int} {w w' : List Int} (h : w = w') : Kn d w w' := h ▸ .refl _
theorem Kn.ctx {d : Int} {w w' : List Int} (h : Kn d w w') (p q : List Int) : Kn d (p ++ w ++ q) (p ++ w' ++ q) := by
  induction h with
  | refl w => exact .refl _
  | k1 u v x y z h1 h2 => simpa using Kn.k1 (p ++ u) (v ++ q) x y z h1 h2
  | k2 u v x y z h1 h2 => simpa using Kn.k2 (p ++ u) (v ++ q) x y z h1 h2
  | symm _ ih => exact .symm ih
  | trans _ _ ih1 ih2 => exact .trans ih1 ih2
theorem Kn.left {d : Int} {w w' : List Int} (h : Kn d w w') (p : List Int) : Kn d (p ++ w) (p ++ w') := by simpa using h.ctx p []
theorem Kn.right {d : Int} {w w' : List Int} (h : Kn d w w') (q : List Int) : Kn d (w ++ q) (w' ++ q) := by simpa using h.ctx [] q
theorem kn_ahead {d : Int} (hd : d = 0 ∨ d = 1) {x : Int} : ∀ {s : List Int} {a : Int}, NS d (a :: s) → x + d ≤ a → Kn d (a :: (s ++ [x])) (a :: x :: s)
  | [], a, _, _ => .refl _
  | b :: s, a, h, hx => by
    obtain ⟨h1, h2⟩ := List.pairwise_cons.mp h
    have hab := h1 b (.head _)
    have hxb : x + d ≤ b := by omega
    have ih := kn_ahead hd (s := s) (a := b) h2 hxb
    exact (ih.left [a]).trans (Kn.k1 [] s x a b hx hab)
theorem rowIns_head {d : Int} (hd : d = 0 ∨ d = 1) {x b h : Int} {r t : List Int} (e : rowIns d r x = (h :: t, some b)) : h + d ≤ b := by
  cases r with
  | nil => simp [rowIns] at e
  | cons a r =>
    unfold rowIns at e
    split at e
    · simp at e; obtain ⟨⟨rfl, rfl⟩, rfl⟩ := e; assumption
    · rename_i q
      have e1 := (Prod.mk.inj e)
      have h1 := rowIns_some e1.2
      have : a = h := (List.cons.inj e1.1).1
      omega
theorem kn_row {d : Int} (hd : d = 0 ∨ d = 1) {x b : Int} : ∀ {r : List Int}, NS d r → (rowIns d r x).2 = some b → Kn d (r ++ [x]) (b :: (rowIns d r x).1)
  | [], _, h => by simp [rowIns] at h
  | a :: r, hr, h => by
    obtain ⟨h1, h2⟩ := List.pairwise_cons.mp hr
    by_cases q : x + d ≤ a
    · have e : rowIns d (a :: r) x = (x :: r, some a) := by unfold rowIns; rw [if_pos q]
      rw [e] at h ⊢
      simp at h; subst h
      exact kn_ahead hd hr q
    · have e : rowIns d (a :: r) x = (a :: (rowIns d r x).1, (rowIns d r x).2) := by conv => lhs; unfold rowIns; rw [if_neg q]
      have hns := rowIns_ns hd (x := x) hr
      rw [e] at h hns ⊢
      have ih := kn_row hd h2 h
      refine (ih.left [a]).trans ?_
      cases e2 : (rowIns d r x).1 with
      | nil => exact absurd e2 (rowIns_ne r x)
      | cons c t =>
        have hb := rowIns_head hd (r := r) (x := x) (h := c) (t := t) (b := b) (Prod.ext e2 h)
        rw [e2] at hns
        have hac := (List.pairwise_cons.mp hns).1 c (.head _)
        exact Kn.k2 [] t a c b hac hb
/-- the table read from its last row on -/
def rd : List (List Int) → List Int
  | [] => []
  | r :: T => rd T ++ r
theorem kn_tabIns {d : Int} (hd : d = 0 ∨ d = 1) : ∀ {T : List (List Int)} {x : Int}, Tb d T → Kn d (rd T ++ [x]) (rd (tabIns d T x))
  | [], x, _ => .refl _
  | r :: T, x, ⟨h1, h2, h3, h4⟩ => by
    rcases e : (rowIns d r x).2 with _ | b
    · rw [tabIns_none e, show rd ((rowIns d r x).1 :: T) = rd T ++ (rowIns d r x).1 from rfl, (rowIns_none e).1]
      exact .of_eq (by simp [rd])
    · rw [tabIns_some e]
      show Kn d (rd T ++ r ++ [x]) (rd (tabIns d T b) ++ (rowIns d r x).1)
      rw [List.append_assoc]
      refine ((kn_row hd h1 e).left (rd T)).trans ?_
      rw [show rd T ++ b :: (rowIns d r x).1 = (rd T ++ [b]) ++ (rowIns d r x).1 by simp]
      exact (kn_tabIns hd h4).right _
theorem kn_tab {d : Int} (hd : d = 0 ∨ d = 1) (w : List Int) : Kn d w (rd (tab d w)) := by
  have : ∀ (w : List Int) (T : List (List Int)), Tb d T → Kn d (rd T ++ w) (rd (w.foldl (tabIns d) T)) := by
    intro w
    induction w with
    | nil => intro T _; exact .of_eq (by simp)
    | cons x w ih =>
      intro T h
      rw [List.foldl_cons]
      refine Kn.trans ?_ (ih _ (tb_ins hd h))
      rw [show rd T ++ x :: w = (rd T ++ [x]) ++ w by simp]
      exact (kn_tabIns hd h).right w
  simpa [rd, tab] using this w [] trivial
/-- numbers with their columns -/
def rdA : List (List Int) → List (Int × Nat)
  | [] => []
  | r :: T => rdA T ++ r.zipIdx
theorem rdA_rd : ∀ T : List (List Int), (rdA T).map (·.1) = rd T
  | [] => rfl
  | r :: T => by rw [rdA, rd, List.map_append, rdA_rd T, List.zipIdx_map_fst]
theorem rdA_up {d : Int} (hd : d = 0 ∨ d = 1) : ∀ {T : List (List Int)}, Tb d T → ∀ p ∈ rdA T, ∃ u, (hd0 T)[p.2]? = some u ∧ u ≤ p.1
  | [], _, p, hp => by cases hp
  | r :: T, ⟨h1, h2, h3, h4⟩, p, hp => by
    rcases List.mem_append.mp hp with e | e
    · obtain ⟨u, hu, hle⟩ := rdA_up hd h4 p e
      obtain ⟨u', hu', hle'⟩ := below_get h3 hu
      exact ⟨u', hu', by omega⟩
    · have := List.mk_mem_zipIdx_iff_getElem?.mp (show (p.1, p.2) ∈ r.zipIdx from e)
      exact ⟨p.1, this, Int.le_refl _⟩
theorem rdA_pw {d : Int} (hd : d = 0 ∨ d = 1) : ∀ {T : List (List Int)}, Tb d T → (rdA T).Pairwise fun p q => p.1 < q.1 + d → p.2 < q.2
  | [], _ => .nil
  | r :: T, ⟨h1, h2, h3, h4⟩ => by
    refine List.pairwise_append.mpr ⟨rdA_pw hd h4, ?_, ?_⟩
    · rw [List.pairwise_iff_getElem]
      intro i j hi hj hij _
      simpa using hij
    · intro p hp q hq hlt
      obtain ⟨u, hu, hle⟩ := rdA_up hd h4 p hp
      obtain ⟨u', hu', hle'⟩ := below_get h3 hu
      have hq' := List.mk_mem_zipIdx_iff_getElem?.mp (show (q.1, q.2) ∈ r.zipIdx from hq)
      rcases Nat.lt_or_ge p.2 q.2 with l | l
      · exact l
      · exfalso
        rcases Nat.eq_or_lt_of_le l with e | e
        · rw [e] at hq'; rw [hu'] at hq'; have := Option.some.inj hq'; omega
        · obtain ⟨a1, a2⟩ := List.getElem?_eq_some_iff.mp hq'
          obtain ⟨b1, b2⟩ := List.getElem?_eq_some_iff.mp hu'
          have := List.pairwise_iff_getElem.mp h1 q.2 p.2 a1 b1 e
          rw [a2, b2] at this
          omega
section
variable {c : Cx} {ρ : Loc} {H : Hp}
theorem pv_bto {e : Expr} {a b : Bool} (h : PV c ρ H e (.bool a)) (q : a = b) : PV c ρ H e (.bool b) := q ▸ h
end
section
variable {H₀ H : Hp} {R : Addr} {as : List Addr} {rows : List (List Int)}
/-- one table of the call's own, made since H₀ -/
structure TabIn (H₀ H : Hp) (R : Addr) (as : List Addr) (rows : List (List Int)) : Prop where
  r : H R = some (.list (refs as), true)
  ra : RowsAt H as rows
  nd : (R :: as).Nodup
  kp : Keeps H₀ H
  fr : ∀ a ∈ R :: as, H₀ a = none
theorem TabIn.Ra (t : TabIn H₀ H R as rows) : R ∉ as := (List.nodup_cons.mp t.nd).1
theorem TabIn.nda (t : TabIn H₀ H R as rows) : as.Nodup := (List.nodup_cons.mp t.nd).2
theorem TabIn.new {D : Addr} {o : AObj} (t : TabIn H₀ H R as rows) (hD : H D = none) : TabIn H₀ (H.set D o) R as rows :=
  ⟨keepH t.r hD, t.ra.keepNew hD, t.nd, t.kp.new hD, t.fr⟩
theorem TabIn.set {j : Nat} {a : Addr} {r' : List Int} (t : TabIn H₀ H R as rows) (ha : as[j]? = some a) : TabIn H₀ (H.set a (.list (zs r'))) R as (rows.set j r') := by
  have hm := List.mem_of_getElem? ha
  exact ⟨Hp.set_ne (fun e => t.Ra (e ▸ hm)) t.r, t.ra.set t.nda ha, t.nd, t.kp.set (t.fr a (.tail _ hm)), t.fr⟩
theorem TabIn.outside {D : Addr} (t : TabIn H₀ H R as rows) (hD : H D = none) : D ∉ R :: as := by
  intro h
  rcases List.mem_cons.mp h with e | h
  · rw [e, t.r] at hD; cases hD
  · obtain ⟨r, e⟩ := t.ra.mem h; rw [e] at hD; cases hD
theorem TabIn.push {D : Addr} {r : List Int} (t : TabIn H₀ H R as rows) (hD : H D = none) : TabIn H₀ ((H.set D (.list (zs r))).set R (.list (refs (as ++ [D])))) R (as ++ [D]) (rows ++ [r]) := by
  have hout := t.outside hD
  have t' := t.new (o := .list (zs r)) hD
  have hDR : D ≠ R := fun e => hout (e ▸ .head _)
  have hR' : R ∉ as ++ [D] := fun h => by
    rcases List.mem_append.mp h with h | h
    · exact t.Ra h
    · simp at h; exact hDR h.symm
  have hDa : D ∉ as := fun h => hout (.tail _ h)
  have nd' : (as ++ [D]).Nodup := (List.perm_append_singleton D as).nodup_iff.mpr (List.nodup_cons.mpr ⟨hDa, t.nda⟩)
  refine ⟨Hp.set_same, (t'.ra.snoc Hp.set_same).keep hR', List.nodup_cons.mpr ⟨hR', nd'⟩, (t.kp.new hD).set (t.fr R (.head _)), fun a ha => ?_⟩
  rcases List.mem_cons.mp ha with e | ha
  · rw [e]; exact t.fr R (.head _)
  · rcases List.mem_append.mp ha with ha | ha
    · exact t.fr a (.tail _ ha)
    · simp at ha; rw [ha]; exact t.kp.none hD
end
def SzR (d : Int) (N : Nat) (T : List (List Int)) : Prop := T.length ≤ N ∧ ∀ r ∈ T, r.length ≤ N ∧ NS d r
theorem SzR.mono {d : Int} {N N' : Nat} {T : List (List Int)} (h : SzR d N T) (hn : N ≤ N') : SzR d N' T := ⟨by have := h.1; omega, fun x hx => by obtain ⟨a, b⟩ := h.2 x hx; exact ⟨by omega, b⟩⟩
theorem tabIns_sz {d : Int} (hd : d = 0 ∨ d = 1) {N : Nat} : ∀ {T : List (List Int)} {x : Int}, SzR d N T → SzR d (N + 1) (tabIns d T x)
  | [], x, _ => ⟨by simp [tabIns], fun r hr => by simp [tabIns] at hr; subst hr; exact ⟨by simp, by simp [NS]⟩⟩
  | r :: T, x, h => by
    have h0 := h.2 r (.head _)
    have hT : SzR d N T := ⟨by have := h.1; simp at this; omega, fun x hx => h.2 x (.tail _ hx)⟩
    have hl := rowIns_len (d := d) r x
    have hl0 := h.1
    have hns := rowIns_ns hd (x := x) h0.2
    rcases e : (rowIns d r x).2 with _ | b
    · rw [tabIns_none e]
      rw [e] at hl
      refine ⟨by simp at hl0 ⊢; omega, fun s hs => ?_⟩
      rcases List.mem_cons.mp hs with q | q
      · subst q; simp at hl; exact ⟨by omega, hns⟩
      · obtain ⟨a, b⟩ := hT.2 s q; exact ⟨by omega, b⟩
    · rw [tabIns_some e]
      rw [e] at hl
      have hlen : ∀ (T : List (List Int)) (q : Int), (tabIns d T q).length ≤ T.length + 1 := by
        intro T
        induction T with
        | nil => intro q; simp [tabIns]
        | cons y T ih =>
          intro q
          rcases e : (rowIns d y q).2 with _ | b
          · rw [tabIns_none e]; simp
          · rw [tabIns_some e]; simp; exact ih b
      refine ⟨by simp at hl0 ⊢; have := hlen T b; omega, fun s hs => ?_⟩
      rcases List.mem_cons.mp hs with q | q
      · subst q; simp at hl; exact ⟨by omega, hns⟩
      · exact (tabIns_sz hd hT).2 s q
theorem tab_sz {d : Int} (hd : d = 0 ∨ d = 1) (w : List Int) : SzR d w.length (tab d w) := by
  have : ∀ (w : List Int) (T : List (List Int)) (N : Nat), SzR d N T → SzR d (N + w.length) (w.foldl (tabIns d) T) := by
    intro w
    induction w with
    | nil => intro T N h; exact h
    | cons x w ih => intro T N h; rw [List.foldl_cons]; have := ih _ _ (tabIns_sz hd (x := x) h); exact this.mono (by simp; omega)
  have := this w [] 0 ⟨Nat.le_refl _, by simp⟩
  exact this.mono (by omega)
section
variable {c : Cx} {ρ : Loc} {H : Hp}
end
def okc (d : Int) : Option Int → Int → Prop
  | none, _ => True
  | some u, x => u < x + d
def Two (d : Int) : List Int → Option Int → Option Int → Nat → Prop
  | [], _, _, n => n = 0
  | x :: w, p, q, n => Two d w p q n ∨ (okc d p x ∧ ∃ m, n = m + 1 ∧ Two d w (some x) q m) ∨ (okc d q x ∧ ∃ m, n = m + 1 ∧ Two d w p (some x) m)
section
variable {d : Int}
theorem Two.skip {x : Int} {w : List Int} {p q : Option Int} {n : Nat} (h : Two d w p q n) : Two d (x :: w) p q n := .inl h
theorem Two.one {x : Int} {w : List Int} {p q : Option Int} {n : Nat} (h : okc d p x) (h' : Two d w (some x) q n) : Two d (x :: w) p q (n + 1) := .inr (.inl ⟨h, n, rfl, h'⟩)
theorem Two.two {x : Int} {w : List Int} {p q : Option Int} {n : Nat} (h : okc d q x) (h' : Two d w p (some x) n) : Two d (x :: w) p q (n + 1) := .inr (.inr ⟨h, n, rfl, h'⟩)
theorem Two.swap : ∀ {w : List Int} {p q : Option Int} {n : Nat}, Two d w p q n → Two d w q p n
  | [], p, q, n, h => h
  | x :: w, p, q, n, h => by
    rcases h with h | ⟨h1, m, rfl, h⟩ | ⟨h1, m, rfl, h⟩
    · exact .skip h.swap
    · exact .two h1 h.swap
    · exact .one h1 h.swap
theorem Two.mono : ∀ {w : List Int} {p p' q : Option Int} {n : Nat}, (∀ x, okc d p x → okc d p' x) → Two d w p q n → Two d w p' q n
  | [], p, p', q, n, _, h => h
  | x :: w, p, p', q, n, hp, h => by
    rcases h with h | ⟨h1, m, rfl, h⟩ | ⟨h1, m, rfl, h⟩
    · exact .skip (h.mono hp)
    · exact .one (hp x h1) h
    · exact .two h1 (h.mono hp)
theorem two_ctx {w w' : List Int} (h : ∀ p q n, Two d w p q n → Two d w' p q n) : ∀ (u : List Int) {p q : Option Int} {n : Nat}, Two d (u ++ w) p q n → Two d (u ++ w') p q n
  | [], p, q, n, hh => h p q n hh
  | x :: u, p, q, n, hh => by
    rcases hh with hh | ⟨h1, m, rfl, hh⟩ | ⟨h1, m, rfl, hh⟩
    · exact .skip (two_ctx h u hh)
    · exact .one h1 (two_ctx h u hh)
    · exact .two h1 (two_ctx h u hh)
/-- neighbours exchanged, unless both are in one chain -/
theorem two_swap {a b : Int} {v : List Int} {p q : Option Int} {n : Nat} (h : Two d (a :: b :: v) p q n) :
    Two d (b :: a :: v) p q n ∨ (∃ m, n = m + 2 ∧ okc d p a ∧ a < b + d ∧ Two d v (some b) q m) ∨ (∃ m, n = m + 2 ∧ okc d q a ∧ a < b + d ∧ Two d v p (some b) m) := by
  rcases h with h | ⟨h1, m, rfl, h⟩ | ⟨h1, m, rfl, h⟩
  · rcases h with h | ⟨h2, m', rfl, h⟩ | ⟨h2, m', rfl, h⟩
    · exact .inl (.skip (.skip h))
    · exact .inl (.one h2 (.skip h))
    · exact .inl (.two h2 (.skip h))
  · rcases h with h | ⟨h2, m', rfl, h⟩ | ⟨h2, m', rfl, h⟩
    · exact .inl (.skip (.one h1 h))
    · exact .inr (.inl ⟨m', rfl, h1, h2, h⟩)
    · exact .inl (.two h2 (.one h1 h))
  · rcases h with h | ⟨h2, m', rfl, h⟩ | ⟨h2, m', rfl, h⟩
    · exact .inl (.skip (.two h1 h))
    · exact .inl (.one h2 (.two h1 h))
    · exact .inr (.inr ⟨m', rfl, h1, h2, h⟩)
theorem okc_up {p : Option Int} {x y : Int} (hxy : x ≤ y) (h : okc d p x) : okc d p y := by
  cases p with
  | none => trivial
  | some u => show u < y + d; have : u < x + d := h; omega
theorem two_k1 (hd : d = 0 ∨ d = 1) {x y z : Int} (h1 : x + d ≤ y) (h2 : y < z + d) {v : List Int} {p q : Option Int} {n : Nat} (h : Two d (y :: z :: x :: v) p q n) : Two d (y :: x :: z :: v) p q n := by
  have key : ∀ {p q : Option Int} {n : Nat}, Two d (z :: x :: v) p q n → Two d (x :: z :: v) p q n := by
    intro p q n h
    rcases two_swap h with h | ⟨m, _, _, hlt, _⟩ | ⟨m, _, _, hlt, _⟩
    · exact h
    · omega
    · omega
  rcases h with h | ⟨h3, m, rfl, h⟩ | ⟨h3, m, rfl, h⟩
  · exact .skip (key h)
  · exact .one h3 (key h)
  · exact .two h3 (key h)
theorem two_k1' (hd : d = 0 ∨ d = 1) {x y z : Int} (h1 : x + d ≤ y) (h2 : y < z + d) {v : List Int} {p q : Option Int} {n : Nat} (h : Two d (y :: x :: z :: v) p q n) : Two d (y :: z :: x :: v) p q n := by
  have hxy : x ≤ y := by omega
  rcases h with h | ⟨h3, m, rfl, h⟩ | ⟨h3, m, rfl, h⟩
  · rcases two_swap h with h | ⟨m, rfl, h4, hlt, h⟩ | ⟨m, rfl, h4, hlt, h⟩
    · exact .skip h
    · exact .one (okc_up hxy h4) (.one h2 (.skip h))
    · exact .two (okc_up hxy h4) (.two h2 (.skip h))
  · rcases two_swap h with h | ⟨m, rfl, h4, hlt, h⟩ | ⟨m, rfl, h4, hlt, h⟩
    · exact .one h3 h
    · have : y < x + d := h4; omega
    · refine .one h3 (.one h2 (.two h4 ?_))
      have h' := h.mono (p' := some x) fun t ht => by show x < t + d; have : y < t + d := ht; omega
      exact h'.swap
  · rcases two_swap h with h | ⟨m, rfl, h4, hlt, h⟩ | ⟨m, rfl, h4, hlt, h⟩
    · exact .two h3 h
    · refine .two h3 (.two h2 (.one h4 ?_))
      have h' := h.swap.mono (p' := some x) fun t ht => by show x < t + d; have : y < t + d := ht; omega
      exact h'
    · have : y < x + d := h4; omega
theorem two_k2 (hd : d = 0 ∨ d = 1) {x y z : Int} (h1 : x < y + d) (h2 : y + d ≤ z) {v : List Int} {p q : Option Int} {n : Nat} (h : Two d (x :: z :: y :: v) p q n) : Two d (z :: x :: y :: v) p q n := by
  have hyz : y ≤ z := by omega
  have aux : ∀ {p q : Option Int} {m : Nat}, okc d p x → Two d (y :: v) (some z) q m → Two d (z :: x :: y :: v) p q (m + 2) := by
    intro p q m hp h
    rcases h with h | ⟨h3, m, rfl, h⟩ | ⟨h3, m, rfl, h⟩
    · exact .skip (.one hp (.one h1 (h.mono fun t ht => by show y < t + d; have : z < t + d := ht; omega)))
    · have : z < y + d := h3; omega
    · exact .two (okc_up hyz h3) (.one hp (.one h1 h.swap))
  rcases two_swap h with h | ⟨m, rfl, h4, hlt, h⟩ | ⟨m, rfl, h4, hlt, h⟩
  · exact h
  · exact aux h4 h
  · exact (aux h4 h.swap).swap
theorem two_k2' (hd : d = 0 ∨ d = 1) {x y z : Int} (h1 : x < y + d) (h2 : y + d ≤ z) {v : List Int} {p q : Option Int} {n : Nat} (h : Two d (z :: x :: y :: v) p q n) : Two d (x :: z :: y :: v) p q n := by
  rcases two_swap h with h | ⟨m, rfl, h4, hlt, h⟩ | ⟨m, rfl, h4, hlt, h⟩
  · exact h
  · omega
  · omega
theorem two_kn (hd : d = 0 ∨ d = 1) {w w' : List Int} (h : Kn d w w') : ∀ p q n, Two d w p q n ↔ Two d w' p q n := by
  induction h with
  | refl w => exact fun p q n => Iff.rfl
  | symm _ ih => exact fun p q n => (ih p q n).symm
  | trans _ _ ih1 ih2 => exact fun p q n => (ih1 p q n).trans (ih2 p q n)
  | k1 u v x y z h1 h2 => exact fun p q n => ⟨two_ctx (fun _ _ _ h => two_k1 hd h1 h2 h) u, two_ctx (fun _ _ _ h => two_k1' hd h1 h2 h) u⟩
  | k2 u v x y z h1 h2 => exact fun p q n => ⟨two_ctx (fun _ _ _ h => two_k2 hd h1 h2 h) u, two_ctx (fun _ _ _ h => two_k2' hd h1 h2 h) u⟩
theorem two_bound {l2 : Nat} : ∀ (W : List (Int × Nat)) (p q : Option Int) (c1 c2 n : Nat), (W.Pairwise fun e f => e.1 < f.1 + d → e.2 < f.2) → (∀ e ∈ W, okc d p e.1 → c1 ≤ e.2) → (∀ e ∈ W, okc d q e.1 → c2 ≤ e.2) → Two d (W.map (·.1)) p q n →
    n ≤ (l2 - c1) + (l2 - c2) + W.countP fun e => decide (l2 ≤ e.2)
  | [], p, q, c1, c2, n, _, _, _, h => by have : n = 0 := h; omega
  | e :: W, p, q, c1, c2, n, hW, h1, h2, h => by
    obtain ⟨w1, w2⟩ := List.pairwise_cons.mp hW
    rw [List.countP_cons]
    rcases h with h | ⟨h3, m, rfl, h⟩ | ⟨h3, m, rfl, h⟩
    · have := two_bound (l2 := l2) W p q c1 c2 n w2 (fun f hf => h1 f (.tail _ hf)) (fun f hf => h2 f (.tail _ hf)) h
      omega
    · have := two_bound (l2 := l2) W (some e.1) q (e.2 + 1) c2 m w2 (fun f hf hl => w1 f hf hl) (fun f hf => h2 f (.tail _ hf)) h
      have hc := h1 e (.head _) h3
      by_cases hl : l2 ≤ e.2
      · rw [if_pos (decide_eq_true hl)]; omega
      · rw [if_neg (by simpa using hl)]; omega
    · have := two_bound (l2 := l2) W p (some e.1) c1 (e.2 + 1) m w2 (fun f hf => h1 f (.tail _ hf)) (fun f hf hl => w1 f hf hl) h
      have hc := h2 e (.head _) h3
      by_cases hl : l2 ≤ e.2
      · rw [if_pos (decide_eq_true hl)]; omega
      · rw [if_neg (by simpa using hl)]; omega
theorem Two.skips {v : List Int} {p q : Option Int} {n : Nat} (h : Two d v p q n) : ∀ u : List Int, Two d (u ++ v) p q n
  | [] => h
  | x :: u => .skip (h.skips u)
theorem two_take {v : List Int} {q : Option Int} {n : Nat} (h : ∀ p, Two d v p q n) : ∀ (r : List Int) {p : Option Int}, NS d r → (∀ x ∈ r, okc d p x) → Two d (r ++ v) p q (r.length + n)
  | [], p, _, _ => by simpa using h p
  | x :: r, p, hr, hp => by
    obtain ⟨h1, h2⟩ := List.pairwise_cons.mp hr
    have := Two.one (p := p) (hp x (.head _)) (two_take h r (p := some x) h2 fun y hy => h1 y hy)
    rw [show (x :: r).length + n = r.length + n + 1 by simp; omega]
    exact this
end
def two0 (T : List (List Int)) : Nat := (hd0 T).length + (hd0 T.tail).length
theorem rdA_far {d : Int} : ∀ {T : List (List Int)} {k : Nat}, Tb d T → (hd0 T).length ≤ k → (rdA T).countP (fun e => decide (k ≤ e.2)) = 0
  | [], k, _, _ => rfl
  | r :: T, k, h, hk => by
    have h1 := below_len h.2.2.1
    have h2 : r.length ≤ k := hk
    have ih := rdA_far (k := k) h.2.2.2 (by omega)
    show (rdA T ++ r.zipIdx).countP _ = 0
    rw [List.countP_append, ih, List.countP_eq_zero.mpr]
    intro e he
    have := List.mk_mem_zipIdx_iff_getElem?.mp (show (e.1, e.2) ∈ r.zipIdx from he)
    have := (List.getElem?_eq_some_iff.mp this).1
    simp; omega
theorem zip_far : ∀ (r : List Int) (i k : Nat), ((r.zipIdx i).countP fun e => decide (k ≤ e.2)) ≤ r.length - (k - i)
  | [], i, k => Nat.zero_le _
  | x :: r, i, k => by
    rw [List.zipIdx_cons, List.countP_cons]
    have ih := zip_far r (i + 1) k
    by_cases h : k ≤ i
    · rw [if_pos (decide_eq_true h)]; simp; omega
    · rw [if_neg (by simpa using h)]; simp; omega
theorem greene2 {d : Int} (hd : d = 0 ∨ d = 1) (w : List Int) : Two d w none none (two0 (tab d w)) ∧ ∀ n, Two d w none none n → n ≤ two0 (tab d w) := by
  have tb := tb_tab hd w
  have k := two_kn hd (kn_tab hd w)
  generalize tab d w = T at tb k
  constructor
  · rw [k]
    cases T with
    | nil => exact rfl
    | cons r T =>
      have one : ∀ p, Two d r p none r.length := fun p => by
        have := two_take (d := d) (v := []) (q := p) (n := 0) (fun _ => rfl) r (p := none) tb.1 (fun _ _ => trivial)
        simpa using this.swap
      cases T with
      | nil => simpa [rd, two0, hd0] using one none
      | cons s T =>
        have := two_take (d := d) (v := r) (q := none) (n := r.length) one s (p := none) tb.2.2.2.1 (fun _ _ => trivial)
        have h2 := this.skips (rd T)
        show Two d (rd T ++ s ++ r) none none (r.length + s.length)
        rw [List.append_assoc, Nat.add_comm]
        exact h2
  · intro n hn
    rw [k, ← rdA_rd] at hn
    have hb := two_bound (l2 := (hd0 T.tail).length) (rdA T) none none 0 0 n (rdA_pw hd tb) (fun _ _ _ => Nat.zero_le _) (fun _ _ _ => Nat.zero_le _) hn
    cases T with
    | nil => simp [rdA, hd0] at hb; simp [two0, hd0]; omega
    | cons r T =>
      show n ≤ r.length + (hd0 T).length
      have h1 := below_len tb.2.2.1
      have hf := rdA_far tb.2.2.2 (Nat.le_refl (hd0 T).length)
      have hz := zip_far r 0 (hd0 T).length
      have e : (rdA (r :: T)).countP (fun e => decide ((hd0 T).length ≤ e.2)) = (rdA T).countP (fun e => decide ((hd0 T).length ≤ e.2)) + r.zipIdx.countP fun e => decide ((hd0 T).length ≤ e.2) := by
        show (rdA T ++ r.zipIdx).countP _ = _
        rw [List.countP_append]
      have hb' : n ≤ ((hd0 T).length - 0) + ((hd0 T).length - 0) + (rdA (r :: T)).countP (fun e => decide ((hd0 T).length ≤ e.2)) := hb
      rw [e, hf] at hb'
      omega
def val (w : List Int) (a : Int) : Option Int := if a < 0 then none else w[a.toNat]?
def Cf (w : List Int) : Nat → Int → Int → Nat → Prop
  | 0, a, b, n => a = -1 ∧ b = -1 ∧ n = 0
  | k + 1, a, b, n => Cf w k a b n ∨ (a = k ∧ ∃ a' m x, n = m + 1 ∧ Cf w k a' b m ∧ w[k]? = some x ∧ okc 1 (val w a') x) ∨ (b = k ∧ ∃ b' m x, n = m + 1 ∧ Cf w k a b' m ∧ w[k]? = some x ∧ okc 1 (val w b') x)
theorem Cf.swap {w : List Int} : ∀ {k : Nat} {a b : Int} {n : Nat}, Cf w k a b n → Cf w k b a n
  | 0, a, b, n, ⟨h1, h2, h3⟩ => ⟨h2, h1, h3⟩
  | k + 1, a, b, n, h => by
    rcases h with h | ⟨e, a', m, x, h1, h2, h3⟩ | ⟨e, a', m, x, h1, h2, h3⟩
    · exact .inl h.swap
    · exact .inr (.inr ⟨e, a', m, x, h1, h2.swap, h3⟩)
    · exact .inr (.inl ⟨e, a', m, x, h1, h2.swap, h3⟩)
theorem Cf.lt {w : List Int} : ∀ {k : Nat} {a b : Int} {n : Nat}, Cf w k a b n → (-1 ≤ a ∧ a < k) ∧ (-1 ≤ b ∧ b < k)
  | 0, a, b, n, ⟨h1, h2, h3⟩ => by subst h1 h2; exact ⟨⟨by omega, by omega⟩, ⟨by omega, by omega⟩⟩
  | k + 1, a, b, n, h => by
    rcases h with h | ⟨e, a', m, x, h1, h2, h3⟩ | ⟨e, a', m, x, h1, h2, h3⟩
    · have := h.lt; push_cast; omega
    · have := h2.lt; push_cast; omega
    · have := h2.lt; push_cast; omega
theorem val_nat {w : List Int} {k : Nat} : val w (k : Int) = w[k]? := by
  unfold val; rw [if_neg (by omega)]; simp
theorem cf_step {w : List Int} {k : Nat} (hk : k < w.length) (N : Nat) : (∃ a b m r, Cf w k a b m ∧ Two 1 (w.drop k) (val w a) (val w b) r ∧ N = m + r) ↔ ∃ a b m r, Cf w (k + 1) a b m ∧ Two 1 (w.drop (k + 1)) (val w a) (val w b) r ∧ N = m + r := by
  have hd : w.drop k = w[k] :: w.drop (k + 1) := List.drop_eq_getElem_cons hk
  have hx : w[k]? = some w[k] := List.getElem?_eq_getElem hk
  constructor
  · rintro ⟨a, b, m, r, h1, h2, h3⟩
    rw [hd] at h2
    rcases h2 with h2 | ⟨h4, m', rfl, h2⟩ | ⟨h4, m', rfl, h2⟩
    · exact ⟨a, b, m, r, .inl h1, h2, h3⟩
    · exact ⟨k, b, m + 1, m', .inr (.inl ⟨rfl, a, m, _, rfl, h1, hx, h4⟩), by rw [val_nat, hx]; exact h2, by omega⟩
    · exact ⟨a, k, m + 1, m', .inr (.inr ⟨rfl, b, m, _, rfl, h1, hx, h4⟩), by rw [val_nat, hx]; exact h2, by omega⟩
  · rintro ⟨a, b, m, r, h1, h2, h3⟩
    rcases h1 with h1 | ⟨rfl, a', m', x, rfl, h4, h5, h6⟩ | ⟨rfl, b', m', x, rfl, h4, h5, h6⟩
    · exact ⟨a, b, m, r, h1, by rw [hd]; exact .skip h2, h3⟩
    · rw [hx] at h5; cases h5
      rw [val_nat, hx] at h2
      exact ⟨a', b, m', r + 1, h4, by rw [hd]; exact .one h6 h2, by omega⟩
    · rw [hx] at h5; cases h5
      rw [val_nat, hx] at h2
      exact ⟨a, b', m', r + 1, h4, by rw [hd]; exact .two h6 h2, by omega⟩
theorem cf_two {w : List Int} (N : Nat) : (∃ a b, Cf w w.length a b N) ↔ Two 1 w none none N := by
  have all : ∀ k, k ≤ w.length → (Two 1 w none none N ↔ ∃ a b m r, Cf w k a b m ∧ Two 1 (w.drop k) (val w a) (val w b) r ∧ N = m + r) := by
    intro k
    induction k with
    | zero =>
      intro _
      constructor
      · intro h; exact ⟨-1, -1, 0, N, ⟨rfl, rfl, rfl⟩, h, by omega⟩
      · rintro ⟨a, b, m, r, ⟨rfl, rfl, rfl⟩, h, e⟩
        have : r = N := by omega
        subst this; exact h
    | succ k ih =>
      intro hk
      rw [ih (by omega), cf_step (by omega)]
  rw [all w.length (Nat.le_refl _), List.drop_length]
  constructor
  · rintro ⟨a, b, h⟩; exact ⟨a, b, N, 0, h, rfl, rfl⟩
  · rintro ⟨a, b, m, r, h1, h2, h3⟩
    have : r = 0 := h2
    subst this
    rw [h3]; exact ⟨a, b, h1⟩
def hM : Nat := 18446744073709551616
def hP1 : Nat := 11400714785074694791
def hP2 : Nat := 14029467366897019727
def hP5 : Nat := 2870177450012600261
def hC : Nat := 2870177450013471924
def hQ : Nat := 839798700976720815
def hR : Nat := 614540362697595703
def rot (x : Nat) : Nat := (x * 2147483648) % hM + x / 8589934592
def st1 (u : Nat) : Nat := (rot ((hP5 + u * hP2) % hM) * hP1) % hM
def st2 (u v : Nat) : Nat := (st1 u + v * hP2) % hM
def hacc (u v : Nat) : Nat := ((rot (st2 u v) * hP1) % hM + hC) % hM
def alpha (u : Nat) : Nat := (st1 u * hQ) % hM
theorem rot_is (x : Nat) : rot x = (x % 8589934592) * 2147483648 + x / 8589934592 := by
  unfold rot
  rw [show hM = 8589934592 * 2147483648 from rfl, Nat.mul_mod_mul_right]
theorem rot_inj {x y : Nat} (hx : x < hM) (hy : y < hM) (h : rot x = rot y) : x = y := by
  rw [rot_is, rot_is] at h
  unfold hM at *
  have a1 := Nat.div_add_mod x 8589934592
  have a2 := Nat.div_add_mod y 8589934592
  have b1 : x / 8589934592 < 2147483648 := by omega
  have b2 : y / 8589934592 < 2147483648 := by omega
  generalize x / 8589934592 = p at *
  generalize y / 8589934592 = q at *
  generalize x % 8589934592 = r at *
  generalize y % 8589934592 = s at *
  omega
theorem rot_lt {x : Nat} (hx : x < hM) : rot x < hM := by
  rw [rot_is]
  unfold hM at *
  have b1 : x / 8589934592 < 2147483648 := by omega
  have b3 : x % 8589934592 < 8589934592 := Nat.mod_lt _ (by decide)
  omega
theorem inv_mul {p r x : Nat} (h : p * r % hM = 1) (hx : x < hM) : ((x * p) % hM * r) % hM = x := by
  rw [Nat.mod_mul_mod, Nat.mul_assoc, Nat.mul_mod, h, Nat.mul_one, Nat.mod_mod, Nat.mod_eq_of_lt hx]
theorem st2_lt (u v : Nat) : st2 u v < hM := Nat.mod_lt _ (by decide)
theorem hacc_lt (u v : Nat) : hacc u v < hM := Nat.mod_lt _ (by decide)
theorem st2_alpha (u v : Nat) : (st2 u v * hQ) % hM = (alpha u + v) % hM := by
  have e : (st1 u + v * hP2) * hQ = st1 u * hQ + v * (hP2 * hQ) := by rw [Nat.add_mul, Nat.mul_assoc]
  have e2 : v * (hP2 * hQ) % hM = v % hM := by rw [Nat.mul_mod, show hP2 * hQ % hM = 1 by decide +kernel, Nat.mul_one, Nat.mod_mod]
  unfold st2 alpha
  rw [Nat.mod_mul_mod, e, Nat.add_mod, e2, ← Nat.add_mod, Nat.mod_add_mod]
theorem hacc_of {u v : Nat} {k : Nat} (hk : k < hM) (h : (rot (st2 u v) * hP1) % hM = k) : rot (st2 u v) = k * hR % hM := by
  have := inv_mul (p := hP1) (r := hR) (by decide +kernel) (rot_lt (st2_lt u v))
  rw [h] at this; exact this.symm
theorem hacc_inj {u v u' v' : Nat} (h : hacc u v = hacc u' v') : (alpha u + v) % hM = (alpha u' + v') % hM := by
  have h1 : (rot (st2 u v) * hP1) % hM = (rot (st2 u' v') * hP1) % hM := by
    have a1 : (rot (st2 u v) * hP1) % hM < hM := Nat.mod_lt _ (by decide)
    have a2 : (rot (st2 u' v') * hP1) % hM < hM := Nat.mod_lt _ (by decide)
    unfold hacc at h
    generalize (rot (st2 u v) * hP1) % hM = x at *
    generalize (rot (st2 u' v') * hP1) % hM = y at *
    unfold hM hC at *
    omega
  have h2 : rot (st2 u v) = rot (st2 u' v') := by
    rw [hacc_of (Nat.mod_lt _ (by decide)) h1, ← hacc_of (u := u') (v := v') (Nat.mod_lt _ (by decide)) rfl]
  have h3 := rot_inj (st2_lt u v) (st2_lt u' v') h2
  rw [← st2_alpha, ← st2_alpha, h3]
def hK4 : Nat := 15746002411462551884
theorem hacc_top {u v : Nat} (h : hacc u v = hM - 1) : (alpha u + v) % hM = hK4 := by
  have h1 : (rot (st2 u v) * hP1) % hM = 15576566623696079691 := by
    have a1 : (rot (st2 u v) * hP1) % hM < hM := Nat.mod_lt _ (by decide)
    unfold hacc at h
    generalize (rot (st2 u v) * hP1) % hM = x at *
    unfold hM hC at *
    omega
  have h2 := hacc_of (by decide) h1
  have h3 : st2 u v = 9148689060682678900 := rot_inj (st2_lt u v) (by decide) (by rw [h2]; decide +kernel)
  rw [← st2_alpha, h3]; decide +kernel
def alphas : List Nat := [11728160660601732778, 7306349728055554319, 12418310136014612966, 10049765409666327412, 7996499203468434507, 5627954477120148953, 10739914885079207600, 8686648678881314695, 6318103952533029141, 4264837746335136236, 1896293019986850682, 7008253427945909329, 4639708701597623775, 2586442495399730870, 533176289201837965, 5329858177010503963, 3276591970812611058, 908047244464325504, 17301525111975984215, 3651462926075098597, 1598196719877205692, 17991674587388864403, 15623129861040578849, 2288346195290085880, 18366545542651351942, 16313279336453459037, 13944734610105173483, 609950944354680514, 17003428811866339225, 14634884085518053671, 12581617879320160766, 17378299767128826764, 15325033560930933859, 13271767354733040954, 10903222628384755400, 8849956422186862495, 13646638309995528493, 11593372103797635588, 9224827377449350034, 7171561171251457129, 12283521579210515776, 9914976852862230222, 7861710646664337317, 5493165920316051763, 10605126328275110410, 8236581601926824856, 6183315395728931951, 4130049189531039046, 8926731077339705044, 6873464871141812139, 4504920144793526585, 2451653938595633680, 7563614346554692327, 5195069620206406773, 3141803414008513868, 773258687660228314, 5885219095619286961, 3516674369271001407, 1463408163073108502, 17856886030584767213, 15488341304236481659, 2153557638485988690, 18231756985847254752, 16178490779649361847]
def laneN (i : Nat) : Nat := if i = 0 then hM - 2 else i - 1
def farB (x y : Nat) : Bool := decide (128 < (x + hM - y) % hM) && decide ((x + hM - y) % hM < hM - 128)
theorem alphas_are : alphas = (List.range 64).map fun i => alpha (laneN i) := by decide +kernel
theorem alphas_far : alphas.Pairwise fun x y => farB x y = true := by decide +kernel
theorem alphas_top : alphas.all fun x => farB x hK4 = true := by decide +kernel
theorem alpha_at {i : Nat} (hi : i < 64) : alphas[i]? = some (alpha (laneN i)) := by
  rw [alphas_are, List.getElem?_map, List.getElem?_range hi]; rfl
theorem alpha_lt (u : Nat) : alpha u < hM := Nat.mod_lt _ (by decide)
theorem far_no {x y v w : Nat} (hx : x < hM) (hy : y < hM) (hv : v = hM - 2 ∨ v ≤ 62) (hw : w = hM - 2 ∨ w ≤ 62) (hf : farB x y = true) : (x + v) % hM ≠ (y + w) % hM := by
  unfold farB at hf
  simp only [Bool.and_eq_true, decide_eq_true_eq] at hf
  unfold hM at *
  omega
theorem far_top {x v : Nat} (hx : x < hM) (hv : v = hM - 2 ∨ v ≤ 62) (hf : farB x hK4 = true) : (x + v) % hM ≠ hK4 := by
  unfold farB at hf
  simp only [Bool.and_eq_true, decide_eq_true_eq] at hf
  unfold hM hK4 at *
  omega
theorem lane_in {i : Nat} (hi : i < 64) : laneN i = hM - 2 ∨ laneN i ≤ 62 := by
  unfold laneN; split
  · exact .inl rfl
  · right; omega
theorem hacc_ne {i j : Nat} (hi : i < 64) (hj : j < 64) : hacc (laneN i) (laneN j) ≠ hM - 1 := fun h => by
  have h1 := hacc_top h
  have h2 : alpha (laneN i) ∈ alphas := List.mem_of_getElem? (alpha_at hi)
  have h3 := List.all_eq_true.mp alphas_top _ h2
  exact far_top (alpha_lt _) (lane_in hj) (by simpa using h3) h1
theorem hacc_pair {i j i' j' : Nat} (hi : i < 64) (hj : j < 64) (hi' : i' < 64) (hj' : j' < 64) (h : hacc (laneN i) (laneN j) = hacc (laneN i') (laneN j')) : i = i' ∧ j = j' := by
  have h1 := hacc_inj h
  have far : ∀ a b : Nat, a < 64 → b < 64 → a < b → farB (alpha (laneN a)) (alpha (laneN b)) = true := fun a b ha hb hab => by
    obtain ⟨x1, e1⟩ := List.getElem?_eq_some_iff.mp (alpha_at ha)
    obtain ⟨x2, e2⟩ := List.getElem?_eq_some_iff.mp (alpha_at hb)
    have := List.pairwise_iff_getElem.mp alphas_far a b x1 x2 hab
    rw [e1, e2] at this; exact this
  have e : i = i' := by
    rcases Nat.lt_trichotomy i i' with l | l | l
    · exact absurd h1 (far_no (alpha_lt _) (alpha_lt _) (lane_in hj) (lane_in hj') (far i i' hi hi' l))
    · exact l
    · exact absurd h1.symm (far_no (alpha_lt _) (alpha_lt _) (lane_in hj') (lane_in hj) (far i' i hi' hi l))
  subst e
  refine ⟨rfl, ?_⟩
  have a1 := alpha_lt (laneN i)
  have l1 := lane_in hj
  have l2 := lane_in hj'
  have : laneN j = laneN j' := by
    generalize alpha (laneN i) = x at *
    generalize laneN j = y at *
    generalize laneN j' = z at *
    unfold hM at *
    omega
  unfold laneN hM at this
  split at this <;> split at this <;> omega
section
variable {prog : Program} {w : World}
theorem lane_of : ∀ i : Nat, i < 64 → ((hashInt ((i : Int) - 1)) % ((2 ^ 64 : Nat) : Int)).toNat = laneN i := by decide +kernel
def hfin (x : Nat) : Int := if x == 2 ^ 64 - 1 then 1546275796 else if x < 2 ^ 63 then x else (x : Int) - (2 ^ 64 : Nat)
def hstep (acc : Nat) (h : Int) : Nat :=
  (((((acc + (h % ((2 ^ 64 : Nat) : Int)).toNat * 14029467366897019727) % 2 ^ 64) * 2 ^ 31) % 2 ^ 64 + ((acc + (h % ((2 ^ 64 : Nat) : Int)).toNat * 14029467366897019727) % 2 ^ 64) / 2 ^ 33) * 11400714785074694791) % 2 ^ 64
theorem tuple_hash_is (hs : List Int) : Builtin.Tuple.tupleHashOf hs = hfin ((hs.foldl hstep 2870177450012600261 + (hs.length ^^^ (2870177450012600261 ^^^ 3527539))) % 2 ^ 64) := by
  unfold Builtin.Tuple.tupleHashOf hfin hstep
  with_reducible rfl
theorem hstep_is (acc : Nat) (h : Int) : hstep acc h = (rot ((acc + (h % ((2 ^ 64 : Nat) : Int)).toNat * hP2) % hM) * hP1) % hM := by
  unfold hstep rot hM hP1 hP2
  have p64 : (2 : Nat) ^ 64 = 18446744073709551616 := by decide
  have p31 : (2 : Nat) ^ 31 = 2147483648 := by decide
  have p33 : (2 : Nat) ^ 33 = 8589934592 := by decide
  rw [p64, p31, p33]
theorem tuple_hash2 (h1 h2 : Int) : Builtin.Tuple.tupleHashOf [h1, h2] = hfin (hacc (h1 % ((2 ^ 64 : Nat) : Int)).toNat (h2 % ((2 ^ 64 : Nat) : Int)).toNat) := by
  rw [tuple_hash_is, List.foldl_cons, List.foldl_cons, List.foldl_nil, hstep_is, hstep_is]
  have hc : (([h1, h2] : List Int).length ^^^ (2870177450012600261 ^^^ 3527539) : Nat) = hC := by
    show ((2 : Nat) ^^^ (2870177450012600261 ^^^ 3527539)) = hC
    decide +kernel
  have p64 : (2 : Nat) ^ 64 = hM := by decide
  rw [hc]
  rw [p64]
  unfold hacc st2 st1 hP5
  with_reducible rfl
theorem pair_hash {i j : Nat} (hi : i < 64) (hj : j < 64) : tupleKeyHash (intKind prog w) [(i : Int) - 1, (j : Int) - 1] = if hacc (laneN i) (laneN j) < 9223372036854775808 then (hacc (laneN i) (laneN j) : Int) else (hacc (laneN i) (laneN j) : Int) - 18446744073709551616 := by
  have e : Builtin.Tuple.tupleHashOf [hashInt ((i : Int) - 1), hashInt ((j : Int) - 1)] = hfin (hacc (laneN i) (laneN j)) := by
    rw [tuple_hash2, lane_of i hi, lane_of j hj]
  have hne := hacc_ne hi hj
  have hlt := hacc_lt (laneN i) (laneN j)
  unfold tupleKeyHash
  show reduceHash (Builtin.Tuple.tupleHashOf [hashInt ((i : Int) - 1), hashInt ((j : Int) - 1)]) = _
  rw [e]
  have e2 : hfin (hacc (laneN i) (laneN j)) = if hacc (laneN i) (laneN j) < 2 ^ 63 then (hacc (laneN i) (laneN j) : Int) else (hacc (laneN i) (laneN j) : Int) - (2 ^ 64 : Nat) := by
    unfold hfin
    rw [if_neg]
    intro q
    exact hne (by rw [beq_iff_eq.mp q]; decide)
  rw [e2]
  generalize hacc (laneN i) (laneN j) = x at *
  unfold hM at *
  unfold reduceHash
  have p63 : (2 : Nat) ^ 63 = 9223372036854775808 := by decide
  have q63 : (2 : Int) ^ 63 = 9223372036854775808 := by decide
  have p64 : (2 : Nat) ^ 64 = 18446744073709551616 := by decide
  rw [p63, q63, p64]
  have e63 : ((18446744073709551616 : Nat) : Int) = 18446744073709551616 := rfl
  rw [e63]
  by_cases h : x < 9223372036854775808
  · simp only [if_pos h]
    rw [if_pos (by simp; omega), if_neg (by simp; try omega)]
  · simp only [if_neg h]
    rw [if_pos (by simp; omega), if_neg (by simp; try omega)]
/-- pairs of small numbers with the same hash are the same -/
theorem pair_hash_inj {a b a' b' : Int} (ha : -1 ≤ a ∧ a ≤ 62) (hb : -1 ≤ b ∧ b ≤ 62) (ha' : -1 ≤ a' ∧ a' ≤ 62) (hb' : -1 ≤ b' ∧ b' ≤ 62) (h : tupleKeyHash (intKind prog w) [a, b] = tupleKeyHash (intKind prog w) [a', b']) : a = a' ∧ b = b' := by
  have cv : ∀ z : Int, -1 ≤ z ∧ z ≤ 62 → ∃ n : Nat, n < 64 ∧ z = (n : Int) - 1 := fun z hz => ⟨(z + 1).toNat, by omega, by omega⟩
  obtain ⟨i, hi, rfl⟩ := cv a ha
  obtain ⟨j, hj, rfl⟩ := cv b hb
  obtain ⟨i', hi', rfl⟩ := cv a' ha'
  obtain ⟨j', hj', rfl⟩ := cv b' hb'
  rw [pair_hash hi hj, pair_hash hi' hj'] at h
  have l1 := hacc_lt (laneN i) (laneN j)
  have l2 := hacc_lt (laneN i') (laneN j')
  have e : hacc (laneN i) (laneN j) = hacc (laneN i') (laneN j') := by
    generalize hacc (laneN i) (laneN j) = x at *
    generalize hacc (laneN i') (laneN j') = y at *
    unfold hM at *
    split at h <;> split at h <;> omega
  obtain ⟨e1, e2⟩ := hacc_pair hi hj hi' hj' e
  subst e1 e2
  exact ⟨rfl, rfl⟩
end
abbrev DX := List (List Int × Addr × Value)
abbrev pk (c : Cx) : HeapKind c.prog c.w (List Int) := tupleKind (intKind c.prog c.w)
def dobj (es : Array DictEntry) (ep : Nat) : Obj := { cls := .type "dict", dict := none, data := .dict es ep, slots := #[] }
structure DictH (c : Cx) (H : Hp) (d : Addr) (xs : DX) : Prop where
  ob : ∃ es ep, H d = some (.raw (dobj es ep), true) ∧ es.toList = xs.map (entryOfKey (pk c))
  key : ∀ x ∈ xs, ∃ a b fl, x.1 = [a, b] ∧ H x.2.1 = some (.tup [.int a, .int b], fl)
  nd : (xs.map (·.1)).Nodup
  big : (d == sysModules) = false
section
variable {c : Cx} {ρ : Loc} {H : Hp} {d : Addr} {xs : DX}
theorem DictH.mono {H' : Hp} (h : DictH c H d xs) (hk : ∀ a x, H a = some x → H' a = some x) : DictH c H' d xs := by
  obtain ⟨es, ep, h1, h2⟩ := h.ob
  exact ⟨⟨es, ep, hk _ _ h1, h2⟩, fun x hx => let ⟨a, b, fl, e1, e2⟩ := h.key x hx; ⟨a, b, fl, e1, hk _ _ e2⟩, h.nd, h.big⟩
theorem DictH.new {D : Addr} {o : AObj} (h : DictH c H d xs) (hD : H D = none) : DictH c (H.set D o) d xs := h.mono fun _ _ e => keepH e hD
/-- another object of the call's, no tuple, is changed -/
theorem DictH.other {a : Addr} {o o' : AObj} {fl : Bool} (h : DictH c H d xs) (ha : H a = some (o, fl)) (hne : a ≠ d) (ht : ∀ ts, o ≠ .tup ts) : DictH c (H.set a o') d xs := by
  obtain ⟨es, ep, h1, h2⟩ := h.ob
  refine ⟨⟨es, ep, Hp.set_ne (Ne.symm hne) h1, h2⟩, fun x hx => ?_, h.nd, h.big⟩
  obtain ⟨k1, k2, f, e1, e2⟩ := h.key x hx
  refine ⟨k1, k2, f, e1, Hp.set_ne (fun q => ?_) e2⟩
  rw [q, ha] at e2; cases e2; exact ht _ rfl
theorem St.tupleKey {F : Hp} {s : Shared} {k : Addr} {a b : Int} {fl : Bool} (st : St c ρ H F s) (hk : H k = some (.tup [.int a, .int b], fl)) : IsTupleKey (intKind c.prog c.w) s.heap [a, b] k := by
  obtain ⟨ob, t, u, n, g, hc, hd⟩ := st.tup2 hk
  refine ⟨ob, _, n, g, hc, hd, .cons ?_ (.cons ?_ .nil)⟩
  · simp [intKind, Value.isInt]
  · simp [intKind, Value.isInt]
theorem DictH.at {F : Hp} {s : Shared} (h : DictH c H d xs) (st : St c ρ H F s) : s.heap.DictOfH (pk c) d xs := by
  obtain ⟨es, ep, h1, h2⟩ := h.ob
  obtain ⟨ob, g, r⟩ := st.get h1
  cases r
  refine ⟨_, es, ep, g, ⟨rfl, rfl, rfl⟩, rfl, h2, fun x hx => ?_, h.nd⟩
  obtain ⟨a, b, fl, e1, e2⟩ := h.key x hx
  rw [e1]; exact st.tupleKey e2
theorem room_ok (ok : Ok c) : (pk c).room c.A.in1 := tupleKind_room_in1 (by have := units_ok ok; omega)
/-- d[k] -/
theorem ov_getD {k : Addr} {a b : Int} {fl : Bool} {p : Addr × Value} {Φ : AV → Hp → Prop} (ok : Ok c) (h : DictH c H d xs) (hk : H k = some (.tup [.int a, .int b], fl)) (hp : atKey xs [a, b] = some p) (hΦ : Φ (abs p.2) H) : OV c ρ H (getItem (.ref d) (.ref k)) Φ :=
  Tri.of fun F s Q st kk => wpAny_getItem_heap (knd := pk c) (room_ok ok) (st.tupleKey hk) (h.at st) hp (kk _ _ ρ H (.mem s s.heap _) st.toks ⟨rfl, hΦ⟩)
theorem ev_getD {v i : Expr} {pos : Pos} {Φ : AV → Hp → Prop} (ok : Ok c) (hi : plainIdx i = true) (h : EV c ρ H v fun x H₁ => EV c ρ H₁ i fun y H₂ => ∃ d k xs a b fl p, x = .ref d ∧ y = .ref k ∧ DictH c H₂ d xs ∧ H₂ k = some (.tup [.int a, .int b], fl) ∧ atKey xs [a, b] = some p ∧ Φ (abs p.2) H₂) : EV c ρ H (.Subscript v i pos) Φ :=
  Tri.of fun F s Q st k => Subscript_ (h.use st fun x s₁ ρ₁ H₁ sm₁ st₁ ⟨e₁, h₁⟩ => by
    subst e₁
    exact h₁.use st₁ fun y s₂ ρ₂ H₂ sm₂ st₂ ⟨e₂, d, kk, xs, a, b, fl, p, hx, hy, hd, hk, hp, hΦ⟩ => by
      subst e₂
      have := abs_ref hx; subst this
      have := abs_ref hy; subst this
      exact tail_any (hd.at st₂).typeIs slot_dict_getitem.lookup ((ov_getD ok hd hk hp hΦ).use st₂ fun r s₃ ρ₃ H₃ sm₃ st₃ ⟨e₃, p₃⟩ => by subst e₃; exact k _ _ _ _ (sm₁.trans (sm₂.trans sm₃)) st₃ ⟨rfl, p₃⟩) (subscripted_plain hi _ _))
theorem exact_is {o : Obj} {es : Array DictEntry} {ep : Nat} (h : o.ExactDict) (hd : o.data = .dict es ep) : o = dobj es ep := by
  obtain ⟨c, d, dt, sl⟩ := o
  obtain ⟨h1, h2, h3⟩ := h
  simp only at h1 h2 h3 hd
  subst h1 h2 h3 hd; rfl
theorem storedH_mem {xs : DX} {k : List Int} {a : Addr} {v : Value} {x : List Int × Addr × Value} (h : x ∈ storedH xs k a v) : (x ∈ xs ∧ x.1 ≠ k) ∨ (x.1 = k ∧ x.2.2 = v ∧ (x.2.1 = a ∨ ∃ y ∈ xs, y.1 = k ∧ x.2.1 = y.2.1)) ∨ (x ∈ xs ∧ atKey xs k = none) := by
  unfold storedH at h
  split at h
  · obtain ⟨y, hy, rfl⟩ := List.mem_map.mp h
    unfold putAt
    by_cases e : y.1 = k
    · rw [if_pos e]; exact .inr (.inl ⟨e, rfl, .inr ⟨y, hy, e, rfl⟩⟩)
    · rw [if_neg e]; exact .inl ⟨hy, e⟩
  · rename_i q
    rcases List.mem_append.mp h with e | e
    · refine .inr (.inr ⟨e, ?_⟩)
      cases hh : atKey xs k with
      | none => rfl
      | some _ => rw [hh] at q; exact absurd rfl q
    · simp at e; subst e; exact .inr (.inl ⟨rfl, rfl, .inl rfl⟩)
/-- d[k] = v -/
theorem ov_setD {k : Addr} {a b : Int} {fl : Bool} {y : Value} {Φ : Loc → Hp → Prop} (ok : Ok c) (h : DictH c H d xs) (hk : H k = some (.tup [.int a, .int b], fl)) (hsz : xs.length ≤ 1000000)
    (hΦ : ∀ es ep, DictH c (H.set d (.raw (dobj es ep))) d (storedH xs [a, b] k y) → Φ ρ (H.set d (.raw (dobj es ep)))) : Tri c ρ H (setItem (.ref d) (.ref k) y) fun _ ρ' H' => Φ ρ' H' :=
  Tri.of fun F s Q st kk => by
    refine wpAny_setItem_heap (knd := pk c) (room_ok ok) (st.tupleKey hk) (h.at st) (fun h' hm hs => ?_) (by rw [sizeLine_is]; omega)
    obtain ⟨o, es, ep, ho, hex, hdd, he, his, hn⟩ := hm
    have := exact_is hex hdd; subst this
    obtain ⟨es₀, ep₀, hob, _⟩ := h.ob
    have st' := st.updRaw (tk := s.toks + (pk c).draws [a, b]) (o' := .raw (dobj es ep)) hob hs.extBut ho rfl
    refine kk _ _ _ _ (.set s h' _) st' (hΦ es ep ⟨⟨es, ep, Hp.set_same, he⟩, fun x hx => ?_, hn, h.big⟩)
    have keep : ∀ {z : Addr} {ts : List AV} {f : Bool}, H z = some (.tup ts, f) → (H.set d (.raw (dobj es ep))) z = some (.tup ts, f) := fun {z ts f} e => Hp.set_ne (fun q => by rw [q, hob] at e; cases e) e
    rcases storedH_mem hx with ⟨hx, _⟩ | ⟨e1, _, e2⟩ | ⟨hx, _⟩
    · obtain ⟨k1, k2, f, q1, q2⟩ := h.key x hx; exact ⟨k1, k2, f, q1, keep q2⟩
    · refine ⟨a, b, ?_⟩
      rcases e2 with e2 | ⟨z, hz, q1, q2⟩
      · exact ⟨fl, e1, by rw [e2]; exact keep hk⟩
      · obtain ⟨k1, k2, f, p1, p2⟩ := h.key z hz
        rw [q1] at p1
        have p3 : a = k1 ∧ b = k2 := by simpa using p1
        obtain ⟨rfl, rfl⟩ := p3
        exact ⟨f, e1, by rw [q2]; exact keep p2⟩
    · obtain ⟨k1, k2, f, q1, q2⟩ := h.key x hx; exact ⟨k1, k2, f, q1, keep q2⟩
theorem ex_setD {o i e : Expr} {pos pos' : Pos} {Φ : AF → Loc → Hp → Prop} (ok : Ok c)
    (h : EV c ρ H e fun v H₀ => EV c ρ H₀ o fun x H₁ => EV c ρ H₁ i fun z H₂ => ∃ d k xs a b fl, x = .ref d ∧ z = .ref k ∧ DictH c H₂ d xs ∧ H₂ k = some (.tup [.int a, .int b], fl) ∧ xs.length ≤ 1000000 ∧
      ∀ y es ep, abs y = v → DictH c (H₂.set d (.raw (dobj es ep))) d (storedH xs [a, b] k y) → Φ .next ρ (H₂.set d (.raw (dobj es ep))))
    (hs : swapsWith e (some (.Subscript o i pos')) pos.line c.env = pure false := by rfl) : EX c ρ H (.Assign [.Subscript o i pos'] e pos) Φ :=
  Tri.of fun F s Q st kk => wpAny_Assign_Subscript (h.use st fun v s₀ ρ₀ H₀ sm₀ st₀ ⟨e₀, h₀⟩ => by
    subst e₀
    exact h₀.use st₀ fun x s₁ ρ₁ H₁ sm₁ st₁ ⟨e₁, h₁⟩ => by
      subst e₁
      exact h₁.use st₁ fun z s₂ ρ₂ H₂ sm₂ st₂ ⟨e₂, d, k, xs, a, b, fl, hx, hz, hd, hk, hsz, p⟩ => by
        subst e₂
        have := abs_ref hx; subst this
        have := abs_ref hz; subst this
        exact (ov_setD (ρ := ρ₂) (Φ := fun ρ' H' => Φ .next ρ' H') ok hd hk hsz fun es ep hh => p v es ep rfl hh).use st₂ fun _ s₃ ρ₃ H₃ sm₃ st₃ p₃ => kk _ _ _ _ (sm₀.trans (sm₁.trans (sm₂.trans sm₃))) st₃ p₃) hs
/-- d.get(k, v) -/
theorem ev_getDflt {o e1 e2 : Expr} {apos pos : Pos} {pl : Sem Bool} {Φ : AV → Hp → Prop} (ok : Ok c)
    (h : EV c ρ H o fun x H₁ => ∃ d, x = .ref d ∧ (∃ xs, DictH c H₁ d xs) ∧ EV c ρ H₁ e1 fun z H₂ => EV c ρ H₂ e2 fun v H₃ => ∃ k xs a b fl, z = .ref k ∧ DictH c H₃ d xs ∧ H₃ k = some (.tup [.int a, .int b], fl) ∧ Φ (((atKey xs [a, b]).map fun p => abs p.2).getD v) H₃)
    (he : eval (.Call (.Attribute o "get" apos) [e1, e2] [] pos) c.env = (do
      let ov ← eval o c.env
      standAt apos.atName
      let (f, first) ← holding [ov] (getMethod ov "get" pl)
      callWith pos f first (backTo pos (starEach [e1, e2] c.env)) (backToKw pos (keywordEach [] c.env))) := by rfl) (hns : noStars [e1, e2] = true := by decide +kernel) : EV c ρ H (.Call (.Attribute o "get" apos) [e1, e2] [] pos) Φ :=
  Tri.of fun F s Q st k => methodCall_KW (pl := pl) (h.use st fun ov s₁ ρ₁ H₁ sm₁ st₁ ⟨e₁, d, hx, ⟨xs₀, hd₀⟩, p⟩ => by
    subst e₁
    have := abs_ref hx; subst this
    have hT := (hd₀.at st₁).typeIs
    refine getMethod_builtin hT PySem.F.plainAttrs_dict PySem.F.slot_dict_get PySem.F.type_dict_get (fun a e => by cases e; obtain ⟨o', _, _, g', hex, _⟩ := hd₀.at st₁; exact ⟨o', g', hex.2.1⟩) ?_
    show wpAny _ _ (callWith pos (.builtin "dict.get") [.ref d] (backTo pos (starEach [e1, e2] c.env)) []) _ _ s₁
    rw [back_plain hns]
    refine wpAny_dict_get2_heap (knd := pk c) (room_ok ok) hd₀.big ?_
    refine p.use st₁ fun z s₂ ρ₂ H₂ sm₂ st₂ ⟨e₂, p₂⟩ => ?_
    subst e₂
    refine p₂.use st₂ fun v s₃ ρ₃ H₃ sm₃ st₃ ⟨e₃, kk, xs, a, b, fl, hz, hd, hk, hΦ⟩ => ?_
    subst e₃
    have := abs_ref hz; subst this
    refine ⟨kk, [a, b], xs, rfl, st₃.tupleKey hk, hd.at st₃, k _ _ ρ₃ H₃ (sm₁.trans (sm₂.trans (sm₃.trans (.mem s₃ s₃.heap _)))) st₃.toks ⟨rfl, ?_⟩⟩
    cases hh : atKey xs [a, b] with
    | none => rw [hh] at hΦ; exact hΦ
    | some q => rw [hh] at hΦ; exact hΦ) he
end
section
variable {prog : Program} {w : World} {A : Around} {E : Value → Shared → Prop} {s : Shared} {d it : Addr} {es : Array DictEntry} {ep i : Nat}
theorem dobj_type (g : s.heap.get? d = some (dobj es ep)) : s.TypeIs (.ref d) "dict" := ⟨_, g, rfl⟩
theorem keys_start {Q : Value → Shared → Prop} (hd : (d == sysModules) = false) (g : s.heap.get? d = some (dobj es ep))
    (hQ : Q (.ref s.heap.objs.size) { s with heap := s.heap.push { cls := .type "dict_keyiterator", data := .fields #[.ref d, .int 0 0, .int es.size 0, .int ep 0] } }) :
    wpAny (model prog w) A (pyIter (.ref d)) Q E s := by
  have hT := dobj_type g
  refine wpAny_pyIter_slot hT F.slot_dict_iter (wpAny_call_entry F.slot_dict_iter hT F.entry_dict_iter ?_ (F.args_dict_iter_1 _))
  unfold Builtin.«dict.__iter__»
  refine wpAny_bind ?_
  unfold Builtin.Dict.dictSlotNone
  refine wpAny_bind (wpAny_notOrdered_dict hT ?_)
  show wpAny _ _ (pure (Value.ref d)) _ _ s
  refine wpAny_pure ?_
  show wpAny _ _ (Builtin.Dict.showsAll d >>= _) _ _ s
  unfold Builtin.Dict.showsAll
  rw [if_neg (by rw [hd]; exact Bool.false_ne_true)]
  refine wpAny_bind (wpAny_pure ?_)
  refine wpAny_bind (wpAny_dictEntries g rfl ?_)
  refine wpAny_bind (wpAny_dictEpoch g rfl ?_)
  refine wpAny_bind (wpAny_newObj_type (wpAny_pure ⟨_, rfl, "dict_keyiterator", _, ⟨_, Heap.get?_push_size _ rfl, rfl⟩, F.slot_dict_keyiterator_next.lookup, ?_⟩))
  simpa [rawInt] using hQ
theorem keys_next {e : DictEntry} {Q : Option Value → Shared → Prop} (hit : s.heap.IsKeyIter it d i es.size ep) (g : s.heap.get? d = some (dobj es ep)) (hx : es[i]? = some e)
    (hQ : ∀ h', h'.IsKeyIter it d (i + 1) es.size ep → Heap.SameBut it s.heap h' → Q (some e.key) { s with heap := h' }) : wpAny (model prog w) A (pyNext (.ref it)) Q E s := by
  obtain ⟨o, ho, hc, hd⟩ := id hit
  unfold pyNext
  refine wpAny_bind (wpAny_attempt (wpAny_callSpecial?_slot (name := Str.ofString "__next__") hit.typeIs F.slot_dict_keyiterator_next
    (wpAny_call_entry F.slot_dict_keyiterator_next hit.typeIs F.entry_dict_keyiterator_next ?_ (F.args_dict_keyiterator_next_1 _))))
  refine wpAny_bind (wpAny_pure ?_)
  refine wpAny_bind ?_
  refine wpAny_bind ?_
  first | refine wpAny_bind (wpAny_typeNameOfWhole_keyiter hit.typeIs (wpAny_pure ?_)) | refine wpAny_bind (wpAny_typeNameOf_keyiter hit.typeIs (wpAny_pure ?_))
  refine wpAny_bind (wpAny_fieldsOf ho hd ?_)
  have hown : Builtin.Dict_items.ownsTuple "dict_keyiterator" = false := by decide
  simp only [hown, Bool.false_eq_true, if_false]
  show wpAny _ _ (if (Value.ref d == Value.none) = true then _ else _) _ _ s
  rw [if_neg (show ¬ ((Value.ref d == Value.none) = true) from Bool.false_ne_true)]
  refine wpAny_bind (wpAny_pure ?_)
  refine wpAny_bind (wpAny_dictEntries g rfl ?_)
  rw [if_neg (by simp)]
  refine wpAny_bind (wpAny_pure ?_)
  refine wpAny_bind (wpAny_dictEpoch g rfl ?_)
  rw [if_neg (by simp)]
  refine wpAny_pure ?_
  obtain ⟨hlt, he⟩ := Array.getElem?_eq_some_iff.mp hx
  simp only [show ¬ ((i : Int) < 0) from by omega, if_false, Int.toNat_natCast, hx]
  refine wpAny_bind ?_
  first | refine wpAny_bind (wpAny_typeNameOfWhole_keyiter hit.typeIs (wpAny_pure ?_)) | refine wpAny_bind (wpAny_typeNameOf_keyiter hit.typeIs (wpAny_pure ?_))
  refine wpAny_bind (wpAny_isOneOf_keyiter hit.typeIs ?_)
  show wpAny _ _ (setField (.ref it) 1 (rawInt ((i : Int) + 1)) >>= _) _ _ s
  refine wpAny_bind (wpAny_setField ho hd (by simp) ?_)
  have hit' : (s.heap.update it (Obj.mapFields (·.setIfInBounds 1 (rawInt ((i : Int) + 1))))).IsKeyIter it d (i + 1) es.size ep :=
    ⟨_, Heap.get?_update_self _ ho (Obj.isFreed_of_fields (Obj.data_mapFields hd _)), (Obj.cls_mapFields ..).trans hc, by rw [Obj.data_mapFields hd]; simp [rawInt]⟩
  refine wpAny_bind (wpAny_holding ?_)
  refine wpAny_bind (wpAny_isOneOf_keyiter (s := { s with heap := s.heap.update it (Obj.mapFields (·.setIfInBounds 1 (rawInt ((i : Int) + 1)))) }) hit'.typeIs ?_)
  show wpAny _ _ (pure e.key) _ _ _
  exact wpAny_pure (wpAny_pure ⟨_, rfl, wpAny_pure (hQ _ hit' (Heap.SameBut.update ..))⟩)
theorem keys_end {Q : Option Value → Shared → Prop} (hh : A.handled = none) (hit : s.heap.IsKeyIter it d i es.size ep) (g : s.heap.get? d = some (dobj es ep)) (hx : es.size ≤ i)
    (hQ : ∀ h', Heap.ExtBut it s.heap h' → Q none { s with heap := h' }) : wpAny (model prog w) A (pyNext (.ref it)) Q E s := by
  obtain ⟨o, ho, hc, hd⟩ := id hit
  unfold pyNext
  refine wpAny_bind (wpAny_attempt (wpAny_callSpecial?_slot (name := Str.ofString "__next__") hit.typeIs F.slot_dict_keyiterator_next
    (wpAny_call_entry F.slot_dict_keyiterator_next hit.typeIs F.entry_dict_keyiterator_next ?_ (F.args_dict_keyiterator_next_1 _))))
  refine wpAny_bind (wpAny_pure ?_)
  refine wpAny_bind ?_
  refine wpAny_bind ?_
  first | refine wpAny_bind (wpAny_typeNameOfWhole_keyiter hit.typeIs (wpAny_pure ?_)) | refine wpAny_bind (wpAny_typeNameOf_keyiter hit.typeIs (wpAny_pure ?_))
  refine wpAny_bind (wpAny_fieldsOf ho hd ?_)
  have hown : Builtin.Dict_items.ownsTuple "dict_keyiterator" = false := by decide
  simp only [hown, Bool.false_eq_true, if_false]
  show wpAny _ _ (if (Value.ref d == Value.none) = true then _ else _) _ _ s
  rw [if_neg (show ¬ ((Value.ref d == Value.none) = true) from Bool.false_ne_true)]
  refine wpAny_bind (wpAny_pure ?_)
  refine wpAny_bind (wpAny_dictEntries g rfl ?_)
  rw [if_neg (by simp)]
  refine wpAny_bind (wpAny_pure ?_)
  refine wpAny_bind (wpAny_dictEpoch g rfl ?_)
  rw [if_neg (by simp)]
  refine wpAny_pure ?_
  simp only [show ¬ ((i : Int) < 0) from by omega, if_false, Int.toNat_natCast, Array.getElem?_eq_none hx]
  refine wpAny_bind ?_
  first | refine wpAny_bind (wpAny_typeNameOfWhole_keyiter hit.typeIs (wpAny_pure ?_)) | refine wpAny_bind (wpAny_typeNameOf_keyiter hit.typeIs (wpAny_pure ?_))
  show wpAny _ _ (setField (.ref it) 0 .none >>= _) _ _ s
  refine wpAny_bind (wpAny_setField ho hd (by simp) ?_)
  show wpAny _ _ (newExc (.type "StopIteration") [] >>= _) _ _ _
  refine wpAny_bind ?_
  simp only [newExc, newTuple]
  refine wpAny_bind (wpAny_newObj_type ?_ (by size_fits))
  refine wpAny_bind (m := firstArgMember _ _) (wpAny_of_eq (a := Value.none) (by first | rfl | (simp only [firstArgMember]; rfl)) ?_)
  refine wpAny_newObj_type ?_ (by size_fits)
  simp only [raiseNew]
  refine wpAny_bind (wpAny_handled ?_)
  rw [show A.in1.handled = none from hh]
  refine wpAny_bind (wpAny_pure (wpAny_throw ?_))
  refine wpAny_bind (wpAny_isInstance (T := "StopIteration") (b := true) ⟨_, Heap.get?_push_size _ rfl, rfl⟩ isSubtype_stop ?_)
  exact wpAny_pure (hQ _ (((Heap.SameBut.update ..).extBut.push _).push _))
/-- dict(d) where no two keys have the same hash -/
theorem dict_copy {o : Addr} {Q : Value → Shared → Prop} (hoS : (o == sysModules) = false) (g : s.heap.get? o = some (dobj es ep)) (hsz : es.size ≤ sizeLine) (h0 : es.isEmpty = false)
    (hkeys : ∀ e ∈ es.toList, ∃ a, e.key = .ref a ∧ s.TypeIs (.ref a) "tuple") (hdist : ∀ e ∈ es.toList, (es.filter (·.hash == e.hash)).size ≤ 1)
    (h : ∀ h' ep', h'.get? s.heap.objs.size = some (dobj es ep') → (∀ b x, s.heap.get? b = some x → h'.get? b = some x) → Q (.ref s.heap.objs.size) { s with heap := h' }) :
    wpAny (model prog w) A (call (.type "dict") [.ref o]) Q E s := by
  refine callType_codes (Q₁ := fun obj s₁ => obj = .ref s.heap.objs.size ∧ s₁ = { s with heap := s.heap.push { cls := .type "dict", data := .dict #[] } }) F.kt_called_dict (F.kt_typeCall_dict_1 _) F.entry_dict_init (kt_code_dict_new _ ⟨rfl, rfl⟩) ?_
  rintro obj s₁ ⟨rfl, rfl⟩
  have gD : (s.heap.push { cls := .type "dict", data := .dict #[] }).get? s.heap.objs.size = some (dobj #[] 0) := Heap.get?_push_size _ rfl
  have gO : (s.heap.push { cls := .type "dict", data := .dict #[] }).get? o = some (dobj es ep) := Heap.get?_push_of_some _ g
  have hT : ({ s with heap := s.heap.push { cls := .type "dict", data := .dict #[] } } : Shared).TypeIs (.ref s.heap.objs.size) "dict" := ⟨_, gD, rfl⟩
  have hT' : ({ s with heap := s.heap.push { cls := .type "dict", data := .dict #[] } } : Shared).TypeIs (.ref o) "dict" := ⟨_, gO, rfl⟩
  have hdo : s.heap.objs.size ≠ o := fun e => absurd (Heap.lt_size g) (by rw [e]; exact Nat.lt_irrefl _)
  refine ⟨hT, F.args_dict_init_2 _ _, ?_⟩
  unfold Builtin.«dict.__init__»
  refine wpAny_bind ?_
  unfold Builtin.Dict.selfAndRest
  refine wpAny_bind (wpAny_notOrdered_dict hT ?_)
  show wpAny _ _ (pure (s.heap.objs.size, [Value.ref o])) _ _ _
  refine wpAny_pure ?_
  show wpAny _ _ (Builtin.Dict.updateFrom "dict.__init__" s.heap.objs.size (.ref o) [] .none) _ _ _
  unfold Builtin.Dict.updateFrom
  refine wpAny_bind (wpAny_typeOf hT' ?_)
  rw [if_neg (by decide)]
  refine wpAny_bind ?_
  unfold Builtin.Dict.merge
  refine wpAny_bind ?_
  unfold Builtin.Dict.readDirectly
  refine wpAny_bind (wpAny_isInstance hT' isSubtype_dict_dict ?_)
  simp only [Bool.not_true, Bool.false_eq_true, if_false]
  refine wpAny_bind (wpAny_specialOf hT' F.slot_dict_iter.lookup (wpAny_pure ?_))
  simp only [beq_self_eq_true, if_true]
  refine wpAny_bind (wpAny_pure ?_)
  unfold Builtin.Dict.mergeDict
  rw [if_neg (by simpa using hdo)]
  unfold Builtin.Dict.showsAll
  rw [if_neg (by rw [hoS]; exact Bool.false_ne_true)]
  refine wpAny_bind (wpAny_pure ?_)
  refine wpAny_bind (wpAny_dictEntries gO rfl ?_)
  have hfew : (decide (es.size ≤ 8) && es.all fun e => (keyPart e.key).isSome) = false := by
    obtain ⟨l⟩ := es
    cases l with
    | nil => simp at h0
    | cons e l =>
      obtain ⟨a, ha, _⟩ := hkeys e (.head _)
      simp [ha, keyPart]
  simp only [hfew, Bool.not_false, if_true]
  refine wpAny_bind (wpAny_dictEntries gD rfl ?_)
  rw [if_pos (by rfl)]
  unfold Builtin.Dict.entriesForEmpty
  refine wpAny_bind (wpAny_bind (wpAny_dictEntries gO rfl ?_))
  refine wpAny_bind ?_
  rw [← Array.forIn_toList]
  refine wpAny_forIn_list _ (fun rest r s' => s' = { s with heap := s.heap.push { cls := .type "dict", data := .dict #[] } } ∧ ∀ e ∈ rest, e ∈ es.toList) _ ?_ ?_ _ _ ⟨rfl, fun e he => he⟩
  · rintro e rest r s' ⟨rfl, hr⟩
    obtain ⟨a, ha, hTa⟩ := hkeys e (hr e (.head _))
    have hTa' : ({ s with heap := s.heap.push { cls := .type "dict", data := .dict #[] } } : Shared).TypeIs (.ref a) "tuple" := by
      obtain ⟨oa, g1, g2⟩ := hTa
      exact ⟨oa, Heap.get?_push_of_some _ g1, g2⟩
    unfold Builtin.Dict.quietEq
    rw [ha]
    refine wpAny_bind (wpAny_bind (wpAny_specialOf hTa' F.slot_tuple_eq.lookup (wpAny_pure ?_)))
    have hne : ((some (Value.builtin "tuple.__eq__") == some (Value.builtin "object.__eq__")) : Bool) = false := by decide
    rw [hne]
    simp only [Bool.not_false, if_true]
    rw [if_neg (by have := hdist e (hr e (.head _)); omega)]
    exact wpAny_pure ⟨rfl, fun z hz => hr z (.tail _ hz)⟩
  · rintro r s' ⟨rfl, _⟩
    refine wpAny_pure ?_
    rw [h0]
    simp only [Bool.not_false, if_true]
    refine wpAny_bind (wpAny_updateDictKeysTo gD rfl ?_ (by show es.size ≤ _; omega))
    refine wpAny_pure ?_
    show wpAny _ _ (Builtin.Dict.addKeywords s.heap.objs.size [] >>= _) _ _ _
    refine wpAny_bind (wpAny_pure (wpAny_pure ⟨rfl, h _ _ (Heap.get?_update_self _ gD rfl) fun b x e => ?_⟩))
    have hb : b ≠ s.heap.objs.size := Nat.ne_of_lt (Heap.lt_size e)
    rw [Heap.get?_update_ne _ _ _ _ hb]
    exact Heap.get?_push_of_some _ e
end
section
variable {c : Cx} {ρ : Loc} {H : Hp}
theorem size_pos (ok : Ok c) : 0 < c.h₀.objs.size := by
  obtain ⟨p, loose, mean, mg, mb, T⟩ := ok.top
  have := T.g.lt
  exact Nat.lt_of_le_of_lt (Nat.zero_le _) this
theorem St.bigNew {F : Hp} {s : Shared} (ok : Ok c) (st : St c ρ H F s) : (s.heap.objs.size == sysModules) = false := by
  have h1 := size_pos ok
  have h2 := st.above
  have h3 := st.Llt
  rw [beq_eq_false_iff_ne]
  intro e
  have h4 : 1 < s.heap.objs.size := Nat.lt_of_le_of_lt (Nat.le_trans h1 h2) h3
  have e' : s.heap.objs.size = 1 := e
  rw [e'] at h4
  exact absurd h4 (by decide)
theorem one_key {p : List Int × Addr × Value → Bool} : ∀ {xs : DX}, (xs.map (·.1)).Nodup → (∀ x ∈ xs, ∀ y ∈ xs, p x = true → p y = true → x.1 = y.1) → (xs.filter p).length ≤ 1
  | [], _, _ => Nat.zero_le _
  | x :: xs, hn, h => by
    rw [List.map_cons, List.nodup_cons] at hn
    have ih := one_key (p := p) hn.2 fun a ha b hb => h a (.tail _ ha) b (.tail _ hb)
    rw [List.filter_cons]
    split
    · rename_i hp
      have : xs.filter p = [] := by
        rw [List.filter_eq_nil_iff]
        intro y hy hpy
        have := h x (.head _) y (.tail _ hy) hp hpy
        exact hn.1 (this ▸ List.mem_map_of_mem hy)
      rw [this]; simp
    · exact ih
/-- the keys are pairs of small numbers -/
def SmallKeys (xs : DX) : Prop := ∀ x ∈ xs, ∃ a b : Int, x.1 = [a, b] ∧ (-1 ≤ a ∧ a ≤ 62) ∧ (-1 ≤ b ∧ b ≤ 62)
theorem ev_dictCopy {x : Str} {np pos : Pos} {e : Expr} {Φ : AV → Hp → Prop} (ok : Ok c) (hl : c.env.kindOf x = some .globalImplicit) (hg : gl c.K x = some (.type "dict"))
    (he : EV c ρ H e fun v H' => ∃ d xs, v = .ref d ∧ DictH c H' d xs ∧ xs ≠ [] ∧ xs.length ≤ 1000000 ∧ SmallKeys xs ∧ ∀ D es ep, H' D = none → DictH c (H'.set D (.raw (dobj es ep))) D xs → Φ (.ref D) (H'.set D (.raw (dobj es ep))))
    (hns : noStars [e] = true := by decide +kernel) (hd : (x == ("__debug__" : Str)) = false := by decide +kernel) (hn : x ≠ ("__name__" : Str) := by decide +kernel) : EV c ρ H (.Call (.Name x np) [e] [] pos) Φ :=
  ev_call_ty ok hl hg (es_cons (he.mono fun v H' ⟨d, xs, hv, hD, hne, hlen, hsm, p⟩ => es_nil fun ys hys => by
    obtain ⟨y, rfl, hy⟩ := one_of hys
    rw [hv] at hy
    have := abs_ref hy; subst this
    exact Tri.of fun F s Q st kk => by
      obtain ⟨es, ep, hob, he⟩ := hD.ob
      obtain ⟨ob, g, r⟩ := st.get hob
      cases r
      have hsz : es.size = xs.length := size_of_entries he
      refine dict_copy hD.big g (by rw [hsz, sizeLine_is]; omega) ?_ ?_ ?_ fun h' ep' gD hk => ?_
      · cases hh : es.isEmpty with
        | false => rfl
        | true =>
          have : es.size = 0 := by simpa using hh
          rw [hsz] at this
          exact absurd (List.eq_nil_of_length_eq_zero this) hne
      · intro e hm
        rw [he] at hm
        obtain ⟨x, hx, rfl⟩ := List.mem_map.mp hm
        obtain ⟨a, b, fl, _, e2⟩ := hD.key x hx
        obtain ⟨ob, t, u, n, g2, hc, _⟩ := st.tup2 e2
        exact ⟨x.2.1, rfl, ob, g2, hc⟩
      · intro e hm
        rw [he] at hm
        obtain ⟨x, hx, rfl⟩ := List.mem_map.mp hm
        have e1 : (es.filter fun z => z.hash == (entryOfKey (pk c) x).hash).size = (xs.filter fun z => (pk c).hash z.1 == (pk c).hash x.1).length := by
          rw [← Array.length_toList, Array.toList_filter, he, List.filter_map, List.length_map]; rfl
        rw [e1]
        refine one_key hD.nd fun y hy z hz p1 p2 => ?_
        obtain ⟨a, b, k1, a1, b1⟩ := hsm y hy
        obtain ⟨a', b', k2, a2, b2⟩ := hsm z hz
        have q1 := beq_iff_eq.mp p1
        have q2 := beq_iff_eq.mp p2
        have q3 : tupleKeyHash (intKind c.prog c.w) y.1 = tupleKeyHash (intKind c.prog c.w) z.1 := q1.trans q2.symm
        rw [k1, k2] at q3 ⊢
        obtain ⟨rfl, rfl⟩ := pair_hash_inj a1 b1 a2 b2 q3
        rfl
      · have hnone := none_at_size s.heap
        have hfr := (st.fresh hnone).1
        have st' := st.alloc (tk := s.toks) (o := .raw (dobj es ep')) hnone hk gD rfl
        refine kk _ _ _ _ (.set s h' s.toks) st' ⟨rfl, p _ es ep' hfr ⟨⟨es, ep', Hp.set_same, he⟩, fun x hx => ?_, hD.nd, st.bigNew ok⟩⟩
        obtain ⟨a, b, fl, e1, e2⟩ := hD.key x hx
        exact ⟨a, b, fl, e1, keepH e2 hfr⟩)) hns hd hn
/-- {k: v}, the key a pair -/
theorem ev_dict1 {ke ve : Expr} {pos : Pos} {Φ : AV → Hp → Prop} (ok : Ok c)
    (h : EV c ρ H ke fun z H₁ => EV c ρ H₁ ve fun v H₂ => ∃ k a b fl, z = .ref k ∧ H₂ k = some (.tup [.int a, .int b], fl) ∧ ∀ D y es ep, H₂ D = none → abs y = v → DictH c (H₂.set D (.raw (dobj es ep))) D [([a, b], k, y)] → Φ (.ref D) (H₂.set D (.raw (dobj es ep)))) :
    EV c ρ H (.Dict [some ke] [ve] pos) Φ :=
  Tri.of fun F s Q st kk => by
    have hshape : (evalEachOpt [some ke] c.env).zip ((evalEach [ve] c.env).map fun v => do let x ← v; standAt pos; pure x) = [(eval ke c.env, (do let x ← eval ve c.env; standAt pos; pure x))].map fun p => (some p.1, p.2) := rfl
    rw [arm_eval_Dict, hshape, dictDisplay_pairs _ (by simp) (by simp)]
    refine wpAny_bind (wpAny_standAt (wpAny_bind ?_))
    unfold subDict
    refine wpAny_bind (wpAny_alloc ?_)
    refine wpAny_bind (wpAny_holding ?_)
    rw [if_pos (by simp)]
    have hnone := none_at_size s.heap
    have hbig := st.bigNew ok
    have st₀ := st.addF (I := s.heap.objs.size) (ob := dobj #[] 0) (tk := s.toks) hnone (fun b o e => Heap.get?_push_of_some _ e) (Heap.get?_push_size _ rfl)
    have hFD := (st.fresh hnone).2
    have sm₀ : Stp s H { s with heap := s.heap.push (dobj #[] 0), toks := s.toks } H := .mem s _ _
    generalize s.heap.objs.size = D at st₀ hbig hFD ⊢
    refine wpAny_bind ?_
    refine evalPairs_cons ?_
    refine h.use st₀ fun z s₁ ρ₁ H₁ sm₁ st₁ ⟨e₁, h₁⟩ => ?_
    subst e₁
    refine wpAny_bind (h₁.use st₁ fun v s₂ ρ₂ H₂ sm₂ st₂ ⟨e₂, k, a, b, fl, hz, hk, p⟩ => ?_)
    subst e₂
    have := abs_ref hz; subst this
    refine wpAny_bind (wpAny_standAt (wpAny_pure ?_))
    refine evalPairs_nil ?_
    refine wpAny_holding ?_
    have hnc : NoCell (.raw (dobj #[] 0)) := noCell_raw fun v => nofun
    have hHD : H₂ D = none := by
      cases e : H₂ D with
      | none => rfl
      | some q => have := st₂.dis D (by rw [e]; exact nofun); rw [Hp.set_same] at this; cases this
    have st₃ := st₂.toH hFD hnc
    have hd0 : DictH c (H₂.set D (.raw (dobj #[] 0))) D [] := ⟨⟨#[], 0, Hp.set_same, rfl⟩, fun x hx => (by cases hx), List.nodup_nil, hbig⟩
    have hk' := keepH (o := .raw (dobj #[] 0)) hk hHD
    rw [List.forIn_cons]
    refine wpAny_bind (wpAny_bind (wpAny_bind ?_))
    refine wpAny_dictSet_heap (knd := pk c) (show c.A.units < cLine by have := units_ok ok; omega) (st₃.tupleKey hk') (hd0.at st₃) (fun h' hm hs => ?_) (by simp)
    obtain ⟨o, es, ep, ho, hex, hdd, he, his, hn⟩ := hm
    have := exact_is hex hdd; subst this
    refine wpAny_pure ?_
    dsimp only
    rw [List.forIn_nil]
    refine wpAny_pure (wpAny_pure (wpAny_pure (wpAny_pure ?_)))
    have st₄ := st₃.updRaw (tk := s₂.toks + (pk c).draws [a, b]) (o' := .raw (dobj es ep)) Hp.set_same hs.extBut ho rfl
    rw [Hp.set_set] at st₄
    refine kk (.ref D) _ _ _ (sm₀.trans (sm₁.trans (sm₂.trans (.set s₂ h' _)))) st₄ ⟨rfl, p D v es ep hHD rfl ⟨⟨es, ep, Hp.set_same, he⟩, fun x hx => ?_, hn, hbig⟩⟩
    simp at hx; subst hx
    exact ⟨a, b, fl, rfl, keepH hk hHD⟩
def keyVal (xs : DX) (i : Nat) : AV := match xs[i]? with
  | some x => .ref x.2.1
  | none => .none
theorem itok_dict {d I : Addr} {xs : DX} {es : Array DictEntry} {ep : Nat} (hh : c.A.handled = none) (he : es.toList = xs.map (entryOfKey (pk c))) :
    ItOk c I xs.length (keyVal xs) (fun i ob => ob.cls = .type "dict_keyiterator" ∧ ob.data = .fields #[.ref d, .int (i : Nat) 0, .int es.size 0, .int ep 0]) (fun H => H d = some (.raw (dobj es ep), true)) where
  cls := fun i ob ⟨h, _⟩ => ⟨_, h, by decide⟩
  next := by
    rintro i ρ H F s ob Q E hi ⟨h1, h2⟩ hd st g hQ
    obtain ⟨o, gd, r⟩ := st.get hd
    cases r
    have hx : es[i]? = some (entryOfKey (pk c) xs[i]) := by rw [entry_at he, List.getElem?_eq_getElem hi]; rfl
    refine keys_next ⟨ob, g, h1, h2⟩ gd hx fun h' hit' hs' => ?_
    obtain ⟨ob', g', c', d'⟩ := hit'
    refine hQ _ h' s.toks ob' ?_ hs' g' ⟨c', d'⟩
    unfold keyVal
    rw [List.getElem?_eq_getElem hi]; rfl
  done := by
    rintro ρ H F s ob Q E ⟨h1, h2⟩ hd st g hQ
    obtain ⟨o, gd, r⟩ := st.get hd
    cases r
    exact keys_end hh ⟨ob, g, h1, h2⟩ gd (by rw [size_of_entries he]; exact Nat.le_refl _) fun h' hx => hQ h' s.toks hx
  self := by
    rintro i s ob Q E ⟨h1, h2⟩ g hQ
    exact wpAny_pyIter_keyiter ⟨ob, g, h1, h2⟩ hQ
theorem itr_dict {iter : Expr} {Ψ : Nat → (Nat → AV) → (Hp → Prop) → Hp → Prop} (ok : Ok c)
    (h : EV c ρ H iter fun v H' => ∃ d xs, v = .ref d ∧ DictH c H' d xs ∧ ∀ o, H' d = some (o, true) → Ψ xs.length (keyVal xs) (fun H => H d = some (o, true)) H') : ITR c ρ H iter Ψ := by
  intro F s Q E st k
  refine h.use st fun v s₁ ρ₁ H₁ sm₁ st₁ ⟨e₁, d, xs, hv, hD, p⟩ => ?_
  subst e₁
  have := abs_ref hv; subst this
  obtain ⟨es, ep, hob, he⟩ := hD.ob
  obtain ⟨ob, g, r⟩ := st₁.get hob
  cases r
  refine keys_start hD.big g ⟨_, rfl, ?_⟩
  have hnone := none_at_size s₁.heap
  have st₂ := st₁.addF (I := s₁.heap.objs.size) (ob := { cls := .type "dict_keyiterator", data := .fields #[.ref d, .int 0 0, .int es.size 0, .int ep 0] }) (tk := s₁.toks) hnone (fun b o e => Heap.get?_push_of_some _ e) (Heap.get?_push_size _ rfl)
  exact k _ _ _ _ _ _ _ _ (itok_dict (d := d) (ep := ep) ok.hand he) (by rintro i ob v ⟨_, h⟩; rw [h]; exact nofun) (st₁.fresh hnone).2 (sm₁.trans (.mem s₁ _ _)) st₂ ⟨rfl, rfl⟩ (p _ hob)
theorem itok_tup {l I : Addr} {xs : List AV} (hh : c.A.handled = none) : ItOk c I xs.length (fun i => xs.getD i .none) (fun i ob => ob.cls = .type "tuple_iterator" ∧ ob.data = .fields #[.ref l, .int (i : Nat) 0]) (fun H => ∃ fl, H l = some (.tup xs, fl)) where
  cls := fun i ob ⟨h, _⟩ => ⟨_, h, by decide⟩
  next := by
    rintro i ρ H F s ob Q E hi ⟨h1, h2⟩ ⟨fl, hl⟩ st g hQ
    obtain ⟨its, hits, he⟩ := st.isTup hl
    obtain ⟨y, hy, hya⟩ := item_of_map (k := i) (v := xs.getD i .none) he (by simp [List.getD, hi])
    refine wpAny_pyNext_tuple_item ⟨ob, g, h1, h2⟩ hits hy fun h' hit' hs' => ?_
    obtain ⟨ob', g', c', d'⟩ := hit'
    exact hQ y h' s.toks ob' hya hs' g' ⟨c', d'⟩
  done := by
    rintro ρ H F s ob Q E ⟨h1, h2⟩ ⟨fl, hl⟩ st g hQ
    obtain ⟨its, hits, he⟩ := st.isTup hl
    have hsz := size_of_map he
    exact wpAny_pyNext_tuple_end hh ⟨ob, g, h1, h2⟩ hits (by rw [← hsz]; simp) fun h' hx => hQ h' s.toks hx
  self := by
    rintro i s ob Q E ⟨h1, h2⟩ g hQ
    exact wpAny_pyIter_tupleiter ⟨ob, g, h1, h2⟩ hQ
theorem itr_tup {iter : Expr} {Ψ : Nat → (Nat → AV) → (Hp → Prop) → Hp → Prop} (hh : c.A.handled = none) (h : EV c ρ H iter fun v H' => ∃ l xs fl, v = .ref l ∧ H' l = some (.tup xs, fl) ∧ Ψ xs.length (fun i => xs.getD i .none) (fun H => ∃ fl, H l = some (.tup xs, fl)) H') :
    ITR c ρ H iter Ψ := by
  intro F s Q E st k
  refine h.use st fun v s₁ ρ₁ H₁ sm₁ st₁ ⟨e₁, l, xs, fl, hv, hl, p⟩ => ?_
  subst e₁
  have := abs_ref hv; subst this
  obtain ⟨its, hits, he⟩ := st₁.isTup hl
  refine wpAny_pyIter_tuple hits ⟨_, rfl, ?_⟩
  have hnone := none_at_size s₁.heap
  have st₂ := st₁.addF (I := s₁.heap.objs.size) (ob := { cls := .type "tuple_iterator", data := .fields #[.ref l, .int 0 0] }) (tk := s₁.toks) hnone (fun b o e => Heap.get?_push_of_some _ e) (Heap.get?_push_size _ rfl)
  exact k _ _ _ _ _ _ _ _ (itok_tup (l := l) (xs := xs) hh) (by rintro i ob v ⟨_, h⟩; rw [h]; exact nofun) (st₁.fresh hnone).2 (sm₁.trans (.mem s₁ _ _)) st₂ ⟨rfl, rfl⟩ p
end
theorem atKey_cons {x : List Int × Addr × Value} {xs : DX} {k : List Int} : atKey (x :: xs) k = if x.1 = k then some x.2 else atKey xs k := by
  unfold atKey
  rw [List.find?_cons]
  by_cases h : x.1 = k
  · simp [h]
  · simp [h]
theorem atKey_app {xs ys : DX} {k : List Int} (h : atKey xs k = none) : atKey (xs ++ ys) k = atKey ys k := by
  induction xs with
  | nil => rfl
  | cons x xs ih =>
    rw [atKey_cons] at h
    rw [List.cons_append, atKey_cons]
    by_cases e : x.1 = k
    · rw [if_pos e] at h; cases h
    · rw [if_neg e] at h; rw [if_neg e, ih h]
theorem atKey_app' {xs ys : DX} {k : List Int} {p : Addr × Value} (h : atKey xs k = some p) : atKey (xs ++ ys) k = some p := by
  induction xs with
  | nil => cases h
  | cons x xs ih =>
    rw [atKey_cons] at h
    rw [List.cons_append, atKey_cons]
    by_cases e : x.1 = k
    · rw [if_pos e] at h ⊢; exact h
    · rw [if_neg e] at h; rw [if_neg e, ih h]
theorem atKey_put {xs : DX} {k : List Int} {v : Value} : atKey (xs.map (putAt k v)) k = (atKey xs k).map fun p => (p.1, v) := by
  induction xs with
  | nil => rfl
  | cons x xs ih =>
    rw [List.map_cons, atKey_cons, atKey_cons]
    unfold putAt
    by_cases e : x.1 = k
    · simp [e]
    · simp [e]; exact ih
theorem atKey_put_ne {xs : DX} {k k' : List Int} {v : Value} (hne : k' ≠ k) : atKey (xs.map (putAt k v)) k' = atKey xs k' := by
  induction xs with
  | nil => rfl
  | cons x xs ih =>
    rw [List.map_cons, atKey_cons, atKey_cons, ih]
    unfold putAt
    by_cases e : x.1 = k
    · have : ¬ x.1 = k' := fun q => hne (q ▸ e)
      simp [e, Ne.symm hne]
    · simp [e]
theorem stored_same {xs : DX} {k : List Int} {a : Addr} {v : Value} : ∃ a', atKey (storedH xs k a v) k = some (a', v) := by
  cases h : atKey xs k with
  | none => rw [storedH_new h, atKey_app h, atKey_cons, if_pos rfl]; exact ⟨a, rfl⟩
  | some p => rw [storedH_old h, atKey_put, h]; exact ⟨p.1, rfl⟩
theorem stored_ne {xs : DX} {k k' : List Int} {a : Addr} {v : Value} (hne : k' ≠ k) : atKey (storedH xs k a v) k' = atKey xs k' := by
  cases h : atKey xs k with
  | none =>
    rw [storedH_new h]
    cases h' : atKey xs k' with
    | none => rw [atKey_app h', atKey_cons, if_neg (Ne.symm hne)]; rfl
    | some p => exact atKey_app' h'
  | some p => rw [storedH_old h, atKey_put_ne hne]
theorem atKey_mem {xs : DX} {k : List Int} {p : Addr × Value} (h : atKey xs k = some p) : (k, p) ∈ xs := by
  induction xs with
  | nil => cases h
  | cons x xs ih =>
    rw [atKey_cons] at h
    by_cases e : x.1 = k
    · rw [if_pos e] at h; cases h; rw [← e]; exact .head _
    · rw [if_neg e] at h; exact .tail _ (ih h)
/-- (a, b) stands with n -/
def Mp (xs : DX) (a b : Int) (n : Nat) : Prop := ∃ p, atKey xs [a, b] = some p ∧ abs p.2 = .int n
def Sound (w : List Int) (k : Nat) (xs : DX) : Prop := ∀ x ∈ xs, ∃ (a b : Int) (n : Nat), x.1 = [a, b] ∧ abs x.2.2 = .int n ∧ a ≤ b ∧ Cf w k a b n
structure Best (w : List Int) (k : Nat) (xs : DX) : Prop where
  snd : Sound w k xs
  cmp : ∀ a b n, Cf w k a b n → ∃ m, Mp xs (min a b) (max a b) m ∧ n ≤ m
theorem cf_none {w : List Int} : ∀ k, Cf w k (-1) (-1) 0
  | 0 => ⟨rfl, rfl, rfl⟩
  | k + 1 => .inl (cf_none k)
theorem Sound.small {w : List Int} {k : Nat} {xs : DX} (h : Sound w k xs) (hk : k ≤ 63) : SmallKeys xs := fun x hx => by
  obtain ⟨a, b, n, e, _, _, hc⟩ := h x hx
  have := hc.lt
  exact ⟨a, b, e, by omega, by omega⟩
theorem small_len {xs : DX} (h : SmallKeys xs) (hn : (xs.map (·.1)).Nodup) : xs.length ≤ 4096 := by
  have key : ∀ x ∈ xs, ∃ c : Nat, c < 4096 ∧ ((x.1.getD 0 0 + 1) * 64 + (x.1.getD 1 0 + 1)).toNat = c := fun x hx => by
    obtain ⟨a, b, e, ha, hb⟩ := h x hx
    refine ⟨_, ?_, rfl⟩
    rw [e]; simp; omega
  have := nodup_le (l := xs.map fun x => ((x.1.getD 0 0 + 1) * 64 + (x.1.getD 1 0 + 1)).toNat) (m := List.range 4096) ?_ ?_
  · simpa using this
  · rw [List.nodup_iff_pairwise_ne, List.pairwise_map]
    rw [List.nodup_iff_pairwise_ne, List.pairwise_map] at hn
    refine hn.imp_of_mem ?_
    intro x y hx hy hne e
    obtain ⟨a, b, e1, a1, b1⟩ := h x hx
    obtain ⟨a', b', e2, a2, b2⟩ := h y hy
    apply hne
    rw [e1, e2] at e ⊢
    simp at e
    have : a = a' ∧ b = b' := by omega
    rw [this.1, this.2]
  · intro c hc
    obtain ⟨x, hx, rfl⟩ := List.mem_map.mp hc
    obtain ⟨c, hc, e⟩ := key x hx
    rw [List.mem_range, e]; exact hc
theorem Best.ne {w : List Int} {k : Nat} {xs : DX} (h : Best w k xs) : xs ≠ [] := by
  rintro rfl
  obtain ⟨m, ⟨p, hp, _⟩, _⟩ := h.cmp _ _ _ (cf_none k)
  cases hp
theorem best_start {w : List Int} {a : Addr} {y : Value} (hy : abs y = .int 0) : Best w 0 [([-1, -1], a, y)] := by
  refine ⟨fun x hx => ?_, fun a' b n h => ?_⟩
  · simp at hx; subst hx
    exact ⟨-1, -1, 0, rfl, hy, by omega, rfl, rfl, rfl⟩
  · obtain ⟨rfl, rfl, rfl⟩ := h
    refine ⟨0, ⟨(a, y), ?_, hy⟩, Nat.le_refl _⟩
    rw [atKey_cons, if_pos (show ([-1, -1] : List Int) = [min (-1) (-1), max (-1) (-1)] by decide)]
/-- the last one may be followed by x -/
def okv (w : List Int) (x a : Int) : Prop := okc 1 (val w a) x
structure Further (w : List Int) (k : Nat) (x : Int) (xs : DX) (j : Nat) (ys : DX) : Prop where
  snd : Sound w (k + 1) ys
  old : ∀ a b n, Mp xs a b n → ∃ m, Mp ys a b m ∧ n ≤ m
  don : ∀ (i : Nat) (a b : Int) (p : Addr × Value) (n : Nat), i < j → xs[i]? = some ([a, b], p) → abs p.2 = .int n → (okv w x a → ∃ m, Mp ys b k m ∧ n + 1 ≤ m) ∧ (okv w x b → ∃ m, Mp ys a k m ∧ n + 1 ≤ m)
theorem further_start {w : List Int} {k : Nat} {x : Int} {xs : DX} (h : Best w k xs) : Further w k x xs 0 xs :=
  ⟨fun y hy => let ⟨a, b, n, e1, e2, e3, e4⟩ := h.snd y hy; ⟨a, b, n, e1, e2, e3, .inl e4⟩, fun a b n hm => ⟨n, hm, Nat.le_refl _⟩, fun i _ _ _ _ hi => by omega⟩
theorem further_end {w : List Int} {k : Nat} {x : Int} {xs ys : DX} (hb : Best w k xs) (hx : w[k]? = some x) (h : Further w k x xs xs.length ys) : Best w (k + 1) ys := by
  refine ⟨h.snd, ?_⟩
  have ext : ∀ (a' b : Int) (m : Nat), Cf w k a' b m → okv w x a' → ∃ m', Mp ys b k m' ∧ m + 1 ≤ m' := by
    intro a' b m hc hok
    obtain ⟨m1, ⟨p, hp, hv⟩, hle⟩ := hb.cmp _ _ _ hc
    obtain ⟨i, hi⟩ := List.getElem?_of_mem (atKey_mem hp)
    have hlt := (List.getElem?_eq_some_iff.mp hi).1
    obtain ⟨d1, d2⟩ := h.don i _ _ p m1 hlt hi hv
    rcases Int.le_total a' b with l | l
    · rw [Int.min_eq_left l, Int.max_eq_right l] at d1
      obtain ⟨m2, h1, h2⟩ := d1 hok
      exact ⟨m2, h1, by omega⟩
    · rw [Int.min_eq_right l, Int.max_eq_left l] at d2
      obtain ⟨m2, h1, h2⟩ := d2 hok
      exact ⟨m2, h1, by omega⟩
  intro a b n hc
  rcases hc with hc | ⟨rfl, a', m, x', rfl, hc, hx', hok⟩ | ⟨rfl, b', m, x', rfl, hc, hx', hok⟩
  · obtain ⟨m, h1, h2⟩ := hb.cmp a b n hc
    obtain ⟨m', h3, h4⟩ := h.old _ _ _ h1
    exact ⟨m', h3, by omega⟩
  · rw [hx] at hx'; cases hx'
    obtain ⟨m', h1, h2⟩ := ext a' b m hc hok
    have := hc.lt
    rw [Int.min_eq_right (by omega), Int.max_eq_left (by omega)]
    exact ⟨m', h1, h2⟩
  · rw [hx] at hx'; cases hx'
    obtain ⟨m', h1, h2⟩ := ext b' a m hc.swap hok
    have := hc.lt
    rw [Int.min_eq_left (by omega), Int.max_eq_right (by omega)]
    exact ⟨m', h1, h2⟩
/-- one entry raised -/
theorem stored_sound {w : List Int} {k : Nat} {ys : DX} {a b : Int} {n : Nat} {ad : Addr} {y : Value} (h : Sound w k ys) (hab : a ≤ b) (hc : Cf w k a b n) (hy : abs y = .int n) : Sound w k (storedH ys [a, b] ad y) := fun x hx => by
  rcases storedH_mem hx with ⟨hx, _⟩ | ⟨e1, e2, _⟩ | ⟨hx, _⟩
  · exact h x hx
  · exact ⟨a, b, n, e1, by rw [e2]; exact hy, hab, hc⟩
  · exact h x hx
theorem stored_mono {ys : DX} {a b : Int} {n : Nat} {ad : Addr} {y : Value} (hy : abs y = .int n) (hlt : ∀ m, Mp ys a b m → m ≤ n) {a' b' : Int} {m : Nat} (h : Mp ys a' b' m) : ∃ m', Mp (storedH ys [a, b] ad y) a' b' m' ∧ m ≤ m' := by
  by_cases e : [a', b'] = [a, b]
  · have e' : a' = a ∧ b' = b := by simpa using e
    obtain ⟨rfl, rfl⟩ := e'
    obtain ⟨ad', h1⟩ := stored_same (xs := ys) (k := [a', b']) (a := ad) (v := y)
    exact ⟨n, ⟨_, h1, hy⟩, hlt m h⟩
  · obtain ⟨p, h1, h2⟩ := h
    exact ⟨m, ⟨p, by rw [stored_ne e]; exact h1, h2⟩, Nat.le_refl _⟩
theorem stored_has {ys : DX} {a b : Int} {n : Nat} {ad : Addr} {y : Value} (hy : abs y = .int n) : Mp (storedH ys [a, b] ad y) a b n := by
  obtain ⟨ad', h1⟩ := stored_same (xs := ys) (k := [a, b]) (a := ad) (v := y)
  exact ⟨_, h1, hy⟩

local macro_rules | `(tactic| walk_at "loc") => `(tactic| first | with_reducible assumption | with_reducible exact Loc.set_same | exact freeLoc_get (by decide +kernel) (by walk_at "loc") | ((with_reducible refine' Loc.set_ne ?k1 ?_); (case k1 => decide); walk_at "loc"))
local macro_rules | `(tactic| walk_at "kd") => `(tactic| first | exact kd_of (by with_reducible assumption) (by decide +kernel) | exact comp_kd (by decide +kernel) (by decide))
local macro_rules | `(tactic| walk_at "hne") => `(tactic| first | with_reducible assumption | (apply Ne.symm; with_reducible assumption))
local macro_rules | `(tactic| walk_at "hp") => `(tactic| first | with_reducible assumption | with_reducible exact Hp.set_same | ((with_reducible refine' Hp.set_ne ?k1 ?_); (case k1 => walk_at "hne"); walk_at "hp"))
local macro_rules | `(tactic| walk_at "st") => `(tactic| first | exact Or.inl (by walk_at "kd") | exact Or.inr ⟨by with_reducible assumption, by walk_at "kd"⟩)
local macro_rules | `(tactic| walk_at "side") => `(tactic| first | with_reducible assumption | omega | decide)
local macro_rules | `(tactic| walk_at "lens") => `(tactic| first | (simp only [zs_len, refs_len, List.length_append, List.length_cons, List.length_nil]; omega) | omega)
local macro_rules | `(tactic| walk_at "pv") => `(tactic| first
  | with_reducible exact pv_int | with_reducible exact pv_none | with_reducible exact pv_bool
  | ((with_reducible refine' pv_local ?k1 ?k2 ?k3); (case k1 => assumption); (case k2 => walk_at "kd"); (case k3 => walk_at "loc"))
  | ((with_reducible refine' pv_cell ?k1 ?k2 ?k3); (case k1 => assumption); (case k2 => walk_at "kd"); (case k3 => walk_at "loc"))
  | ((with_reducible refine' pv_free ?k1 ?k2 ?k3); (case k1 => assumption); (case k2 => walk_at "kd"); (case k3 => walk_at "loc"))
  | ((with_reducible refine' pv_around ?k1 ?k2 ?k3); (case k1 => assumption); (case k2 => decide +kernel); (case k3 => walk_at "loc"))
  | ((with_reducible refine' pv_add ?k1 ?k2); (case k1 => walk_at "pv"); (case k2 => walk_at "pv"))
  | ((with_reducible refine' pv_sub ?k1 ?k2); (case k1 => walk_at "pv"); (case k2 => walk_at "pv"))
  | ((with_reducible refine' pv_neg ?k1); (case k1 => walk_at "pv"))
  | ((with_reducible refine' pv_lt ?k1 ?k2); (case k1 => walk_at "pv"); (case k2 => walk_at "pv"))
  | ((with_reducible refine' pv_le ?k1 ?k2); (case k1 => walk_at "pv"); (case k2 => walk_at "pv"))
  | ((with_reducible refine' pv_gt ?k1 ?k2); (case k1 => walk_at "pv"); (case k2 => walk_at "pv"))
  | ((with_reducible refine' pv_ge ?k1 ?k2); (case k1 => walk_at "pv"); (case k2 => walk_at "pv"))
  | ((with_reducible refine' pv_eq ?k1 ?k2); (case k1 => walk_at "pv"); (case k2 => walk_at "pv"))
  | ((with_reducible refine' pv_ne ?k1 ?k2); (case k1 => walk_at "pv"); (case k2 => walk_at "pv"))
  | ((with_reducible refine' pv_fdiv ?k1 ?k2 ?k3 ?k4); (case k1 => walk_at "pv"); (case k2 => walk_at "pv"); (case k3 => walk_at "side"); (case k4 => walk_at "side"))
  | ((with_reducible refine' pv_mod ?k1 ?k2 ?k3); (case k1 => walk_at "pv"); (case k2 => walk_at "pv"); (case k3 => walk_at "side"))
  | ((with_reducible refine' pv_len ?k1 ?k2 ?k3 ?k4 ?k5 ?k6); (case k1 => assumption); (case k2 => walk_at "kd"); (case k3 => with_reducible assumption); (case k4 => walk_at "pv"); (case k5 => walk_at "hp"); (case k6 => walk_at "lens"))
  | ((with_reducible refine' pv_max2 ?k1 ?k2 ?k3 ?k4 ?k5); (case k1 => assumption); (case k2 => walk_at "kd"); (case k3 => with_reducible assumption); (case k4 => walk_at "pv"); (case k5 => walk_at "pv"))
  | ((with_reducible refine' pv_min2 ?k1 ?k2 ?k3 ?k4 ?k5); (case k1 => assumption); (case k2 => walk_at "kd"); (case k3 => with_reducible assumption); (case k4 => walk_at "pv"); (case k5 => walk_at "pv"))
  | ((with_reducible refine' pv_abs ?k1 ?k2 ?k3 ?k4); (case k1 => assumption); (case k2 => walk_at "kd"); (case k3 => with_reducible assumption); (case k4 => walk_at "pv")))
abbrev P03 := PySem.Challenge.pw_da0001_03

theorem bisR_body {K : Frag} (g1 : gl K "len" = some (.builtin "len")) : BisBody P03 1 (fun x y => decide (y ≤ x)) K := by
  intro c ρ H l xs x fl hK ok hk h1 h2 h3 h4 h5 hl hs hn
  rw [← hK] at g1
  refine xs_cons ?_
  refine ex_ifp (pt_cmp (by walk_at "pv")) (fun h => absurd h (by decide)) fun _ => ?_
  refine xs_nil ?_
  refine xs_cons ?_
  refine ex_ifp (pt_is_none (by walk_at "pv") true rfl trivial) (fun _ => ?_) (fun h => absurd h (by decide))
  refine xs_cons (ex_assignp ok (by walk_at "st") (by walk_at "pv") (xs_nil ?_))
  refine xs_cons ?_
  refine ex_ifp (pt_is_none (by walk_at "pv") true rfl trivial) (fun _ => ?_) (fun h => absurd h (by decide))
  refine xs_cons ?_
  refine ex_while (fun n ρ' H' => H' = H ∧ ∃ lo hi : Nat, n = hi - lo ∧ lo ≤ hi ∧ hi ≤ xs.length ∧ ρ' "a" = some (.ref l) ∧ ρ' "x" = some (.int x) ∧ ρ' "lo" = some (.int lo) ∧ ρ' "hi" = some (.int hi) ∧
    (∀ i y, i < lo → xs[i]? = some y → y ≤ x) ∧ (∀ i y, hi ≤ i → xs[i]? = some y → ¬ (y ≤ x))) xs.length ⟨rfl, 0, xs.length, rfl, Nat.zero_le _, Nat.le_refl _, by walk_at "loc", by walk_at "loc", Loc.set_ne (by decide) h3, ?_, ?_, ?_⟩ ?_
  · rw [Loc.set_same, zs_len]
  · intro i y h; omega
  · intro i y h e; obtain ⟨h', _⟩ := List.getElem?_eq_some_iff.mp e; omega
  rintro n ρ' H' ⟨rfl, lo, hi, rfl, hle, hhi, a1, a2, a3, a4, b1, b2⟩
  refine (pt_cmp (by walk_at "pv")).tv ?_
  by_cases hlt : (lo : Int) < hi
  · rw [decide_eq_true hlt, if_pos rfl]
    refine xs_cons (ex_assignp ok (by walk_at "st") (by walk_at "pv") ?_)
    obtain ⟨mid, hmid, hm1, hm2⟩ : ∃ mid : Nat, ((lo : Int) + hi).fdiv 2 = mid ∧ lo ≤ mid ∧ mid < hi := by
      refine ⟨(lo + hi) / 2, ?_, by omega, by omega⟩
      rw [Int.fdiv_eq_ediv_of_nonneg _ (by omega)]; omega
    rw [hmid]
    obtain ⟨y, hy⟩ : ∃ y, xs[mid]? = some y := ⟨xs[mid]'(by omega), by simp⟩
    refine xs_cons (ex_ifp (pt_cmp (pv_lt (by walk_at "pv") (pv_itemZ (by walk_at "pv") (by walk_at "pv") hl (by omega) hy))) (fun h => ?_) fun h => ?_)
    · have h' : x < y := of_decide_eq_true h
      refine xs_cons (ex_assignp ok (by walk_at "st") (by walk_at "pv") (xs_nil (xs_nil ⟨mid - lo, by omega, rfl, lo, mid, rfl, by omega, by omega, by walk_at "loc", by walk_at "loc", by walk_at "loc", by walk_at "loc", b1, ?_⟩)))
      intro i z hi' e
      have := hs.le hi' hy e
      omega
    · have h' : ¬ x < y := of_decide_eq_false h
      refine xs_cons (ex_assignp (v := .int ((mid : Int) + 1)) ok (by walk_at "st") (by walk_at "pv") (xs_nil (xs_nil ⟨hi - (mid + 1), by omega, rfl, mid + 1, hi, rfl, by omega, by omega, by walk_at "loc", by walk_at "loc", Loc.set_same, by walk_at "loc", ?_, b2⟩)))
      intro i z hi' e
      have := hs.le (i := i) (j := mid) (by omega) e hy
      omega
  · rw [decide_eq_false hlt, if_neg (by decide)]
    refine xs_nil ?_
    refine xs_cons ?_
    refine ex_returnp (by walk_at "pv") ⟨?_, rfl⟩
    have : lo = hi := by omega
    subst this
    rw [countP_split xs lo hhi (fun i y h e => by simpa using b1 i y h e) (fun i y h e => by simpa using b2 i y h e)]

theorem tables_body {c : Cx} (g_len : gl c.K "len" = some (.builtin "len")) (g_rng : gl c.K "range" = some (.type "range")) (hbR : Bis c.K P03 1 "bisect_right") {n : Nat} {ρ : Loc} {H : Hp} {l : Addr} {xs : List Int} {fl : Bool} (ok : Ok c) (okc : OkC c (n + 1)) (own : c.own = true) (hk : c.env.scope = fnScope P03 3)
    (r0 : ρ "numbers" = some (.ref l)) (hl : H l = some (.list (zs xs), fl)) (hlen : xs.length ≤ 63) :
    XS c ρ H (fnBody P03 3) fun f _ H' => ∃ D R M as bs, retv f = .ref D ∧ H' D = some (.tup [.ref R, .ref M], true) ∧ TabsIn H H' R M as bs ((tabs 1 (pts xs)).map (·.1)) ((tabs 1 (pts xs)).map (·.2)) := by
  refine xs_cons (ex_assign ok (by walk_at "st") (ev_list (PS.es ps_nil ⟨by decide, fun R hR => ?_⟩)))
  refine xs_cons (ex_assign ok (by walk_at "st") (ev_list (PS.es ps_nil ⟨by decide, fun M hM => ?_⟩)))
  have hRM : R ≠ M := fun e => by rw [← e, Hp.set_same] at hM; cases hM
  have hM0 : H M = none := by rw [Hp.set, if_neg (Ne.symm hRM)] at hM; exact hM
  have t0 : TabsIn H ((H.set R (.list [])).set M (.list [])) R M [] [] [] [] :=
    ⟨Hp.set_ne hRM Hp.set_same, Hp.set_same, .nil, .nil, by simp [hRM], (Keeps.refl.new hR).set hM0, fun a ha => by simp at ha; rcases ha with e | e <;> rw [e] <;> assumption⟩
  generalize (H.set R (.list [])).set M (.list []) = H1 at t0 ⊢
  refine xs_cons (ex_for ?_)
  have hl1 := t0.kp _ _ hl
  refine itr_range1 ok (by walk_at "kd") g_rng (by walk_at "pv") (by walk_at "lens") ?_
  rw [zs_len, Int.toNat_natCast]
  refine ⟨fun i ρ' H' => ∃ as bs, TabsIn H H' R M as bs ((tabs 1 (ptsN xs i)).map (·.1)) ((tabs 1 (ptsN xs i)).map (·.2)) ∧ Sz i (tabs 1 (ptsN xs i)) ∧ ρ' "numbers" = some (.ref l) ∧ ρ' "rows" = some (.ref R) ∧ ρ' "marks" = some (.ref M),
    ⟨[], [], by simpa [ptsN, tabs] using t0, by simp [ptsN, tabs, Sz], by walk_at "loc", by walk_at "loc", by walk_at "loc"⟩, fun _ _ _ _ => trivial, ?_, ?_⟩
  · rintro i ρ' H' hi ⟨as, bs, t, sz, q1, q2, q3⟩
    have hl2 := t.kp _ _ hl
    obtain ⟨x, hx⟩ : ∃ x, xs[i]? = some x := ⟨_, List.getElem?_eq_getElem hi⟩
    dsimp only
    rw [ptsN_succ hx, tabs_snoc]
    refine asg_name ok (by walk_at "st") ?_
    have sz1 := ins2_sz ((i : Int), x) sz
    generalize tabs 1 (ptsN xs i) = T0 at t sz sz1 ⊢
    refine xs_cons (ex_assignp ok (by walk_at "st") (pv_itemZ (k := i) (by walk_at "pv") (by walk_at "pv") hl2 (by omega) hx) ?_)
    refine xs_cons (ex_assignp ok (by walk_at "st") (by walk_at "pv") ?_)
    refine xs_cons (ex_while (fun n ρ' H' => ∃ (T : Tab) (ap : Nat) (y : Int) (as bs : List Addr), n = T.length - ap ∧ ap ≤ T.length ∧ ins2 1 T0 ((i : Int), x) = T.take ap ++ ins2 1 (T.drop ap) ((i : Int), y) ∧ Sz 63 T ∧ TabsIn H H' R M as bs (T.map (·.1)) (T.map (·.2)) ∧
      ρ' "numbers" = some (.ref l) ∧ ρ' "rows" = some (.ref R) ∧ ρ' "marks" = some (.ref M) ∧ ρ' "step" = some (.int i) ∧ ρ' "at" = some (.int ap) ∧ ρ' "x" = some (.int y)) T0.length
      ⟨T0, 0, x, as, bs, rfl, Nat.zero_le _, rfl, sz.mono (by omega), t, by walk_at "loc", by walk_at "loc", by walk_at "loc", by walk_at "loc", Loc.set_same, by walk_at "loc"⟩ ?_)
    rintro n' ρ2 H2 ⟨T, ap, y, as, bs, rfl, hap, hT, szT, t, q1, q2, q3, q4, q5, q6⟩
    have lenA : as.length = T.length := by rw [t.ra.len, List.length_map]
    have lenB : bs.length = T.length := by rw [t.rb.len, List.length_map]
    have hTl := szT.1
    refine tv_and (PT.tv (pt_cmp (pv_lt (by walk_at "pv") (pv_len ok (by walk_at "kd") g_len (by walk_at "pv") t.r (by walk_at "lens")))) ?_)
    rw [refs_len, lenA]
    by_cases hlt : ap < T.length
    · rw [decide_eq_true (show (ap : Int) < (T.length : Nat) by omega), if_pos rfl]
      obtain ⟨r, m, hrm⟩ : ∃ r m, T[ap]? = some (r, m) := ⟨_, _, List.getElem?_eq_getElem hlt⟩
      obtain ⟨hr1, hr2, hr3⟩ := szT.2 (r, m) (List.mem_of_getElem? hrm)
      dsimp only at hr1 hr2 hr3
      have hr4 := ns_one.mp hr3
      obtain ⟨a, ha⟩ : ∃ a, as[ap]? = some a := ⟨_, List.getElem?_eq_getElem (by omega)⟩
      obtain ⟨b, hb⟩ : ∃ b, bs[ap]? = some b := ⟨_, List.getElem?_eq_getElem (by omega)⟩
      have hHa := t.ra.at' ap a r ha (by rw [List.getElem?_map, hrm]; rfl)
      have hHb := t.rb.at' ap b m hb (by rw [List.getElem?_map, hrm]; rfl)
      refine PT.tv (pt_cmp (pv_lt (pv_bis (q := fun x y => decide (y ≤ x)) ok okc hbR (bisR_body g_len) (by walk_at "kd") (pv_row (k := ap) (by walk_at "pv") (by walk_at "pv") t.r (by omega) ha) (by walk_at "pv") hHa hr4 (by omega))
        (pv_len ok (by walk_at "kd") g_len (pv_row (k := ap) (by walk_at "pv") (by walk_at "pv") t.r (by omega) ha) hHa (by walk_at "lens")))) ?_
      rw [zs_len]
      have hcl : r.countP (fun z => decide (z ≤ y)) ≤ r.length := List.countP_le_length
      by_cases hk2 : r.countP (fun z => decide (z ≤ y)) < r.length
      · rw [decide_eq_true (show ((r.countP (fun z => decide (z ≤ y)) : Nat) : Int) < (r.length : Nat) by omega), if_pos rfl]
        obtain ⟨v, hv⟩ : ∃ v, r[r.countP (fun z => decide (z ≤ y))]? = some v := ⟨_, List.getElem?_eq_getElem hk2⟩
        have hstep := ins2_push (t := (i : Int)) hrm hr3 hk2 hv
        have hns := rowIns_ns (.inr rfl) (x := y) hr3
        rw [rowIns_is (.inr rfl) hr3, show r.countP (fun z => decide (z < y + 1)) = r.countP (fun z => decide (z ≤ y)) from List.countP_congr fun z _ => by simp; omega, if_neg (by omega)] at hns
        refine xs_cons (ex_assignp ok (by walk_at "st") (pv_bis (q := fun x y => decide (y ≤ x)) ok okc hbR (bisR_body g_len) (by walk_at "kd") (pv_row (k := ap) (by walk_at "pv") (by walk_at "pv") t.r (by omega) ha) (by walk_at "pv") hHa hr4 (by omega)) ?_)
        generalize hkk : r.countP (fun z => decide (z ≤ y)) = kk at hstep hv hk2 hcl hns ⊢
        refine xs_cons (ex_assign_tuple (ev_tuple (PS.es (ps_cons (v := .int y) (by walk_at "pv") (ps_cons (v := .int v) (pv_itemZ (k := kk) (pv_row (k := ap) (by walk_at "pv") (by walk_at "pv") t.r (by omega) ha) (by walk_at "pv") hHa (by omega) hv) ps_nil)) ⟨by simp, fun D hD => ?_⟩)) rfl (swapped_none fun l => by
          simp only [List.filterMap_cons, List.filterMap_nil]; split <;> simp))
        have t1 := t.new (o := .tup [.int y, .int v]) hD
        have hHa1 := keepH (o := .tup [.int y, .int v]) hHa hD
        refine asg_two ok (.inl Hp.set_same) (asg_item (PV.ev (v := .ref a) (pv_row (k := ap) (by walk_at "pv") (by walk_at "pv") t1.r (by omega) ha) (PV.ev (v := .int (kk : Nat)) (by walk_at "pv") ⟨a, _, kk, rfl, rfl, hHa1, by rw [zs_len]; exact hk2, by walk_at "lens", ?_⟩))) rfl
        rw [show (zs r).set kk (.int y) = zs (r.set kk y) by unfold zs; rw [List.map_set]]
        have t2 := t1.setR (r' := r.set kk y) ha
        generalize Hp.set (Hp.set H2 D _) a _ = H3 at t2 ⊢
        refine asg_name ok (by walk_at "st") ?_
        refine xs_cons (ex_assignp ok (by walk_at "st") (by walk_at "pv") (xs_nil ?_))
        obtain ⟨m1, m2⟩ := map_set1 (r' := r.set kk y) hrm
        refine ⟨T.length - (ap + 1), by omega, T.set ap (r.set kk y, m), ap + 1, v, as, bs, by rw [List.length_set], by rw [List.length_set]; omega, by rw [hT]; exact hstep, ⟨by rw [List.length_set]; exact hTl, fun z hz => ?_⟩, ?_, by walk_at "loc", by walk_at "loc", by walk_at "loc", by walk_at "loc", Loc.set_same, by walk_at "loc"⟩
        · rcases List.mem_or_eq_of_mem_set hz with h | h
          · exact szT.2 z h
          · subst h; simp only [List.length_set]; exact ⟨hr1, hr2, hns⟩
        · rw [m1, m2]; exact t2
      · rw [decide_eq_false (show ¬ ((r.countP (fun z => decide (z ≤ y)) : Nat) : Int) < (r.length : Nat) by omega), if_neg (by decide)]
        dsimp only
        have hstay := ins2_stay (t := (i : Int)) (x := y) hrm hr3 (by omega)
        rw [hT, hstay] at sz1 ⊢
        refine xs_cons (ex_ifp (pt_cmp (pv_eq (by walk_at "pv") (pv_len ok (by walk_at "kd") g_len (by walk_at "pv") t.r (by walk_at "lens")))) (fun h => ?_) fun _ => xs_nil ?_)
        · rw [refs_len, lenA] at h
          have := beq_iff_eq.mp h; omega
        refine xs_cons (ex_expr ok (ev_append (PV.ev (pv_row (k := ap) (by walk_at "pv") (by walk_at "pv") t.r (by omega) ha) ⟨a, _, rfl, hHa, PV.ev (v := .int y) (by walk_at "pv") ⟨_, hHa, by walk_at "lens", ?_⟩⟩)))
        rw [show zs r ++ [AV.int y] = zs (r ++ [y]) by rw [zs_append]; rfl]
        have t1 := t.setR (r' := r ++ [y]) ha
        have hHb1 := Hp.set_ne (o := .list (zs (r ++ [y]))) (fun e : b = a => t.ab (List.mem_of_getElem? ha) (e ▸ List.mem_of_getElem? hb)) hHb
        generalize Hp.set H2 a _ = H3 at t1 hHb1 ⊢
        refine xs_cons (ex_expr ok (ev_append (PV.ev (pv_row (k := ap) (by walk_at "pv") (by walk_at "pv") t1.m (by omega) hb) ⟨b, _, rfl, hHb1, PV.ev (v := .int i) (by walk_at "pv") ⟨_, hHb1, by walk_at "lens", xs_nil ?_⟩⟩)))
        rw [show zs m ++ [AV.int (i : Int)] = zs (m ++ [(i : Int)]) by rw [zs_append]; rfl]
        have t2 := t1.setM (r' := m ++ [(i : Int)]) hb
        refine ⟨as, bs, ?_, sz1, by walk_at "loc", by walk_at "loc", by walk_at "loc"⟩
        rw [List.map_set, List.map_set]; exact t2
    · rw [decide_eq_false (show ¬ (ap : Int) < (T.length : Nat) by omega), if_neg (by decide), if_neg (by decide)]
      dsimp only
      have hape : ap = T.length := by omega
      rw [hape, List.take_length, List.drop_length] at hT
      have hT' : ins2 1 T0 ((i : Int), x) = T ++ [([y], [(i : Int)])] := hT
      rw [hT'] at sz1 ⊢
      refine xs_cons (ex_ifp (pt_cmp (pv_eq (by walk_at "pv") (pv_len ok (by walk_at "kd") g_len (by walk_at "pv") t.r (by walk_at "lens")))) (fun _ => ?_) fun h => ?_)
      · refine xs_cons (ex_expr ok (ev_append (PV.ev (v := .ref R) (by walk_at "pv") ⟨R, _, rfl, t.r, ev_list (PS.es ps_nil ⟨by decide, fun D hD => ?_⟩)⟩)))
        refine ⟨_, keepH t.r hD, by rw [refs_len]; omega, ?_⟩
        rw [show refs as ++ [AV.ref D] = refs (as ++ [D]) by rw [refs_append]; rfl]
        have t1 := t.pushR (r := []) hD
        rw [show zs [] = [] from rfl] at t1
        generalize Hp.set (Hp.set H2 D _) R _ = H3 at t1 ⊢
        refine xs_cons (ex_expr ok (ev_append (PV.ev (v := .ref M) (by walk_at "pv") ⟨M, _, rfl, t1.m, ev_list (PS.es ps_nil ⟨by decide, fun D2 hD2 => ?_⟩)⟩)))
        refine ⟨_, keepH t1.m hD2, by rw [refs_len]; omega, xs_nil ?_⟩
        rw [show refs bs ++ [AV.ref D2] = refs (bs ++ [D2]) by rw [refs_append]; rfl]
        have t2 := t1.pushM (r := []) hD2
        rw [show zs [] = [] from rfl] at t2
        generalize Hp.set (Hp.set H3 D2 _) M _ = H4 at t2 ⊢
        have ha : (as ++ [D])[ap]? = some D := by rw [List.getElem?_append_right (by omega), show ap - as.length = 0 by omega]; rfl
        have hb : (bs ++ [D2])[ap]? = some D2 := by rw [List.getElem?_append_right (by omega), show ap - bs.length = 0 by omega]; rfl
        have ga : (T.map (·.1) ++ [[]])[ap]? = some [] := by rw [List.getElem?_append_right (by rw [List.length_map]; omega), List.length_map, show ap - T.length = 0 by omega]; rfl
        have gb : (T.map (·.2) ++ [[]])[ap]? = some [] := by rw [List.getElem?_append_right (by rw [List.length_map]; omega), List.length_map, show ap - T.length = 0 by omega]; rfl
        have hHa := t2.ra.at' ap D [] ha ga
        have hHb := t2.rb.at' ap D2 [] hb gb
        refine xs_cons (ex_expr ok (ev_append (PV.ev (pv_row (k := ap) (by walk_at "pv") (by walk_at "pv") t2.r (by rw [List.length_append]; simp; omega) ha) ⟨D, _, rfl, hHa, PV.ev (v := .int y) (by walk_at "pv") ⟨_, hHa, by walk_at "lens", ?_⟩⟩)))
        rw [show zs [] ++ [AV.int y] = zs [y] from rfl]
        have t3 := t2.setR (r' := [y]) ha
        have hHb1 := Hp.set_ne (o := .list (zs [y])) (fun e : D2 = D => t2.ab (List.mem_of_getElem? ha) (e ▸ List.mem_of_getElem? hb)) hHb
        generalize Hp.set H4 D _ = H5 at t3 hHb1 ⊢
        refine xs_cons (ex_expr ok (ev_append (PV.ev (pv_row (k := ap) (by walk_at "pv") (by walk_at "pv") t3.m (by rw [List.length_append]; simp; omega) hb) ⟨D2, _, rfl, hHb1, PV.ev (v := .int i) (by walk_at "pv") ⟨_, hHb1, by walk_at "lens", xs_nil ?_⟩⟩)))
        rw [show zs [] ++ [AV.int (i : Int)] = zs [(i : Int)] from rfl]
        have t4 := t3.setM (r' := [(i : Int)]) hb
        refine ⟨as ++ [D], bs ++ [D2], ?_, sz1, by walk_at "loc", by walk_at "loc", by walk_at "loc"⟩
        rw [List.map_append, List.map_append]
        have e1 : (List.map (fun z : List Int × List Int => z.1) T ++ [[]]).set ap [y] = List.map (fun z : List Int × List Int => z.1) T ++ [[y]] := by
          rw [List.set_append_right _ _ (by rw [List.length_map]; omega), List.length_map, show ap - T.length = 0 by omega]; rfl
        have e2 : (List.map (fun z : List Int × List Int => z.2) T ++ [[]]).set ap [(i : Int)] = List.map (fun z : List Int × List Int => z.2) T ++ [[(i : Int)]] := by
          rw [List.set_append_right _ _ (by rw [List.length_map]; omega), List.length_map, show ap - T.length = 0 by omega]; rfl
        rw [e1, e2] at t4
        exact t4
      · rw [refs_len, lenA] at h
        have := beq_eq_false_iff_ne.mp h; omega
  rintro ρ' H' ⟨as, bs, t, sz, q1, q2, q3⟩
  dsimp only
  refine xs_cons (ex_return (ev_tuple (PS.es (ps_cons (v := .ref R) (by walk_at "pv") (ps_cons (v := .ref M) (by walk_at "pv") ps_nil)) ⟨by simp, fun D hD => ?_⟩)))
  exact ⟨D, R, M, as, bs, rfl, Hp.set_same, t.new hD⟩
structure KF (K : Frag) : Prop where
  len : gl K "len" = some (.builtin "len")
  rng : gl K "range" = some (.type "range")
  dct : gl K "dict" = some (.type "dict")
  mn : gl K "min" = some (.builtin "min")
  mx : gl K "max" = some (.builtin "max")
  sm : gl K "sum" = some (.builtin "sum")
  bR : Bis K P03 1 "bisect_right"
  ft : Fn1 K P03 3 "_law_tables" "numbers"
section
variable {c : Cx} {ρ : Loc} {H : Hp}
theorem pt_or {x y : Expr} {pos : Pos} {a b : Bool} (h : PT c ρ H x a) (h' : a = false → PT c ρ H y b) (hb : a = true → b = true) : PT c ρ H (.BoolOp .Or [x, y] pos) b :=
  tv_or (h.tv (by cases a with | false => exact h' rfl | true => exact ⟨(hb rfl).symm, rfl⟩))
theorem DictH.comp {d : Addr} {xs : DX} {scope : Scope} {cl : List (Str × Addr)} {C : Addr} (h : DictH c H d xs) : DictH (compCx c scope cl C) H d xs := ⟨h.ob, h.key, h.nd, h.big⟩
end
theorem further_up {w : List Int} {k : Nat} {x : Int} {xs ys ys' : DX} {j : Nat} (h : Further w k x xs j ys) (hs : Sound w (k + 1) ys') (hm : ∀ {a b : Int} {m : Nat}, Mp ys a b m → ∃ m', Mp ys' a b m' ∧ m ≤ m') : Further w k x xs j ys' := by
  refine ⟨hs, fun a b n h1 => ?_, fun i a b p n hi hx hp => ?_⟩
  · obtain ⟨m, h2, h3⟩ := h.old a b n h1
    obtain ⟨m', h4, h5⟩ := hm h2
    exact ⟨m', h4, by omega⟩
  · obtain ⟨d1, d2⟩ := h.don i a b p n hi hx hp
    refine ⟨fun q => ?_, fun q => ?_⟩
    · obtain ⟨m, h2, h3⟩ := d1 q
      obtain ⟨m', h4, h5⟩ := hm h2
      exact ⟨m', h4, by omega⟩
    · obtain ⟨m, h2, h3⟩ := d2 q
      obtain ⟨m', h4, h5⟩ := hm h2
      exact ⟨m', h4, by omega⟩
theorem further_next {w : List Int} {k : Nat} {x : Int} {xs ys : DX} {j : Nat} {a b : Int} {p : Addr × Value} {n : Nat} (h : Further w k x xs j ys) (hj : xs[j]? = some ([a, b], p)) (hp : abs p.2 = .int n)
    (h1 : okv w x a → ∃ m, Mp ys b k m ∧ n + 1 ≤ m) (h2 : okv w x b → ∃ m, Mp ys a k m ∧ n + 1 ≤ m) : Further w k x xs (j + 1) ys := by
  refine ⟨h.snd, h.old, fun i a' b' p' n' hi hx hp' => ?_⟩
  rcases Nat.lt_or_ge i j with q | q
  · exact h.don i a' b' p' n' q hx hp'
  · have : i = j := by omega
    subst this
    rw [hj] at hx
    have e := Option.some.inj hx
    have e1 : a = a' ∧ b = b' := by simpa using congrArg Prod.fst e
    have e2 : p = p' := congrArg Prod.snd e
    obtain ⟨rfl, rfl⟩ := e1
    subst e2
    rw [hp] at hp'
    have : n = n' := by
      injection hp' with hp'
      omega
    subst this
    exact ⟨h1, h2⟩
theorem pts_vals (xs : List Int) : (pts xs).map (·.2) = xs := by
  unfold pts ptsN
  rw [List.map_map]
  refine List.ext_getElem? fun i => ?_
  by_cases hi : i < xs.length
  · simp [hi]
  · simp [hi]
theorem law_main {c : Cx} {ns : List Int} {l : Addr} (ok : Ok c) (okc : OkC c 20) (hk : c.env.scope = fnScope P03 4) (own : c.own = true) (hlen : ns.length ≤ 63) (kf : KF c.K) :
    XS c (scriptLoc l) (scriptHp l ns) (fnBody P03 4) fun f _ _ => f = .ret (.bool true) := by
  obtain ⟨g_len, g_rng, g_dct, g_mn, g_mx, g_sm, hbR, hft⟩ := kf
  have r0 : scriptLoc l "script" = some (.ref l) := by simp [scriptLoc]
  have hl0 : scriptHp l ns l = some (.list (zs ns), false) := by simp [scriptHp]
  generalize scriptLoc l = ρ at r0 ⊢
  generalize scriptHp l ns = H at hl0 ⊢
  -- the rows
  refine xs_cons (ex_assign_tuple (ev_fn1 ok okc hft (by walk_at "kd") (PV.ev (v := .ref l) (by walk_at "pv") fun c' ρ1 hK ok' okc' own' hk' hr => ?_)) rfl rfl)
  refine XS.mono (tables_body (hK ▸ g_len) (hK ▸ g_rng) (hK ▸ hbR) ok' okc' own' hk' hr hl0 hlen) ?_
  rintro f ρ1' HB ⟨DT, R, M, as, bs, hf, hDT, t⟩
  rw [hf]
  refine asg_two ok (.inl hDT) (asg_name ok (by walk_at "st") (asg_name ok (by walk_at "st") ?_)) rfl
  have bl := t.kp _ _ hl0
  have bR := t.r
  have bA := t.ra
  rw [tabs_rows, pts_vals] at bA
  clear t
  have hsz := (tab_sz (d := 1) (.inr rfl) ns).mono hlen
  obtain ⟨gr1, gr2⟩ := greene2 (d := 1) (.inr rfl) ns
  generalize tab 1 ns = T at bA hsz gr1 gr2
  have lenA : as.length = T.length := bA.len
  have lenT := hsz.1
  refine xs_cons (ex_assignp ok (by walk_at "st") (pv_lenZ ok (by walk_at "kd") g_len (by walk_at "pv") bl (by omega)) ?_)
  -- best
  refine xs_cons (ex_assign ok (by walk_at "st") (ev_dict1 ok (ev_tuple (PS.es (ps_cons (v := .int (-1)) (pv_neg pv_int) (ps_cons (v := .int (-1)) (pv_neg pv_int) ps_nil)) ⟨by simp, fun D0 hD0 => ?_⟩))))
  refine PV.ev pv_int ⟨D0, -1, -1, true, rfl, Hp.set_same, fun d y es ep hd hy hDict => ?_⟩
  have kp0 : Keeps HB ((HB.set D0 (.tup [.int (-1), .int (-1)])).set d (.raw (dobj es ep))) := (Keeps.refl.new hD0).new hd
  have hBd : HB d = none := (Keeps.refl.new hD0).none hd
  have best0 : Best ns 0 [([-1, -1], D0, y)] := best_start hy
  generalize (HB.set D0 (.tup [.int (-1), .int (-1)])).set d (.raw (dobj es ep)) = H0 at kp0 hDict ⊢
  refine xs_cons (ex_for ?_)
  refine itr_range1 ok (by walk_at "kd") g_rng (by walk_at "pv") (by omega) ?_
  rw [Int.toNat_natCast]
  refine ⟨fun i ρ' H' => ∃ d xs, Keeps HB H' ∧ HB d = none ∧ DictH c H' d xs ∧ Best ns i xs ∧ ρ' "script" = some (.ref l) ∧ ρ' "rows" = some (.ref R) ∧ ρ' "best" = some (.ref d),
    ⟨d, _, kp0, hBd, hDict, best0, by walk_at "loc", by walk_at "loc", by walk_at "loc"⟩, fun _ _ _ _ => trivial, ?_, ?_⟩
  · rintro i ρ' H' hi ⟨d, xs, kp, hBd, hD, hbest, q1, q2, q3⟩
    refine asg_name ok (by walk_at "st") ?_
    dsimp only
    obtain ⟨x, hx⟩ : ∃ x, ns[i]? = some x := ⟨_, List.getElem?_eq_getElem hi⟩
    have hsm : SmallKeys xs := hbest.snd.small (by omega)
    have hxl := small_len hsm hD.nd
    -- further
    refine xs_cons (ex_assign ok (by walk_at "st") (ev_dictCopy ok (by walk_at "kd") g_dct (PV.ev (v := .ref d) (by walk_at "pv") ⟨d, xs, rfl, hD, hbest.ne, by omega, hsm, fun D2 es2 ep2 hD2 hDict2 => ?_⟩)))
    have kp2 : Keeps HB (H'.set D2 (.raw (dobj es2 ep2))) := kp.new hD2
    have hB2 : HB D2 = none := kp.none hD2
    have hDd := hD.new (o := .raw (dobj es2 ep2)) hD2
    have hdD : d ≠ D2 := by
      obtain ⟨es, ep, h1, _⟩ := hD.ob
      exact Hp.ne_of h1 hD2
    generalize H'.set D2 (.raw (dobj es2 ep2)) = H5 at kp2 hDict2 hDd ⊢
    refine xs_cons (ex_for ?_)
    refine itr_dict ok (PV.ev (v := .ref d) (by walk_at "pv") ⟨d, xs, rfl, hDd, fun o ho => ?_⟩)
    refine ⟨fun j ρ' H'' => ∃ ys, Keeps HB H'' ∧ H'' d = some (o, true) ∧ DictH c H'' d xs ∧ DictH c H'' D2 ys ∧ Further ns i x xs j ys ∧ ρ' "script" = some (.ref l) ∧ ρ' "rows" = some (.ref R) ∧ ρ' "best" = some (.ref d) ∧ ρ' "further" = some (.ref D2) ∧ ρ' "k" = some (.int i),
      ⟨xs, kp2, ho, hDd, hDict2, further_start hbest, by walk_at "loc", by walk_at "loc", by walk_at "loc", by walk_at "loc", by walk_at "loc"⟩, fun _ _ _ ⟨_, _, h, _⟩ => h, ?_, ?_⟩
    · rintro j ρ6 H6 hj ⟨ys, k6, o6, hd6, hf6, hfur, q1, q2, q3, q4, q5⟩
      obtain ⟨ky, ad, vv, hxj⟩ : ∃ ky ad vv, xs[j]? = some (ky, ad, vv) := ⟨_, _, _, List.getElem?_eq_getElem hj⟩
      obtain ⟨a, b, n, e1, e2, e3, hcf⟩ := hbest.snd _ (List.mem_of_getElem? hxj)
      dsimp only at e1 e2
      subst e1
      have hlt := hcf.lt
      obtain ⟨a', b', fl, e4, hHad⟩ := hd6.key _ (List.mem_of_getElem? hxj)
      dsimp only at e4 hHad
      have e5 : a = a' ∧ b = b' := by simpa using e4
      obtain ⟨rfl, rfl⟩ := e5
      have hkv : keyVal xs j = .ref ad := by unfold keyVal; rw [hxj]
      rw [hkv]
      refine asg_two ok (.inl hHad) (asg_name ok (by walk_at "st") (asg_name ok (by walk_at "st") ?_)) rfl
      -- many
      refine xs_cons (ex_assign ok (by walk_at "st") (ev_add2 (ev_getD ok rfl (PV.ev (v := .ref d) (by walk_at "pv") (ev_tuple (PS.es (ps_cons (v := .int a) (by walk_at "pv") (ps_cons (v := .int b) (by walk_at "pv") ps_nil)) ⟨by simp, fun D3 hD3 => ?_⟩))))))
      refine ⟨d, D3, xs, a, b, true, (ad, vv), rfl, rfl, hd6.new hD3, Hp.set_same, atKey_of_get hd6.nd hxj, ?_⟩
      dsimp only
      rw [e2]
      have k7 := k6.new (o := .tup [.int a, .int b]) hD3
      have o7 := keepH (o := .tup [.int a, .int b]) o6 hD3
      have hd7 := hd6.new (o := .tup [.int a, .int b]) hD3
      have hf7 := hf6.new (o := .tup [.int a, .int b]) hD3
      generalize H6.set D3 (.tup [.int a, .int b]) = H7 at k7 o7 hd7 hf7 ⊢
      refine PV.ev pv_int ⟨(n : Int), 1, rfl, rfl, ?_⟩
      have s1 : ((((ρ6.set "one" (.int a)).set "other" (.int b)).set "many" (.int ((n : Int) + 1)))) "script" = some (.ref l) := by walk_at "loc"
      have s2 : ((((ρ6.set "one" (.int a)).set "other" (.int b)).set "many" (.int ((n : Int) + 1)))) "rows" = some (.ref R) := by walk_at "loc"
      have s3 : ((((ρ6.set "one" (.int a)).set "other" (.int b)).set "many" (.int ((n : Int) + 1)))) "best" = some (.ref d) := by walk_at "loc"
      have s4 : ((((ρ6.set "one" (.int a)).set "other" (.int b)).set "many" (.int ((n : Int) + 1)))) "further" = some (.ref D2) := by walk_at "loc"
      have s5 : ((((ρ6.set "one" (.int a)).set "other" (.int b)).set "many" (.int ((n : Int) + 1)))) "k" = some (.int i) := by walk_at "loc"
      have s6 : ((((ρ6.set "one" (.int a)).set "other" (.int b)).set "many" (.int ((n : Int) + 1)))) "one" = some (.int a) := by walk_at "loc"
      have s7 : ((((ρ6.set "one" (.int a)).set "other" (.int b)).set "many" (.int ((n : Int) + 1)))) "other" = some (.int b) := by walk_at "loc"
      have s8 : ((((ρ6.set "one" (.int a)).set "other" (.int b)).set "many" (.int ((n : Int) + 1)))) "many" = some (.int ((n : Int) + 1)) := by walk_at "loc"
      generalize (((ρ6.set "one" (.int a)).set "other" (.int b)).set "many" (.int ((n : Int) + 1))) = ρ7 at s1 s2 s3 s4 s5 s6 s7 s8 ⊢
      -- both ways
      refine xs_cons (ex_for ?_)
      refine itr_tup ok.hand (ev_tuple (es_cons (ev_tuple (PS.es (ps_cons (v := .int a) (by walk_at "pv") (ps_cons (v := .int b) (by walk_at "pv") ps_nil)) ⟨by simp, fun E1 hE1 => es_cons (ev_tuple (PS.es (ps_cons (v := .int b) (by walk_at "pv") (ps_cons (v := .int a) (by walk_at "pv") ps_nil)) ⟨by simp, fun E2 hE2 => es_nil ⟨by simp, fun E3 hE3 => ?_⟩⟩))⟩))))
      have kE := ((k7.new (o := .tup [.int a, .int b]) hE1).new (o := .tup [.int b, .int a]) hE2).new (o := .tup [.ref E1, .ref E2]) hE3
      have oE := keepH (o := .tup [.ref E1, .ref E2]) (keepH (o := .tup [.int b, .int a]) (keepH (o := .tup [.int a, .int b]) o7 hE1) hE2) hE3
      have hdE := ((hd7.new (o := .tup [.int a, .int b]) hE1).new (o := .tup [.int b, .int a]) hE2).new (o := .tup [.ref E1, .ref E2]) hE3
      have hfE := ((hf7.new (o := .tup [.int a, .int b]) hE1).new (o := .tup [.int b, .int a]) hE2).new (o := .tup [.ref E1, .ref E2]) hE3
      have hE1' := keepH (o := .tup [.ref E1, .ref E2]) (keepH (o := .tup [.int b, .int a]) (Hp.set_same (H := H7) (a := E1) (o := .tup [.int a, .int b])) hE2) hE3
      have hE2' := keepH (o := .tup [.ref E1, .ref E2]) (Hp.set_same (H := H7.set E1 (.tup [.int a, .int b])) (a := E2) (o := .tup [.int b, .int a])) hE3
      have hE3' : (((H7.set E1 (.tup [.int a, .int b])).set E2 (.tup [.int b, .int a])).set E3 (.tup [.ref E1, .ref E2])) E3 = some (.tup [.ref E1, .ref E2], true) := Hp.set_same
      generalize ((H7.set E1 (.tup [.int a, .int b])).set E2 (.tup [.int b, .int a])).set E3 (.tup [.ref E1, .ref E2]) = H8 at kE oE hdE hfE hE1' hE2' hE3' ⊢
      refine ⟨E3, _, _, rfl, hE3', ?_⟩
      refine ⟨fun t ρ' H'' => ∃ zs', Keeps HB H'' ∧ H'' d = some (o, true) ∧ DictH c H'' d xs ∧ DictH c H'' D2 zs' ∧ H'' E1 = some (.tup [.int a, .int b], true) ∧ H'' E2 = some (.tup [.int b, .int a], true) ∧ H'' E3 = some (.tup [.ref E1, .ref E2], true) ∧
        Further ns i x xs j zs' ∧ (1 ≤ t → okv ns x a → ∃ m, Mp zs' b i m ∧ n + 1 ≤ m) ∧ (2 ≤ t → okv ns x b → ∃ m, Mp zs' a i m ∧ n + 1 ≤ m) ∧
        ρ' "script" = some (.ref l) ∧ ρ' "rows" = some (.ref R) ∧ ρ' "best" = some (.ref d) ∧ ρ' "further" = some (.ref D2) ∧ ρ' "k" = some (.int i) ∧ ρ' "many" = some (.int ((n : Int) + 1)),
        ⟨ys, kE, oE, hdE, hfE, hE1', hE2', hE3', hfur, fun h => by omega, fun h => by omega, s1, s2, s3, s4, s5, s8⟩, fun _ _ _ ⟨_, _, _, _, _, _, _, h, _⟩ => ⟨_, h⟩, ?_, ?_⟩
      · rintro t ρ9 H9 ht ⟨zs', k9, o9, hd9, hf9, y1, y2, y3, hfu, dn1, dn2, q1, q2, q3, q4, q5, q6⟩
        have ht2 : t < 2 := ht
        obtain ⟨la, ke, Et, hval, hHE, hcase⟩ : ∃ la ke Et, ([AV.ref E1, AV.ref E2] : List AV).getD t .none = .ref Et ∧ H9 Et = some (.tup [.int la, .int ke], true) ∧ ((t = 0 ∧ la = a ∧ ke = b) ∨ (t = 1 ∧ la = b ∧ ke = a)) := by
          rcases Nat.lt_or_ge t 1 with q | q
          · have : t = 0 := by omega
            subst this; exact ⟨a, b, E1, rfl, y1, .inl ⟨rfl, rfl, rfl⟩⟩
          · have : t = 1 := by omega
            subst this; exact ⟨b, a, E2, rfl, y2, .inr ⟨rfl, rfl, rfl⟩⟩
        have hcl : Cf ns i la ke n := by
          rcases hcase with ⟨_, rfl, rfl⟩ | ⟨_, rfl, rfl⟩
          · exact hcf
          · exact hcf.swap
        have hll := hcl.lt
        dsimp only
        rw [hval]
        refine asg_two ok (.inl hHE) (asg_name ok (by walk_at "st") (asg_name ok (by walk_at "st") ?_)) rfl
        have hl9 := k9 _ _ bl
        -- what is known behind the turn
        have fin : ∀ (zs'' : DX), Further ns i x xs j zs'' → (∀ {a b : Int} {m : Nat}, Mp zs' a b m → ∃ m', Mp zs'' a b m' ∧ m ≤ m') → (okv ns x la → ∃ m, Mp zs'' ke i m ∧ n + 1 ≤ m) →
            (1 ≤ t + 1 → okv ns x a → ∃ m, Mp zs'' b i m ∧ n + 1 ≤ m) ∧ (2 ≤ t + 1 → okv ns x b → ∃ m, Mp zs'' a i m ∧ n + 1 ≤ m) := by
          intro zs'' _ hm hnew
          rcases hcase with ⟨rfl, rfl, rfl⟩ | ⟨rfl, rfl, rfl⟩
          · exact ⟨fun _ => hnew, fun h => by omega⟩
          · refine ⟨fun _ q => ?_, fun _ => hnew⟩
            obtain ⟨m, h1, h2⟩ := dn1 (Nat.le_refl _) q
            obtain ⟨m', h3, h4⟩ := hm h1
            exact ⟨m', h3, by omega⟩
        refine xs_cons (ex_ifp (b := @decide (okv ns x la) (Classical.propDecidable _)) (pt_or (pt_cmp (by walk_at "pv")) (fun h => ?_) (fun h => ?_)) (fun h => ?_) fun h => ?_)
        · have hge : ¬ la < 0 := of_decide_eq_false h
          obtain ⟨p, rfl⟩ : ∃ p : Nat, la = p := ⟨la.toNat, by omega⟩
          obtain ⟨u, hu⟩ : ∃ u, ns[p]? = some u := ⟨_, List.getElem?_eq_getElem (by omega)⟩
          refine pt_cmp (pv_bto (pv_le (pv_itemZ (k := p) (by walk_at "pv") (by walk_at "pv") hl9 (by omega) hu) (pv_itemZ (k := i) (by walk_at "pv") (by walk_at "pv") hl9 (by omega) hx)) ?_)
          have : okv ns x (p : Int) ↔ u ≤ x := by
            unfold okv
            rw [val_nat, hu]
            show u < x + 1 ↔ u ≤ x
            omega
          by_cases hux : u ≤ x
          · rw [decide_eq_true hux, @decide_eq_true _ (Classical.propDecidable _) (this.mpr hux)]
          · rw [decide_eq_false hux, @decide_eq_false _ (Classical.propDecidable _) (fun q => hux (this.mp q))]
        · have hlt0 : la < 0 := of_decide_eq_true h
          refine @decide_eq_true _ (Classical.propDecidable _) ?_
          unfold okv val
          rw [if_pos hlt0]; trivial
        · have hok : okv ns x la := @of_decide_eq_true _ (Classical.propDecidable _) h
          have hnew : Cf ns (i + 1) ke i (n + 1) := Cf.swap (.inr (.inl ⟨rfl, la, n, x, rfl, hcl, hx, hok⟩))
          -- ends
          refine xs_cons (ex_assign ok (by walk_at "st") (ev_tuple (PS.es (ps_cons (v := .int ke) (pv_to (pv_min2 ok (by walk_at "kd") g_mn (by walk_at "pv") (by walk_at "pv")) (by omega)) (ps_cons (v := .int (i : Int)) (pv_to (pv_max2 ok (by walk_at "kd") g_mx (by walk_at "pv") (by walk_at "pv")) (by omega)) ps_nil)) ⟨by simp, fun D4 hD4 => ?_⟩)))
          have kA := k9.new (o := .tup [.int ke, .int (i : Int)]) hD4
          have oA := keepH (o := .tup [.int ke, .int (i : Int)]) o9 hD4
          have hdA := hd9.new (o := .tup [.int ke, .int (i : Int)]) hD4
          have hfA := hf9.new (o := .tup [.int ke, .int (i : Int)]) hD4
          have y1A := keepH (o := .tup [.int ke, .int (i : Int)]) y1 hD4
          have y2A := keepH (o := .tup [.int ke, .int (i : Int)]) y2 hD4
          have y3A := keepH (o := .tup [.int ke, .int (i : Int)]) y3 hD4
          have hD4A : (H9.set D4 (.tup [.int ke, .int (i : Int)])) D4 = some (.tup [.int ke, .int (i : Int)], true) := Hp.set_same
          generalize H9.set D4 (.tup [.int ke, .int (i : Int)]) = HA at kA oA hdA hfA y1A y2A y3A hD4A ⊢
          obtain ⟨g, hg1, hg2⟩ : ∃ g : Int, ((atKey zs' [ke, (i : Int)]).map fun p => abs p.2).getD (.int (-1)) = .int g ∧ ((g = -1 ∧ atKey zs' [ke, (i : Int)] = none) ∨ ∃ m : Nat, g = m ∧ Mp zs' ke i m) := by
            cases hh : atKey zs' [ke, (i : Int)] with
            | none => exact ⟨-1, rfl, .inl ⟨rfl, rfl⟩⟩
            | some p =>
              obtain ⟨a2, b2, m, k1, k2, _⟩ := hfu.snd _ (atKey_mem hh)
              exact ⟨m, k2, .inr ⟨m, rfl, p, hh, k2⟩⟩
          refine xs_cons (ex_if (tv_cmp (ev_cmpI (ev_getDflt ok (PV.ev (v := .ref D2) (by walk_at "pv") ⟨D2, rfl, ⟨zs', hfA⟩, PV.ev (v := .ref D4) (by walk_at "pv") (PV.ev (v := .int (-1)) (pv_neg pv_int) ⟨D4, zs', ke, (i : Int), true, rfl, hfA, hD4A, ?_⟩)⟩)))))
          rw [hg1]
          refine PV.ev (v := .int ((n : Int) + 1)) (by walk_at "pv") ⟨g, (n : Int) + 1, _, rfl, rfl, rfl, _, rfl, ?_⟩
          have hsmz : SmallKeys zs' := hfu.snd.small (by omega)
          have hzl := small_len hsmz hfA.nd
          by_cases hglt : g < (n : Int) + 1
          · rw [decide_eq_true hglt, if_pos rfl]
            refine xs_cons (ex_setD ok (PV.ev (v := .int ((n : Int) + 1)) (by walk_at "pv") (PV.ev (v := .ref D2) (by walk_at "pv") (PV.ev (v := .ref D4) (by walk_at "pv") ⟨D2, D4, zs', ke, (i : Int), true, rfl, rfl, hfA, hD4A, by omega, fun yv es3 ep3 hyv hDict3 => ?_⟩))))
            have hyv' : abs yv = .int ((n + 1 : Nat) : Int) := hyv
            obtain ⟨es4, ep4, hob4, _⟩ := hfA.ob
            have ndE1 : E1 ≠ D2 := fun q => by rw [q, hob4] at y1A; cases y1A
            have ndE2 : E2 ≠ D2 := fun q => by rw [q, hob4] at y2A; cases y2A
            have ndE3 : E3 ≠ D2 := fun q => by rw [q, hob4] at y3A; cases y3A
            have hmn : ∀ m, Mp zs' ke i m → m ≤ n + 1 := fun m ⟨p, hp1, hp2⟩ => by
              rcases hg2 with ⟨_, e⟩ | ⟨m', e, p', hp3, hp4⟩
              · rw [hp1] at e; cases e
              · rw [hp1] at hp3; cases hp3
                rw [hp2] at hp4
                injection hp4 with hp4
                omega
            have hmono : ∀ {a b : Int} {m : Nat}, Mp zs' a b m → ∃ m', Mp (storedH zs' [ke, (i : Int)] D4 yv) a b m' ∧ m ≤ m' := fun hq => stored_mono hyv' hmn hq
            have hfu' := further_up hfu (stored_sound hfu.snd (by omega) hnew hyv') hmono
            obtain ⟨f1, f2⟩ := fin _ hfu' hmono (fun _ => ⟨n + 1, stored_has hyv', Nat.le_refl _⟩)
            exact xs_nil (xs_nil (xs_nil ⟨_, kA.set hB2, Hp.set_ne hdD oA, hdA.other hob4 (Ne.symm hdD) (fun ts => nofun), hDict3, Hp.set_ne ndE1 y1A, Hp.set_ne ndE2 y2A, Hp.set_ne ndE3 y3A, hfu', f1, f2, by walk_at "loc", by walk_at "loc", by walk_at "loc", by walk_at "loc", by walk_at "loc", by walk_at "loc"⟩))
          · rw [decide_eq_false hglt, if_neg (by decide)]
            have hbig : ∃ m, Mp zs' ke i m ∧ n + 1 ≤ m := by
              rcases hg2 with ⟨e, _⟩ | ⟨m, e, hm⟩
              · omega
              · exact ⟨m, hm, by omega⟩
            obtain ⟨f1, f2⟩ := fin _ hfu (fun hq => ⟨_, hq, Nat.le_refl _⟩) (fun _ => hbig)
            exact xs_nil (xs_nil (xs_nil ⟨zs', kA, oA, hdA, hfA, y1A, y2A, y3A, hfu, f1, f2, by walk_at "loc", by walk_at "loc", by walk_at "loc", by walk_at "loc", by walk_at "loc", by walk_at "loc"⟩))
        · have hok : ¬ okv ns x la := @of_decide_eq_false _ (Classical.propDecidable _) h
          obtain ⟨f1, f2⟩ := fin _ hfu (fun hq => ⟨_, hq, Nat.le_refl _⟩) (fun q => absurd q hok)
          exact xs_nil (xs_nil ⟨zs', k9, o9, hd9, hf9, y1, y2, y3, hfu, f1, f2, by walk_at "loc", by walk_at "loc", by walk_at "loc", by walk_at "loc", by walk_at "loc", by walk_at "loc"⟩)
      · rintro ρ9 H9 ⟨zs', k9, o9, hd9, hf9, y1, y2, y3, hfu, dn1, dn2, q1, q2, q3, q4, q5, q6⟩
        refine xs_nil ⟨zs', k9, o9, hd9, hf9, further_next hfu hxj e2 (dn1 (by simp)) (dn2 (by simp)), q1, q2, q3, q4, q5⟩
    · rintro ρ6 H6 ⟨ys, k6, o6, hd6, hf6, hfur, q1, q2, q3, q4, q5⟩
      dsimp only
      refine xs_cons (ex_assignp ok (by walk_at "st") (v := .ref D2) (by walk_at "pv") (xs_nil ?_))
      exact ⟨D2, ys, k6, hB2, hf6, further_end hbest hx hfur, by walk_at "loc", by walk_at "loc", by walk_at "loc"⟩
  rintro ρ' H' ⟨d, xs, kp, hBd, hD, hbest, q1, q2, q3⟩
  dsimp only
  have cR := kp _ _ bR
  have cA : RowsAt H' as T := ⟨bA.len, fun j a r h1 h2 => kp _ _ (bA.at' j a r h1 h2)⟩
  have hsm : SmallKeys xs := hbest.snd.small (by omega)
  have hxl := small_len hsm hD.nd
  -- the first two rows
  refine xs_cons (ex_return (ev_cmpI (ev_sum ok (by walk_at "kd") g_sm (ev_comp ok (compOk_of hk (by decide +kernel)) (by decide +kernel) ?_))))
  refine itr_list ok.hand (ev_slice (PV.ev (v := .ref R) (by walk_at "pv") ⟨R, _, _, none, some 2, rfl, cR, by rw [refs_len]; omega, rfl, ⟨2, rfl, pv_int⟩, fun D5 hD5 => ?_⟩))
  rw [show (some (2 : Int)) = some ((2 : Nat) : Int) from rfl, cut_upto, show (refs as).take 2 = refs (as.take 2) by unfold refs; rw [List.map_take]]
  have kD := kp.new (o := .list (refs (as.take 2))) hD5
  have cA5 := cA.keepNew (o := .list (refs (as.take 2))) hD5
  have hD5' := hD.new (o := .list (refs (as.take 2))) hD5
  have h5 : (H'.set D5 (.list (refs (as.take 2)))) D5 = some (.list (refs (as.take 2)), true) := Hp.set_same
  generalize H'.set D5 (.list (refs (as.take 2))) = H6 at kD cA5 hD5' h5 ⊢
  refine ⟨D5, _, _, rfl, h5, ?_⟩
  rw [refs_len]
  refine ⟨by rw [List.length_take]; omega, fun j ys H'' => H'' = H6 ∧ ys = zs (((T.take 2).take j).map fun r => (r.length : Int)), ⟨rfl, by simp [zs]⟩, fun _ _ _ h => by rw [h.1]; exact ⟨_, h5⟩, ?_, ?_⟩
  · rintro C j ys H'' hj ⟨rfl, rfl⟩ ok'
    rw [List.length_take] at hj
    obtain ⟨a, ha⟩ : ∃ a, as[j]? = some a := ⟨_, List.getElem?_eq_getElem (by omega)⟩
    obtain ⟨r, hr⟩ : ∃ r, T[j]? = some r := ⟨_, List.getElem?_eq_getElem (by omega)⟩
    have hHa := cA5.at' j a r ha hr
    have hrl := (hsz.2 r (List.mem_of_getElem? hr)).1
    dsimp only
    have ha2 : (as.take 2)[j]? = some a := by rw [List.getElem?_take, if_pos (by omega)]; exact ha
    have hr2 : (T.take 2)[j]? = some r := by rw [List.getElem?_take, if_pos (by omega)]; exact hr
    rw [show (refs (as.take 2)).getD j AV.none = .ref a by rw [List.getD_eq_getElem?_getD, refs_get ha2]; rfl]
    refine ifs_nil ?_
    rw [if_pos rfl]
    refine PV.ev (pv_lenZ ok' (by walk_at "kd") g_len (by walk_at "pv") hHa (by omega)) ⟨rfl, ?_⟩
    have etk : (T.take 2).take (j + 1) = (T.take 2).take j ++ [r] := by
      generalize T.take 2 = T2 at hr2 ⊢
      rw [List.take_add_one, hr2]; rfl
    rw [etk, List.map_append, zs_append]; rfl
  rintro ys H'' ⟨rfl, rfl⟩ D6 hD6
  have hD6' := hD5'.new (o := .list (zs (((T.take 2).take (as.take 2).length).map fun r => (r.length : Int)))) hD6
  have hsum : ((((T.take 2).take (as.take 2).length).map fun r => (r.length : Int))).sum = (two0 T : Nat) := by
    have e : (T.take 2).take (as.take 2).length = T.take 2 := by
      rw [List.take_take, List.length_take, lenA]
      rcases Nat.lt_or_ge T.length 2 with q | q
      · rw [List.take_of_length_le (by omega), List.take_of_length_le (by omega)]
      · rw [show min (min 2 T.length) 2 = 2 by omega]
    rw [e]
    match T with
    | [] => rfl
    | [r] => simp [two0, hd0]
    | r :: s :: T' => simp [two0, hd0]
  refine ⟨D6, _, _, rfl, Hp.set_same, ?_⟩
  rw [hsum]
  generalize Hp.set H'' D6 (.list (zs (((T.take 2).take (as.take 2).length).map fun r => (r.length : Int)))) = H7 at hD6' ⊢
  -- the best
  refine ev_maxL ok (by walk_at "kd") g_mx (ev_comp ok (compOk_of hk (by decide +kernel)) (by decide +kernel) ?_)
  refine itr_dict ok (PV.ev (v := .ref d) (by walk_at "pv") ⟨d, xs, rfl, hD6', fun o ho => ?_⟩)
  refine ⟨by omega, fun j ys H'' => H'' = H7 ∧ ∃ vs : List Int, ys = zs vs ∧ vs.length = j ∧ (∀ v ∈ vs, ∃ (a b : Int) (n : Nat), v = n ∧ Cf ns ns.length a b n) ∧ ∀ (t : Nat) (z : List Int × Addr × Value) (n : Nat), t < j → xs[t]? = some z → abs z.2.2 = .int n → (n : Int) ∈ vs,
    ⟨rfl, [], rfl, rfl, by simp, fun t _ _ ht => by omega⟩, fun _ _ _ h => by rw [h.1]; exact ho, ?_, ?_⟩
  · rintro C j ys H'' hj ⟨rfl, vs, rfl, hvl, hv1, hv2⟩ ok'
    obtain ⟨ky, ad, vv, hxj⟩ : ∃ ky ad vv, xs[j]? = some (ky, ad, vv) := ⟨_, _, _, List.getElem?_eq_getElem hj⟩
    obtain ⟨a, b, n, e1, e2, e3, hcf⟩ := hbest.snd _ (List.mem_of_getElem? hxj)
    dsimp only at e1 e2
    subst e1
    obtain ⟨a', b', fl, e4, hHad⟩ := hD6'.key _ (List.mem_of_getElem? hxj)
    dsimp only at e4 hHad
    have e5 : a = a' ∧ b = b' := by simpa using e4
    obtain ⟨rfl, rfl⟩ := e5
    have hkv : keyVal xs j = .ref ad := by unfold keyVal; rw [hxj]
    rw [hkv]
    refine ifs_nil ?_
    rw [if_pos rfl]
    refine ev_getD ok' rfl (PV.ev (v := .ref d) (by walk_at "pv") (PV.ev (v := .ref ad) (by walk_at "pv") ⟨d, ad, xs, a, b, fl, (ad, vv), rfl, rfl, hD6'.comp, hHad, atKey_of_get hD6'.nd hxj, ?_⟩))
    dsimp only
    rw [e2]
    refine ⟨rfl, vs ++ [(n : Int)], by rw [zs_append]; rfl, by simp [hvl], fun v hv => ?_, fun t z m ht hz hm => ?_⟩
    · rcases List.mem_append.mp hv with q | q
      · exact hv1 v q
      · simp at q; exact ⟨a, b, n, q, hcf⟩
    · rcases Nat.lt_or_ge t j with q | q
      · exact List.mem_append_left _ (hv2 t z m q hz hm)
      · have : t = j := by omega
        subst this
        rw [hxj] at hz; cases hz
        rw [e2] at hm
        injection hm with hm
        exact List.mem_append_right _ (by simp; omega)
  rintro ys H'' ⟨rfl, vs, rfl, hvl, hv1, hv2⟩ D8 hD8
  refine ⟨D8, vs, _, rfl, Hp.set_same, ?_, fun Mx hM hle => ?_⟩
  · rw [hvl]; exact List.length_pos_iff.mpr hbest.ne
  refine ⟨_, Mx, _, rfl, rfl, rfl, ?_⟩
  have h1 : (two0 T : Int) ≤ Mx := by
    obtain ⟨a, b, hc⟩ := (cf_two _).mpr gr1
    obtain ⟨m, ⟨p, hp, hv⟩, hm⟩ := hbest.cmp a b _ hc
    obtain ⟨t, ht⟩ := List.getElem?_of_mem (atKey_mem hp)
    have := hle _ (hv2 t _ m (List.getElem?_eq_some_iff.mp ht).1 ht hv)
    omega
  have h2 : Mx ≤ (two0 T : Int) := by
    obtain ⟨a, b, n, rfl, hc⟩ := hv1 Mx hM
    have := gr2 n ((cf_two n).mp ⟨a, b, hc⟩)
    omega
  have : (two0 T : Int) = Mx := by omega
  rw [this, beq_self_eq_true]

end Mine

set_option maxRecDepth 100000 in
set_option maxHeartbeats 8000000 in
theorem PySem.Challenge.cw_da0001_03_holds : PySem.Challenge.rw_da0001_03.Holds := by
  w_on
  o_law
  k_head
  (case hw => w_witness2)
  k_fill
  intro w s₀ s₁ mg mb G Y fa o pm cd doc dV kV ho hd hcd hD hmg hg args vals as hpre hlay hrd hwl hlo
  have KX := kIn_of Y
  refine Ground.open G ?_
  intro T B D TE TW
  clear hmg
  wrow_args hpre hlay hrd hwl hlo
  first | refine callC_kw (enter_call ?_) | refine enter_call ?_ | refine callC_kw (enter_callW ?_) | refine enter_callW ?_ | w_how
  try refine codeAny_mono ?_ (fun _ _ g => GoodW.toG g)
  have he := Dflts.none hD rfl; subst he; have he := Dflts.noKw hD; subst he
  rename IntsAre _ _ => hI
  rename Heap.IsList _ _ _ => hL
  rename (¬ (_ < _)) => hlen
  refine Mine.law_enter ho (fd_plain hd) T KX hcd hL hI rfl (by decide +kernel) (by decide +kernel) (by decide +kernel) rfl rfl rfl (fun c ok okc hK hs own => ?_) (fun s' m F sm => ?_)
  · refine Mine.law_main ok okc hs own (by omega) ?_
    rw [hK]
    exact ⟨rfl, rfl, rfl, rfl, rfl, rfl, ⟨_, _, _, _, _, _, _, _, _, _, _, ⟨⟨rfl, rfl, rfl⟩, fun _ _ => ⟨_, fun s X => kp_binds X (fun S => rfl)⟩, fun _ _ _ _ s X => kp_binds X (fun S => rfl)⟩⟩, ⟨_, _, _, _, _, _, _, _, _, _, _, ⟨⟨rfl, rfl, rfl⟩, fun _ s X => kp_binds X (fun S => rfl)⟩⟩⟩
  · obtain ⟨h, tk, rfl⟩ := sm
    exact goodW_bool F hg (raisesW_false (by intro ct h; cases h)) (postW_of rfl rfl (by decide +kernel)) rfl

