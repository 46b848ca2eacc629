import PyProof.Rows.All
import Wide.All
import OpenK.AllK
import Wide.FinOn
import PySem.Challenge.RW_da0001_01
open PySem PySem.W PySem.Calls PyProof.Rows
set_option Elab.async false
set_option maxRecDepth 100000
set_option linter.all false
set_option linter.unusedVariables false
set_option linter.unusedSimpArgs false
set_option maxHeartbeats 2000000
namespace Mine
/-- values without their tokens -/
inductive AV where
  | int (i : Int) | bool (b : Bool) | none | ref (a : Addr) | bi (id : String) | ty (n : String) | oth
def abs : Value → AV
  | .int i _ => .int i
  | .bool b => .bool b
  | .none => .none
  | .ref a => .ref a
  | .builtin i => .bi i
  | .type n => .ty n
  | _ => .oth
theorem abs_int {y : Value} {i : Int} (h : abs y = .int i) : ∃ t, y = .int i t := by
  cases y <;> simp [abs] at h; subst h; exact ⟨_, rfl⟩
theorem abs_bool {y : Value} {b : Bool} (h : abs y = .bool b) : y = .bool b := by
  cases y <;> simp [abs] at h; subst h; rfl
theorem abs_none {y : Value} (h : abs y = .none) : y = .none := by
  cases y <;> simp [abs] at h; rfl
theorem abs_ref {y : Value} {a : Addr} (h : abs y = .ref a) : y = .ref a := by
  cases y <;> simp [abs] at h; subst h; rfl
abbrev Loc := Str → Option AV
def Loc.set (ρ : Loc) (x : Str) (v : AV) : Loc := fun y => if y = x then some v else ρ y
/-- what an object holds -/
inductive AObj where
  | list (xs : List AV)
  | tup (xs : List AV)
  | dict (es : List (AV × AV))
  | raw (ob : Obj)
abbrev Hp := Addr → Option (AObj × Bool)
def Hp.set (H : Hp) (a : Addr) (o : AObj) : Hp := fun b => if b = a then some (o, true) else H b
def ORep (o : AObj) (own : Bool) (ob : Obj) : Prop := match o with
  | .list xs => ∃ its n, ob.cls = .type "list" ∧ ob.data = .seq its n ∧ its.toList.map abs = xs ∧ (own = true → ob = { cls := .type "list", data := .seq its n })
  | .tup xs => ∃ its n, ob.cls = .type "tuple" ∧ ob.data = .seq its n ∧ its.toList.map abs = xs ∧ (own = true → ob = { cls := .type "tuple", data := .seq its n })
  | .dict es => ∃ en n, ob = { cls := .type "dict", data := .dict en n } ∧ en.toList.map (fun e => (abs e.key, abs e.val)) = es
  | .raw o => ob = o
def AObj.plain : AObj → Bool
  | .raw _ => false
  | _ => true
theorem ORep.not_cell {o : AObj} {own : Bool} {ob : Obj} (h : ORep o own ob) (hp : o.plain = true) (v : Option Value) : ob.data ≠ .cell v := by
  cases o with
  | list xs => obtain ⟨its, n, _, hd, _⟩ := h; rw [hd]; exact nofun
  | tup xs => obtain ⟨its, n, _, hd, _⟩ := h; rw [hd]; exact nofun
  | dict es => obtain ⟨en, n, he, _⟩ := h; rw [he]; exact nofun
  | raw o => exact absurd hp (by simp [AObj.plain])
structure Cx where
  prog : Program
  w : World
  A : Around
  env : Env
  h₀ : Heap
  own : Bool
  K : Frag
abbrev Cx.L (c : Cx) : Addr := c.env.locals
abbrev Cx.M (c : Cx) : Model := model c.prog c.w
def HasP (c : Cx) (a : Addr) (o : AObj) (b : Bool) (h : Heap) : Prop :=
  ∃ ob, h.get? a = some ob ∧ ORep o b ob ∧ (b = true → a ≠ c.L ∧ c.h₀.get? a = none) ∧ (b = false → c.h₀.get? a = some ob)
def Has (c : Cx) (H : Hp) (h : Heap) : Prop := ∀ a o b, H a = some (o, b) → HasP c a o b h
def cellKind (env : Env) (x : Str) : Prop := env.kindOf x = some .cell ∨ env.kindOf x = some .free
structure St (c : Cx) (ρ : Loc) (H F : Hp) (s : Shared) : Prop where
  ns : ∃ m, s.heap.Ns c.L m ∧ ∀ x v, ρ x = some v → c.env.kindOf x = some .local → ∃ y, m x = some y ∧ abs y = v
  cel : ∀ x a, c.env.cells.lookup x = some a → ∃ ob o, s.heap.get? a = some ob ∧ ob.data = .cell o ∧ a ≠ c.L ∧ (c.h₀.get? a = none ∨ c.h₀.get? a = some ob) ∧
    H a = none ∧ (c.own = true → c.h₀.get? a = none ∧ F a = none) ∧ ∀ v, ρ x = some v → cellKind c.env x → ∃ y, o = some y ∧ abs y = v
  keep : ∀ b o, c.h₀.get? b = some o → s.heap.get? b = some o
  above : c.h₀.objs.size ≤ c.L
  has : Has c H s.heap
  hasF : Has c F s.heap
  dis : ∀ a, H a ≠ none → F a = none
def Same (s s' : Shared) : Prop := ∃ h tk, s' = { s with heap := h, toks := tk }
theorem Same.refl (s : Shared) : Same s s := ⟨s.heap, s.toks, rfl⟩
theorem Same.trans {s s₁ s₂ : Shared} (h : Same s s₁) (h' : Same s₁ s₂) : Same s s₂ := by
  obtain ⟨a, b, rfl⟩ := h; obtain ⟨d, e, rfl⟩ := h'; exact ⟨d, e, rfl⟩
/-- from one moment to a later one: the world's rest is the same, and nothing new is known of what may not change -/
structure Stp (s : Shared) (H : Hp) (s' : Shared) (H' : Hp) : Prop where
  same : Same s s'
  fz : ∀ a o, H' a = some (o, false) → H a = some (o, false)
theorem Stp.refl (s : Shared) {H : Hp} : Stp s H s H := ⟨.refl s, fun _ _ e => e⟩
theorem Stp.trans {s s₁ s₂ : Shared} {H H₁ H₂ : Hp} (h : Stp s H s₁ H₁) (h' : Stp s₁ H₁ s₂ H₂) : Stp s H s₂ H₂ := ⟨h.same.trans h'.same, fun a o e => h.fz a o (h'.fz a o e)⟩
theorem Stp.mem (s : Shared) (h : Heap) (tk : Nat) {H : Hp} : Stp s H { s with heap := h, toks := tk } H := ⟨⟨h, tk, rfl⟩, fun _ _ e => e⟩
theorem Stp.set (s : Shared) (h : Heap) (tk : Nat) {H : Hp} {a : Addr} {o : AObj} : Stp s H { s with heap := h, toks := tk } (H.set a o) := ⟨⟨h, tk, rfl⟩, fun b o' e => by
  simp only [Hp.set] at e; split at e
  · cases e
  · exact e⟩
/-- a triple: from locals ρ and objects H the tree ends, no exception, in Φ -/
def Tri {α : Type} (c : Cx) (ρ : Loc) (H : Hp) (t : Sem α) (Φ : α → Loc → Hp → Prop) : Prop :=
  ∀ F s, St c ρ H F s → wpAny c.M c.A t (fun a s' => ∃ ρ' H', Stp s H s' H' ∧ St c ρ' H' F s' ∧ Φ a ρ' H') (fun _ _ => False) s
theorem Tri.mono {α : Type} {c : Cx} {ρ : Loc} {H : Hp} {t : Sem α} {Φ Ψ : α → Loc → Hp → Prop} (h : Tri c ρ H t Φ) (hi : ∀ a ρ' H', Φ a ρ' H' → Ψ a ρ' H') : Tri c ρ H t Ψ :=
  fun F s st => wpAny_mono (h F s st) (fun a s' ⟨ρ', H', sm, st', p⟩ => ⟨ρ', H', sm, st', hi _ _ _ p⟩) fun _ _ x => x
theorem Tri.pure {α : Type} {c : Cx} {ρ : Loc} {H : Hp} {a : α} {Φ : α → Loc → Hp → Prop} (h : Φ a ρ H) : Tri c ρ H (Pure.pure a) Φ :=
  fun _ s st => wpAny_pure ⟨ρ, H, .refl s, st, h⟩
/-- use: a triple in the place of a wpAny with a post of its own -/
theorem Tri.use {α : Type} {c : Cx} {ρ : Loc} {H F : Hp} {t : Sem α} {Φ : α → Loc → Hp → Prop} {s : Shared} {Q : α → Shared → Prop} {E : Value → Shared → Prop}
    (h : Tri c ρ H t Φ) (st : St c ρ H F s) (k : ∀ a s' ρ' H', Stp s H s' H' → St c ρ' H' F s' → Φ a ρ' H' → Q a s') : wpAny c.M c.A t Q E s :=
  wpAny_mono (h F s st) (fun a s' ⟨ρ', H', sm, st', p⟩ => k a s' ρ' H' sm st' p) fun _ _ x => x.elim
theorem HasP.keeps {c : Cx} {a : Addr} {o : AObj} {b : Bool} {h h' : Heap} (x : HasP c a o b h) (hk : ∀ o, a ≠ c.L → h.get? a = some o → h'.get? a = some o) (hab : c.h₀.objs.size ≤ c.L) : HasP c a o b h' := by
  obtain ⟨ob, ho, hr, h1, h2⟩ := x
  refine ⟨ob, hk ob ?_ ho, hr, h1, h2⟩
  cases b with
  | true => exact (h1 rfl).1
  | false => intro e; have := Heap.lt_size (h2 rfl); rw [e] at this; exact absurd this (Nat.not_lt_of_le hab)
/-- everything but the frame's own names stays; the names are the same -/
theorem St.keeps {c : Cx} {ρ : Loc} {H F : Hp} {s : Shared} {h' : Heap} {tk : Nat} (st : St c ρ H F s) (hk : ∀ b o, b ≠ c.L → s.heap.get? b = some o → h'.get? b = some o)
    (hn : ∀ m, s.heap.Ns c.L m → h'.Ns c.L m) : St c ρ H F { s with heap := h', toks := tk } := by
  obtain ⟨⟨m, hm, hv⟩, hc, hkp, hab, hh, hf, hd⟩ := st
  refine ⟨⟨m, hn m hm, hv⟩, fun x a e => ?_, fun b o e => hk b o ?_ (hkp b o e), hab, fun a o b e => (hh a o b e).keeps (fun o' n e' => hk a o' n e') hab, fun a o b e => (hf a o b e).keeps (fun o' n e' => hk a o' n e') hab, hd⟩
  · obtain ⟨ob, o, g, d, ne, r⟩ := hc x a e
    exact ⟨ob, o, hk a ob ne g, d, ne, r⟩
  · intro e'; have := Heap.lt_size e; rw [e'] at this; exact absurd this (Nat.not_lt_of_le hab)
theorem St.toks {c : Cx} {ρ : Loc} {H F : Hp} {s : Shared} {tk : Nat} (st : St c ρ H F s) : St c ρ H F { s with toks := tk } :=
  st.keeps (h' := s.heap) (fun _ _ _ e => e) fun _ e => e
theorem St.keepsAll {c : Cx} {ρ : Loc} {H F : Hp} {s : Shared} {h' : Heap} {tk : Nat} (st : St c ρ H F s) (hk : ∀ b o, s.heap.get? b = some o → h'.get? b = some o) : St c ρ H F { s with heap := h', toks := tk } :=
  st.keeps (fun b o _ e => hk b o e) fun _ hn => hn.keeps hk
theorem St.fresh {c : Cx} {ρ : Loc} {H F : Hp} {s : Shared} {a : Addr} (st : St c ρ H F s) (ha : s.heap.get? a = none) : H a = none ∧ F a = none := by
  constructor
  · cases e : H a with
    | none => rfl
    | some p => obtain ⟨ob, g, _⟩ := st.has a p.1 p.2 e; rw [ha] at g; cases g
  · cases e : F a with
    | none => rfl
    | some p => obtain ⟨ob, g, _⟩ := st.hasF a p.1 p.2 e; rw [ha] at g; cases g
theorem St.Llt {c : Cx} {ρ : Loc} {H F : Hp} {s : Shared} (st : St c ρ H F s) : c.L < s.heap.objs.size := by
  obtain ⟨m, hm, _⟩ := st.ns; exact hm.lt
/-- a new object of the call -/
theorem St.alloc {c : Cx} {ρ : Loc} {H F : Hp} {s : Shared} {h' : Heap} {tk : Nat} {a : Addr} {ob : Obj} {o : AObj} (st : St c ρ H F s) (ha : s.heap.get? a = none) (hk : ∀ b o, s.heap.get? b = some o → h'.get? b = some o)
    (ho : h'.get? a = some ob) (hr : ORep o true ob) : St c ρ (H.set a o) F { s with heap := h', toks := tk } := by
  have st' := st.keepsAll (tk := tk) hk
  have hfr := st.fresh ha
  have hL : a ≠ c.L := by
    intro e; obtain ⟨m, ⟨o', es, ep, ho', _⟩, _⟩ := st.ns; rw [← e, ha] at ho'; cases ho'
  have h0 : c.h₀.get? a = none := by
    cases e : c.h₀.get? a with
    | none => rfl
    | some p => have := st.keep a p e; rw [ha] at this; cases this
  refine ⟨st'.ns, fun x b e => ?_, st'.keep, st'.above, fun b o' fl e => ?_, st'.hasF, fun b hb => ?_⟩
  · obtain ⟨ob', o', g, d, ne, r1, r0, r2, r3⟩ := st.cel x b e
    refine ⟨ob', o', hk b ob' g, d, ne, r1, ?_, r2, r3⟩
    have : b ≠ a := by intro q; rw [q, ha] at g; cases g
    simp only [Hp.set, if_neg this]; exact r0
  · by_cases q : b = a
    · subst q; simp only [Hp.set, if_pos rfl] at e; cases e
      exact ⟨ob, ho, hr, fun _ => ⟨hL, h0⟩, fun x => by cases x⟩
    · simp only [Hp.set, if_neg q] at e; exact st'.has b o' fl e
  · by_cases q : b = a
    · subst q; exact hfr.2
    · simp only [Hp.set, if_neg q] at hb; exact st.dis b hb
/-- an object of the call's own is changed -/
theorem St.upd {c : Cx} {ρ : Loc} {H F : Hp} {s : Shared} {h' : Heap} {tk : Nat} {a : Addr} {ob' : Obj} {o o' : AObj} (st : St c ρ H F s) (ha : H a = some (o, true)) (hp : o.plain = true) (hs : Heap.SameBut a s.heap h')
    (ho : h'.get? a = some ob') (hr : ORep o' true ob') : St c ρ (H.set a o') F { s with heap := h', toks := tk } := by
  obtain ⟨ob, hob, hrep, hown, _⟩ := st.has a o true ha
  obtain ⟨hL, h0⟩ := hown rfl
  obtain ⟨m, hm, hv⟩ := st.ns
  have hFa : F a = none := st.dis a (by rw [ha]; exact nofun)
  refine ⟨⟨m, hm.extBut hs.extBut (Ne.symm hL), hv⟩, fun x b e => ?_, fun b o e => hs.extBut b o (fun q => by rw [q, h0] at e; cases e) (st.keep b o e), st.above, fun b o₁ fl e => ?_, fun b o₁ fl e => ?_, fun b hb => ?_⟩
  · obtain ⟨ob₁, o₁, g, d, ne, r1, r0, r2, r3⟩ := st.cel x b e
    have hne : b ≠ a := by
      intro q; rw [q, ha] at r0; cases r0
    refine ⟨ob₁, o₁, hs.extBut b ob₁ hne g, d, ne, r1, ?_, r2, r3⟩
    simp only [Hp.set, if_neg hne]; exact r0
  · by_cases q : b = a
    · subst q; simp only [Hp.set, if_pos rfl] at e; cases e
      exact ⟨ob', ho, hr, fun _ => ⟨hL, h0⟩, fun x => by cases x⟩
    · simp only [Hp.set, if_neg q] at e
      exact (st.has b o₁ fl e).keeps (fun o₂ _ e' => hs.extBut b o₂ q e') st.above
  · have q : b ≠ a := by intro q; rw [q, hFa] at e; cases e
    exact (st.hasF b o₁ fl e).keeps (fun o₂ _ e' => hs.extBut b o₂ q e') st.above
  · by_cases q : b = a
    · subst q; exact hFa
    · simp only [Hp.set, if_neg q] at hb; exact st.dis b hb
/-- every object that is not of the base nor the frame's -/
def allNews (h₀ : Heap) (L : Addr) (h : Heap) : List (Addr × Obj) :=
  (List.range h.objs.size).filterMap fun a => if a = L then none else match h₀.get? a, h.get? a with
    | none, some o => some (a, o)
    | _, _ => none
theorem mem_allNews {h₀ h : Heap} {L a : Addr} {o : Obj} : (a, o) ∈ allNews h₀ L h ↔ a ≠ L ∧ h₀.get? a = none ∧ h.get? a = some o := by
  unfold allNews
  rw [List.mem_filterMap]
  constructor
  · rintro ⟨b, _, e⟩
    split at e
    · cases e
    · rename_i hne
      split at e
      · rename_i x y; cases e; exact ⟨hne, x, y⟩
      · cases e
  · rintro ⟨h1, h2, h3⟩
    exact ⟨a, List.mem_range.mpr (Heap.lt_size h3), by rw [if_neg h1, h2, h3]⟩
theorem allNews_news {h₀ h : Heap} {L : Addr} : News h₀ L h (allNews h₀ L h) := fun p hp => by
  obtain ⟨a, o⟩ := p
  obtain ⟨h1, h2, h3⟩ := mem_allNews.mp hp
  exact ⟨h3, h1, h2⟩
theorem St.fr {c : Cx} {ρ : Loc} {H F : Hp} {s : Shared} (st : St c ρ H F s) : ∃ m, Fr c.h₀ c.L s.heap m ∧ ∀ x v, ρ x = some v → c.env.kindOf x = some .local → ∃ y, m x = some y ∧ abs y = v := by
  obtain ⟨m, hm, hv⟩ := st.ns; exact ⟨m, ⟨hm, st.keep, st.above⟩, hv⟩
theorem kept_of_news {h₀ h h' : Heap} {L : Addr} {m m' : Str → Option Value} (F : Fr h₀ L h m) (F' : Fr h₀ L h' m') (N' : News h₀ L h' (allNews h₀ L h)) : ∀ b o, b ≠ L → h.get? b = some o → h'.get? b = some o := by
  intro b o hb e
  cases e0 : h₀.get? b with
  | none => exact (N' _ (mem_allNews.mpr ⟨hb, e0, e⟩)).1
  | some o' => have := F.keep b o' e0; rw [e] at this; cases this; exact F'.keep b o e0
/-- the library's rules upon a frame and a ledger that they leave as they are -/
theorem St.via {c : Cx} {ρ : Loc} {H F : Hp} {s : Shared} (st : St c ρ H F s) : ∃ m, Fr c.h₀ c.L s.heap m ∧ News c.h₀ c.L s.heap (allNews c.h₀ c.L s.heap) ∧
    ∀ h' tk, Fr c.h₀ c.L h' m → News c.h₀ c.L h' (allNews c.h₀ c.L s.heap) → St c ρ H F { s with heap := h', toks := tk } := by
  obtain ⟨m, hm, hv⟩ := st.fr
  refine ⟨m, hm, allNews_news, fun h' tk F' N' => ?_⟩
  have hk := kept_of_news hm F' N'
  have st' := st.keeps (h' := h') (tk := tk) (fun b o hb e => hk b o hb e)
  obtain ⟨m₁, hm₁, _⟩ := st.ns
  refine ⟨⟨m, F'.ns, hv⟩, fun x a e => ?_, F'.keep, st.above, fun a o b e => (st.has a o b e).keeps (fun o' n e' => hk a o' n e') st.above, fun a o b e => (st.hasF a o b e).keeps (fun o' n e' => hk a o' n e') st.above, st.dis⟩
  obtain ⟨ob, o, g, d, ne, r⟩ := st.cel x a e
  exact ⟨ob, o, hk a ob ne g, d, ne, r⟩
def gl (K : Frag) (x : Str) : Option Value := match nsIn K mainGlobals x with
  | some (some v) => some v
  | some none => bootBuiltins x
  | none => none
structure Ok (c : Cx) : Prop where
  kin : c.K.In c.h₀
  top : ∃ p loose mean mg mb, Top p loose mean mg mb c.h₀
  kind : c.env.scope.kind = .function
  glob : c.env.globals = mainGlobals
  blt : c.env.builtins = builtinsNs
  hand : c.A.handled = none
  depth : c.A.depth < 900
  units : c.A.units < 500
  cells : ∀ x, cellKind c.env x → ∃ a, c.env.cells.lookup x = some a
  inj : c.own = true → ∀ x y a, c.env.cells.lookup x = some a → c.env.cells.lookup y = some a → x = y
def EV (c : Cx) (ρ : Loc) (H : Hp) (e : Expr) (Φ : AV → Hp → Prop) : Prop := Tri c ρ H (eval e c.env) fun y ρ' H' => ρ' = ρ ∧ Φ (abs y) H'
def PV (c : Cx) (ρ : Loc) (H : Hp) (e : Expr) (v : AV) : Prop := EV c ρ H e fun v' H' => v' = v ∧ H' = H
def TV (c : Cx) (ρ : Loc) (H : Hp) (e : Expr) (Φ : Bool → Hp → Prop) : Prop := Tri c ρ H (isTrue e c.env (eval e c.env)) fun b ρ' H' => ρ' = ρ ∧ Φ b H'
def PT (c : Cx) (ρ : Loc) (H : Hp) (e : Expr) (b : Bool) : Prop := TV c ρ H e fun b' H' => b' = b ∧ H' = H
/-- an operation upon values known by what they hold -/
def OV (c : Cx) (ρ : Loc) (H : Hp) (t : Sem Value) (Φ : AV → Hp → Prop) : Prop := Tri c ρ H t fun y ρ' H' => ρ' = ρ ∧ Φ (abs y) H'
inductive AF where
  | next | brk | cont | ret (v : AV)
def absF : Flow → AF
  | .next => .next
  | .brk => .brk
  | .cont => .cont
  | .ret v => .ret (abs v)
def EX (c : Cx) (ρ : Loc) (H : Hp) (e : Stmt) (Φ : AF → Loc → Hp → Prop) : Prop := Tri c ρ H (exec e c.env) fun y ρ' H' => Φ (absF y) ρ' H'
def XS (c : Cx) (ρ : Loc) (H : Hp) (e : List Stmt) (Φ : AF → Loc → Hp → Prop) : Prop := Tri c ρ H (execs e c.env) fun y ρ' H' => Φ (absF y) ρ' H'
section
variable {c : Cx} {ρ : Loc} {H : Hp}
theorem EV.mono {e : Expr} {Φ Ψ : AV → Hp → Prop} (h : EV c ρ H e Φ) (hi : ∀ v H', Φ v H' → Ψ v H') : EV c ρ H e Ψ := Tri.mono h fun _ _ _ ⟨a, b⟩ => ⟨a, hi _ _ b⟩
theorem TV.mono {e : Expr} {Φ Ψ : Bool → Hp → Prop} (h : TV c ρ H e Φ) (hi : ∀ v H', Φ v H' → Ψ v H') : TV c ρ H e Ψ := Tri.mono h fun _ _ _ ⟨a, b⟩ => ⟨a, hi _ _ b⟩
theorem OV.mono {e : Sem Value} {Φ Ψ : AV → Hp → Prop} (h : OV c ρ H e Φ) (hi : ∀ v H', Φ v H' → Ψ v H') : OV c ρ H e Ψ := Tri.mono h fun _ _ _ ⟨a, b⟩ => ⟨a, hi _ _ b⟩
theorem EX.mono {e : Stmt} {Φ Ψ : AF → Loc → Hp → Prop} (h : EX c ρ H e Φ) (hi : ∀ v ρ' H', Φ v ρ' H' → Ψ v ρ' H') : EX c ρ H e Ψ := Tri.mono h fun _ _ _ b => hi _ _ _ b
theorem XS.mono {e : List Stmt} {Φ Ψ : AF → Loc → Hp → Prop} (h : XS c ρ H e Φ) (hi : ∀ v ρ' H', Φ v ρ' H' → Ψ v ρ' H') : XS c ρ H e Ψ := Tri.mono h fun _ _ _ b => hi _ _ _ b
theorem PV.ev {e : Expr} {v : AV} {Φ : AV → Hp → Prop} (h : PV c ρ H e v) (hi : Φ v H) : EV c ρ H e Φ := EV.mono h fun _ _ ⟨a, b⟩ => by subst a b; exact hi
theorem PT.tv {e : Expr} {v : Bool} {Φ : Bool → Hp → Prop} (h : PT c ρ H e v) (hi : Φ v H) : TV c ρ H e Φ := TV.mono h fun _ _ ⟨a, b⟩ => by subst a b; exact hi
/-- from a rule of the library with a post of one's own -/
theorem Tri.of {α : Type} {t : Sem α} {Φ : α → Loc → Hp → Prop}
    (h : ∀ F s (Q : α → Shared → Prop), St c ρ H F s → (∀ a s' ρ' H', Stp s H s' H' → St c ρ' H' F s' → Φ a ρ' H' → Q a s') → wpAny c.M c.A t Q (fun _ _ => False) s) : Tri c ρ H t Φ :=
  fun F s st => h F s _ st fun a s' ρ' H' sm st' p => ⟨ρ', H', sm, st', p⟩
theorem pv_int {i : Int} {k pos} : PV c ρ H (.Constant (.int i) k pos) (.int i) :=
  Tri.of fun F s Q st k => wpAny_Constant_int (k _ _ ρ H (.mem s s.heap _) st.toks ⟨rfl, rfl, rfl⟩)
theorem pv_none {k pos} : PV c ρ H (.Constant .none k pos) .none :=
  Tri.of fun F s Q st k => wpAny_Constant_none (k _ _ ρ H (.refl s) st ⟨rfl, rfl, rfl⟩)
theorem pv_bool {b k pos} : PV c ρ H (.Constant (.bool b) k pos) (.bool b) :=
  Tri.of fun F s Q st k => wpAny_Constant_bool (k _ _ ρ H (.refl s) st ⟨rfl, rfl, rfl⟩)
theorem pv_local {x : Str} {pos : Pos} {v : AV} (ok : Ok c) (hl : c.env.kindOf x = some .local) (hv : ρ x = some v) (hd : (x == ("__debug__" : Str)) = false := by decide +kernel) : PV c ρ H (.Name x pos) v :=
  Tri.of fun F s Q st k => by
    obtain ⟨m, hm, hr⟩ := st.ns
    obtain ⟨y, hy, e⟩ := hr x v hv hl
    exact wpAny_Name (wpAny_loadName_local ok.kind hl hm hy (k _ _ ρ H (.refl s) st ⟨rfl, e, rfl⟩)) hd
theorem pv_cell {x : Str} {pos : Pos} {v : AV} (ok : Ok c) (hl : c.env.kindOf x = some .cell) (hv : ρ x = some v) (hd : (x == ("__debug__" : Str)) = false := by decide +kernel) : PV c ρ H (.Name x pos) v :=
  Tri.of fun F s Q st k => by
    obtain ⟨a, hc⟩ := ok.cells x (.inl hl)
    obtain ⟨ob, o, g, d, _, _, _, _, r⟩ := st.cel x a hc
    obtain ⟨y, rfl, e⟩ := r v hv (.inl hl)
    exact wpAny_Name (wpAny_loadName_cell ok.kind hl hc ⟨ob, g, d⟩ (k _ _ ρ H (.refl s) st ⟨rfl, e, rfl⟩)) hd
theorem pv_free {x : Str} {pos : Pos} {v : AV} (ok : Ok c) (hl : c.env.kindOf x = some .free) (hv : ρ x = some v) (hd : (x == ("__debug__" : Str)) = false := by decide +kernel)
    (hn : (x == ("__classdict__" : Str)) = false := by decide +kernel) : PV c ρ H (.Name x pos) v :=
  Tri.of fun F s Q st k => by
    obtain ⟨a, hc⟩ := ok.cells x (.inr hl)
    obtain ⟨ob, o, g, d, _, _, _, _, r⟩ := st.cel x a hc
    obtain ⟨y, rfl, e⟩ := r v hv (.inr hl)
    exact wpAny_Name (wpAny_loadName_free ok.kind hl hc ⟨ob, g, d⟩ (k _ _ ρ H (.refl s) st ⟨rfl, e, rfl⟩) hn) hd
theorem gl_loads {x : Str} {pos : Pos} {v : Value} (ok : Ok c) (hl : c.env.kindOf x = some .globalImplicit) (hv : gl c.K x = some v) (hd : (x == ("__debug__" : Str)) = false := by decide +kernel) (hn : x ≠ ("__name__" : Str) := by decide +kernel)
    {F : Hp} {s : Shared} {Q : Value → Shared → Prop} {E : Value → Shared → Prop} (st : St c ρ H F s) (h : Q v s) : wpAny c.M c.A (eval (.Name x pos) c.env) Q E s := by
  obtain ⟨p, loose, mean, mg, mb, T⟩ := ok.top
  refine Name_function_global ok.kind hl ?_ hd
  have hg : s.heap.Ns c.env.globals mg := by rw [ok.glob]; exact T.g.keeps st.keep
  have hb : s.heap.Ns c.env.builtins mb := by rw [ok.blt]; exact T.b.keeps st.keep
  unfold gl at hv
  split at hv
  · rename_i v' e
    cases hv
    exact loadGlobal_global hg (mg_of ok.kin T.g e) h
  · rename_i e
    exact loadGlobal_builtin hg (mg_none_of ok.kin T.g e) hb ((T.builtins x hn).trans hv) h
  · cases hv
theorem behind_of {op : CmpOp} {r : Expr} (h : (op == .In || op == .NotIn) = false) : behindInMarks op r = false := by
  cases r <;> simp [behindInMarks, h]
theorem ev_bin {l r : Expr} {op : Operator} {pos : Pos} {Φ : AV → Hp → Prop} (h : EV c ρ H l fun a H₁ => EV c ρ H₁ r fun b H₂ => ∀ y z, abs y = a → abs z = b → OV c ρ H₂ (binaryOp op y z) Φ) : EV c ρ H (.BinOp l op r pos) Φ :=
  Tri.of fun F s Q st k => wpAny_BinOp (h.use st fun a s₁ ρ₁ H₁ sm₁ st₁ ⟨e₁, h₁⟩ => by
    subst e₁
    exact h₁.use st₁ fun b s₂ ρ₂ H₂ sm₂ st₂ ⟨e₂, h₂⟩ => by
      subst e₂
      exact (h₂ a b rfl rfl).use st₂ fun r s₃ ρ₃ H₃ sm₃ st₃ ⟨e₃, h₃⟩ => by
        subst e₃; exact k _ _ _ _ (sm₁.trans (sm₂.trans sm₃)) st₃ ⟨rfl, h₃⟩)
theorem ev_un {l : Expr} {op : UnaryOp} {pos : Pos} {Φ : AV → Hp → Prop} (h : EV c ρ H l fun a H₁ => ∀ y, abs y = a → OV c ρ H₁ (unaryOp op y) Φ) : EV c ρ H (.UnaryOp op l pos) Φ :=
  Tri.of fun F s Q st k => wpAny_UnaryOp (h.use st fun a s₁ ρ₁ H₁ sm₁ st₁ ⟨e₁, h₁⟩ => by
    subst e₁
    exact (h₁ a rfl).use st₁ fun r s₃ ρ₃ H₃ sm₃ st₃ ⟨e₃, h₃⟩ => by
        subst e₃; exact k _ _ _ _ (sm₁.trans sm₃) st₃ ⟨rfl, h₃⟩)
theorem ev_cmp {l r : Expr} {op : CmpOp} {pos : Pos} {Φ : AV → Hp → Prop} (hm : behindInMarks op r = false) (h : EV c ρ H l fun a H₁ => EV c ρ H₁ r fun b H₂ => ∀ y z, abs y = a → abs z = b → OV c ρ H₂ (compareOp op y z) Φ) : EV c ρ H (.Compare l [op] [r] pos) Φ :=
  Tri.of fun F s Q st k => wpAny_Compare1 (h.use st fun a s₁ ρ₁ H₁ sm₁ st₁ ⟨e₁, h₁⟩ => by
    subst e₁
    exact h₁.use st₁ fun b s₂ ρ₂ H₂ sm₂ st₂ ⟨e₂, h₂⟩ => by
      subst e₂
      exact (h₂ a b rfl rfl).use st₂ fun r s₃ ρ₃ H₃ sm₃ st₃ ⟨e₃, h₃⟩ => by
        subst e₃; exact k _ _ _ _ (sm₁.trans (sm₂.trans sm₃)) st₃ ⟨rfl, h₃⟩) hm
theorem ov_pure1 {op : Operator} {i j r : Int} (y z : Value) (hy : abs y = .int i) (hz : abs z = .int j)
    (h : ∀ t u (s : Shared) (Q : Value → Shared → Prop), Q (.int r s.toks) { s with toks := s.toks + 1 } → wpAny c.M c.A (binaryOp op (.int i t) (.int j u)) Q (fun _ _ => False) s) {Φ : AV → Hp → Prop} (hΦ : Φ (.int r) H) : OV c ρ H (binaryOp op y z) Φ :=
  Tri.of fun F s Q st k => by
    obtain ⟨t, rfl⟩ := abs_int hy
    obtain ⟨u, rfl⟩ := abs_int hz
    exact h t u s Q (k _ _ ρ H (.mem s s.heap _) st.toks ⟨rfl, hΦ⟩)
theorem ov_cmp1 {op : CmpOp} {i j : Int} {r : Bool} (y z : Value) (hy : abs y = .int i) (hz : abs z = .int j)
    (h : ∀ t u (s : Shared) (Q : Value → Shared → Prop), Q (.bool r) s → wpAny c.M c.A (compareOp op (.int i t) (.int j u)) Q (fun _ _ => False) s) {Φ : AV → Hp → Prop} (hΦ : Φ (.bool r) H) : OV c ρ H (compareOp op y z) Φ :=
  Tri.of fun F s Q st k => by
    obtain ⟨t, rfl⟩ := abs_int hy
    obtain ⟨u, rfl⟩ := abs_int hz
    exact h t u s Q (k _ _ ρ H (.refl s) st ⟨rfl, hΦ⟩)
theorem pv_bin_of {l r : Expr} {op : Operator} {pos : Pos} {a b v : AV} (hl : PV c ρ H l a) (hr : PV c ρ H r b) (h : ∀ y z, abs y = a → abs z = b → OV c ρ H (binaryOp op y z) fun v' H' => v' = v ∧ H' = H) : PV c ρ H (.BinOp l op r pos) v :=
  ev_bin (hl.ev (hr.ev h))
theorem pv_cmp_of {l r : Expr} {op : CmpOp} {pos : Pos} {a b v : AV} (hl : PV c ρ H l a) (hr : PV c ρ H r b) (hm : behindInMarks op r = false) (h : ∀ y z, abs y = a → abs z = b → OV c ρ H (compareOp op y z) fun v' H' => v' = v ∧ H' = H) : PV c ρ H (.Compare l [op] [r] pos) v :=
  ev_cmp hm (hl.ev (hr.ev h))
theorem pv_add {l r : Expr} {pos : Pos} {i j : Int} (hl : PV c ρ H l (.int i)) (hr : PV c ρ H r (.int j)) : PV c ρ H (.BinOp l .Add r pos) (.int (i + j)) :=
  pv_bin_of hl hr fun y z hy hz => ov_pure1 y z hy hz (fun _ _ _ _ h => PyProof.Rows.add_int h) ⟨rfl, rfl⟩
theorem pv_sub {l r : Expr} {pos : Pos} {i j : Int} (hl : PV c ρ H l (.int i)) (hr : PV c ρ H r (.int j)) : PV c ρ H (.BinOp l .Sub r pos) (.int (i - j)) :=
  pv_bin_of hl hr fun y z hy hz => ov_pure1 y z hy hz (fun _ _ _ _ h => PyProof.Rows.sub_int h) ⟨rfl, rfl⟩
theorem pv_fdiv {l r : Expr} {pos : Pos} {i j : Int} (hl : PV c ρ H l (.int i)) (hr : PV c ρ H r (.int j)) (h0 : j ≠ 0) (hj : j.natAbs < 1073741824) : PV c ρ H (.BinOp l .FloorDiv r pos) (.int (i.fdiv j)) :=
  pv_bin_of hl hr fun y z hy hz => ov_pure1 y z hy hz (fun _ _ _ _ h => PyProof.Rows.floordiv_int h0 h (.inl (PyProof.noPylong_small hj))) ⟨rfl, rfl⟩
theorem pv_mod {l r : Expr} {pos : Pos} {i j : Int} (hl : PV c ρ H l (.int i)) (hr : PV c ρ H r (.int j)) (h0 : j ≠ 0) : PV c ρ H (.BinOp l .Mod r pos) (.int (i.fmod j)) :=
  pv_bin_of hl hr fun y z hy hz => ov_pure1 y z hy hz (fun _ _ _ _ h => PyProof.Rows.mod_int' h0 h) ⟨rfl, rfl⟩
theorem pv_neg {l : Expr} {pos : Pos} {i : Int} (hl : PV c ρ H l (.int i)) : PV c ρ H (.UnaryOp .USub l pos) (.int (-i)) :=
  ev_un (hl.ev fun y hy => Tri.of fun F s Q st k => by
    obtain ⟨t, rfl⟩ := abs_int hy
    exact PyProof.Rows.neg_int (k _ _ ρ H (.mem s s.heap _) st.toks ⟨rfl, rfl, rfl⟩))
theorem pv_lt {l r : Expr} {pos : Pos} {i j : Int} (hl : PV c ρ H l (.int i)) (hr : PV c ρ H r (.int j)) : PV c ρ H (.Compare l [.Lt] [r] pos) (.bool (decide (i < j))) :=
  pv_cmp_of hl hr (behind_of rfl) fun y z hy hz => ov_cmp1 y z hy hz (fun _ _ _ _ h => PyProof.Rows.lt_int h) ⟨rfl, rfl⟩
theorem pv_le {l r : Expr} {pos : Pos} {i j : Int} (hl : PV c ρ H l (.int i)) (hr : PV c ρ H r (.int j)) : PV c ρ H (.Compare l [.LtE] [r] pos) (.bool (decide (i ≤ j))) :=
  pv_cmp_of hl hr (behind_of rfl) fun y z hy hz => ov_cmp1 y z hy hz (fun _ _ _ _ h => PyProof.Rows.le_int h) ⟨rfl, rfl⟩
theorem pv_gt {l r : Expr} {pos : Pos} {i j : Int} (hl : PV c ρ H l (.int i)) (hr : PV c ρ H r (.int j)) : PV c ρ H (.Compare l [.Gt] [r] pos) (.bool (decide (j < i))) :=
  pv_cmp_of hl hr (behind_of rfl) fun y z hy hz => ov_cmp1 y z hy hz (fun _ _ _ _ h => PyProof.Rows.gt_int h) ⟨rfl, rfl⟩
theorem pv_ge {l r : Expr} {pos : Pos} {i j : Int} (hl : PV c ρ H l (.int i)) (hr : PV c ρ H r (.int j)) : PV c ρ H (.Compare l [.GtE] [r] pos) (.bool (decide (j ≤ i))) :=
  pv_cmp_of hl hr (behind_of rfl) fun y z hy hz => ov_cmp1 y z hy hz (fun _ _ _ _ h => PyProof.Rows.ge_int h) ⟨rfl, rfl⟩
theorem pv_eq {l r : Expr} {pos : Pos} {i j : Int} (hl : PV c ρ H l (.int i)) (hr : PV c ρ H r (.int j)) : PV c ρ H (.Compare l [.Eq] [r] pos) (.bool (i == j)) :=
  pv_cmp_of hl hr (behind_of rfl) fun y z hy hz => ov_cmp1 y z hy hz (fun _ _ _ _ h => PyProof.Rows.eq_int h) ⟨rfl, rfl⟩
theorem pv_ne {l r : Expr} {pos : Pos} {i j : Int} (hl : PV c ρ H l (.int i)) (hr : PV c ρ H r (.int j)) : PV c ρ H (.Compare l [.NotEq] [r] pos) (.bool (i != j)) :=
  pv_cmp_of hl hr (behind_of rfl) fun y z hy hz => ov_cmp1 y z hy hz (fun _ _ _ _ h => PyProof.Rows.ne_int h) ⟨rfl, rfl⟩
theorem tv_cmp {l r : Expr} {op : CmpOp} {pos : Pos} {Φ : Bool → Hp → Prop} (h : EV c ρ H (.Compare l [op] [r] pos) fun v H' => ∃ b, v = .bool b ∧ Φ b H') (ho : (op == .In || op == .NotIn) = false := by rfl) : TV c ρ H (.Compare l [op] [r] pos) Φ := by
  have hm : behindInMarks op r = false := behind_of ho
  refine Tri.of fun F s Q st k => ?_
  have h' := Tri.use (Q := fun v s' => ∃ b ρ' H', v = .bool b ∧ Stp s H s' H' ∧ St c ρ' H' F s' ∧ ρ' = ρ ∧ Φ b H') (E := fun _ _ => False) h st (fun a s₁ ρ₁ H₁ sm₁ st₁ ⟨e₁, b, hb, p⟩ => ⟨b, ρ₁, H₁, abs_bool hb, sm₁, st₁, e₁, p⟩)
  intro Γ p hΓ
  have h2 := h' Γ p hΓ
  simp only [eval_Compare1, isTrue_Compare1, markedBehindIn_of_false hm, Sem.wp_bind', Sem.wp_holding, Sem.wp_cmd_standAt, Sem.wp_operate] at h2 ⊢
  refine Sem.wp_mono _ Γ _ (fun a p₁ s₁ h₁ => Sem.wp_mono _ Γ _ (fun b p₂ s₂ h₂ => Sem.wp_mono _ Γ _ (fun v p₃ s₃ h₃ => ?_) (fun _ _ _ h' => h') _ _ h₂) (fun _ _ _ h' => h') _ _ h₁) (fun _ _ _ h' => h') _ _ h2
  obtain ⟨b, ρ', H', rfl, sm, st', e, hp⟩ := h₃
  exact wpAny_truthy_bool (k _ _ _ _ sm st' ⟨e, hp⟩) Γ p₃ hΓ
theorem pt_cmp {l r : Expr} {op : CmpOp} {pos : Pos} {b : Bool} (h : PV c ρ H (.Compare l [op] [r] pos) (.bool b)) (ho : (op == .In || op == .NotIn) = false := by rfl) : PT c ρ H (.Compare l [op] [r] pos) b :=
  tv_cmp (h.ev ⟨b, rfl, rfl, rfl⟩) ho
theorem tv_and {x y : Expr} {pos : Pos} {Φ : Bool → Hp → Prop} (h : TV c ρ H x fun b H' => if b then TV c ρ H' y Φ else Φ false H') : TV c ρ H (.BoolOp .And [x, y] pos) Φ :=
  Tri.of fun F s Q st k => isTrue_and (h.use st fun a s₁ ρ₁ H₁ sm st₁ ⟨e, p⟩ => by
    subst e
    cases a with
    | false => exact k _ _ _ _ sm st₁ ⟨rfl, p⟩
    | true => exact isTrue_and (p.use st₁ fun b s₂ ρ₂ H₂ sm₂ st₂ ⟨e₂, p₂⟩ => by
        subst e₂
        cases b with
        | false => exact k _ _ _ _ (sm.trans sm₂) st₂ ⟨rfl, p₂⟩
        | true => exact isTrue_and_nil (k _ _ _ _ (sm.trans sm₂) st₂ ⟨rfl, p₂⟩)))
theorem ex_if {test : Expr} {body orelse : List Stmt} {pos : Pos} {Φ : AF → Loc → Hp → Prop} (h : TV c ρ H test fun b H' => if b then XS c ρ H' body Φ else XS c ρ H' orelse Φ) : EX c ρ H (.If test body orelse pos) Φ :=
  Tri.of fun F s Q st k => wpAny_If (h.use st fun a s₁ ρ₁ H₁ sm st₁ ⟨e, p⟩ => by
    subst e
    cases a with
    | true => exact p.use st₁ fun b s₂ ρ₂ H₂ sm₂ st₂ p₂ => k _ _ _ _ (sm.trans sm₂) st₂ p₂
    | false => exact p.use st₁ fun b s₂ ρ₂ H₂ sm₂ st₂ p₂ => k _ _ _ _ (sm.trans sm₂) st₂ p₂)
theorem xs_nil {Φ : AF → Loc → Hp → Prop} (h : Φ .next ρ H) : XS c ρ H [] Φ := Tri.of fun F s Q st k => wpAny_execs_nil (k _ _ _ _ (.refl s) st h)
theorem xs_cons {e : Stmt} {r : List Stmt} {Φ : AF → Loc → Hp → Prop} (h : EX c ρ H e fun f ρ' H' => match f with | .next => XS c ρ' H' r Φ | f => Φ f ρ' H') : XS c ρ H (e :: r) Φ :=
  Tri.of fun F s Q st k => wpAny_execs_cons (h.use st fun a s₁ ρ₁ H₁ sm st₁ p => by
    cases a with
    | next => exact p.use st₁ fun b s₂ ρ₂ H₂ sm₂ st₂ p₂ => k _ _ _ _ (sm.trans sm₂) st₂ p₂
    | brk => exact k _ _ _ _ sm st₁ p
    | cont => exact k _ _ _ _ sm st₁ p
    | ret v => exact k _ _ _ _ sm st₁ p)
theorem ex_return {e : Expr} {pos : Pos} {Φ : AF → Loc → Hp → Prop} (h : EV c ρ H e fun v H' => Φ (.ret v) ρ H') : EX c ρ H (.Return (some e) pos) Φ :=
  Tri.of fun F s Q st k => wpAny_Return_some (h.use st fun a s₁ ρ₁ H₁ sm st₁ ⟨e, p⟩ => by subst e; exact k _ _ _ _ sm st₁ p)
theorem Loc.set_same {x : Str} {v : AV} : Loc.set ρ x v x = some v := by simp [Loc.set]
theorem Loc.set_ne {x y : Str} {v : AV} {r : Option AV} (hn : y ≠ x) (h : ρ y = r) : Loc.set ρ x v y = r := by simp [Loc.set, hn, h]
theorem Hp.set_same {a : Addr} {o : AObj} : Hp.set H a o a = some (o, true) := by simp [Hp.set]
theorem Hp.set_ne {a b : Addr} {o : AObj} {r : Option (AObj × Bool)} (hn : b ≠ a) (h : H b = r) : Hp.set H a o b = r := by simp [Hp.set, hn, h]
/-- the frame stores a name of its own -/
theorem St.setLocal {F : Hp} {s : Shared} {h' : Heap} {tk : Nat} {x : Str} {y : Value} (st : St c ρ H F s) (hl : c.env.kindOf x = some .local)
    (h : ∀ m, s.heap.Ns c.L m → h'.Ns c.L (fun z => if z = x then some y else m z)) (hs : Heap.SameBut c.L s.heap h') : St c (ρ.set x (abs y)) H F { s with heap := h', toks := tk } := by
  obtain ⟨m, hm, hv⟩ := st.ns
  have hk : ∀ b o, b ≠ c.L → s.heap.get? b = some o → h'.get? b = some o := fun b o n e => hs.extBut b o n e
  refine ⟨⟨_, h m hm, fun z v e kz => ?_⟩, fun z a e => ?_, fun b o e => hk b o ?_ (st.keep b o e), st.above, fun a o b e => (st.has a o b e).keeps (fun o' n e' => hk a o' n e') st.above, fun a o b e => (st.hasF a o b e).keeps (fun o' n e' => hk a o' n e') st.above, st.dis⟩
  · by_cases q : z = x
    · subst q; rw [Loc.set_same] at e; cases e; exact ⟨y, by simp, rfl⟩
    · simp only [Loc.set, if_neg q] at e ⊢; exact hv z v e kz
  · obtain ⟨ob, o, g, d, ne, r1, r0, r2, r3⟩ := st.cel z a e
    refine ⟨ob, o, hk a ob ne g, d, ne, r1, r0, r2, fun v e' kz => ?_⟩
    have q : z ≠ x := by
      intro q; subst q
      rcases kz with k | k <;> (rw [hl] at k; cases k)
    simp only [Loc.set, if_neg q] at e'
    exact r3 v e' kz
  · intro e'; have := Heap.lt_size e; rw [e'] at this; exact absurd this (Nat.not_lt_of_le st.above)
theorem tri_store_local {x : Str} {y : Value} (ok : Ok c) (hl : c.env.kindOf x = some .local) : Tri c ρ H (storeName c.env x y) fun _ ρ' H' => ρ' = ρ.set x (abs y) ∧ H' = H :=
  Tri.of fun F s Q st k => by
    obtain ⟨m, hm, hv⟩ := st.ns
    have hp : (c.env.scope.kind == .class || (c.env.scope.kind == .module && c.env.locals != c.env.globals)) = false := by rw [ok.kind]; rfl
    refine wpAny_storeName_local hl hm (fun h' hn hs => k _ _ _ _ (.mem s _ _) (st.setLocal hl (fun m' hm' => ?_) hs) ⟨rfl, rfl⟩) hp
    have : m' = m := by
      obtain ⟨o, es, ep, g, d, _, f⟩ := hm
      obtain ⟨o', es', ep', g', d', _, f'⟩ := hm'
      rw [g] at g'; cases g'; rw [d] at d'; cases d'
      funext z; rw [← f, ← f']
    subst this; exact hn
theorem tri_store_cell {x : Str} {y : Value} {a : Addr} (ok : Ok c) (ho : c.own = true) (hl : c.env.kindOf x = some .cell) (hc : c.env.cells.lookup x = some a) : Tri c ρ H (storeName c.env x y) fun _ ρ' H' => ρ' = ρ.set x (abs y) ∧ H' = H :=
  Tri.of fun F s Q st k => by
    obtain ⟨ob, o, g, d, ne, r1, hH, r2, r3⟩ := st.cel x a hc
    refine wpAny_storeName_cell ok.kind hl hc ⟨ob, g, d⟩ fun h' hc' hs => k _ _ _ _ (.mem s h' s.toks) ?_ ⟨rfl, rfl⟩
    obtain ⟨h0, hF⟩ := r2 ho
    have hk : ∀ b o, b ≠ a → s.heap.get? b = some o → h'.get? b = some o := fun b o n e => hs.extBut b o n e
    obtain ⟨m, hm, hv⟩ := st.ns
    refine ⟨⟨m, hm.extBut hs.extBut (Ne.symm ne), fun z v e kz => ?_⟩, fun z b e => ?_, fun b o e => hk b o (fun q => by rw [q, h0] at e; cases e) (st.keep b o e), st.above,
      fun b o fl e => (st.has b o fl e).keeps (fun o' n e' => hk b o' (fun q => by rw [q, hH] at e; cases e) e') st.above, fun b o fl e => (st.hasF b o fl e).keeps (fun o' n e' => hk b o' (fun q => by rw [q, hF] at e; cases e) e') st.above, st.dis⟩
    · have q : z ≠ x := by
        intro q; subst q; rw [hl] at kz; cases kz
      simp only [Loc.set, if_neg q] at e
      exact hv z v e kz
    · by_cases q : z = x
      · subst q
        rw [hc] at e; cases e
        obtain ⟨ob', g', d'⟩ := hc'
        refine ⟨ob', _, g', d', ne, .inl h0, hH, r2, fun v e' _ => ?_⟩
        rw [Loc.set_same] at e'; cases e'; exact ⟨y, rfl, rfl⟩
      · obtain ⟨ob₁, o₁, g₁, d₁, ne₁, s1, s0, s2, s3⟩ := st.cel z b e
        have qa : b ≠ a := fun qa => q (ok.inj ho z x a (qa ▸ e) hc)
        refine ⟨ob₁, o₁, hk b ob₁ qa g₁, d₁, ne₁, s1, s0, s2, fun v e' kz => ?_⟩
        simp only [Loc.set, if_neg q] at e'
        exact s3 v e' kz
/-- a name that the frame stores -/
def Stores (c : Cx) (x : Str) : Prop := c.env.kindOf x = some .local ∨ (c.own = true ∧ c.env.kindOf x = some .cell)
theorem tri_store {x : Str} {y : Value} (ok : Ok c) (h : Stores c x) : Tri c ρ H (storeName c.env x y) fun _ ρ' H' => ρ' = ρ.set x (abs y) ∧ H' = H := by
  rcases h with h | ⟨h1, h2⟩
  · exact tri_store_local ok h
  · obtain ⟨a, h3⟩ := ok.cells x (.inl h2)
    exact tri_store_cell ok h1 h2 h3
theorem ex_assign {x : Str} {pos' pos : Pos} {e : Expr} {Φ : AF → Loc → Hp → Prop} (ok : Ok c) (hx : Stores c x) (h : EV c ρ H e fun v H' => Φ .next (ρ.set x v) H')
    (hs : swapsWith e (some (.Name x pos')) pos.line c.env = pure false := by rfl) : EX c ρ H (.Assign [.Name x pos'] e pos) Φ :=
  Tri.of fun F s Q st k => wpAny_Assign_Name (h.use st fun a s₁ ρ₁ H₁ sm st₁ ⟨e, p⟩ => by
    subst e
    exact (tri_store ok hx).use st₁ fun _ s₂ ρ₂ H₂ sm₂ st₂ ⟨e₁, e₂⟩ => by subst e₁ e₂; exact k _ _ _ _ (sm.trans sm₂) st₂ p) hs
theorem ex_expr {e : Expr} {pos : Pos} {Φ : AF → Loc → Hp → Prop} (ok : Ok c) (h : EV c ρ H e fun _ H' => Φ .next ρ H') (hs : swapsWith e none pos.line c.env = pure false := by rfl) : EX c ρ H (.Expr e pos) Φ :=
  Tri.of fun F s Q st k => wpAny_Expr_any (h.use st fun a s₁ ρ₁ H₁ sm st₁ ⟨e, p⟩ => by subst e; exact k _ _ _ _ sm st₁ p) (by unfold interactive; rw [ok.kind]; rfl) hs
/-- a while by an invariant with a measure -/
theorem ex_while {test : Expr} {body : List Stmt} {pos : Pos} {Φ : AF → Loc → Hp → Prop} (I : Nat → Loc → Hp → Prop) (n : Nat) (h0 : I n ρ H)
    (turn : ∀ n ρ H, I n ρ H → TV c ρ H test fun b H' => if b then XS c ρ H' body fun f ρ₂ H₂ => (match f with
      | .next | .cont => ∃ k, k < n ∧ I k ρ₂ H₂
      | .brk => Φ .next ρ₂ H₂
      | .ret v => Φ (.ret v) ρ₂ H₂) else Φ .next ρ H') : EX c ρ H (.While test body [] pos) Φ :=
  Tri.of fun F s Q st k => by
    refine wpAny_While (codeAny_whileLoop (fun n s' => ∃ ρ' H', Stp s H s' H' ∧ St c ρ' H' F s' ∧ I n ρ' H') ?_ n ⟨ρ, H, .refl s, st, h0⟩)
    rintro n s₁ ⟨ρ₁, H₁, sm, st₁, hI⟩
    refine (turn n ρ₁ H₁ hI).use st₁ fun b s₂ ρ₂ H₂ sm₂ st₂ ⟨e, p⟩ => ?_
    subst e
    cases b with
    | true =>
      refine p.use st₂ fun f s₃ ρ₃ H₃ sm₃ st₃ p₃ => ?_
      cases f with
      | next => obtain ⟨k', hk, hI'⟩ := p₃; exact ⟨k', hk, ρ₃, H₃, sm.trans (sm₂.trans sm₃), st₃, hI'⟩
      | cont => obtain ⟨k', hk, hI'⟩ := p₃; exact ⟨k', hk, ρ₃, H₃, sm.trans (sm₂.trans sm₃), st₃, hI'⟩
      | brk => exact k _ _ _ _ (sm.trans (sm₂.trans sm₃)) st₃ p₃
      | ret v => exact k _ _ _ _ (sm.trans (sm₂.trans sm₃)) st₃ p₃
    | false => exact wpAny_execs_nil (k _ _ _ _ (sm.trans sm₂) st₂ p)
end
/-- a frame that calls, n deep -/
structure OkC (c : Cx) (n : Nat) : Prop where
  below : ∃ A₀ base outer, Below A₀ base outer c.h₀ ∧ c.A.frames = some (c.env :: outer)
  frame : c.env.frame = some c.env.locals
  depth : c.A.depth + n < 900
  units : c.A.units + 3 * n < 500
theorem lookup_mem {β : Type} {x : Str} {v : β} : ∀ {l : List (Str × β)}, l.lookup x = some v → (x, v) ∈ l
  | [], h => by cases h
  | (y, w) :: r, h => by
    by_cases q : x = y
    · subst q; simp [List.lookup_cons] at h; subst h; exact .head _
    · have : (x == y) = false := by simpa using q
      rw [List.lookup_cons, this] at h
      exact .tail _ (lookup_mem h)
def retv : AF → AV
  | .ret v => v
  | _ => .none
section
variable {c : Cx} {ρ : Loc} {H : Hp}
def cxOf (c : Cx) (qual : Str) (scope : Scope) (L' f : Addr) (cdv : Value) (g : Heap) : Cx :=
  { prog := c.prog, w := c.w, A := c.A.deeper (envOf qual scope L' f cdv), env := envOf qual scope L' f cdv, h₀ := g, own := true, K := c.K }
open Classical in
theorem call_def {name qual : Str} {params : Arguments} {body : List Stmt} {scope : Scope} {dV kV doc pm cdv ct oc : Value} {an od : Option Addr} {osl : Array (Option Value)} {f : Addr} {vs : List Value} {binds : List (Str × Value)} {n : Nat} {Φ : AV → Hp → Prop}
    (ok : Ok c) (okc : OkC c (n + 1)) (ho : c.K.lookup f = some ⟨oc, od, .func (fnOf name qual params body scope dV kV doc pm an cdv ct), osl⟩) (hcd : codeIn c.K cdv qual = true)
    (hbind : ∀ s : Shared, c.K.In s.heap → BindsTo s (fnOf name qual params body scope dV kV doc pm an cdv ct) ⟨vs, []⟩ binds) (hloc : ∀ y ∈ binds, scope.names.lookup y.1 = some .local)
    (hco : scope.isCoroutine = false) (hgen : scope.isGenerator = false) (hk : scope.kind = .function) (hcell : ∀ x ∈ scope.names, x.2 ≠ .cell) (hfree : ∀ x ∈ scope.names, x.2 ≠ .free)
    (h : ∀ L' g, Ok (cxOf c qual scope L' f cdv g) → OkC (cxOf c qual scope L' f cdv g) n →
      XS (cxOf c qual scope L' f cdv g) (fun y => (binds.reverse.lookup y).map abs) H body fun fl _ H' => Φ (retv fl) H') :
    OV c ρ H (call (.ref f) vs) Φ :=
  Tri.of fun F s Q st k => by
    obtain ⟨A₀, base, outer, B, hA⟩ := okc.below
    obtain ⟨p, loose, mean, mg, mb, T⟩ := ok.top
    obtain ⟨m, hm, hv⟩ := st.fr
    have hroom : c.A.depth < recursionLimit := by have := ok.depth; have e : recursionLimit = 1000 := rfl; rw [e]; omega
    refine wpAny_call (code_def B hm ok.kin (allNews_news (h := s.heap)) T hA okc.frame ok.kind ho hcd hroom (hbind s (ok.kin.keeps st.keep)) hloc ?_ hco hgen hk hcell)
    intro g L' h₁ FG F' N' B' X' T'
    have hok : Ok (cxOf c qual scope L' f cdv g) := ⟨X', ⟨p, loose, mean, mg, mb, T'⟩, hk, rfl, rfl, ok.hand, by show c.A.depth + 1 < 900; have := okc.depth; omega, by show c.A.units + 3 < 500; have := okc.units; omega, by
      rintro x (e | e)
      · exact absurd rfl (hcell _ (lookup_mem e))
      · exact absurd rfl (hfree _ (lookup_mem e)), by intro _ x y a e; cases e⟩
    have hokc : OkC (cxOf c qual scope L' f cdv g) n := ⟨⟨c.A, base, c.env :: outer, B', by show (c.A.frames.map _) = _; rw [hA]; rfl⟩, rfl, by show c.A.depth + 1 + n < 900; have := okc.depth; omega, by show c.A.units + 3 + 3 * n < 500; have := okc.units; omega⟩
    -- the callee's frame: what it does not know of stays
    let F₂ : Hp := fun a => match F a with
      | some x => some x
      | none => if H a ≠ none then none else match (allNews c.h₀ c.L s.heap).lookup a with
        | some o => some (.raw o, true)
        | none => none
    have look : ∀ a o, s.heap.get? a = some o → c.h₀.get? a = none → a ≠ c.L → (allNews c.h₀ c.L s.heap).lookup a = some o := by
      intro a o e e0 hne
      have hmem := mem_allNews.mpr ⟨hne, e0, e⟩
      have hall : ∀ q ∈ allNews c.h₀ c.L s.heap, q.1 = a → q.2 = o := by
        rintro ⟨b, o'⟩ hq rfl
        have := (mem_allNews.mp hq).2.2
        rw [e] at this; cases this; rfl
      revert hmem hall
      generalize allNews c.h₀ c.L s.heap = l
      intro hmem hall
      induction l with
      | nil => cases hmem
      | cons q r ih =>
        obtain ⟨b, o'⟩ := q
        by_cases hb : a = b
        · subst hb; have := hall (a, o') (.head _) rfl; dsimp only at this; subst this; simp [List.lookup_cons]
        · have : (a == b) = false := by simpa using hb
          rw [List.lookup_cons, this]
          refine ih ?_ fun q hq => hall q (.tail _ hq)
          rcases List.mem_cons.mp hmem with e | e
          · cases e; exact absurd rfl hb
          · exact e
    have unlook : ∀ a o, (allNews c.h₀ c.L s.heap).lookup a = some o → (a, o) ∈ allNews c.h₀ c.L s.heap := by
      intro a o
      generalize allNews c.h₀ c.L s.heap = l
      induction l with
      | nil => intro e; cases e
      | cons q r ih =>
        obtain ⟨b, o'⟩ := q
        intro e
        by_cases hb : a = b
        · subst hb; simp [List.lookup_cons] at e; subst e; exact .head _
        · have : (a == b) = false := by simpa using hb
          rw [List.lookup_cons, this] at e
          exact .tail _ (ih e)
    have trans : ∀ a o b, HasP c a o b s.heap → HasP (cxOf c qual scope L' f cdv g) a o b h₁ := by
      rintro a o b ⟨ob, e, r, r1, r2⟩
      cases b with
      | true =>
        obtain ⟨n1, n2⟩ := r1 rfl
        have z := N' _ (mem_allNews.mpr ⟨n1, n2, e⟩)
        exact ⟨ob, z.1, r, fun _ => ⟨z.2.1, z.2.2⟩, fun x => by cases x⟩
      | false =>
        have z := FG.keep a ob (r2 rfl)
        exact ⟨ob, F'.keep a ob z, r, (fun x => by cases x), fun _ => z⟩
    have st₁ : St (cxOf c qual scope L' f cdv g) (fun y => (binds.reverse.lookup y).map abs) H F₂ { s with heap := h₁, toks := s.toks + binds.length } := by
      refine ⟨⟨_, F'.ns, fun x v e _ => ?_⟩, (fun x a e => by cases e), F'.keep, F'.above, fun a o b e => trans a o b (st.has a o b e), fun a o b e => ?_, fun a ha => ?_⟩
      · simp only [Option.map_eq_some_iff] at e
        obtain ⟨y, e1, e2⟩ := e
        exact ⟨y, e1, e2⟩
      · show HasP _ _ _ _ _
        simp only [F₂] at e
        split at e
        · rename_i x hx; cases e; exact trans a o b (st.hasF a o b hx)
        · split at e
          · cases e
          · split at e
            · rename_i ob hob
              cases e
              obtain ⟨n1, n2, n3⟩ := mem_allNews.mp (unlook a ob hob)
              exact trans a _ true ⟨ob, n3, rfl, fun _ => ⟨n1, n2⟩, fun x => by cases x⟩
            · cases e
      · simp only [F₂, st.dis a ha, if_pos ha]
    refine (h L' g hok hokc).use st₁ fun fl s' ρ' H' sm st' p => ?_
    obtain ⟨m₂, hm₂, _⟩ := st'.fr
    refine leaveK_ (news' := allNews g L' s'.heap) hm₂ allNews_news fun Fb Nb => ?_
    -- back in the caller
    have back : ∀ a o b, HasP (cxOf c qual scope L' f cdv g) a o b s'.heap → (b = false → ∃ ob, c.h₀.get? a = some ob ∧ s'.heap.get? a = some ob) → HasP c a o b s'.heap := by
      rintro a o b ⟨ob, e, r, r1, r2⟩ hb
      cases b with
      | true =>
        obtain ⟨n1, n2⟩ := r1 rfl
        have z := Nb _ (mem_allNews.mpr ⟨n1, n2, e⟩)
        exact ⟨ob, e, r, fun _ => ⟨z.2.1, z.2.2⟩, fun x => by cases x⟩
      | false =>
        obtain ⟨ob', z, z'⟩ := hb rfl
        rw [e] at z'; cases z'
        exact ⟨ob, e, r, (fun x => by cases x), fun _ => z⟩
    have F₂_of : ∀ a x, F a = some x → F₂ a = some x := by intro a x e; simp only [F₂, e]
    have stb : St c ρ H' F s' := by
      refine ⟨⟨m, Fb.ns, hv⟩, fun x a e => ?_, Fb.keep, st.above, fun a o b e => back a o b (st'.has a o b e) ?_, fun a o b e => back a o b (st'.hasF a o b (F₂_of _ _ e)) ?_, fun a ha => ?_⟩
      · obtain ⟨ob, o, g₁, d, ne, r1, r0, r2, r3⟩ := st.cel x a e
        have hkeep : s'.heap.get? a = some ob := by
          rcases r1 with r1 | r1
          · have : ∃ x, F₂ a = some (.raw ob, x) := by
              cases eF : F a with
              | none =>
                refine ⟨true, ?_⟩
                simp only [F₂, eF, r0, look a ob g₁ r1 ne]
                simp
              | some y =>
                obtain ⟨oy, by'⟩ := y
                obtain ⟨ob', e', rr, _⟩ := st.hasF a oy by' eF
                rw [g₁] at e'; cases e'
                cases oy with
                | raw o₂ => cases rr; exact ⟨by', F₂_of _ _ eF⟩
                | list xs => exact absurd d (ORep.not_cell rr rfl o)
                | tup xs => exact absurd d (ORep.not_cell rr rfl o)
                | dict xs => exact absurd d (ORep.not_cell rr rfl o)
            obtain ⟨y, hy⟩ := this
            obtain ⟨ob', e', rr, _⟩ := st'.hasF a _ y hy
            cases rr; exact e'
          · exact Fb.keep a ob r1
        have hH : H' a = none := by
          cases eH : H' a with
          | none => rfl
          | some y =>
            obtain ⟨oy, by'⟩ := y
            obtain ⟨ob', e', rr, z1, z2⟩ := st'.has a oy by' eH
            exfalso
            have hF2 := st'.dis a (by rw [eH]; exact nofun)
            rcases r1 with r1 | r1
            · cases eF : F a with
              | none =>
                simp only [F₂, eF, r0, look a ob g₁ r1 ne] at hF2
                simp at hF2
              | some y => rw [F₂_of _ _ eF] at hF2; cases hF2
            · cases by' with
              | true => have z3 : g.get? a = none := (z1 rfl).2; rw [FG.keep a ob r1] at z3; cases z3
              | false => have := sm.fz a oy eH; rw [r0] at this; cases this
        exact ⟨ob, o, hkeep, d, ne, r1, hH, r2, r3⟩
      · rintro rfl
        have e2 := sm.fz a o e
        obtain ⟨ob, _, _, _, z⟩ := st.has a o false e2
        exact ⟨ob, z rfl, Fb.keep a ob (z rfl)⟩
      · rintro rfl
        obtain ⟨ob, _, _, _, z⟩ := st.hasF a o false e
        exact ⟨ob, z rfl, Fb.keep a ob (z rfl)⟩
      · have := st'.dis a ha
        cases eF : F a with
        | none => rfl
        | some y => rw [F₂_of _ _ eF] at this; cases this
    have hs : Stp s H s' H' := ⟨Same.trans ⟨h₁, s.toks + binds.length, rfl⟩ sm.same, sm.fz⟩
    cases fl with
    | ret v => exact k v s' ρ H' hs stb ⟨rfl, p⟩
    | next => exact k .none s' ρ H' hs stb ⟨rfl, p⟩
    | brk => exact k .none s' ρ H' hs stb ⟨rfl, p⟩
    | cont => exact k .none s' ρ H' hs stb ⟨rfl, p⟩
end
section
variable {c : Cx} {ρ : Loc} {H : Hp}
def noStars : List Expr → Bool
  | [] => true
  | .Starred .. :: _ => false
  | _ :: r => noStars r
theorem back_plain {pos : Pos} {env : Env} : ∀ {es : List Expr}, noStars es = true → backTo pos (starEach es env) = es.map (fun e => (false, eval e env))
  | [], _ => rfl
  | e :: r, h => by
    have ih := @back_plain pos env r
    unfold backTo at ih ⊢
    cases e <;> first | (cases h; done) | (simp only [starEach, List.map_cons, Bool.false_eq_true, if_false]; rw [ih h])
def ES (c : Cx) (ρ : Loc) (H : Hp) (es : List Expr) (Φ : List AV → Hp → Prop) : Prop :=
  Tri c ρ H (spliced (es.map fun e => (false, eval e c.env))) fun ys ρ' H' => ρ' = ρ ∧ Φ (ys.map abs) H'
theorem es_nil {Φ : List AV → Hp → Prop} (h : Φ [] H) : ES c ρ H [] Φ := Tri.of fun F s Q st k => spliced_nil (k _ _ _ _ (.refl s) st ⟨rfl, h⟩)
theorem es_cons {e : Expr} {es : List Expr} {Φ : List AV → Hp → Prop} (h : EV c ρ H e fun v H₁ => ES c ρ H₁ es fun vs H₂ => Φ (v :: vs) H₂) : ES c ρ H (e :: es) Φ :=
  Tri.of fun F s Q st k => spliced_cons (h.use st fun v s₁ ρ₁ H₁ sm₁ st₁ ⟨e₁, h₁⟩ => by
    subst e₁
    exact h₁.use st₁ fun vs s₂ ρ₂ H₂ sm₂ st₂ ⟨e₂, h₂⟩ => by subst e₂; exact k _ _ _ _ (sm₁.trans sm₂) st₂ ⟨rfl, h₂⟩)
theorem es_pv {e : Expr} {es : List Expr} {v : AV} {Φ : List AV → Hp → Prop} (h : PV c ρ H e v) (h' : ES c ρ H es fun vs H₂ => Φ (v :: vs) H₂) : ES c ρ H (e :: es) Φ := es_cons (h.ev h')
def PS (c : Cx) (ρ : Loc) (H : Hp) (es : List Expr) (vs : List AV) : Prop := ES c ρ H es fun vs' H' => vs' = vs ∧ H' = H
theorem ps_nil : PS c ρ H [] [] := es_nil ⟨rfl, rfl⟩
theorem ps_cons {e : Expr} {es : List Expr} {v : AV} {vs : List AV} (h : PV c ρ H e v) (h' : PS c ρ H es vs) : PS c ρ H (e :: es) (v :: vs) :=
  es_pv h (Tri.mono h' fun _ _ _ ⟨a, b, d⟩ => ⟨a, by rw [b], d⟩)
theorem PS.es {es : List Expr} {vs : List AV} {Φ : List AV → Hp → Prop} (h : PS c ρ H es vs) (hi : Φ vs H) : ES c ρ H es Φ :=
  Tri.mono h fun _ _ _ ⟨a, b, d⟩ => ⟨a, by rw [b, d]; exact hi⟩
theorem ev_call_bi {x : Str} {np pos : Pos} {e : Expr} {es : List Expr} {id : String} {Φ : AV → Hp → Prop} (ok : Ok c) (hl : c.env.kindOf x = some .globalImplicit) (hg : gl c.K x = some (.builtin id))
    (h : ES c ρ H (e :: es) fun vs H₁ => ∀ ys, ys.map abs = vs → OV c ρ H₁ (call (.builtin id) ys) Φ)
    (hns : noStars (e :: es) = true := by decide +kernel) (hd : (x == ("__debug__" : Str)) = false := by decide +kernel) (hn : x ≠ ("__name__" : Str) := by decide +kernel) :
    EV c ρ H (.Call (.Name x np) (e :: es) [] pos) Φ :=
  Tri.of fun F s Q st k => wpAny_Call_NameR (gl_loads ok hl hg hd hn st (by
    rw [back_plain hns]
    refine callWith_builtin (by simp [List.any_eq]) (evalArgs_plain ?_)
    exact h.use st fun ys s₁ ρ₁ H₁ sm₁ st₁ ⟨e₁, h₁⟩ => by
      subst e₁
      rw [List.nil_append]
      exact (h₁ ys rfl).use st₁ fun r s₂ ρ₂ H₂ sm₂ st₂ ⟨e₂, h₂⟩ => by subst e₂; exact k _ _ _ _ (sm₁.trans sm₂) st₂ ⟨rfl, h₂⟩))
theorem ev_call_fn {x : Str} {np pos : Pos} {e : Expr} {es : List Expr} {f : Addr} {oc : Value} {od : Option Addr} {fd : FuncData} {osl : Array (Option Value)} {Φ : AV → Hp → Prop} (ok : Ok c) (hl : c.env.kindOf x = some .globalImplicit) (hg : gl c.K x = some (.ref f))
    (ho : c.K.lookup f = some ⟨oc, od, .func fd, osl⟩)
    (h : ES c ρ H (e :: es) fun vs H₁ => ∀ ys, ys.map abs = vs → OV c ρ H₁ (call (.ref f) ys) Φ)
    (hns : noStars (e :: es) = true := by decide +kernel) (hd : (x == ("__debug__" : Str)) = false := by decide +kernel) (hn : x ≠ ("__name__" : Str) := by decide +kernel) :
    EV c ρ H (.Call (.Name x np) (e :: es) [] pos) Φ :=
  Tri.of fun F s Q st k => wpAny_Call_NameR (gl_loads ok hl hg hd hn st (by
    rw [back_plain hns]
    refine callWith_function (o := ⟨oc, od, .func fd, osl⟩) (fd := fd) (evalArgs_plain ?_)
    exact h.use st fun ys s₁ ρ₁ H₁ sm₁ st₁ ⟨e₁, h₁⟩ => by
      subst e₁
      rw [List.nil_append]
      exact ⟨⟨st₁.keep _ _ (ok.kin _ _ ho), rfl⟩, (h₁ ys rfl).use st₁ fun r s₂ ρ₂ H₂ sm₂ st₂ ⟨e₂, h₂⟩ => by subst e₂; exact k _ _ _ _ (sm₁.trans sm₂) st₂ ⟨rfl, h₂⟩⟩))
theorem St.isList {F : Hp} {s : Shared} {a : Addr} {xs : List AV} {fl : Bool} (st : St c ρ H F s) (h : H a = some (.list xs, fl)) : ∃ its : Array Value, s.heap.IsList a its ∧ its.toList.map abs = xs := by
  obtain ⟨ob, g, ⟨its, n, hc, hd, he, _⟩, _⟩ := st.has a _ fl h
  exact ⟨its, ⟨ob, g, hc, n, hd⟩, he⟩
theorem St.isTup {F : Hp} {s : Shared} {a : Addr} {xs : List AV} {fl : Bool} (st : St c ρ H F s) (h : H a = some (.tup xs, fl)) : ∃ its : Array Value, IsTup s.heap a its ∧ its.toList.map abs = xs := by
  obtain ⟨ob, g, ⟨its, n, hc, hd, he, _⟩, _⟩ := st.has a _ fl h
  exact ⟨its, ⟨ob, g, hc, n, hd⟩, he⟩
theorem size_of_map {its : Array Value} {xs : List AV} (h : its.toList.map abs = xs) : its.size = xs.length := by rw [← h]; simp
theorem item_of_map {its : Array Value} {xs : List AV} {k : Nat} {v : AV} (h : its.toList.map abs = xs) (hv : xs[k]? = some v) : ∃ y, its[k]? = some y ∧ abs y = v := by
  rw [← h, List.getElem?_map, Option.map_eq_some_iff] at hv
  obtain ⟨y, h1, h2⟩ := hv
  exact ⟨y, by simpa using h1, h2⟩
theorem seqIndex_pos {k : Int} {n : Nat} (h0 : 0 ≤ k) (h1 : k.toNat < n) : seqIndex? k n = some k.toNat := by
  unfold seqIndex?
  have e : ¬ (k < 0) := by omega
  simp only [e, if_false]
  rw [if_pos]
  simp only [Bool.and_eq_true, decide_eq_true_eq]; omega
theorem seqIndex_neg {k : Int} {n : Nat} (h0 : k < 0) (h1 : 0 ≤ k + n) (h2 : (k + n).toNat < n) : seqIndex? k n = some (k + n).toNat := by
  unfold seqIndex?
  simp only [h0, if_true]
  rw [if_pos]
  simp only [Bool.and_eq_true, decide_eq_true_eq]; omega
/-- the written place is no slice -/
def plainIdx : Expr → Bool
  | .Slice .. => false
  | _ => true
theorem subscripted_plain {i : Expr} (h : plainIdx i = true) (o v : Value) : subscripted i false o v = operate [o, v] (getItem o v) := by
  cases i <;> first | rfl | cases h
theorem ev_sub {v i : Expr} {pos : Pos} {Φ : AV → Hp → Prop} (hi : plainIdx i = true) (h : EV c ρ H v fun a H₁ => EV c ρ H₁ i fun b H₂ => ∃ l k xs fl, a = .ref l ∧ b = .int k ∧ (H₂ l = some (.list xs, fl) ∨ H₂ l = some (.tup xs, fl)) ∧ xs.length < 1000000000 ∧
      ∃ y, ((0 ≤ k ∧ xs[k.toNat]? = some y) ∨ (k < 0 ∧ 0 ≤ k + xs.length ∧ xs[(k + xs.length).toNat]? = some y)) ∧ Φ y H₂) : EV c ρ H (.Subscript v i pos) Φ :=
  Tri.of fun F s Q st k => Subscript_ (h.use st fun a s₁ ρ₁ H₁ sm₁ st₁ ⟨e₁, h₁⟩ => by
    subst e₁
    exact h₁.use st₁ fun b s₂ ρ₂ H₂ sm₂ st₂ ⟨e₂, h₂⟩ => by
      subst e₂
      obtain ⟨l, n, xs, fl, ha, hb, hl, hlen, y, hy, p⟩ := h₂
      have := abs_ref ha; subst this
      obtain ⟨u, rfl⟩ := abs_int hb
      rcases hl with hl | hl
      · obtain ⟨its, hits, he⟩ := st₂.isList hl
        have hsz := size_of_map he
        rcases hy with ⟨h0, hx⟩ | ⟨h0, h1, hx⟩
        · obtain ⟨z, hz, hzy⟩ := item_of_map he hx
          have hlt : n.toNat < its.size := (Array.getElem?_eq_some_iff.mp hz).1
          exact tail_any hits.typeIs slot_list_getitem.lookup (wpAny_getItem_list hits h0 (by omega) hz (k _ _ _ _ (sm₁.trans sm₂) st₂ ⟨rfl, by rw [hzy]; exact p⟩)) (subscripted_plain hi _ _)
        · rw [← hsz] at hx h1
          obtain ⟨z, hz, hzy⟩ := item_of_map he hx
          exact tail_any hits.typeIs slot_list_getitem.lookup (wpAny_getItem_list_neg hits h0 (by omega) (by omega) hz (k _ _ _ _ (sm₁.trans sm₂) st₂ ⟨rfl, by rw [hzy]; exact p⟩)) (subscripted_plain hi _ _)
      · obtain ⟨its, hits, he⟩ := st₂.isTup hl
        have hsz := size_of_map he
        obtain ⟨ob, g, hc, _⟩ := id hits
        have hty : s₂.TypeIs (.ref l) "tuple" := ⟨ob, g, hc⟩
        rcases hy with ⟨h0, hx⟩ | ⟨h0, h1, hx⟩
        · obtain ⟨z, hz, hzy⟩ := item_of_map he hx
          have hlt : n.toNat < its.size := (Array.getElem?_eq_some_iff.mp hz).1
          have hb1 : -(2 ^ 63) ≤ n := by omega
          have hb2 : n < 2 ^ 63 := by omega
          refine tail_any hty slot_tuple_getitem.lookup (PyProof.Rows.getItem_tuple hits hb1 hb2 (j := n.toNat) ?_ hz (k _ _ _ _ (sm₁.trans sm₂) st₂ ⟨rfl, by rw [hzy]; exact p⟩)) (subscripted_plain hi _ _)
          exact seqIndex_pos h0 hlt
        · rw [← hsz] at hx h1
          obtain ⟨z, hz, hzy⟩ := item_of_map he hx
          have hlt : (n + its.size).toNat < its.size := (Array.getElem?_eq_some_iff.mp hz).1
          have hb1 : -(2 ^ 63) ≤ n := by omega
          have hb2 : n < 2 ^ 63 := by omega
          refine tail_any hty slot_tuple_getitem.lookup (PyProof.Rows.getItem_tuple hits hb1 hb2 (j := (n + its.size).toNat) ?_ hz (k _ _ _ _ (sm₁.trans sm₂) st₂ ⟨rfl, by rw [hzy]; exact p⟩)) (subscripted_plain hi _ _)
          exact seqIndex_neg h0 h1 hlt)
theorem pv_item {v i : Expr} {pos : Pos} {l : Addr} {k : Int} {xs : List AV} {fl : Bool} {y : AV} (hv : PV c ρ H v (.ref l)) (hk : PV c ρ H i (.int k)) (hl : H l = some (.list xs, fl)) (hlen : xs.length < 1000000000) (h0 : 0 ≤ k) (hy : xs[k.toNat]? = some y)
    (hi : plainIdx i = true := by rfl) : PV c ρ H (.Subscript v i pos) y :=
  ev_sub hi (hv.ev (hk.ev ⟨l, k, xs, fl, rfl, rfl, .inl hl, hlen, y, .inl ⟨h0, hy⟩, rfl, rfl⟩))
theorem pv_len {x : Str} {np pos : Pos} {e : Expr} {l : Addr} {xs : List AV} {fl : Bool} (ok : Ok c) (hl : c.env.kindOf x = some .globalImplicit) (hg : gl c.K x = some (.builtin "len")) (he : PV c ρ H e (.ref l)) (hx : H l = some (.list xs, fl)) (hlen : xs.length < 1000000000)
    (hns : noStars [e] = true := by decide +kernel) (hd : (x == ("__debug__" : Str)) = false := by decide +kernel) (hn : x ≠ ("__name__" : Str) := by decide +kernel) :
    PV c ρ H (.Call (.Name x np) [e] [] pos) (.int xs.length) :=
  ev_call_bi ok hl hg (es_pv he (es_nil fun ys hys => by
    obtain ⟨y, rfl⟩ : ∃ y, ys = [y] := by
      cases ys with
      | nil => cases hys
      | cons y r => cases r with
        | nil => exact ⟨y, rfl⟩
        | cons _ _ => simp at hys
    have hy : abs y = .ref l := by simpa using hys
    have := abs_ref hy; subst this
    exact Tri.of fun F s Q st k => by
      obtain ⟨its, hits, hm⟩ := st.isList hx
      have hsz := size_of_map hm
      refine call_len_list hits (by omega) (k _ _ ρ H (.mem s s.heap _) st.toks ⟨rfl, by rw [← hsz]; rfl, rfl⟩))) hns hd hn
def ownedKinds : List String := ["enumerate", "zip", "dict_itemiterator", "dict_reverseitemiterator", "odict_iterator", "itertools.zip_longest", "itertools.pairwise"]
structure ItOk (c : Cx) (I : Addr) (n : Nat) (val : Nat → AV) (P : Nat → Obj → Prop) (G : Hp → Prop) : Prop where
  cls : ∀ i ob, P i ob → ∃ t, ob.cls = .type t ∧ ownedKinds.contains t = false
  next : ∀ i ρ H F s ob (Q : Option Value → Shared → Prop) E, i < n → P i ob → G H → St c ρ H F s → s.heap.get? I = some ob →
    (∀ v h' tk ob', abs v = val i → Heap.SameBut I s.heap h' → h'.get? I = some ob' → P (i + 1) ob' → Q (some v) { s with heap := h', toks := tk }) → wpAny c.M c.A (pyNext (.ref I)) Q E s
  done : ∀ ρ H F s ob (Q : Option Value → Shared → Prop) E, P n ob → G H → St c ρ H F s → s.heap.get? I = some ob →
    (∀ h' tk, Heap.ExtBut I s.heap h' → Q none { s with heap := h', toks := tk }) → wpAny c.M c.A (pyNext (.ref I)) Q E s
  self : ∀ i s ob (Q : Value → Shared → Prop) E, P i ob → s.heap.get? I = some ob → Q (.ref I) s → wpAny c.M c.A (pyIter (.ref I)) Q E s
theorem itok_range {I : Addr} {a st : Int} {n : Nat} (hh : c.A.handled = none) : ItOk c I n (fun i => .int (a + i * st)) (fun i ob => ob = { cls := .type "range_iterator", dict := none, data := .fields #[rawInt (a + (i : Nat) * st), rawInt ((n : Int) - (i : Nat)), rawInt st], slots := #[] }) (fun _ => True) where
  cls := fun i ob h => by subst h; exact ⟨_, rfl, by decide⟩
  next := by
    rintro i ρ H F s ob Q E hi rfl _ _ g hQ
    refine wpAny_pyNext_range_item g (by omega) fun h' hit' hs' => ?_
    have e1 : a + ((i + 1 : Nat) : Int) * st = a + (i : Int) * st + st := by push_cast; rw [Int.add_mul, Int.one_mul, Int.add_assoc]
    have e2 : (n : Int) - ((i + 1 : Nat) : Int) = (n : Int) - (i : Int) - 1 := by push_cast; omega
    exact hQ _ h' _ _ rfl hs' hit' (by rw [e1, e2])
  done := by
    rintro ρ H F s ob Q E rfl _ _ g hQ
    exact wpAny_pyNext_range_end hh g (by omega) fun h' hx => hQ h' s.toks hx
  self := by
    rintro i s ob Q E rfl g hQ
    exact wpAny_pyIter_rangeiter g hQ
theorem St.addF {F : Hp} {s : Shared} {I : Addr} {ob : Obj} {h' : Heap} {tk : Nat} (st : St c ρ H F s) (hI : s.heap.get? I = none) (hk : ∀ b o, s.heap.get? b = some o → h'.get? b = some o) (ho : h'.get? I = some ob) :
    St c ρ H (F.set I (.raw ob)) { s with heap := h', toks := tk } := by
  have st' := st.keepsAll (tk := tk) hk
  have hfr := st.fresh hI
  have hL : I ≠ c.L := by
    intro e; obtain ⟨m, ⟨o', es, ep, ho', _⟩, _⟩ := st.ns; rw [← e, hI] at ho'; cases ho'
  have h0 : c.h₀.get? I = none := by
    cases e : c.h₀.get? I with
    | none => rfl
    | some p => have := st.keep I p e; rw [hI] at this; cases this
  refine ⟨st'.ns, fun x b e => ?_, st'.keep, st'.above, st'.has, fun b o' fl e => ?_, fun b hb => ?_⟩
  · obtain ⟨ob', o', g, d, ne, r1, r0, r2, r3⟩ := st.cel x b e
    have : b ≠ I := by intro q; rw [q, hI] at g; cases g
    exact ⟨ob', o', hk b ob' g, d, ne, r1, r0, fun h => ⟨(r2 h).1, by simp only [Hp.set, if_neg this]; exact (r2 h).2⟩, r3⟩
  · by_cases q : b = I
    · subst q; simp only [Hp.set, if_pos rfl] at e; cases e
      exact ⟨ob, ho, rfl, fun _ => ⟨hL, h0⟩, fun x => by cases x⟩
    · simp only [Hp.set, if_neg q] at e; exact st'.hasF b o' fl e
  · have q : b ≠ I := by intro q; rw [q] at hb; exact hb hfr.1
    simp only [Hp.set, if_neg q]; exact st.dis b hb
/-- the hidden object changes -/
theorem St.updF {F : Hp} {s : Shared} {I : Addr} {ob ob' : Obj} {h' : Heap} {tk : Nat} (st : St c ρ H (F.set I (.raw ob)) s) (hF : F I = none) (hcell : ∀ v, ob.data ≠ .cell v) (hs : Heap.SameBut I s.heap h') (ho : h'.get? I = some ob') :
    St c ρ H (F.set I (.raw ob')) { s with heap := h', toks := tk } := by
  have hII : (F.set I (.raw ob)) I = some (.raw ob, true) := Hp.set_same
  obtain ⟨ob₁, hob, hrep, hown, _⟩ := st.hasF I _ true hII
  cases hrep
  obtain ⟨hL, h0⟩ := hown rfl
  obtain ⟨m, hm, hv⟩ := st.ns
  refine ⟨⟨m, hm.extBut hs.extBut (Ne.symm hL), hv⟩, fun x b e => ?_, fun b o e => hs.extBut b o (fun q => by rw [q, h0] at e; cases e) (st.keep b o e), st.above, fun b o₁ fl e => ?_, fun b o₁ fl e => ?_, fun b hb => ?_⟩
  · obtain ⟨ob₁, o₁, g, d, ne, r1, r0, r2, r3⟩ := st.cel x b e
    have hne : b ≠ I := by intro q; rw [q, hob] at g; cases g; exact hcell _ d
    exact ⟨ob₁, o₁, hs.extBut b ob₁ hne g, d, ne, r1, r0, fun h => ⟨(r2 h).1, by have := (r2 h).2; simp only [Hp.set, if_neg hne] at this ⊢; exact this⟩, r3⟩
  · have q : b ≠ I := by
      intro q; have := st.dis b (by rw [e]; exact nofun); rw [q, hII] at this; cases this
    exact (st.has b o₁ fl e).keeps (fun o₂ _ e' => hs.extBut b o₂ q e') st.above
  · by_cases q : b = I
    · subst q; simp only [Hp.set, if_pos rfl] at e; cases e
      exact ⟨ob', ho, rfl, fun _ => ⟨hL, h0⟩, fun x => by cases x⟩
    · simp only [Hp.set, if_neg q] at e
      exact (st.hasF b o₁ fl (by simp only [Hp.set, if_neg q]; exact e)).keeps (fun o₂ _ e' => hs.extBut b o₂ q e') st.above
  · have := st.dis b hb
    by_cases q : b = I
    · subst q; rw [hII] at this; cases this
    · simp only [Hp.set, if_neg q] at this ⊢; exact this
/-- the hidden object is let go -/
theorem St.dropF {F : Hp} {s : Shared} {I : Addr} {ob : Obj} {h' : Heap} {tk : Nat} (st : St c ρ H (F.set I (.raw ob)) s) (hF : F I = none) (hcell : ∀ v, ob.data ≠ .cell v) (hs : Heap.ExtBut I s.heap h') :
    St c ρ H F { s with heap := h', toks := tk } := by
  have hII : (F.set I (.raw ob)) I = some (.raw ob, true) := Hp.set_same
  obtain ⟨ob₁, hob, hrep, hown, _⟩ := st.hasF I _ true hII
  cases hrep
  obtain ⟨hL, h0⟩ := hown rfl
  obtain ⟨m, hm, hv⟩ := st.ns
  refine ⟨⟨m, hm.extBut hs (Ne.symm hL), hv⟩, fun x b e => ?_, fun b o e => hs b o (fun q => by rw [q, h0] at e; cases e) (st.keep b o e), st.above, fun b o₁ fl e => ?_, fun b o₁ fl e => ?_, fun b hb => ?_⟩
  · obtain ⟨ob₁, o₁, g, d, ne, r1, r0, r2, r3⟩ := st.cel x b e
    have hne : b ≠ I := by intro q; rw [q, hob] at g; cases g; exact hcell _ d
    exact ⟨ob₁, o₁, hs b ob₁ hne g, d, ne, r1, r0, fun h => ⟨(r2 h).1, by have := (r2 h).2; simp only [Hp.set, if_neg hne] at this; exact this⟩, r3⟩
  · have q : b ≠ I := by
      intro q; have := st.dis b (by rw [e]; exact nofun); rw [q, hII] at this; cases this
    exact (st.has b o₁ fl e).keeps (fun o₂ _ e' => hs b o₂ q e') st.above
  · have q : b ≠ I := by intro q; rw [q, hF] at e; cases e
    exact (st.hasF b o₁ fl (by simp only [Hp.set, if_neg q]; exact e)).keeps (fun o₂ _ e' => hs b o₂ q e') st.above
  · have := st.dis b hb
    by_cases q : b = I
    · subst q; rw [hII] at this; cases this
    · simp only [Hp.set, if_neg q] at this; exact this
/-- a source of items: what a for's head comes to -/
def ITR (c : Cx) (ρ : Loc) (H : Hp) (iter : Expr) (Ψ : Nat → (Nat → AV) → (Hp → Prop) → Hp → Prop) : Prop :=
  ∀ F s (Q : Addr → Shared → Prop) E, St c ρ H F s →
    (∀ I ob s' n val P G H', ItOk c I n val P G → (∀ i ob v, P i ob → ob.data ≠ .cell v) → F I = none → Stp s H s' H' → St c ρ H' (F.set I (.raw ob)) s' → P 0 ob → Ψ n val G H' → Q I s') →
    wpAny c.M c.A (eval iter c.env) (fun x s₁ => wpAny c.M c.A (pyIter x) (fun it s₂ => ∃ I, it = .ref I ∧ Q I s₂) E s₁) E s
theorem itr_rangeV {iter : Expr} {Ψ : Nat → (Nat → AV) → (Hp → Prop) → Hp → Prop} (hh : c.A.handled = none)
    (h : ∀ F s (Q : Value → Shared → Prop) E, St c ρ H F s → (∀ r s' a b d t u v H', Stp s H s' H' → St c ρ H' F s' → IsRange s'.heap r a b d t u v → Builtin.Range.small a b d = true → Ψ (Builtin.Range.rangeSize a b d).toNat (fun i => .int (a + i * d)) (fun _ => True) H' → 0 ≤ Builtin.Range.rangeSize a b d → Q (.ref r) s') → wpAny c.M c.A (eval iter c.env) Q E s) :
    ITR c ρ H iter Ψ := by
  intro F s Q E st k
  refine h F s _ E st fun r s₁ a b d t u v H₁ sm₁ st₁ hr hsm p hn => ?_
  refine wpAny_pyIter_range hr hsm ⟨_, rfl, ?_⟩
  have hnone : s₁.heap.get? s₁.heap.objs.size = none := by
    cases e : s₁.heap.get? s₁.heap.objs.size with
    | none => rfl
    | some o => exact absurd (Heap.lt_size e) (Nat.lt_irrefl _)
  have st₂ := st₁.addF (I := s₁.heap.objs.size) (ob := { cls := .type "range_iterator", data := .fields #[rawInt a, rawInt (Builtin.Range.rangeSize a b d), rawInt d] }) (tk := s₁.toks) hnone (fun b o e => Heap.get?_push_of_some _ e) (Heap.get?_push_size _ rfl)
  refine k _ _ _ _ _ _ _ _ (itok_range (a := a) (st := d) (n := (Builtin.Range.rangeSize a b d).toNat) hh) (by rintro i ob v rfl; exact nofun) (st₁.fresh hnone).2 (sm₁.trans (.mem s₁ _ _)) st₂ ?_ p
  have e1 : a + ((0 : Nat) : Int) * d = a := by simp
  have e2 : ((Builtin.Range.rangeSize a b d).toNat : Int) - ((0 : Nat) : Int) = Builtin.Range.rangeSize a b d := by rw [Int.toNat_of_nonneg hn]; simp
  rw [e1, e2]
def ASG (c : Cx) (ρ : Loc) (H : Hp) (t : Expr) (v : AV) (Φ : Loc → Hp → Prop) : Prop := ∀ y, abs y = v → Tri c ρ H (assign t c.env y) fun _ ρ' H' => Φ ρ' H'
theorem asg_name {x : Str} {pos : Pos} {v : AV} {Φ : Loc → Hp → Prop} (ok : Ok c) (hx : Stores c x) (h : Φ (ρ.set x v) H) : ASG c ρ H (.Name x pos) v Φ := fun y hy =>
  Tri.of fun F s Q st k => wpAny_assign_Name ((tri_store ok hx).use st fun _ s₂ ρ₂ H₂ sm₂ st₂ ⟨e₁, e₂⟩ => by subst e₁ e₂; rw [hy] at st₂; exact k _ _ _ _ sm₂ st₂ h)
theorem letOwned_other {M : Model} {A : Around} {target : Expr} {I : Addr} {ob : Obj} {v : Value} {s : Shared} {Q : Unit → Shared → Prop} {E : Value → Shared → Prop} (g : s.heap.get? I = some ob) (hc : ∃ t, ob.cls = .type t ∧ ownedKinds.contains t = false) (h : Q () s) :
    wpAny M A (letOwnedTupleGo target (.ref I) v) Q E s := by
  obtain ⟨t, hc, hn⟩ := hc
  have key : wpAny M A (do
      let (.ref r, .ref a) := ((Value.ref I), v) | return
      let o ← load r
      match o.cls, o.data with
      | .type n, .fields vs =>
        if ["enumerate", "zip", "dict_itemiterator", "dict_reverseitemiterator", "odict_iterator", "itertools.zip_longest", "itertools.pairwise"].contains n && vs[0]? == some (rawInt a) then
          rule "for.unpacks-the-owned-tuple"
          updateField r 0 .none
      | _, _ => pure ()) Q E s := by
    cases v with
    | ref a =>
      refine wpAny_bind (wpAny_load g ?_)
      rw [hc]
      cases hd : ob.data with
      | fields vs =>
        have hn' : (["enumerate", "zip", "dict_itemiterator", "dict_reverseitemiterator", "odict_iterator", "itertools.zip_longest", "itertools.pairwise"].contains t) = false := hn
        simp only [hn', Bool.false_and, Bool.false_eq_true, if_false]
        exact wpAny_pure h
      | _ => exact wpAny_pure h
    | _ => exact wpAny_pure h
  cases target with
  | Tuple => exact key
  | List => exact key
  | _ => exact wpAny_pure h
/-- a for by an invariant over its turns -/
theorem ex_for {target iter : Expr} {body : List Stmt} {pos : Pos} {Φ : AF → Loc → Hp → Prop}
    (h : ITR c ρ H iter fun n val G H' => ∃ Inv : Nat → Loc → Hp → Prop, Inv 0 ρ H' ∧ (∀ i ρ H, Inv i ρ H → G H) ∧
      (∀ i ρ H, i < n → Inv i ρ H → ASG c ρ H target (val i) fun ρ₁ H₁ => XS c ρ₁ H₁ body fun f ρ₂ H₂ => match f with
        | .next | .cont => Inv (i + 1) ρ₂ H₂
        | .brk => Φ .next ρ₂ H₂
        | .ret v => Φ (.ret v) ρ₂ H₂) ∧ ∀ ρ H, Inv n ρ H → Φ .next ρ H)
    (hs : ∀ x, foldedSetIterable iter c.env x = pure x := by intro _; rfl) : EX c ρ H (.For target iter body [] pos) Φ :=
  Tri.of fun F s Q st k => by
    refine wpAny_For (wpAny_mono (h F s (fun I s₂ => codeAny c.M c.A (.forLoop target (.ref I) body [] c.env) (fun r s' => match r with | .ok f => Q f s' | .error e => cameBackBy c.M c.A c.env (fun _ _ => False) e s') s₂) (fun _ _ => False) st ?_)
      (fun x s₁ h₁ => wpAny_mono h₁ (fun it s₂ h₂ => by obtain ⟨I, rfl, h₂⟩ := h₂; exact h₂) fun _ _ x => x) fun _ _ x => x) hs
    intro I ob s' n val P G H' W hnc hFI sm st' hP hΨ
    obtain ⟨Inv, h0, hG, turn, done⟩ := hΨ
    refine codeAny_forLoop_any (fun k s₁ => ∃ i ρ₁ H₁ ob₁, k = n + 1 - i ∧ i ≤ n ∧ Stp s H s₁ H₁ ∧ St c ρ₁ H₁ (F.set I (.raw ob₁)) s₁ ∧ P i ob₁ ∧ Inv i ρ₁ H₁) ?_ (n + 1) ⟨0, ρ, H', ob, rfl, Nat.zero_le _, sm, st', hP, h0⟩
    rintro kk s₁ ⟨i, ρ₁, H₁, ob₁, rfl, hi, sm₁, st₁, hP₁, hI₁⟩
    have gI : s₁.heap.get? I = some ob₁ := by
      obtain ⟨o, g, r, _⟩ := st₁.hasF I (.raw ob₁) true Hp.set_same
      cases r; exact g
    by_cases hlt : i < n
    · refine W.next i ρ₁ H₁ _ s₁ ob₁ _ _ hlt hP₁ (hG i ρ₁ H₁ hI₁) st₁ gI fun v h' tk ob' hv hs' g' hP' => ?_
      have st₂ := st₁.updF (tk := tk) hFI (fun v => hnc i ob₁ v hP₁) hs' g'
      refine letOwned_other (ob := ob') g' (W.cls _ _ hP') ?_
      refine (turn i ρ₁ H₁ hlt hI₁ v hv).use st₂ fun _ s₃ ρ₃ H₃ sm₃ st₃ p₃ => ?_
      refine p₃.use st₃ fun f s₄ ρ₄ H₄ sm₄ st₄ p₄ => ?_
      have smx : Stp s H s₄ H₄ := sm₁.trans ((Stp.mem s₁ h' tk).trans (sm₃.trans sm₄))
      have drop : St c ρ₄ H₄ F s₄ := st₄.dropF (h' := s₄.heap) (tk := s₄.toks) hFI (fun v => hnc _ ob' v hP') (fun _ _ _ e => e)
      cases f with
      | next => exact ⟨n + 1 - (i + 1), by omega, i + 1, ρ₄, H₄, ob', rfl, hlt, smx, st₄, hP', p₄⟩
      | cont => exact ⟨n + 1 - (i + 1), by omega, i + 1, ρ₄, H₄, ob', rfl, hlt, smx, st₄, hP', p₄⟩
      | brk => exact k _ _ _ _ smx drop p₄
      | ret v => exact k _ _ _ _ smx drop p₄
    · have : i = n := by omega
      subst this
      refine W.done ρ₁ H₁ _ s₁ ob₁ _ _ hP₁ (hG i ρ₁ H₁ hI₁) st₁ gI fun h' tk hx => ?_
      have st₂ := st₁.dropF (tk := tk) hFI (fun v => hnc i ob₁ v hP₁) hx
      exact wpAny_execs_nil (k _ _ _ _ (sm₁.trans (Stp.mem s₁ h' tk)) st₂ (done ρ₁ H₁ hI₁))
end
def fnBody (p : Program) (i : Nat) : List Stmt := match p.main.body[i]? with
  | some (.FunctionDef _ _ body _ _ _ _ _ _ _) => body
  | _ => []
def fnScope (p : Program) (i : Nat) : Scope := match p.main.body[i]? with
  | some (.FunctionDef _ _ _ _ _ _ scope _ _ _) => scope
  | _ => { kind := .function, names := [], isGenerator := false, isCoroutine := false, more := [] }
def fnArgs (p : Program) (i : Nat) : Arguments := match p.main.body[i]? with
  | some (.FunctionDef _ args _ _ _ _ _ _ _ _) => args
  | _ => ⟨[], [], none, [], [], none, []⟩
theorem countP_split {p : Int → Bool} : ∀ (xs : List Int) (n : Nat), n ≤ xs.length → (∀ i y, i < n → xs[i]? = some y → p y = true) → (∀ i y, n ≤ i → xs[i]? = some y → p y = false) → xs.countP p = n
  | [], n, hn, _, _ => by simp at hn; simp [hn]
  | x :: xs, 0, _, _, h2 => by
    rw [List.countP_eq_zero]
    intro y hy
    obtain ⟨i, hi⟩ := List.getElem?_of_mem hy
    simp [h2 i y (Nat.zero_le _) hi]
  | x :: xs, n + 1, hn, h1, h2 => by
    have hx : p x = true := h1 0 x (Nat.succ_pos _) rfl
    rw [List.countP_cons, hx, countP_split xs n (by simpa using hn) (fun i y hi e => h1 (i + 1) y (by omega) (by simpa using e)) (fun i y hi e => h2 (i + 1) y (by omega) (by simpa using e))]
    simp
def zs (xs : List Int) : List AV := xs.map AV.int
theorem zs_get {xs : List Int} {k : Nat} {y : Int} (h : xs[k]? = some y) : (zs xs)[k]? = some (.int y) := by simp [zs, h]
theorem zs_len {xs : List Int} : (zs xs).length = xs.length := by simp [zs]
def Sorted (xs : List Int) : Prop := xs.Pairwise (· ≤ ·)
theorem Sorted.le {xs : List Int} (h : Sorted xs) {i j : Nat} {x y : Int} (hij : i ≤ j) (hx : xs[i]? = some x) (hy : xs[j]? = some y) : x ≤ y := by
  rcases Nat.lt_or_ge i j with q | q
  · obtain ⟨hi, rfl⟩ := List.getElem?_eq_some_iff.mp hx
    obtain ⟨hj, rfl⟩ := List.getElem?_eq_some_iff.mp hy
    exact (List.pairwise_iff_getElem.mp h) i j hi hj q
  · have : i = j := by omega
    subst this; rw [hx] at hy; cases hy; exact Int.le_refl _
theorem kd_of {c : Cx} {x : Str} {k : NameKind} {sc : Scope} (hk : c.env.scope = sc) (h : sc.names.lookup x = some k) : c.env.kindOf x = some k := by rw [Env.kindOf, hk]; exact h
theorem ex_ifp {c : Cx} {ρ : Loc} {H : Hp} {test : Expr} {body orelse : List Stmt} {pos : Pos} {b : Bool} {Φ : AF → Loc → Hp → Prop} (h : PT c ρ H test b) (ht : b = true → XS c ρ H body Φ) (hf : b = false → XS c ρ H orelse Φ) : EX c ρ H (.If test body orelse pos) Φ :=
  ex_if (h.tv (by cases b with | true => exact ht rfl | false => exact hf rfl))
theorem ex_assignp {c : Cx} {ρ : Loc} {H : Hp} {x : Str} {pos' pos : Pos} {e : Expr} {v : AV} {Φ : AF → Loc → Hp → Prop} (ok : Ok c) (hx : Stores c x) (h : PV c ρ H e v) (hΦ : Φ .next (ρ.set x v) H)
    (hs : swapsWith e (some (.Name x pos')) pos.line c.env = pure false := by rfl) : EX c ρ H (.Assign [.Name x pos'] e pos) Φ := ex_assign ok hx (h.ev hΦ) hs
theorem pt_is_none {c : Cx} {ρ : Loc} {H : Hp} {l : Expr} {k pos pos'} {v : AV} (h : PV c ρ H l v) (b : Bool) (hb : b = (match v with | .none => true | _ => false)) (hv : match v with | .none | .int _ | .bool _ | .ref _ => True | _ => False) : PT c ρ H (.Compare l [.Is] [.Constant .none k pos] pos') b :=
  pt_cmp (pv_cmp_of h pv_none (behind_of rfl) fun y z hy hz => Tri.of fun F s Q st kk => by
    have := abs_none hz; subst this
    subst hb
    cases v with
    | none => have := abs_none hy; subst this; exact PyProof.Rows.is_none_none (kk _ _ _ _ (.refl s) st ⟨rfl, rfl, rfl⟩)
    | int i => obtain ⟨t, rfl⟩ := abs_int hy; exact PyProof.Rows.is_int_none (kk _ _ _ _ (.refl s) st ⟨rfl, rfl, rfl⟩)
    | bool i => have := abs_bool hy; subst this; exact PyProof.Rows.is_bool_none (kk _ _ _ _ (.refl s) st ⟨rfl, rfl, rfl⟩)
    | ref i => have := abs_ref hy; subst this; exact PyProof.Rows.is_ref_none (kk _ _ _ _ (.refl s) st ⟨rfl, rfl, rfl⟩)
    | _ => exact hv.elim)
/-- an item of a list of ints, the place a natural number -/
theorem pv_itemZ {c : Cx} {ρ : Loc} {H : Hp} {v i : Expr} {pos : Pos} {l : Addr} {k : Nat} {xs : List Int} {fl : Bool} {y : Int} (hv : PV c ρ H v (.ref l)) (hk : PV c ρ H i (.int k)) (hl : H l = some (.list (zs xs), fl)) (hlen : xs.length < 1000000000) (hy : xs[k]? = some y)
    (hi : plainIdx i = true := by rfl) : PV c ρ H (.Subscript v i pos) (.int y) :=
  pv_item hv hk hl (by rw [zs_len]; exact hlen) (by omega) (by rw [show ((k : Int)).toNat = k by omega]; exact zs_get hy) hi
/-- a def of the text stands in the written part -/
def fdOf (p : Program) (i : Nat) (name : Str) (dV kV doc pm : Value) (an : Option Addr) (cdv ct : Value) : FuncData := fnOf name name (fnArgs p i) (fnBody p i) (fnScope p i) dV kV doc pm an cdv ct
structure FnK (K : Frag) (p : Program) (i : Nat) (name : Str) (f : Addr) (oc : Value) (od : Option Addr) (dV kV doc pm : Value) (an : Option Addr) (cdv ct : Value) (osl : Array (Option Value)) : Prop where
  g : gl K name = some (.ref f)
  o : K.lookup f = some ⟨oc, od, .func (fdOf p i name dV kV doc pm an cdv ct), osl⟩
  cd : codeIn K cdv name = true
def BindsK (K : Frag) (fd : FuncData) (vs : List Value) (binds : List (Str × Value)) : Prop := ∀ s : Shared, K.In s.heap → BindsTo s fd ⟨vs, []⟩ binds
theorem ex_returnp {c : Cx} {ρ : Loc} {H : Hp} {e : Expr} {v : AV} {pos : Pos} {Φ : AF → Loc → Hp → Prop} (h : PV c ρ H e v) (hΦ : Φ (.ret v) ρ H) : EX c ρ H (.Return (some e) pos) Φ := ex_return (h.ev hΦ)
section
variable {c : Cx} {ρ : Loc} {H : Hp}
/-- a comprehension's own frame -/
def compCx (c : Cx) (scope : Scope) (cl : List (Str × Addr)) (C : Addr) : Cx := { c with env := compEnvC scope cl C c.env, own := false }
/-- what it sees from around it -/
def freeLoc (scope : Scope) (ρ : Loc) : Loc := fun x => if scope.names.lookup x = some .free then ρ x else none
def closOf (env : Env) : List (Str × NameKind) → List (Str × Addr) → List (Str × Addr)
  | [], acc => acc
  | (n, k) :: r, acc => if k == .free then closOf env r ((n, (env.cells.lookup n).getD 0) :: acc) else closOf env r acc
theorem closOf_some {env : Env} {x : Str} : ∀ (l : List (Str × NameKind)) (acc : List (Str × Addr)), ((x, NameKind.free) ∈ l ∨ ∃ a, acc.lookup x = some a) → ∃ a, (closOf env l acc).lookup x = some a
  | [], acc, h => h.elim (fun h => by cases h) id
  | (n, k) :: r, acc, h => by
    unfold closOf
    split
    · rename_i hk
      refine closOf_some r _ ?_
      by_cases e : x = n
      · subst e; exact .inr ⟨_, by simp [List.lookup_cons]; rfl⟩
      · rcases h with h | ⟨a, h⟩
        · rcases List.mem_cons.mp h with q | q
          · cases q; exact absurd rfl e
          · exact .inl q
        · have : (x == n) = false := by simpa using e
          exact .inr ⟨a, by rw [List.lookup_cons, this]; exact h⟩
    · rename_i hk
      refine closOf_some r _ ?_
      rcases h with h | h
      · rcases List.mem_cons.mp h with q | q
        · cases q; exact absurd rfl hk
        · exact .inl q
      · exact .inr h
theorem relabel_lookup {scope : Scope} {env : Env} {x : Str} : (relabel scope env).names.lookup x = (scope.names.lookup x).map fun k => if (k == .free && env.scope.kind == .function && env.kindOf x == some .cell) then .cell else k := by
  unfold relabel
  dsimp only
  generalize scope.names = l
  induction l with
  | nil => rfl
  | cons y r ih =>
    obtain ⟨n, k⟩ := y
    by_cases e : x = n
    · subst e
      simp only [List.map_cons]
      split
      · rename_i h; simp only [List.lookup_cons, beq_self_eq_true, Option.map_some]; rw [if_pos h]
      · rename_i h; simp only [List.lookup_cons, beq_self_eq_true, Option.map_some]; rw [if_neg h]
    · have q : (x == n) = false := by simpa using e
      simp only [List.map_cons]
      split <;> simp only [List.lookup_cons, q] <;> exact ih
/-- the scopes that the rules below take: no cells of its own, what is free is a cell around -/
structure CompOk (c : Cx) (scope : Scope) : Prop where
  cell : ∀ y ∈ scope.names, y.2 ≠ .cell
  kind : scope.kind = .function
  names : ∀ y ∈ scope.names, scope.names.lookup y.1 = some y.2
  free : ∀ x, (x, NameKind.free) ∈ scope.names → cellKind c.env x
theorem CompOk.ok {scope : Scope} {C : Addr} (ok : Ok c) (k : CompOk c scope) : Ok (compCx c scope (closOf c.env scope.names []) C) := by
  refine ⟨ok.kin, ok.top, k.kind, ok.glob, ok.blt, ok.hand, ok.depth, ok.units, fun x hx => ?_, fun h => by cases h⟩
  have : (x, NameKind.free) ∈ scope.names := by
    have hx' : (relabel scope c.env).names.lookup x = some .cell ∨ (relabel scope c.env).names.lookup x = some .free := hx
    rw [relabel_lookup] at hx'
    cases e : scope.names.lookup x with
    | none => rw [e] at hx'; rcases hx' with q | q <;> cases q
    | some kk =>
      have hm := lookup_mem e
      rw [e] at hx'
      cases kk with
      | free => exact hm
      | cell => exact absurd rfl (k.cell _ hm)
      | _ => rcases hx' with q | q <;> simp at q
  exact closOf_some _ _ (.inl this)
open Classical in
/-- all that stands around and is not known by H -/
noncomputable def restF (c : Cx) (H F : Hp) (h : Heap) (C : Addr) : Hp := fun a => match F a with
  | some x => some x
  | none => if H a ≠ none ∨ a = C ∨ c.h₀.get? a ≠ none then none else (h.get? a).map fun ob => (.raw ob, true)
end
section
variable {c : Cx} {ρ : Loc} {H : Hp}
theorem St.get {F : Hp} {s : Shared} {a : Addr} {o : AObj} {b : Bool} (st : St c ρ H F s) (h : H a = some (o, b)) : ∃ ob, s.heap.get? a = some ob ∧ ORep o b ob := let ⟨ob, g, r, _⟩ := st.has a o b h; ⟨ob, g, r⟩
/-- an object that holds no cell -/
def NoCell (o : AObj) : Prop := ∀ ob, ORep o true ob → ∀ v, ob.data ≠ .cell v
theorem noCell_plain {o : AObj} (h : o.plain = true) : NoCell o := fun _ r v => r.not_cell h v
end
section
variable {c : Cx} {ρ : Loc} {H : Hp}
end
theorem intsAre_of : ∀ {vs : List Value} {ns : List Int}, vs.map abs = zs ns → IntsAre vs ns
  | [], [], _ => .nil
  | [], _ :: _, h => by simp [zs] at h
  | _ :: _, [], h => by simp [zs] at h
  | v :: vs, n :: ns, h => by
    simp only [List.map_cons, zs, List.cons.injEq] at h
    obtain ⟨t, rfl⟩ := abs_int h.1
    exact .cons n t (intsAre_of h.2)
theorem of_intsAre : ∀ {vs : List Value} {ns : List Int}, IntsAre vs ns → vs.map abs = zs ns
  | _, _, .nil => rfl
  | _, _, .cons n t r => by simp only [List.map_cons, zs]; rw [of_intsAre r]; rfl
def scriptLoc (l : Addr) : Loc := fun y => if y = ("script" : Str) then some (.ref l) else none
def scriptHp (l : Addr) (ns : List Int) : Hp := fun a => if a = l then some (.list (zs ns), false) else none
theorem cellsFrom_inj {x y : Str} : ∀ (names : List (Str × NameKind)) (n : Nat) (acc : List (Str × Addr)) (a : Addr), (∀ z b, acc.lookup z = some b → b < n) → (∀ z z' b, acc.lookup z = some b → acc.lookup z' = some b → z = z') →
    (cellsFrom n names acc).lookup x = some a → (cellsFrom n names acc).lookup y = some a → x = y
  | [], n, acc, a, _, hi, h1, h2 => hi _ _ _ h1 h2
  | (w, k) :: r, n, acc, a, hb, hi, h1, h2 => by
    unfold cellsFrom at h1 h2
    split at h1
    · rename_i hk
      rw [if_pos hk] at h2
      refine cellsFrom_inj r (n + 1) _ a ?_ ?_ h1 h2
      · intro z b e
        by_cases q : z = w
        · subst q; simp [List.lookup_cons] at e; rw [← e]; exact Nat.lt_succ_self _
        · have : (z == w) = false := by simpa using q
          rw [List.lookup_cons, this] at e; exact Nat.lt_succ_of_lt (hb z b e)
      · intro z z' b e e'
        by_cases q : z = w
        · subst q
          simp [List.lookup_cons] at e; subst e
          by_cases q' : z' = z
          · exact q'.symm
          · have : (z' == z) = false := by simpa using q'
            rw [List.lookup_cons, this] at e'; exact absurd (hb _ _ e') (Nat.lt_irrefl _)
        · have hq : (z == w) = false := by simpa using q
          rw [List.lookup_cons, hq] at e
          by_cases q' : z' = w
          · subst q'
            simp [List.lookup_cons] at e'; subst e'
            exact absurd (hb _ _ e) (Nat.lt_irrefl _)
          · have hq' : (z' == w) = false := by simpa using q'
            rw [List.lookup_cons, hq'] at e'; exact hi _ _ _ e e'
    · rename_i hk
      rw [if_neg hk] at h2
      exact cellsFrom_inj r n acc a hb hi h1 h2
theorem cellsAre_get {cm : Str → Option Value} {x : Str} {a : Addr} : ∀ {cs : List (Str × Addr)} {cells : List (Addr × Obj)}, CellsAre cm cs cells → cs.lookup x = some a → ∃ o, (a, o) ∈ cells ∧ o.data = .cell (cm x)
  | _, _, .nil, h => by cases h
  | _, _, .cons (n := n) (c := b) (o := o) (cs := cs) (cells := cells) hd r, h => by
    by_cases q : x = n
    · subst q; simp [List.lookup_cons] at h; subst h; exact ⟨o, .head _, hd⟩
    · have : (x == n) = false := by simpa using q
      rw [List.lookup_cons, this] at h
      obtain ⟨o', m, d⟩ := cellsAre_get r h
      exact ⟨o', .tail _ m, d⟩
theorem lookup_cellsFrom {x : Str} {names : List (Str × NameKind)} {n : Nat} (h : (x, NameKind.cell) ∈ names) : ∃ a, (cellsFrom n names []).lookup x = some a := by
  have gen : ∀ (l : List (Str × NameKind)) (n : Nat) (acc : List (Str × Addr)), ((x, NameKind.cell) ∈ l ∨ ∃ a, acc.lookup x = some a) → ∃ a, (cellsFrom n l acc).lookup x = some a := by
    intro l
    induction l with
    | nil => intro n acc h; exact h.elim (fun h => by cases h) id
    | cons y r ih =>
      intro n acc h
      obtain ⟨z, k⟩ := y
      unfold cellsFrom
      split
      · refine ih _ _ ?_
        by_cases q : x = z
        · subst q; exact .inr ⟨n, by simp [List.lookup_cons]⟩
        · rcases h with h | ⟨a, h⟩
          · rcases List.mem_cons.mp h with e | e
            · cases e; exact absurd rfl q
            · exact .inl e
          · have : (x == z) = false := by simpa using q
            exact .inr ⟨a, by rw [List.lookup_cons, this]; exact h⟩
      · rename_i hk
        refine ih _ _ ?_
        rcases h with h | h
        · rcases List.mem_cons.mp h with e | e
          · cases e; exact absurd rfl hk
          · exact .inl e
        · exact .inr h
  exact gen names n [] (.inl h)
section
variable {c : Cx} {ρ : Loc} {H : Hp}
theorem one_of {ys : List Value} {a : AV} (h : ys.map abs = [a]) : ∃ y, ys = [y] ∧ abs y = a := by
  match ys, h with
  | [y], h => exact ⟨y, rfl, by simpa using h⟩
theorem two_of {ys : List Value} {a b : AV} (h : ys.map abs = [a, b]) : ∃ y z, ys = [y, z] ∧ abs y = a ∧ abs z = b := by
  match ys, h with
  | [y, z], h => simp at h; exact ⟨y, z, rfl, h.1, h.2⟩
theorem four_of {ys : List Value} {a b d e : AV} (h : ys.map abs = [a, b, d, e]) : ∃ y z w u, ys = [y, z, w, u] ∧ abs y = a ∧ abs z = b ∧ abs w = d ∧ abs u = e := by
  match ys, h with
  | [y, z, w, u], h => simp at h; exact ⟨y, z, w, u, rfl, h.1, h.2.1, h.2.2.1, h.2.2.2⟩
theorem none_at_size (h : Heap) : h.get? h.objs.size = none := by
  cases e : h.get? h.objs.size with
  | none => rfl
  | some o => exact absurd (Heap.lt_size e) (Nat.lt_irrefl _)
theorem sizeLine_is : sizeLine = 16777216 := rfl
theorem orep_list {its : Array Value} {n : Nat} {xs : List AV} (h : its.toList.map abs = xs) : ORep (.list xs) true { cls := .type "list", data := .seq its n } := ⟨its, n, rfl, rfl, h, fun _ => rfl⟩
theorem orep_tup {its : Array Value} {n : Nat} {xs : List AV} (h : its.toList.map abs = xs) : ORep (.tup xs) true { cls := .type "tuple", data := .seq its n } := ⟨its, n, rfl, rfl, h, fun _ => rfl⟩
theorem small_of {a b d : Int} (ha : -1000000000 ≤ a ∧ a ≤ 1000000000) (hb : -1000000000 ≤ b ∧ b ≤ 1000000000) (hd : 0 < d ∧ d ≤ 1000) : Builtin.Range.small a b d = true ∧ 0 ≤ Builtin.Range.rangeSize a b d := by
  have hsz : 0 ≤ Builtin.Range.rangeSize a b d ∧ Builtin.Range.rangeSize a b d ≤ 2000000001 := by
    unfold Builtin.Range.rangeSize
    rw [if_pos hd.1]
    split
    · have h1 : 0 ≤ (b - a - 1) / d := Int.ediv_nonneg (by omega) (by omega)
      have h2 : (b - a - 1) / d ≤ b - a - 1 := Int.ediv_le_self _ (by omega)
      omega
    · omega
  refine ⟨?_, hsz.1⟩
  unfold Builtin.Range.small Builtin.Range.rangeFitsLong
  simp only [Bool.and_eq_true, Bool.or_eq_true, decide_eq_true_eq, beq_iff_eq]
  rw [if_pos hd.1]
  simp only [Bool.and_eq_true, decide_eq_true_eq]
  omega
theorem itr_range1 {x : Str} {np pos : Pos} {e1 : Expr} {b : Int} {Ψ : Nat → (Nat → AV) → (Hp → Prop) → Hp → Prop} (ok : Ok c) (hl : c.env.kindOf x = some .globalImplicit) (hg : gl c.K x = some (.type "range"))
    (h1 : PV c ρ H e1 (.int b)) (hb : -1000000000 ≤ b ∧ b ≤ 1000000000)
    (hΨ : Ψ b.toNat (fun i => .int i) (fun _ => True) H)
    (hns : noStars [e1] = true := by decide +kernel) (hdb : (x == ("__debug__" : Str)) = false := by decide +kernel) (hn : x ≠ ("__name__" : Str) := by decide +kernel) :
    ITR c ρ H (.Call (.Name x np) [e1] [] pos) Ψ := by
  refine itr_rangeV ok.hand fun F s Q E st k => ?_
  have hs := small_of (a := 0) (by omega) hb (d := 1) (by omega)
  have hΨ' : Ψ (Builtin.Range.rangeSize 0 b 1).toNat (fun i => .int (0 + i * 1)) (fun _ => True) H := by
    have e1 : (Builtin.Range.rangeSize 0 b 1).toNat = b.toNat := by
      unfold Builtin.Range.rangeSize
      rw [if_pos (by omega)]
      split
      · rw [Int.ediv_one]; omega
      · omega
    rw [e1]
    simpa using hΨ
  refine wpAny_mono (Q := fun y s' => ∃ r t u v, y = .ref r ∧ Stp s H s' H ∧ St c ρ H F s' ∧ IsRange s'.heap r 0 b 1 t u v) (E := fun _ _ => False) ?_ (fun y s' ⟨r, t, u, v, e, sm, st', hr⟩ => by subst e; exact k r s' 0 b 1 t u v H sm st' hr hs.1 hΨ' hs.2) fun _ _ x => x.elim
  refine wpAny_Call_NameR (gl_loads ok hl hg hdb hn st ?_)
  rw [back_plain hns]
  refine PyProof.Rows.callWith_type (by simp [List.any_eq]) (evalArgs_plain ?_)
  refine (ps_cons h1 ps_nil).use st fun ys s₁ ρ₁ H₁ sm₁ st₁ ⟨e₁, e2, e3⟩ => ?_
  subst e₁ e3
  obtain ⟨y1, rfl, a1⟩ := one_of e2
  obtain ⟨t1, rfl⟩ := abs_int a1
  exact call_range_1 ⟨_, _, t1, _, rfl, sm₁.trans (.mem s₁ _ _), st₁.keepsAll (fun b o e => Heap.get?_push_of_some _ e), Heap.get?_push_size _ rfl⟩
theorem ev_list {es : List Expr} {pos : Pos} {Φ : AV → Hp → Prop} (h : ES c ρ H es fun vs H' => vs.length ≤ 1000 ∧ ∀ D, H' D = none → Φ (.ref D) (H'.set D (.list vs))) (hns : noStars es = true := by decide +kernel) : EV c ρ H (.List es pos) Φ :=
  Tri.of fun F s Q st k => wpAny_List (by
    rw [back_plain hns]
    refine h.use st fun ys s₁ ρ₁ H₁ sm₁ st₁ ⟨e₁, hlen, p⟩ => ?_
    subst e₁
    have hn := none_at_size s₁.heap
    refine ⟨by rw [sizeLine_is]; simp at hlen; omega, k _ _ _ _ (sm₁.trans (.set s₁ _ s₁.toks)) (st₁.alloc (tk := s₁.toks) (o := .list (ys.map abs)) hn (fun b o e => Heap.get?_push_of_some _ e) (Heap.get?_push_size _ rfl) (orep_list (by simp))) ⟨rfl, p _ (st₁.fresh hn).1⟩⟩)
theorem ev_tuple {es : List Expr} {n : Nat} {pos : Pos} {Φ : AV → Hp → Prop} (h : ES c ρ H es fun vs H' => vs.length ≤ 1000 ∧ ∀ D, H' D = none → Φ (.ref D) (H'.set D (.tup vs))) (hns : noStars es = true := by decide +kernel) : EV c ρ H (.Tuple es n pos) Φ :=
  Tri.of fun F s Q st k => wpAny_Tuple (by
    rw [back_plain hns]
    refine h.use st fun ys s₁ ρ₁ H₁ sm₁ st₁ ⟨e₁, hlen, p⟩ => ?_
    subst e₁
    have hn := none_at_size s₁.heap
    refine ⟨by rw [sizeLine_is]; simp at hlen; omega, k _ _ _ _ (sm₁.trans (.set s₁ _ s₁.toks)) (st₁.alloc (tk := s₁.toks) (o := .tup (ys.map abs)) hn (fun b o e => Heap.get?_push_of_some _ e) (Heap.get?_push_size _ rfl) (orep_tup (by simp))) ⟨rfl, p _ (st₁.fresh hn).1⟩⟩)
theorem St.ints {F : Hp} {s : Shared} {a : Addr} {xs : List Int} {fl : Bool} (st : St c ρ H F s) (h : H a = some (.list (zs xs), fl)) : ∃ vs : List Value, s.heap.IsList a vs.toArray ∧ IntsAre vs xs := by
  obtain ⟨its, hl, he⟩ := st.isList h
  exact ⟨its.toList, by simpa using hl, intsAre_of he⟩
theorem pv_max2 {x : Str} {np pos : Pos} {e1 e2 : Expr} {a b : Int} (ok : Ok c) (hl : c.env.kindOf x = some .globalImplicit) (hg : gl c.K x = some (.builtin "max")) (h1 : PV c ρ H e1 (.int a)) (h2 : PV c ρ H e2 (.int b))
    (hns : noStars [e1, e2] = true := by decide +kernel) (hd : (x == ("__debug__" : Str)) = false := by decide +kernel) (hn : x ≠ ("__name__" : Str) := by decide +kernel) : PV c ρ H (.Call (.Name x np) [e1, e2] [] pos) (.int (max a b)) :=
  ev_call_bi ok hl hg ((ps_cons h1 (ps_cons h2 ps_nil)).es fun ys hys => by
    obtain ⟨y, z, rfl, hy, hz⟩ := two_of hys
    obtain ⟨t, rfl⟩ := abs_int hy
    obtain ⟨u, rfl⟩ := abs_int hz
    exact Tri.of fun F s Q st k => by
      obtain ⟨m, Fm, N, via⟩ := st.via
      refine max_two_N ok.hand Fm N fun h' tk F' N' => k _ _ _ _ (.mem s h' tk) (via h' tk F' N') ⟨rfl, ?_, rfl⟩
      show AV.int _ = AV.int _
      congr 1
      omega) hns hd hn
theorem pv_min2 {x : Str} {np pos : Pos} {e1 e2 : Expr} {a b : Int} (ok : Ok c) (hl : c.env.kindOf x = some .globalImplicit) (hg : gl c.K x = some (.builtin "min")) (h1 : PV c ρ H e1 (.int a)) (h2 : PV c ρ H e2 (.int b))
    (hns : noStars [e1, e2] = true := by decide +kernel) (hd : (x == ("__debug__" : Str)) = false := by decide +kernel) (hn : x ≠ ("__name__" : Str) := by decide +kernel) : PV c ρ H (.Call (.Name x np) [e1, e2] [] pos) (.int (min a b)) :=
  ev_call_bi ok hl hg ((ps_cons h1 (ps_cons h2 ps_nil)).es fun ys hys => by
    obtain ⟨y, z, rfl, hy, hz⟩ := two_of hys
    obtain ⟨t, rfl⟩ := abs_int hy
    obtain ⟨u, rfl⟩ := abs_int hz
    exact Tri.of fun F s Q st k => by
      obtain ⟨m, Fm, N, via⟩ := st.via
      refine min_two_N ok.hand Fm N fun h' tk F' N' => k _ _ _ _ (.mem s h' tk) (via h' tk F' N') ⟨rfl, ?_, rfl⟩
      show AV.int _ = AV.int _
      congr 1
      omega) hns hd hn
theorem pv_abs {x : Str} {np pos : Pos} {e1 : Expr} {a : Int} (ok : Ok c) (hl : c.env.kindOf x = some .globalImplicit) (hg : gl c.K x = some (.builtin "abs")) (h1 : PV c ρ H e1 (.int a))
    (hns : noStars [e1] = true := by decide +kernel) (hd : (x == ("__debug__" : Str)) = false := by decide +kernel) (hn : x ≠ ("__name__" : Str) := by decide +kernel) : PV c ρ H (.Call (.Name x np) [e1] [] pos) (.int (a.natAbs : Int)) :=
  ev_call_bi ok hl hg ((ps_cons h1 ps_nil).es fun ys hys => by
    obtain ⟨y, rfl, hy⟩ := one_of hys
    obtain ⟨t, rfl⟩ := abs_int hy
    exact Tri.of fun F s Q st k => by
      refine call_abs_int fun u tk => k _ _ _ _ (.mem s s.heap tk) st.toks ⟨rfl, ?_, rfl⟩
      show AV.int _ = AV.int _
      congr 1
      omega) hns hd hn
theorem ev_method {o e : Expr} {es : List Expr} {name : Str} {id : String} {apos pos : Pos} {pl : Sem Bool} {Φ : AV → Hp → Prop} (slot : Slot "list" name id) (hty : typeOf (.builtin id) = pure (.type "method_descriptor"))
    (h : EV c ρ H o fun a H₁ => ∃ l xs, a = .ref l ∧ H₁ l = some (.list xs, true) ∧ ES c ρ H₁ (e :: es) fun vs H₂ => ∀ ys, ys.map abs = vs → OV c ρ H₂ (call (.builtin id) (.ref l :: ys)) Φ)
    (he : eval (.Call (.Attribute o name apos) (e :: es) [] pos) c.env = (do
      let ov ← eval o c.env
      standAt apos.atName
      let (f, first) ← holding [ov] (getMethod ov name pl)
      callWith pos f first (backTo pos (starEach (e :: es) c.env)) (backToKw pos (keywordEach [] c.env)))) (hns : noStars (e :: es) = true := by decide +kernel) : EV c ρ H (.Call (.Attribute o name apos) (e :: es) [] pos) Φ :=
  Tri.of fun F s Q st k => methodCall_KW (pl := pl) (h.use st fun ov s₁ ρ₁ H₁ sm₁ st₁ ⟨e₁, l, xs, ha, hl, p⟩ => by
    subst e₁
    have := abs_ref ha; subst this
    obtain ⟨ob, g, its, n, hc, hd, hm, ho⟩ := st₁.get hl
    have hob := ho rfl
    subst hob
    refine getMethod_list_of slot hty ⟨_, g, rfl, n, rfl⟩ (by exact ⟨_, g, rfl⟩) ?_
    show wpAny _ _ (callWith pos (.builtin id) [.ref l] (backTo pos (starEach (e :: es) c.env)) []) _ _ s₁
    rw [back_plain hns]
    refine callWith_builtin (by simp [List.any_eq]) (evalArgs_plain ?_)
    exact p.use st₁ fun ys s₂ ρ₂ H₂ sm₂ st₂ ⟨e₂, p₂⟩ => by
      subst e₂
      exact (p₂ ys rfl).use st₂ fun r s₃ ρ₃ H₃ sm₃ st₃ ⟨e₃, p₃⟩ => by subst e₃; exact k _ _ _ _ (sm₁.trans (sm₂.trans sm₃)) st₃ ⟨rfl, p₃⟩) he
theorem ov_append {l : Addr} {xs : List AV} {y : Value} {v : AV} {Φ : AV → Hp → Prop} (hy : abs y = v) (hl : H l = some (.list xs, true)) (hlen : xs.length ≤ 1000000) (h : Φ .none (H.set l (.list (xs ++ [v])))) : OV c ρ H (call (.builtin "list.append") [.ref l, y]) Φ :=
  Tri.of fun F s Q st k => by
    obtain ⟨ob, g, its, n, hc, hd, hm, ho⟩ := st.get hl
    have hob := ho rfl
    subst hob
    have hsz := size_of_map hm
    exact append_at (hsz := by rw [sizeLine_is]; omega) g fun h' hs g' => k _ _ _ _ (.set s h' s.toks) (st.upd (tk := s.toks) hl rfl hs g' (orep_list (by simp [hm, hy]))) ⟨rfl, h⟩
theorem ev_append {o e : Expr} {apos pos : Pos} {pl : Sem Bool} {Φ : AV → Hp → Prop}
    (h : EV c ρ H o fun a H₁ => ∃ l xs, a = .ref l ∧ H₁ l = some (.list xs, true) ∧ EV c ρ H₁ e fun v H₂ => ∃ xs, H₂ l = some (.list xs, true) ∧ xs.length ≤ 1000000 ∧ Φ .none (H₂.set l (.list (xs ++ [v]))))
    (he : eval (.Call (.Attribute o "append" apos) [e] [] pos) c.env = (do
      let ov ← eval o c.env
      standAt apos.atName
      let (f, first) ← holding [ov] (getMethod ov "append" pl)
      callWith pos f first (backTo pos (starEach [e] c.env)) (backToKw pos (keywordEach [] c.env))) := by rfl) (hns : noStars [e] = true := by decide +kernel) : EV c ρ H (.Call (.Attribute o "append" apos) [e] [] pos) Φ :=
  ev_method F.slot_list_append F.type_list_append (h.mono fun v H' ⟨l, xs, hv, hl, p⟩ => ⟨l, xs, hv, hl, es_cons (p.mono fun v H₂ ⟨xs, hl₂, hlen, p₂⟩ => es_nil fun ys hys => by
    obtain ⟨y, rfl, hy⟩ := one_of hys
    exact ov_append hy hl₂ hlen p₂)⟩) he hns
end
section
variable {c : Cx} {ρ : Loc} {H : Hp}
/-- an object that stands and is now known -/
theorem St.knowH {F : Hp} {s : Shared} {D : Addr} {ob : Obj} {o : AObj} (st : St c ρ H F s) (g : s.heap.get? D = some ob) (hr : ORep o true ob) (hc : NoCell o) (hL : D ≠ c.L) (h0 : c.h₀.get? D = none) (hH : H D = none) (hF : F D = none) : St c ρ (H.set D o) F s := by
  refine ⟨st.ns, fun x b e => ?_, st.keep, st.above, fun b o' fl e => ?_, st.hasF, fun b hb => ?_⟩
  · obtain ⟨ob', o', g', d, ne, r1, r0, r2, r3⟩ := st.cel x b e
    have hne : b ≠ D := by intro q; rw [q, g] at g'; cases g'; exact hc _ hr _ d
    exact ⟨ob', o', g', d, ne, r1, by simp only [Hp.set, if_neg hne]; exact r0, r2, r3⟩
  · by_cases q : b = D
    · subst q; rw [Hp.set_same] at e; cases e; exact ⟨ob, g, hr, fun _ => ⟨hL, h0⟩, fun x => by cases x⟩
    · simp only [Hp.set, if_neg q] at e; exact st.has b o' fl e
  · by_cases q : b = D
    · subst q; exact hF
    · simp only [Hp.set, if_neg q] at hb; exact st.dis b hb
theorem St.unknown {F : Hp} {s : Shared} {D : Addr} (st : St c ρ H F s) (h0 : c.h₀.get? D = none) (hL : D ≠ c.L) (hlt : ∀ q ∈ allNews c.h₀ c.L s.heap, q.1 < D) : H D = none ∧ F D = none := by
  constructor
  · cases e : H D with
    | none => rfl
    | some z =>
      obtain ⟨o, b⟩ := z
      obtain ⟨ob, g, _, r1, r2⟩ := st.has D o b e
      cases b with
      | true => exact absurd (hlt _ (mem_allNews.mpr ⟨hL, h0, g⟩)) (Nat.lt_irrefl _)
      | false => have := r2 rfl; rw [h0] at this; cases this
  · cases e : F D with
    | none => rfl
    | some z =>
      obtain ⟨o, b⟩ := z
      obtain ⟨ob, g, _, r1, r2⟩ := st.hasF D o b e
      cases b with
      | true => exact absurd (hlt _ (mem_allNews.mpr ⟨hL, h0, g⟩)) (Nat.lt_irrefl _)
      | false => have := r2 rfl; rw [h0] at this; cases this
/-- the library's rules that make one object -/
theorem St.viaNew {F : Hp} {s : Shared} (st : St c ρ H F s) : ∃ m, Fr c.h₀ c.L s.heap m ∧ News c.h₀ c.L s.heap (allNews c.h₀ c.L s.heap) ∧
    ∀ h' tk D ob o, Fr c.h₀ c.L h' m → News c.h₀ c.L h' ((D, ob) :: allNews c.h₀ c.L s.heap) → (∀ q ∈ allNews c.h₀ c.L s.heap, q.1 < D) → ORep o true ob → NoCell o →
      H D = none ∧ St c ρ (H.set D o) F { s with heap := h', toks := tk } := by
  obtain ⟨m, Fm, N, via⟩ := st.via
  refine ⟨m, Fm, N, fun h' tk D ob o F' N' hlt hr hc => ?_⟩
  have z := N' (D, ob) (.head _)
  have u := st.unknown z.2.2 z.2.1 hlt
  have st' := via h' tk F' fun p hp => N' p (.tail _ hp)
  exact ⟨u.1, st'.knowH z.1 hr hc z.2.1 z.2.2 u.1 u.2⟩
theorem allNews_lt (h₀ h : Heap) (L : Addr) : ∀ q ∈ allNews h₀ L h, q.1 < h.objs.size := fun q hq => by
  obtain ⟨a, o⟩ := q; exact Heap.lt_size (mem_allNews.mp hq).2.2
/-- a list of the call's own is changed -/
theorem St.updSeq {F : Hp} {s : Shared} {l : Addr} {xs ys : List AV} {f : Array Value → Array Value} {tk : Nat} (st : St c ρ H F s) (hl : H l = some (.list xs, true)) (hf : ∀ its : Array Value, its.toList.map abs = xs → (f its).toList.map abs = ys) :
    St c ρ (H.set l (.list ys)) F { s with heap := s.heap.update l (Obj.mapSeq f), toks := tk } := by
  obtain ⟨ob, g, its, n, hc, hd, hm, ho⟩ := st.get hl
  have hob := ho rfl
  subst hob
  refine st.upd hl rfl (Heap.SameBut.update ..) (Heap.get?_update_self _ g rfl) ?_
  exact ⟨f its, _, rfl, rfl, hf its hm, fun _ => rfl⟩
theorem St.plainL {F : Hp} {s : Shared} {l : Addr} {xs : List AV} (st : St c ρ H F s) (hl : H l = some (.list xs, true)) : ∃ its n, s.heap.get? l = some { cls := .type "list", data := .seq its n } ∧ its.toList.map abs = xs := by
  obtain ⟨ob, g, its, n, hc, hd, hm, ho⟩ := st.get hl
  have hob := ho rfl
  subst hob
  exact ⟨its, n, g, hm⟩
theorem ov_setItem {l : Addr} {xs : List AV} {y z : Value} {v : AV} {k : Nat} {Φ : Loc → Hp → Prop} (hy : abs y = .int k) (hz : abs z = v) (hl : H l = some (.list xs, true)) (hk : k < xs.length) (hlen : xs.length ≤ 1000000) (h : Φ ρ (H.set l (.list (xs.set k v)))) :
    Tri c ρ H (setItem (.ref l) y z) fun _ ρ' H' => Φ ρ' H' :=
  Tri.of fun F s Q st kk => by
    obtain ⟨u, rfl⟩ := abs_int hy
    obtain ⟨its, n, g, hm⟩ := st.plainL hl
    have hsz := size_of_map hm
    refine ki_setAt g (by omega) (by omega) (by omega) (kk _ _ _ _ (.set s _ s.toks) (st.updSeq (tk := s.toks) (ys := xs.set k v) hl fun its' hm' => ?_) h)
    have e : (k : Int).toNat = k := by omega
    rw [e, ← hm']
    simp [List.map_set, hz]
/-- a list's item as a target -/
theorem asg_item {o i : Expr} {pos : Pos} {v : AV} {Φ : Loc → Hp → Prop} (h : EV c ρ H o fun a H₁ => EV c ρ H₁ i fun b H₂ => ∃ l xs k, a = .ref l ∧ b = .int (k : Nat) ∧ H₂ l = some (.list xs, true) ∧ k < xs.length ∧ xs.length ≤ 1000000 ∧ Φ ρ (H₂.set l (.list (xs.set k v)))) :
    ASG c ρ H (.Subscript o i pos) v Φ := fun y hy => Tri.of fun F s Q st kk => by
  rw [assign_Subscript]
  refine wpAny_bind (wpAny_holding (h.use st fun a s₁ ρ₁ H₁ sm₁ st₁ ⟨e₁, h₁⟩ => ?_))
  subst e₁
  refine wpAny_bind (wpAny_holding (h₁.use st₁ fun b s₂ ρ₂ H₂ sm₂ st₂ ⟨e₂, l, xs, k, ha, hb, hl, hk, hlen, p⟩ => ?_))
  subst e₂
  have := abs_ref ha; subst this
  refine wpAny_bind (wpAny_standAt (wpAny_bind (wpAny_holding ((ov_setItem (ρ := ρ₂) (Φ := Φ) hb hy hl hk hlen p).use st₂ fun _ s₃ ρ₃ H₃ sm₃ st₃ p₃ => ?_))))
  exact wpAny_release' (kk _ _ _ _ (sm₁.trans (sm₂.trans sm₃)) st₃ p₃)
theorem ex_assign_item {o i e : Expr} {pos pos' : Pos} {Φ : AF → Loc → Hp → Prop} (h : EV c ρ H e fun v H₀ => EV c ρ H₀ o fun a H₁ => EV c ρ H₁ i fun b H₂ => ∃ l xs k, a = .ref l ∧ b = .int (k : Nat) ∧ H₂ l = some (.list xs, true) ∧ k < xs.length ∧ xs.length ≤ 1000000 ∧ Φ .next ρ (H₂.set l (.list (xs.set k v))))
    (hs : swapsWith e (some (.Subscript o i pos')) pos.line c.env = pure false := by rfl) : EX c ρ H (.Assign [.Subscript o i pos'] e pos) Φ :=
  Tri.of fun F s Q st kk => wpAny_Assign_Subscript (h.use st fun v s₀ ρ₀ H₀ sm₀ st₀ ⟨e₀, h₀⟩ => by
    subst e₀
    exact h₀.use st₀ fun a s₁ ρ₁ H₁ sm₁ st₁ ⟨e₁, h₁⟩ => by
      subst e₁
      exact h₁.use st₁ fun b s₂ ρ₂ H₂ sm₂ st₂ ⟨e₂, l, xs, k, ha, hb, hl, hk, hlen, p⟩ => by
        subst e₂
        have := abs_ref ha; subst this
        exact (ov_setItem (ρ := ρ₂) (Φ := fun ρ' H' => Φ .next ρ' H') hb rfl hl hk hlen p).use st₂ fun _ s₃ ρ₃ H₃ sm₃ st₃ p₃ => kk _ _ _ _ (sm₀.trans (sm₁.trans (sm₂.trans sm₃))) st₃ p₃) hs
end
section
variable {c : Cx} {ρ : Loc} {H : Hp}
theorem unpackItems_list2 {prog : Program} {w : World} {A : Around} {E : Value → Shared → Prop} {s : Shared} {l : Addr} {y1 y2 : Value} {Q : List Value → Shared → Prop} (hh : A.handled = none) (hl : s.heap.IsList l #[y1, y2])
    (hQ : ∀ h', Heap.ExtBut s.heap.objs.size s.heap h' → Q [y1, y2] { s with heap := h' }) : wpAny (model prog w) A (unpackItems (.ref l) 2 none) Q E s := by
  have hlt : l ≠ s.heap.objs.size := by obtain ⟨o, ho, _⟩ := hl; exact Nat.ne_of_lt (Heap.lt_size ho)
  unfold unpackItems
  refine wpAny_bind ?_
  unfold notIterableAtAll
  refine wpAny_bind (wpAny_specialOf hl.typeIs PySem.F.slot_list_iter.lookup ?_)
  refine wpAny_pure ?_
  simp only [Bool.false_eq_true, if_false]
  refine wpAny_bind (wpAny_holding (wpAny_pyIter_list hl ?_))
  have hit : (s.heap.push { cls := .type "list_iterator", data := .fields #[.ref l, .int 0 0] }).IsListIter s.heap.objs.size l 0 := ⟨_, Heap.get?_push_size _ rfl, rfl, rfl⟩
  have hl0 : (s.heap.push { cls := .type "list_iterator", data := .fields #[.ref l, .int 0 0] }).IsList l #[y1, y2] := hl.at fun o e => Heap.get?_push_of_some _ e
  refine wpAny_bind (wpAny_holding ?_)
  show wpAny _ _ (pyNext (.ref s.heap.objs.size) >>= _) _ _ _
  refine wpAny_bind (wpAny_pyNext_list_item (x := y1) hit hl0 rfl fun h₁ hit₁ hs₁ => ?_)
  have hl1 : h₁.IsList l #[y1, y2] := hl0.extBut hs₁.extBut hlt
  refine wpAny_bind (wpAny_holding ?_)
  show wpAny _ _ (pyNext (.ref s.heap.objs.size) >>= _) _ _ _
  refine wpAny_bind (wpAny_pyNext_list_item (x := y2) hit₁ hl1 rfl fun h₂ hit₂ hs₂ => ?_)
  have hl2 : h₂.IsList l #[y1, y2] := hl1.extBut hs₂.extBut hlt
  refine wpAny_bind (wpAny_holding ?_)
  show wpAny _ _ (pure []) _ _ _
  refine wpAny_pure (wpAny_pure (wpAny_pure ?_))
  rw [if_neg (by simp)]
  refine wpAny_bind (wpAny_holding (wpAny_pyNext_list_end hh hit₂ hl2 rfl fun h₃ he₃ => ?_))
  simp only [Option.isSome_none, Bool.false_eq_true, if_false]
  exact wpAny_pure (hQ h₃ fun b o hb e => he₃ b o hb (hs₂.extBut b o hb (hs₁.extBut b o hb (Heap.get?_push_of_some _ e))))
theorem St.extNew {F : Hp} {s : Shared} {h' : Heap} {tk : Nat} (st : St c ρ H F s) (he : Heap.ExtBut s.heap.objs.size s.heap h') : St c ρ H F { s with heap := h', toks := tk } :=
  st.keepsAll fun b o e => he b o (Nat.ne_of_lt (Heap.lt_size e)) e
/-- two targets, the value a pair or a list of two -/
theorem asg_two {t1 t2 : Expr} {k : Nat} {pos : Pos} {a : Addr} {v1 v2 : AV} {fl : Bool} {Φ : Loc → Hp → Prop} (ok : Ok c) (ha : H a = some (.tup [v1, v2], fl) ∨ H a = some (.list [v1, v2], fl)) (h : ASG c ρ H t1 v1 fun ρ₁ H₁ => ASG c ρ₁ H₁ t2 v2 Φ)
    (hae : assignEach [t1, t2] c.env = [(false, assign t1 c.env), (false, assign t2 c.env)]) : ASG c ρ H (.Tuple [t1, t2] k pos) (.ref a) Φ := fun y hy => Tri.of fun F s Q st kk => by
  have := abs_ref hy; subst this
  rw [arm_assign_Tuple, hae]
  refine wpAny_bind (wpAny_standAt ?_)
  unfold unpack
  refine wpAny_bind (wpAny_holding ?_)
  have main : ∀ h' y1 y2, abs y1 = v1 → abs y2 = v2 → Heap.ExtBut s.heap.objs.size s.heap h' → wpAny c.M c.A (assignInOrder [assign t1 c.env, assign t2 c.env] [y1, y2]) Q (fun _ _ => False) { s with heap := h' } := by
    intro h' y1 y2 hy1 hy2 he
    have st' := st.extNew (tk := s.toks) he
    show wpAny _ _ (do holding [y2] (assign t1 c.env y1); assignInOrder [assign t2 c.env] [y2]) _ _ _
    refine wpAny_bind (wpAny_holding ((h y1 hy1).use st' fun _ s₁ ρ₁ H₁ sm₁ st₁ p => ?_))
    show wpAny _ _ (do holding [] (assign t2 c.env y2); assignInOrder [] []) _ _ _
    refine wpAny_bind (wpAny_holding ((p y2 hy2).use st₁ fun _ s₂ ρ₂ H₂ sm₂ st₂ p₂ => ?_))
    exact wpAny_pure (kk _ _ _ _ ((Stp.mem s h' s.toks).trans (sm₁.trans sm₂)) st₂ p₂)
  rcases ha with ha | ha
  · obtain ⟨its, hits, hm⟩ := st.isTup ha
    obtain ⟨y1, y2, he, hy1, hy2⟩ := two_of hm
    have hits' : its = #[y1, y2] := by apply Array.toList_inj.mp; rw [he]
    subst hits'
    refine unpackItems_tuple (items := #[y1, y2]) ok.hand hits fun h' he => main h' y1 y2 hy1 hy2 he
  · obtain ⟨its, hits, hm⟩ := st.isList ha
    obtain ⟨y1, y2, he, hy1, hy2⟩ := two_of hm
    have hits' : its = #[y1, y2] := by apply Array.toList_inj.mp; rw [he]
    subst hits'
    refine unpackItems_list2 ok.hand hits fun h' he => main h' y1 y2 hy1 hy2 he
theorem ex_assign_tuple {elts : List Expr} {k : Nat} {tpos pos : Pos} {e : Expr} {Φ : AF → Loc → Hp → Prop} (h : EV c ρ H e fun v H' => ASG c ρ H' (.Tuple elts k tpos) v fun ρ₁ H₁ => Φ .next ρ₁ H₁)
    (hs : swapsWithSole [.Tuple elts k tpos] e pos.line c.env = pure false) (hw : swappedStores [.Tuple elts k tpos] e c.env = pure none) : EX c ρ H (.Assign [.Tuple elts k tpos] e pos) Φ :=
  Tri.of fun F s Q st kk => Assign_Tuple (h.use st fun v s₁ ρ₁ H₁ sm₁ st₁ ⟨e₁, p⟩ => by
    subst e₁
    exact (p v rfl).use st₁ fun _ s₂ ρ₂ H₂ sm₂ st₂ p₂ => kk _ _ _ _ (sm₁.trans sm₂) st₂ p₂) hs hw
/-- two names that are not both plain locals: the stores are in order -/
theorem swapped_none {t1 t2 v1 v2 : Expr} {k k' : Nat} {tp vp : Pos} {env : Env}
    (h : ∀ l : Nat, ([t1, t2].filterMap fun | .Name id pos => if env.kindOf id == some .local && pos.line == l then some id else none | _ => none).length ≠ 2) : swappedStores [.Tuple [t1, t2] k tp] (.Tuple [v1, v2] k' vp) env = pure none := by
  unfold swappedStores
  dsimp only
  split
  · rfl
  · split
    · rfl
    · split
      · rfl
      · rename_i h1
        exact absurd (by
          simp only [Bool.or_eq_true, bne_iff_ne, ne_eq, not_or, Decidable.not_not] at h1
          exact h1.1) (h _)
end
section
variable {c : Cx} {ρ : Loc} {H : Hp}
theorem Hp.ne_of {a b : Addr} {x : AObj × Bool} (h1 : H a = some x) (h2 : H b = none) : a ≠ b := by intro q; rw [q, h2] at h1; cases h1
/-- the two searches as the text has them -/
structure BisK (K : Frag) (p : Program) (i : Nat) (name : Str) (f : Addr) (oc : Value) (od : Option Addr) (dV kV doc pm : Value) (an : Option Addr) (cdv ct : Value) (osl : Array (Option Value)) : Prop where
  fn : FnK K p i name f oc od dV kV doc pm an cdv ct osl
  b2 : ∀ y1 y2, ∃ t, BindsK K (fdOf p i name dV kV doc pm an cdv ct) [y1, y2] [("a", y1), ("x", y2), ("lo", .int 0 t), ("hi", .none), ("key", .none)]
  b4 : ∀ y1 y2 y3 y4, BindsK K (fdOf p i name dV kV doc pm an cdv ct) [y1, y2, y3, y4] [("a", y1), ("x", y2), ("lo", y3), ("hi", y4), ("key", .none)]
def Bis (K : Frag) (p : Program) (i : Nat) (name : Str) : Prop := ∃ f oc od dV kV doc pm an cdv ct osl, BisK K p i name f oc od dV kV doc pm an cdv ct osl
/-- what a search's body does -/
def BisBody (p : Program) (i : Nat) (q : Int → Int → Bool) (K : Frag) : Prop :=
  ∀ (c : Cx) (ρ : Loc) (H : Hp) (l : Addr) (xs : List Int) (x : Int) (fl : Bool), c.K = K → Ok c → c.env.scope = fnScope p i → ρ "a" = some (.ref l) → ρ "x" = some (.int x) → ρ "lo" = some (.int 0) → ρ "hi" = some .none → ρ "key" = some .none →
    H l = some (.list (zs xs), fl) → Sorted xs → xs.length < 1000000 → XS c ρ H (fnBody p i) fun f _ H' => f = .ret (.int (xs.countP (q x))) ∧ H' = H
/-- the scope of a plain def -/
def plainScope (s : Scope) : Bool := s.kind == .function && !s.isCoroutine && !s.isGenerator && s.names.all fun x => x.2 != .cell && x.2 != .free
theorem plainScope.of {s : Scope} (h : plainScope s = true) : s.isCoroutine = false ∧ s.isGenerator = false ∧ s.kind = .function ∧ (∀ x ∈ s.names, x.2 ≠ .cell) ∧ ∀ x ∈ s.names, x.2 ≠ .free := by
  simp only [plainScope, Bool.and_eq_true, beq_iff_eq, Bool.not_eq_true', List.all_eq_true, bne_iff_ne] at h
  exact ⟨h.1.1.2, h.1.2, h.1.1.1, fun x hx => (h.2 x hx).1, fun x hx => (h.2 x hx).2⟩
def bisNames (s : Scope) : Bool := [Str.ofString "a", "x", "lo", "hi", "key"].all fun n => s.names.lookup n == some .local
theorem bis_call {p : Program} {i : Nat} {name : Str} {q : Int → Int → Bool} {n : Nat} {ys : List Value} {l : Addr} {x : Int} {xs : List Int} {fl : Bool} {f : Addr} {oc : Value} {od : Option Addr} {dV kV doc pm : Value} {an : Option Addr} {cdv ct : Value} {osl : Array (Option Value)} {Φ : AV → Hp → Prop}
    (ok : Ok c) (okc : OkC c (n + 1)) (hb : BisK c.K p i name f oc od dV kV doc pm an cdv ct osl) (hbody : BisBody p i q c.K) (hsc : plainScope (fnScope p i) = true) (hnm : bisNames (fnScope p i) = true)
    (hys : ys.map abs = [.ref l, .int x] ∨ ys.map abs = [.ref l, .int x, .int 0, .none]) (hl : H l = some (.list (zs xs), fl)) (hs : Sorted xs) (hlen : xs.length < 1000000) (h : Φ (.int (xs.countP (q x))) H) : OV c ρ H (call (.ref f) ys) Φ := by
  obtain ⟨s1, s2, s3, s4, s5⟩ := plainScope.of hsc
  have hnm' : ∀ n ∈ [Str.ofString "a", "x", "lo", "hi", "key"], (fnScope p i).names.lookup n = some .local := fun n hn => by
    have := List.all_eq_true.mp hnm n hn; simpa using this
  have main : ∀ y1 y2 y3 y4 : Value, abs y1 = .ref l → abs y2 = .int x → abs y3 = .int 0 → abs y4 = .none → BindsK c.K (fdOf p i name dV kV doc pm an cdv ct) ys [("a", y1), ("x", y2), ("lo", y3), ("hi", y4), ("key", .none)] → OV c ρ H (call (.ref f) ys) Φ := by
    intro y1 y2 y3 y4 h1 h2 h3 h4 hbd
    refine call_def ok okc hb.fn.o hb.fn.cd hbd ?_ s1 s2 s3 s4 s5 fun L' g ok' okc' => ?_
    · intro y hy
      simp only [List.mem_cons, List.not_mem_nil, or_false] at hy
      rcases hy with rfl | rfl | rfl | rfl | rfl <;> exact hnm' _ (by simp)
    · refine XS.mono (hbody _ _ H l xs x fl rfl ok' rfl ?_ ?_ ?_ ?_ ?_ hl hs hlen) fun fl ρ' H' ⟨e1, e2⟩ => by subst e1 e2; exact h
      · show Option.map abs _ = _; rw [← h1]; rfl
      · show Option.map abs _ = _; rw [← h2]; rfl
      · show Option.map abs _ = _; rw [← h3]; rfl
      · show Option.map abs _ = _; rw [← h4]; rfl
      · rfl
  rcases hys with hys | hys
  · obtain ⟨y1, y2, rfl, h1, h2⟩ := two_of hys
    obtain ⟨t, hbd⟩ := hb.b2 y1 y2
    exact main y1 y2 (.int 0 t) .none h1 h2 rfl rfl hbd
  · obtain ⟨y1, y2, y3, y4, rfl, h1, h2, h3, h4⟩ := four_of hys
    exact main y1 y2 y3 y4 h1 h2 h3 h4 (hb.b4 y1 y2 y3 y4)
/-- a call of a search in the text -/
theorem pv_bis {p : Program} {i : Nat} {name : Str} {q : Int → Int → Bool} {n : Nat} {np pos : Pos} {e1 e2 : Expr} {l : Addr} {x : Int} {xs : List Int} {fl : Bool}
    (ok : Ok c) (okc : OkC c (n + 1)) (hb : Bis c.K p i name) (hbody : BisBody p i q c.K) (hl : c.env.kindOf name = some .globalImplicit) (h1 : PV c ρ H e1 (.ref l)) (h2 : PV c ρ H e2 (.int x)) (hx : H l = some (.list (zs xs), fl)) (hs : Sorted xs) (hlen : xs.length < 1000000)
    (hsc : plainScope (fnScope p i) = true := by decide +kernel) (hnm : bisNames (fnScope p i) = true := by decide +kernel) (hns : noStars [e1, e2] = true := by decide +kernel) (hd : (name == ("__debug__" : Str)) = false := by decide +kernel) (hn : name ≠ ("__name__" : Str) := by decide +kernel) :
    PV c ρ H (.Call (.Name name np) [e1, e2] [] pos) (.int (xs.countP (q x))) := by
  obtain ⟨f, oc, od, dV, kV, doc, pm, an, cdv, ct, osl, hb⟩ := hb
  exact ev_call_fn ok hl hb.fn.g hb.fn.o ((ps_cons h1 (ps_cons h2 ps_nil)).es fun ys hys => bis_call ok okc hb hbody hsc hnm (.inl hys) hx hs hlen ⟨rfl, rfl⟩) hns hd hn
end
section
variable {c : Cx} {ρ : Loc} {H : Hp}
theorem keepH {a D : Addr} {o : AObj} {x : AObj × Bool} (h : H a = some x) (hD : H D = none) : Hp.set H D o a = some x := Hp.set_ne (Hp.ne_of h hD) h
theorem zs_append {xs ys : List Int} : zs (xs ++ ys) = zs xs ++ zs ys := by simp [zs]
end
/-- what a comprehension sees of the frame around -/
theorem freeLoc_get {scope : Scope} {ρ : Loc} {x : Str} {v : AV} (h : scope.names.lookup x = some .free) (hv : ρ x = some v) : freeLoc scope ρ x = some v := by simp only [freeLoc, h, if_true]; exact hv
theorem comp_kd {c : Cx} {scope : Scope} {cl : List (Str × Addr)} {C : Addr} {x : Str} {k : NameKind} (h : scope.names.lookup x = some k) (hk : k ≠ .free) : (compCx c scope cl C).env.kindOf x = some k := by
  show (relabel scope c.env).names.lookup x = some k
  rw [relabel_lookup, h]
  cases k <;> first | rfl | exact absurd rfl hk
/-- a name from around, read in a comprehension -/
theorem pv_around {c : Cx} {scope : Scope} {cl : List (Str × Addr)} {C : Addr} {ρ : Loc} {H : Hp} {x : Str} {pos : Pos} {v : AV} (ok : Ok (compCx c scope cl C)) (h : scope.names.lookup x = some .free) (hv : ρ x = some v) (hd : (x == ("__debug__" : Str)) = false := by decide +kernel)
    (hn : (x == ("__classdict__" : Str)) = false := by decide +kernel) : PV (compCx c scope cl C) ρ H (.Name x pos) v := by
  have hk : (compCx c scope cl C).env.kindOf x = some .cell ∨ (compCx c scope cl C).env.kindOf x = some .free := by
    show (relabel scope c.env).names.lookup x = some .cell ∨ (relabel scope c.env).names.lookup x = some .free
    rw [relabel_lookup, h]
    simp only [Option.map_some, Option.some.injEq]
    split
    · exact .inl rfl
    · exact .inr rfl
  rcases hk with hk | hk
  · exact pv_cell ok hk hv hd
  · exact pv_free ok hk hv hd hn
theorem countP_place {p : Int → Bool} {xs : List Int} (hs : Sorted xs) (hp : ∀ a b, a ≤ b → p b = true → p a = true) : (∀ y ∈ xs.take (xs.countP p), p y = true) ∧ ∀ y ∈ xs.drop (xs.countP p), p y = false := by
  induction xs with
  | nil => simp
  | cons x xs ih =>
    have hs' : Sorted xs := (List.pairwise_cons.mp hs).2
    have hx : ∀ y ∈ xs, x ≤ y := (List.pairwise_cons.mp hs).1
    cases hpx : p x with
    | true =>
      rw [List.countP_cons_of_pos hpx]
      simp only [List.take_succ_cons, List.drop_succ_cons, List.mem_cons]
      obtain ⟨i1, i2⟩ := ih hs'
      refine ⟨?_, i2⟩
      rintro y (rfl | hy)
      · exact hpx
      · exact i1 y hy
    | false =>
      have hall : ∀ y ∈ xs, p y = false := fun y hy => by
        cases e : p y with
        | false => rfl
        | true => rw [hp x y (hx y hy) e] at hpx; cases hpx
      have h0 : (x :: xs).countP p = 0 := by
        rw [List.countP_eq_zero]
        intro y hy
        rcases List.mem_cons.mp hy with rfl | hy
        · simp [hpx]
        · simp [hall y hy]
      rw [h0]
      simp only [List.take_zero, List.drop_zero, List.mem_cons]
      refine ⟨by simp, ?_⟩
      rintro y (rfl | hy)
      · exact hpx
      · exact hall y hy
section
variable {c : Cx} {ρ : Loc} {H : Hp}
theorem units_ok (ok : Ok c) : c.A.units + 64 < cLine := by have := ok.units; have e : cLine = 9900 := rfl; rw [e]; omega
end
section
variable {c : Cx} {ρ : Loc} {H : Hp}
structure RowsAt (H : Hp) (as : List Addr) (rows : List (List Int)) : Prop where
  len : as.length = rows.length
  at' : ∀ (j : Nat) (a : Addr) (r : List Int), as[j]? = some a → rows[j]? = some r → H a = some (.list (zs r), true)
def refs (as : List Addr) : List AV := as.map .ref
theorem refs_len {as : List Addr} : (refs as).length = as.length := by simp [refs]
theorem refs_get {as : List Addr} {j : Nat} {a : Addr} (h : as[j]? = some a) : (refs as)[j]? = some (.ref a) := by simp [refs, h]
theorem refs_append {as bs : List Addr} : refs (as ++ bs) = refs as ++ refs bs := by simp [refs]
theorem RowsAt.nil : RowsAt H [] [] := ⟨rfl, by simp⟩
theorem RowsAt.get {as : List Addr} {rows : List (List Int)} (h : RowsAt H as rows) {j : Nat} (hj : j < rows.length) : ∃ a, as[j]? = some a ∧ H a = some (.list (zs (rows[j])), true) := by
  have hl := h.len
  exact ⟨as[j]'(by omega), by simp [show j < as.length by omega], h.at' j _ _ (by simp [show j < as.length by omega]) (by simp [hj])⟩
theorem RowsAt.mem {as : List Addr} {rows : List (List Int)} (h : RowsAt H as rows) {a : Addr} (ha : a ∈ as) : ∃ r, H a = some (.list (zs r), true) := by
  obtain ⟨j, hj⟩ := List.getElem?_of_mem ha
  have hl := h.len
  have hlt := (List.getElem?_eq_some_iff.mp hj).1
  exact ⟨_, h.at' j a _ hj (List.getElem?_eq_getElem (by omega))⟩
theorem RowsAt.fresh {as : List Addr} {rows : List (List Int)} (h : RowsAt H as rows) {D : Addr} (hD : H D = none) : D ∉ as := fun hm => by
  obtain ⟨r, hr⟩ := h.mem hm; rw [hD] at hr; cases hr
theorem RowsAt.keep {as : List Addr} {rows : List (List Int)} {a : Addr} {o : AObj} (h : RowsAt H as rows) (ha : a ∉ as) : RowsAt (H.set a o) as rows :=
  ⟨h.len, fun j b r hb hr => Hp.set_ne (fun q => ha (q ▸ List.mem_of_getElem? hb)) (h.at' j b r hb hr)⟩
theorem RowsAt.keepNew {as : List Addr} {rows : List (List Int)} {D : Addr} {o : AObj} (h : RowsAt H as rows) (hD : H D = none) : RowsAt (H.set D o) as rows := h.keep (h.fresh hD)
theorem RowsAt.mono {as : List Addr} {rows : List (List Int)} {H' : Hp} (h : RowsAt H as rows) (hH : ∀ a ∈ as, H' a = H a) : RowsAt H' as rows :=
  ⟨h.len, fun j b r hb hr => (hH b (List.mem_of_getElem? hb)).trans (h.at' j b r hb hr)⟩
theorem nodup_get {as : List Addr} (hn : as.Nodup) {i j : Nat} {a : Addr} (hi : as[i]? = some a) (hj : as[j]? = some a) : i = j := by
  obtain ⟨h1, e1⟩ := List.getElem?_eq_some_iff.mp hi
  obtain ⟨h2, e2⟩ := List.getElem?_eq_some_iff.mp hj
  exact (List.getElem_inj (h₀ := h1) (h₁ := h2) hn).mp (e1.trans e2.symm)
theorem RowsAt.set {as : List Addr} {rows : List (List Int)} {j : Nat} {a : Addr} {r' : List Int} (h : RowsAt H as rows) (hn : as.Nodup) (ha : as[j]? = some a) : RowsAt (H.set a (.list (zs r'))) as (rows.set j r') := by
  refine ⟨by simp [h.len], fun i b r hb hr => ?_⟩
  by_cases q : b = a
  · subst q
    have hij := nodup_get hn hb ha
    subst hij
    have hlt : i < rows.length := by have := (List.getElem?_eq_some_iff.mp ha).1; have := h.len; omega
    rw [List.getElem?_set_self hlt] at hr
    cases hr; exact Hp.set_same
  · have hij : j ≠ i := by intro e; subst e; rw [ha] at hb; cases hb; exact q rfl
    rw [List.getElem?_set_ne hij] at hr
    exact Hp.set_ne q (h.at' i b r hb hr)
theorem RowsAt.snoc {as : List Addr} {rows : List (List Int)} {a : Addr} {r : List Int} (h : RowsAt H as rows) (ha : H a = some (.list (zs r), true)) : RowsAt H (as ++ [a]) (rows ++ [r]) := by
  refine ⟨by simp [h.len], fun j b q hb hq => ?_⟩
  rcases Nat.lt_or_ge j as.length with hlt | hge
  · rw [List.getElem?_append_left hlt] at hb
    rw [List.getElem?_append_left (by have := h.len; omega)] at hq
    exact h.at' j b q hb hq
  · rw [List.getElem?_append_right hge] at hb
    rw [List.getElem?_append_right (by have := h.len; omega)] at hq
    have e1 : j - as.length = 0 := by
      have := (List.getElem?_eq_some_iff.mp hb).1; simp at this; omega
    rw [e1] at hb
    rw [← h.len, e1] at hq
    simp at hb hq
    subst hb hq; exact ha
/-- reading an item of an item -/
theorem pv_row {v i : Expr} {pos : Pos} {T : Addr} {as : List Addr} {fl : Bool} {k : Nat} {a : Addr} (hv : PV c ρ H v (.ref T)) (hk : PV c ρ H i (.int k)) (hT : H T = some (.list (refs as), fl)) (hlen : as.length < 1000000) (ha : as[k]? = some a)
    (hi : plainIdx i = true := by rfl) : PV c ρ H (.Subscript v i pos) (.ref a) :=
  pv_item hv hk hT (by rw [refs_len]; omega) (by omega) (by rw [show ((k : Int)).toNat = k by omega]; exact refs_get ha) hi
/-- [v] * n -/
theorem ov_mulL1 {l : Addr} {v : AV} {n : Nat} {z : Value} {Φ : AV → Hp → Prop} (hl : H l = some (.list [v], true)) (hz : abs z = .int n) (hn : n ≤ 1000000) (h : ∀ D, H D = none → Φ (.ref D) (H.set D (.list (List.replicate n v)))) : OV c ρ H (binaryOp .Mult (.ref l) z) Φ :=
  Tri.of fun F s Q st kk => by
    obtain ⟨u, rfl⟩ := abs_int hz
    obtain ⟨its, nn, g, hm⟩ := st.plainL hl
    obtain ⟨y, he, hy⟩ := one_of hm
    have hits : its = #[y] := by apply Array.toList_inj.mp; rw [he]
    subst hits
    obtain ⟨m, Fm, N, via⟩ := st.viaNew
    have hb : (#[y] : Array Value).size * ((n : Int)).toNat ≤ 2 ^ 24 := by simp; omega
    refine PyProof.Rows.mul_list Fm N g (by omega) (by omega) hb fun h' F' N' => ?_
    have gen : ∀ (n : Nat) (acc : Array Value), (List.foldl (fun x1 x2 => x1 ++ x2) acc (List.replicate n #[y])).toList = acc.toList ++ List.replicate n y := by
      intro n
      induction n with
      | zero => intro acc; simp
      | succ n ih => intro acc; rw [List.replicate_succ, List.foldl_cons, ih, List.replicate_succ]; simp
    have e : (if (#[y] : Array Value).isEmpty = true then 0 else ((n : Int)).toNat) = n := by rw [if_neg (by simp)]; omega
    rw [e] at N'
    obtain ⟨hD, st'⟩ := via h' s.toks _ _ (.list (List.replicate n v)) F' N' (allNews_lt _ _ _) (orep_list (by rw [gen]; simp [hy])) (noCell_plain rfl)
    exact kk _ _ _ _ (.set s h' s.toks) st' ⟨rfl, h _ hD⟩
theorem ev_mulL1 {e1 e2 : Expr} {pos : Pos} {Φ : AV → Hp → Prop} (h : EV c ρ H e1 fun a H₁ => EV c ρ H₁ e2 fun b H₂ => ∃ l v n, a = .ref l ∧ b = .int (n : Nat) ∧ H₂ l = some (.list [v], true) ∧ n ≤ 1000000 ∧ ∀ D, H₂ D = none → Φ (.ref D) (H₂.set D (.list (List.replicate n v)))) :
    EV c ρ H (.BinOp e1 .Mult e2 pos) Φ :=
  ev_bin (h.mono fun a H₁ h₁ => h₁.mono fun b H₂ ⟨l, v, n, ha, hb, hl, hn, p⟩ y z hy' hz => by
    have := abs_ref (hy'.trans ha); subst this
    exact ov_mulL1 hl (hz.trans hb) hn p)
end
section
variable {c : Cx} {ρ : Loc} {H : Hp}
theorem collect_range {prog : Program} {w : World} {A : Around} {E : Value → Shared → Prop} {s : Shared} {r : Addr} {a b d : Int} {t u v : Tok} {n : Nat} {Q : List Value → Shared → Prop} (hh : A.handled = none) (hr : IsRange s.heap r a b d t u v) (hsmall : Builtin.Range.small a b d = true)
    (hn : Builtin.Range.rangeSize a b d = n) (hlen : n ≤ 2 ^ 24)
    (h : ∀ h' tk acc', (∀ b o, s.heap.get? b = some o → h'.get? b = some o) → ItemsOf (fun i v => ∃ t, v = .int (a + i * d) t) acc' n → Q acc'.toList { s with heap := h', toks := tk }) :
    wpAny (model prog w) A (collect (.ref r)) Q E s := by
  have hS₁ : (s.heap.push { cls := .type "list", data := .seq ([] : List Value).toArray }).get? s.heap.objs.size = some { cls := .type "list", data := .seq #[] 0 } := Heap.get?_push_size _ rfl
  have key : ∀ R : Result → Shared → Prop, (∀ h' tk acc' c', (∀ b o, b ≠ s.heap.objs.size → (s.heap.push { cls := .type "list", data := .seq ([] : List Value).toArray }).get? b = some o → h'.get? b = some o) → h'.get? s.heap.objs.size = some { cls := .type "list", dict := none, data := .seq acc' c', slots := #[] } →
      ItemsOf (fun i v => ∃ t, v = .int (a + i * d) t) acc' n → R (.ok (.ret (.ref s.heap.objs.size))) { s with heap := h', toks := tk }) →
      codeAny (model prog w) A (.builtin "list.__iadd__" ⟨[.ref s.heap.objs.size, .ref r], []⟩) R { s with heap := s.heap.push { cls := .type "list", data := .seq ([] : List Value).toArray } } := by
    intro R hR
    refine codeAny_builtin F.entry_list_iadd ?_
    rw [Around.under_plainId F.plain_list_iadd _]
    exact wpAny_extend_range (s := { s with heap := s.heap.push { cls := .type "list", data := .seq ([] : List Value).toArray } }) hh (Heap.get?_push_of_some _ hr) hsmall hn hlen _ _ 0 hS₁ hR
  unfold collect
  refine wpAny_bind (wpAny_runValue (codeAny_builtin F.entry_proto_collect ?_))
  rw [Around.under_plainId F.plain_proto_collect _]
  show wpAny _ A.in1 (newList [] >>= fun l => again (.builtin "list.__iadd__" ⟨[l, .ref r], []⟩)) _ _ s
  refine wpAny_bind (wpAny_newObj_type ?_)
  refine wpAny_pure ⟨plainId_quiet F.plain_list_iadd _, key _ fun h' tk acc' c' hk hS hacc => ?_⟩
  show wpAny _ A (load s.heap.objs.size >>= _) _ _ _
  refine wpAny_bind (wpAny_load hS ?_)
  exact wpAny_pure (h h' tk acc' (fun b o e => hk b o (Nat.ne_of_lt (Heap.lt_size e)) (Heap.get?_push_of_some _ e)) hacc)
theorem St.updRaw {F : Hp} {s : Shared} {h' : Heap} {tk : Nat} {a : Addr} {ob' : Obj} {o o' : AObj} (st : St c ρ H F s) (ha : H a = some (o, true)) (hs : Heap.ExtBut a s.heap h')
    (ho : h'.get? a = some ob') (hr : ORep o' true ob') : St c ρ (H.set a o') F { s with heap := h', toks := tk } := by
  obtain ⟨ob, hob, hrep, hown, _⟩ := st.has a o true ha
  obtain ⟨hL, h0⟩ := hown rfl
  obtain ⟨m, hm, hv⟩ := st.ns
  have hFa : F a = none := st.dis a (by rw [ha]; exact nofun)
  refine ⟨⟨m, hm.extBut hs (Ne.symm hL), hv⟩, fun x b e => ?_, fun b o e => hs b o (fun q => by rw [q, h0] at e; cases e) (st.keep b o e), st.above, fun b o₁ fl e => ?_, fun b o₁ fl e => ?_, fun b hb => ?_⟩
  · obtain ⟨ob₁, o₁, g, d, ne, r1, r0, r2, r3⟩ := st.cel x b e
    have hne : b ≠ a := by
      intro q; rw [q, ha] at r0; cases r0
    refine ⟨ob₁, o₁, hs b ob₁ hne g, d, ne, r1, ?_, r2, r3⟩
    simp only [Hp.set, if_neg hne]; exact r0
  · by_cases q : b = a
    · subst q; simp only [Hp.set, if_pos rfl] at e; cases e
      exact ⟨ob', ho, hr, fun _ => ⟨hL, h0⟩, fun x => by cases x⟩
    · simp only [Hp.set, if_neg q] at e
      exact (st.has b o₁ fl e).keeps (fun o₂ _ e' => hs b o₂ q e') st.above
  · have q : b ≠ a := by intro q; rw [q, hFa] at e; cases e
    exact (st.hasF b o₁ fl e).keeps (fun o₂ _ e' => hs b o₂ q e') st.above
  · by_cases q : b = a
    · subst q; exact hFa
    · simp only [Hp.set, if_neg q] at hb; exact st.dis b hb
abbrev lamScope : Scope := { kind := .function, names := [(Str.ofString "k", .local), (Str.ofString "script", .free)], isGenerator := false, isCoroutine := false, more := [] }
abbrev lamArgs (p : Pos) : Arguments := { posonlyargs := [], args := [{ arg := "k", annotation := none, pos := p }], vararg := none, kwonlyargs := [], kw_defaults := [], kwarg := none, defaults := [] }
abbrev lamBody (q1 q2 q3 : Pos) : Expr := .Subscript (.Name "script" q1) (.Name "k" q2) q3
/-- one turn of the key -/
theorem lam_body {prog : Program} {w : World} {A : Around} {E : Value → Shared → Prop} {s : Shared} {Q : Value → Shared → Prop} {q1 q2 q3 : Pos} {qual : Str} {L f c' a l : Addr} {m : Str → Option Value} {i : Nat} {t : Tok} {its : Array Value} {y : Value}
    (hm : s.heap.Ns L m) (hk : m "k" = some (.int i t)) (hc : s.heap.IsCell a (some (.ref l))) (hl : s.heap.IsList l its) (hsz : its.size < 1000000000) (hy : its[i]? = some y) (h : Q y s) :
    wpAny (model prog w) A (eval (lamBody q1 q2 q3) (envX qual lamScope L f (.ref c') [("script", a)])) Q E s := by
  refine Subscript_ (wpAny_Name (wpAny_loadName_free (c := a) (v := .ref l) rfl rfl rfl hc ?_ (by decide +kernel)) (by decide +kernel))
  refine wpAny_Name (wpAny_loadName_local (m := m) (v := .int i t) rfl rfl hm hk ?_) (by decide +kernel)
  have hlt : i < its.size := (Array.getElem?_eq_some_iff.mp hy).1
  exact tail_any hl.typeIs slot_list_getitem.lookup (wpAny_getItem_list hl (by omega) (by omega) (by simpa using hy) h) (subscripted_plain rfl _ _)
theorem ints_range {acc : Array Value} {n : Nat} (h : ItemsOf (fun i v => ∃ t, v = .int (0 + i * 1) t) acc n) : IntsAre acc.toList ((List.range n).map Int.ofNat) := by
  refine intsAre_of (List.ext_getElem? fun i => ?_)
  by_cases hi : i < n
  · have hsz : i < acc.size := by rw [h.1]; exact hi
    obtain ⟨t, ht⟩ := h.2 i acc[i] (by simp [hsz])
    simp [zs, hi, hsz, ht, abs]
  · have hsz : ¬ i < acc.size := by rw [h.1]; exact hi
    simp [zs, hi, hsz]
theorem rangeSize_up (n : Nat) : Builtin.Range.rangeSize 0 n 1 = n := by
  unfold Builtin.Range.rangeSize
  rw [if_pos (by omega)]
  split
  · rw [Int.ediv_one]; omega
  · omega
theorem ev_order {n : Nat} {np rp pos q1 q2 q3 lp lpos kp rpos : Pos} {e1 : Expr} {P cc l : Addr} {ns : List Int} {Φ : AV → Hp → Prop} (ok : Ok c) (okc : OkC c n) (own : c.own = true)
    (hs : c.env.kindOf "sorted" = some .globalImplicit) (hg : gl c.K "sorted" = some (.builtin "sorted")) (hr : c.env.kindOf "range" = some .globalImplicit) (hgr : gl c.K "range" = some (.type "range"))
    (harg : PV c ρ H e1 (.int ns.length)) (hcode : c.env.code = .ref cc) (C : CodeHd c.h₀ cc P) (hP : H P = some (.raw (tabObj #[]), true)) (hl : H l = some (.list (zs ns), false)) (hlen : ns.length ≤ 63)
    (hsc : c.env.kindOf "script" = some .cell) (hsv : ρ "script" = some (.ref l))
    (h : ∀ D ks ps, H D = none → ks.Perm ((List.range ns.length).map Int.ofNat) → Φ (.ref D) ((H.set P (.raw (tabObj ps))).set D (.list (zs ks))))
    (hns : noStars [e1] = true := by decide +kernel) :
    EV c ρ H (.Call (.Name "sorted" np) [.Call (.Name "range" rp) [e1] [] rpos] [⟨some "key", .Lambda (lamArgs lp) (lamBody q1 q2 q3) lamScope lpos, kp⟩] pos) Φ :=
  Tri.of fun F s Q st k => by
    refine wpAny_Call_Name_kw (gl_loads ok hs hg (by decide +kernel) (by decide +kernel) st ?_)
    refine callWith_kw ?_
    rw [back_plain rfl]
    refine spliced_cons ?_
    -- the range
    refine wpAny_mono (Q := fun y s' => ∃ r t u v, y = .ref r ∧ Stp s H s' H ∧ St c ρ H F s' ∧ IsRange s'.heap r 0 ns.length 1 t u v) (E := fun _ _ => False) ?_ (fun y s₁ ⟨r, t, u, v, e, sm₁, st₁, hr₁⟩ => ?_) fun _ _ x => x.elim
    · refine wpAny_Call_NameR (gl_loads ok hr hgr (by decide +kernel) (by decide +kernel) st ?_)
      rw [back_plain hns]
      refine PyProof.Rows.callWith_type (by simp [List.any_eq]) (evalArgs_plain ?_)
      refine (ps_cons harg ps_nil).use st fun ys s₁ ρ₁ H₁ sm₁ st₁ ⟨e₁, e2, e3⟩ => ?_
      subst e₁ e3
      obtain ⟨y1, rfl, a1⟩ := one_of e2
      obtain ⟨t1, rfl⟩ := abs_int a1
      exact call_range_1 ⟨_, _, t1, _, rfl, sm₁.trans (.mem s₁ _ _), st₁.keepsAll (fun b o e => Heap.get?_push_of_some _ e), Heap.get?_push_size _ rfl⟩
    subst e
    refine spliced_nil ?_
    refine kws_cons (kla_eval rfl ?_)
    obtain ⟨p, loose, mean, mg, mb, T⟩ := ok.top
    obtain ⟨a, ha⟩ := ok.cells "script" (.inl hsc)
    obtain ⟨obP, hobP, hrP, hownP, _⟩ := st₁.has P _ true hP
    obtain ⟨hPL, hP0⟩ := hownP rfl
    have hobP' : obP = tabObj #[] := hrP
    subst hobP'
    have hgs := T.g.keeps st₁.keep
    have hgP : mainGlobals ≠ P := fun q => by
      obtain ⟨o, es, ep, e, hd, _⟩ := hgs
      rw [q, hobP] at e; cases e; cases hd
    obtain ⟨bm, ob, b1, b2, b3, b4, b5, b6⟩ := T.bmain
    have hbP : bm ≠ P := fun q => by
      have e := st₁.keep _ _ b3
      rw [q, hobP] at e; cases e; cases b4
    have hbG : bm ≠ mainGlobals := fun q => by
      obtain ⟨o, es, ep, e, hd, _⟩ := T.g
      rw [q, e] at b3; cases b3; rw [hd] at b6; cases b6
    have hcl : closureFor lamScope c.env = pure [(Str.ofString "script", a)] := by
      have hx : cellOf c.env (Str.ofString "script") = pure a := by unfold cellOf; rw [show c.env.cells.lookup (Str.ofString "script") = some a from ha]
      unfold closureFor
      simp [lamScope, hx]
    refine kla_makeFunction (mg := mg) hcl ok.glob hgs hcode (C.keeps st₁.keep) hobP trivial rfl hgP ⟨bm, ob, b1, b2, hbG, hbP, st₁.keep _ _ b3, b4, b5, b6⟩ fun c' ctv h₂ tk₂ hx hge hlt hrec htb => ?_
    refine kws_nil ?_
    show wpAny c.M c.A (call (.builtin "sorted") [.ref r] [(Str.ofString "key", .ref h₂.objs.size)]) Q _ { s₁ with heap := h₂.push (kla_obj "<lambda>" (c.env.qual ++ "<lambda>") (lamArgs lp) (lamBody q1 q2 q3) lamScope [(Str.ofString "script", a)] ((mg "__name__").getD .none) c' ctv), toks := tk₂ }
    have hLs : c.L < s₁.heap.objs.size := st₁.Llt
    have hLf : c.L < h₂.objs.size := Nat.lt_of_lt_of_le hLs (Nat.le_trans hge (Nat.le_of_lt hlt))
    have fresh : ∀ b, c.L < b → c.h₀.get? b = none := fun b hb => Heap.get?_none_of_le (Nat.le_trans st₁.above (Nat.le_of_lt hb))
    generalize hfo : kla_obj "<lambda>" (c.env.qual ++ "<lambda>") (lamArgs lp) (lamBody q1 q2 q3) lamScope [(Str.ofString "script", a)] ((mg "__name__").getD .none) c' ctv = fo
    have st₂ : St c ρ (H.set P (.raw (tabObj (#[] ++ #[rawInt lpos.line, rawInt lpos.col, .ref c'])))) F { s₁ with heap := h₂.push fo, toks := tk₂ } :=
      st₁.updRaw hP (fun b o hb e => Heap.get?_push_of_some _ (hx b o hb e)) (Heap.get?_push_of_some _ htb) rfl
    have hr₂ : IsRange (h₂.push fo) r 0 ns.length 1 t u v := by
      have e := id hr₁
      unfold IsRange at e
      exact Heap.get?_push_of_some _ (hx r _ (fun q => by rw [q, hobP] at e; cases e) e)
    obtain ⟨m, Fm, N, via⟩ := st₂.viaNew
    dsimp only at Fm N via
    have hfN : (h₂.objs.size, fo) ∈ allNews c.h₀ c.L (h₂.push fo) := mem_allNews.mpr ⟨Nat.ne_of_gt hLf, fresh _ hLf, Heap.get?_push_size _ (by rw [← hfo]; rfl)⟩
    obtain ⟨obc, oc, gc, dc, nec, rc1, rc0, rc2, rc3⟩ := st₂.cel _ a ha
    obtain ⟨yc, rfl, hyc⟩ := rc3 _ hsv (.inl hsc)
    have := abs_ref hyc; subst this
    have hcN : (a, obc) ∈ allNews c.h₀ c.L (h₂.push fo) := mem_allNews.mpr ⟨nec, (rc2 own).1, gc⟩
    obtain ⟨obl, gl₁, hrl, _, hl0⟩ := st.has l _ false hl
    have hl0 := hl0 rfl
    obtain ⟨itl, nl, hcl1, hcl2, hcl3, _⟩ := hrl
    have hsm := small_of (a := 0) (b := ns.length) (d := 1) (by omega) (by omega) (by omega)
    refine call_function_entry_kw kind_sorted plain_sorted entry_sorted (ksk_s1 _ _) ?_
    unfold Builtin.«sorted»
    refine wpAny_bind (m := checkCount "sorted" 1 1 _) (wpAny_pure ?_)
    refine wpAny_bind (collect_range (A := c.A.in1) (n := ns.length) ok.hand hr₂ hsm.1 (rangeSize_up _) (by omega) fun h₃ tk₃ acc hk₃ hacc => ?_)
    have hasz : acc.toList.length = ns.length := by rw [Array.length_toList]; exact hacc.1
    refine wpAny_bind (wpAny_newList ?_ (by rw [hasz, sizeLine_is]; omega))
    have hoL : (h₃.push (seqObj "list" acc.toList.toArray 0)).get? h₃.objs.size = some (seqObj "list" acc.toList.toArray 0) := Heap.get?_push_size _ rfl
    have keep : ∀ b o, (h₂.push fo).get? b = some o → (h₃.push (seqObj "list" acc.toList.toArray 0)).get? b = some o := fun b o e => Heap.get?_push_of_some _ (hk₃ b o e)
    have hsz₃ : (h₂.push fo).objs.size ≤ h₃.objs.size := by
      have : h₂.objs.size < h₃.objs.size := Heap.lt_size (hk₃ _ _ (Heap.get?_push_size h₂ (o := fo) (by rw [← hfo]; rfl)))
      rw [Heap.size_push]; exact this
    have hLD : c.L < h₃.objs.size := Nat.lt_of_lt_of_le (Nat.lt_of_lt_of_le hLf (by rw [Heap.size_push]; exact Nat.le_succ _)) hsz₃
    have hltD : ∀ q ∈ allNews c.h₀ c.L (h₂.push fo), q.1 < h₃.objs.size := fun q hq => Nat.lt_of_lt_of_le (allNews_lt _ _ _ q hq) hsz₃
    have hIr := ints_range hacc
    refine wpAny_bind (wpAny_holding (wpAny_call_entry_kw PyProof.Rows.slot_list_sort ⟨_, hoL, rfl⟩ entry_list_sort ?body (ksk_l1 _ _)))
    case body =>
      show wpAny c.M c.A.in1.in1 (Builtin.«list.sort» ⟨[.ref h₃.objs.size], [(Str.ofString "key", .ref h₂.objs.size)]⟩) _ _ _
      rw [ksk_t1]
      refine ksk_sort (kz := ns) (news := allNews c.h₀ c.L (h₂.push fo)) (Fm.kept keep) (N.grown keep) hoL (Nat.ne_of_gt hLD) (fresh _ hLD) (fun p hp => Nat.ne_of_lt (hltD p hp)) hasz.symm (by omega) ?turn fun h' tk out cc' F' N' ko => ⟨_, rfl, ?fin⟩
      case fin =>
        refine wpAny_pure ⟨_, rfl, ?_⟩
        obtain ⟨ps, hp, ho, _⟩ := ko
        have hin : ∀ p, p ∈ ps → p.2 ∈ acc.toList := fun p hp' => (List.of_mem_zip (show (p.1, p.2) ∈ ns.zip acc.toList from hp.mem_iff.mp hp')).2
        have hI : IntsAre out.toList (out.toList.map numOf) := intsAre_map _ fun v hv => by
          rw [ho] at hv
          obtain ⟨p, hp', rfl⟩ := List.mem_map.mp hv
          exact hIr.all _ (hin p hp')
        have hP2 : (out.toList.map numOf).Perm ((List.range ns.length).map Int.ofNat) := by
          have h1 := (hp.map Prod.snd).map numOf
          rw [List.map_snd_zip (by omega), hIr.nums, ← ho] at h1
          exact h1
        obtain ⟨hD, st'⟩ := via h' tk _ _ (.list (zs (out.toList.map numOf))) F' N' hltD (orep_list (of_intsAre hI)) (noCell_plain rfl)
        have hD' : H h₃.objs.size = none := by
          by_cases q : h₃.objs.size = P
          · rw [q, Hp.set_same] at hD; cases hD
          · simpa only [Hp.set, if_neg q] using hD
        refine k _ _ _ _ (sm₁.trans ⟨⟨h', tk, rfl⟩, fun b o' e => ?_⟩) st' ⟨rfl, h _ _ _ hD' hP2⟩
        simp only [Hp.set] at e
        split at e
        · cases e
        · split at e
          · cases e
          · exact e
      case turn =>
        intro i v' k' hv hk h tk own' F' N'
        have hi : i < ns.length := (List.getElem?_eq_some_iff.mp hk).1
        obtain ⟨ti, hti⟩ := hIr.get i (Int.ofNat i) (by simp [hi])
        rw [hti] at hv; cases hv
        obtain ⟨A₀, base, outer, B, hA⟩ := okc.below
        obtain ⟨c₂, oc', vs', tq, e2, hoc, hd', hv'⟩ := hrec
        cases e2
        have hLc : c.L < c' := Nat.lt_of_lt_of_le hLs hge
        have hc'N : (c', oc') ∈ allNews c.h₀ c.L (h₂.push fo) := mem_allNews.mpr ⟨Nat.ne_of_gt hLc, fresh _ hLc, Heap.get?_push_of_some _ hoc⟩
        obtain ⟨yl, hyl, hyk⟩ := item_of_map hcl3 (zs_get hk)
        obtain ⟨tl, rfl⟩ := abs_int hyk
        have hszl := size_of_map hcl3
        rw [zs_len] at hszl
        have hroom : (c.A.in1.in1).depth < recursionLimit := by
          have := ok.depth; have e : recursionLimit = 1000 := rfl; rw [e]; show c.A.depth < 1000; omega
        have hfN' : (h₂.objs.size, kla_obj "<lambda>" (c.env.qual ++ "<lambda>") (lamArgs lp) (lamBody q1 q2 q3) lamScope [(Str.ofString "script", a)] ((mg "__name__").getD .none) c' ctv) ∈ allNews c.h₀ c.L (h₂.push fo) ++ own' := by
          rw [hfo]; exact List.mem_append_left _ hfN
        refine wpAny_call (kla_code (scope := lamScope) (binds := [(Str.ofString "k", Value.int (Int.ofNat i) ti)]) B F' ok.kin N' T (show (c.A.in1.in1).frames = _ from hA) okc.frame ok.kind hfN' ⟨c', oc', vs', tq, rfl, (N' _ (List.mem_append_left _ hc'N)).1, hd', hv'⟩ hroom rfl (by intro y hy; rw [List.mem_singleton.mp hy]; rfl) (fun g L' h₁ FG F₁ N₁ B' X' T' => ?_) rfl rfl rfl (by intro x hx; revert x; decide))
        refine lam_body F₁.ns rfl ⟨obc, (N₁ _ (List.mem_append_left _ hcN)).1, dc⟩ ⟨obl, F₁.keep _ _ (FG.keep _ _ hl0), hcl1, nl, hcl2⟩ (by omega) hyl ?_
        exact leaveK_ F₁ N₁ fun Fb Nb => KskEnd.intro Fb Nb (fun p hp => hp)
end
section
variable {c : Cx} {ρ : Loc} {H : Hp}
/-- an object laid aside -/
theorem Tri.frame {α : Type} {t : Sem α} {Φ : α → Loc → Hp → Prop} {H₁ : Hp} {P : Addr} {o : AObj} (hnc : NoCell o) (hP : H P = some (o, true)) (hP₁ : H₁ P = none) (hsub : ∀ a, a ≠ P → H₁ a = H a) (h : Tri c ρ H₁ t Φ) :
    Tri c ρ H t fun a ρ' H' => ∃ H₁', Φ a ρ' H₁' ∧ H' = H₁'.set P o := by
  intro F s st
  obtain ⟨obP, gP, rP, oP, _⟩ := st.has P o true hP
  have hFP : F P = none := st.dis P (by rw [hP]; exact nofun)
  have st₁ : St c ρ H₁ (F.set P o) s := by
    refine ⟨st.ns, fun x a e => ?_, st.keep, st.above, fun a o' b e => ?_, fun a o' b e => ?_, fun a ha => ?_⟩
    · obtain ⟨ob, o', g, d, ne, r1, r0, r2, r3⟩ := st.cel x a e
      have hne : a ≠ P := by intro q; rw [q, hP] at r0; cases r0
      refine ⟨ob, o', g, d, ne, r1, by rw [hsub a hne]; exact r0, fun ow => ⟨(r2 ow).1, ?_⟩, r3⟩
      simp only [Hp.set, if_neg hne]; exact (r2 ow).2
    · have hne : a ≠ P := by intro q; rw [q, hP₁] at e; cases e
      rw [hsub a hne] at e; exact st.has a o' b e
    · by_cases q : a = P
      · subst q; simp only [Hp.set, if_pos rfl] at e; cases e; exact st.has a o true hP
      · simp only [Hp.set, if_neg q] at e; exact st.hasF a o' b e
    · have hne : a ≠ P := by intro q; rw [q, hP₁] at ha; exact ha rfl
      simp only [Hp.set, if_neg hne]
      rw [hsub a hne] at ha; exact st.dis a ha
  refine wpAny_mono (h _ s st₁) (fun a s' ⟨ρ', H', sm, st', p⟩ => ?_) fun _ _ x => x
  have hH' : H' P = none := by
    cases e : H' P with
    | none => rfl
    | some z => have := st'.dis P (by rw [e]; exact nofun); rw [Hp.set_same] at this; cases this
  obtain ⟨obP', gP', rP', oP', _⟩ := st'.hasF P o true Hp.set_same
  refine ⟨ρ', H'.set P o, ⟨sm.same, fun a o' e => ?_⟩, ?_, H', p, rfl⟩
  · have hne : a ≠ P := by intro q; subst q; rw [Hp.set_same] at e; cases e
    simp only [Hp.set, if_neg hne] at e
    rw [← hsub a hne]; exact sm.fz a o' e
  · refine ⟨st'.ns, fun x a e => ?_, st'.keep, st'.above, fun a o' b e => ?_, fun a o' b e => ?_, fun a ha => ?_⟩
    · obtain ⟨ob, o', g, d, ne, r1, r0, r2, r3⟩ := st'.cel x a e
      have hne : a ≠ P := by intro q; rw [q, gP'] at g; cases g; exact hnc _ rP' _ d
      refine ⟨ob, o', g, d, ne, r1, ?_, fun ow => ⟨(r2 ow).1, ?_⟩, r3⟩
      · simp only [Hp.set, if_neg hne]; exact r0
      · have := (r2 ow).2; simp only [Hp.set, if_neg hne] at this; exact this
    · by_cases q : a = P
      · subst q; simp only [Hp.set, if_pos rfl] at e; cases e; exact st'.hasF a o true Hp.set_same
      · simp only [Hp.set, if_neg q] at e; exact st'.has a o' b e
    · have hne : a ≠ P := by intro q; rw [q, hFP] at e; cases e
      exact st'.hasF a o' b (by simp only [Hp.set, if_neg hne]; exact e)
    · by_cases q : a = P
      · subst q; exact hFP
      · simp only [Hp.set, if_neg q] at ha
        have := st'.dis a ha
        simp only [Hp.set, if_neg q] at this; exact this
def lamHp (l : Addr) (ns : List Int) (P : Addr) : Hp := fun a => if a = P then some (.raw (tabObj #[]), true) else scriptHp l ns a
theorem noCell_tab {ps : Array Value} : NoCell (.raw (tabObj ps)) := by
  intro ob h v; have h' : ob = tabObj ps := h; subst h'; exact nofun
/-- the first row of the laws about permutations -/
theorem law_order {n : Nat} {np rp pos q1 q2 q3 lp lpos kp rpos tp lnp lsp lpp sp : Pos} {P cc l : Addr} {ns : List Int} {rest : List Stmt} (ok : Ok c) (okc : OkC c n) (own : c.own = true)
    (hs : c.env.kindOf "sorted" = some .globalImplicit) (hg : gl c.K "sorted" = some (.builtin "sorted")) (hr : c.env.kindOf "range" = some .globalImplicit) (hgr : gl c.K "range" = some (.type "range"))
    (hln : c.env.kindOf "len" = some .globalImplicit) (hgl : gl c.K "len" = some (.builtin "len"))
    (hcode : c.env.code = .ref cc) (C : CodeHd c.h₀ cc P) (hlP : l ≠ P) (hlen : ns.length ≤ 63)
    (hsc : c.env.kindOf "script" = some .cell) (hst : Stores c "order")
    (h : ∀ D ks, D ≠ l → ks.Perm ((List.range ns.length).map Int.ofNat) → XS c ((scriptLoc l).set "order" (.ref D)) ((scriptHp l ns).set D (.list (zs ks))) rest fun f _ _ => f = .ret (.bool true)) :
    XS c (scriptLoc l) (lamHp l ns P) (.Assign [.Name "order" tp] (.Call (.Name "sorted" np) [.Call (.Name "range" rp) [.Call (.Name "len" lnp) [.Name "script" lsp] [] lpp] [] rpos] [⟨some "key", .Lambda (lamArgs lp) (lamBody q1 q2 q3) lamScope lpos, kp⟩] pos) sp :: rest)
      fun f _ H' => f = .ret (.bool true) ∧ ∃ ps, H' P = some (.raw (tabObj ps), true) := by
  have hL : lamHp l ns P l = some (.list (zs ns), false) := by simp [lamHp, hlP, scriptHp]
  have hPP : lamHp l ns P P = some (.raw (tabObj #[]), true) := by simp [lamHp]
  have hsv : scriptLoc l "script" = some (.ref l) := by simp [scriptLoc]
  refine xs_cons (ex_assign ok hst (ev_order ok okc own hs hg hr hgr (ns := ns) (l := l) ?_ hcode C hPP hL hlen hsc hsv (fun D ks ps hD hp => ?_) rfl))
  · have := pv_len (np := lnp) (pos := lpp) ok hln hgl (pv_cell (pos := lsp) (ρ := scriptLoc l) (H := lamHp l ns P) ok hsc hsv) hL (by rw [zs_len]; omega) rfl
    rw [zs_len] at this; exact this
  · have hDP : D ≠ P := by intro q; rw [q, hPP] at hD; cases hD
    have hDl : D ≠ l := by intro q; rw [q, hL] at hD; cases hD
    refine Tri.mono (Tri.frame (P := P) (o := .raw (tabObj ps)) (H₁ := (scriptHp l ns).set D (.list (zs ks))) noCell_tab ?_ ?_ ?_ (h D ks hDl hp)) ?_
    · rw [Hp.set_ne (Ne.symm hDP) Hp.set_same]
    · simp only [Hp.set, if_neg (Ne.symm hDP), scriptHp, if_neg (Ne.symm hlP)]
    · intro a ha
      simp only [Hp.set, if_neg ha, lamHp]
    · rintro a ρ' H' ⟨H₁', e, rfl⟩
      exact ⟨e, ps, Hp.set_same⟩
end
/-- the law's own table -/
theorem tabs_at {K : Frag} {p : Program} {loose : List Str} {mean : ExcName → Option Value} {mg mb : Str → Option Value} {h : Heap} {x : Str} {fa : Addr} {o : Obj} {fd : FuncData}
    (X : K.In h) (T : Top p loose mean mg mb h) (hm : mg x = some (.ref fa)) (ho : h.get? fa = some o) (hd : o.data = .func fd) (ht : (tabIn K x).isSome = true) (hr : ((recsOf p).find? (fun e => e.name == x)).isSome = true) :
    ∃ cc P, (CodeHd h cc P ∧ h.get? P = some (tabObj #[])) ∧ fd.code = .ref cc := by
  obtain ⟨q, hq⟩ := Option.isSome_iff_exists.mp ht
  obtain ⟨d, hd'⟩ := Option.isSome_iff_exists.mp hr
  exact ⟨q.1, q.2, tab_of T X hd' hq, law_code X T.g hq hm ho hd⟩
/-- from the law's call to its body, where the law makes a lambda -/
theorem law_enter_lam {prog : Program} {w : World} {K : Frag} {s : Shared} {R : Result → Shared → Prop} {name : Str} {params : Arguments} {body : List Stmt} {scope : Scope} {pm doc : Value} {fa l cc P : Addr} {o : Obj} {vs : List Value} {ns : List Int}
    {p : Program} {loose : List Str} {mean : ExcName → Option Value} {mg mb : Str → Option Value} (hT : TabsAt [(cc, P)] s.heap)
    (ho : s.heap.get? fa = some o) (hdata : o.data = .func (Calls.docDef name params body scope pm (.ref cc) doc)) (T : Top p loose mean mg mb s.heap) (KX : K.In s.heap) (hKt : noTabs K = true) (hcd : s.heap.CodeRec (.ref cc) name) (hL : s.heap.IsList l vs.toArray) (hI : IntsAre vs ns)
    (hbind : bindArgs (Calls.docDef name params body scope pm (.ref cc) doc) ⟨[.ref l], []⟩ = pure [(Str.ofString "script", Value.ref l)])
    (hkind : scope.names.lookup (Str.ofString "script") = some .local ∨ scope.names.lookup (Str.ofString "script") = some .cell) (hnd : ((cellsFrom 0 scope.names []).map (·.1)).Nodup) (hfree : ∀ x ∈ scope.names, x.2 ≠ .free)
    (hco : scope.isCoroutine = false) (hgen : scope.isGenerator = false) (hk : scope.kind = .function)
    (h : ∀ c : Cx, Ok c → OkC c 20 → c.K = K → c.env.scope = scope → c.own = true → c.env.code = .ref cc → CodeHd c.h₀ cc P → l ≠ P → XS c (scriptLoc l) (lamHp l ns P) body fun f _ H' => f = .ret (.bool true) ∧ ∃ ps, H' P = some (.raw (tabObj ps), true))
    (hR : ∀ s' m, Fr (ghostOf s.heap [(cc, P)]) s.heap.objs.size s'.heap m → GrownAll [(cc, P)] s'.heap → Same s s' → R (.ok (.ret (.bool true))) s') : codeAny (model prog w) callerA (.call (.ref fa) ⟨[.ref l], []⟩) R s := by
  refine call_cellsN (by decide) ho hdata T.nolimit hcd hbind ?_ hnd (fun h₁ tk cells F N X => ?_) hco hgen hk
  · intro x hx
    simp only [List.mem_singleton] at hx
    subst hx
    rcases hkind with q | q
    · exact .inl q
    · refine .inr ⟨q, ?_⟩
      obtain ⟨a, ha⟩ := lookup_cellsFrom (n := s.heap.objs.size + 1) (lookup_mem q)
      rw [ha]; rfl
  let c : Cx := { prog := prog, w := w, A := callerA.deeper (envOfC name scope s.heap.objs.size fa (.ref cc)), env := envOfC name scope s.heap.objs.size fa (.ref cc), h₀ := ghostOf s.heap [(cc, P)], own := true, K := K }
  have ok : Ok c := by
    refine ⟨ghost_K hT KX hKt, ⟨_, _, mean, mg, mb, ghost_top hT T⟩, hk, rfl, rfl, rfl, (by show callerA.depth + 1 < 900; decide), (by show callerA.units + 3 < 500; decide), ?_, ?_⟩
    · rintro x (q | q)
      · exact lookup_cellsFrom (lookup_mem q)
      · exact absurd rfl (hfree _ (lookup_mem q))
    · intro _ x y a e1 e2
      exact cellsFrom_inj _ _ _ a (fun z b e => by cases e) (fun z z' b e => by cases e) e1 e2
  have okc : OkC c 20 := ⟨⟨callerA, _, [], below_caller _, rfl⟩, rfl, (by show callerA.depth + 1 + 20 < 900; decide), (by show callerA.units + 3 + 3 * 20 < 500; decide)⟩
  have hlt : l < s.heap.objs.size := by obtain ⟨ob, g, _⟩ := hL; exact Heap.lt_size g
  have hP := (hT (cc, P) (.head _)).2
  have hCP := (ghost_code hT).1
  have hlP : l ≠ P := by
    intro q; obtain ⟨ob, g, hc, _⟩ := hL; rw [q, hP] at g; cases g; cases hc
  have F' := ghost_fr hT F
  have N' := ghost_news hT F N
  have hPN := N' (P, tabObj #[]) (List.mem_append_right _ (.head _))
  have st : St c (scriptLoc l) (lamHp l ns P) (fun _ => none) { s with heap := h₁, toks := tk } := by
    refine ⟨⟨_, F'.ns, fun x v e kx => ?_⟩, fun x a e => ?_, F'.keep, F'.above, fun a o b e => ?_, (fun a o b e => by cases e), fun a _ => rfl⟩
    · simp only [scriptLoc] at e
      split at e
      · rename_i q; subst q; cases e
        refine ⟨.ref l, ?_, rfl⟩
        have kx' : (envOfC name scope s.heap.objs.size fa (.ref cc)).kindOf "script" = some .local := kx
        simp only [bindL, kx', if_true]
      · cases e
    · obtain ⟨ob, hm, hd⟩ := cellsAre_get X e
      obtain ⟨g, n1, n2⟩ := N' _ (List.mem_append_left _ hm)
      have n3 := (N _ hm).2.2
      refine ⟨ob, _, g, hd, n1, .inl n2, ?_, fun _ => ⟨n2, rfl⟩, fun v e' kx => ?_⟩
      · simp only [lamHp, scriptHp]
        rw [if_neg, if_neg]
        · intro q
          obtain ⟨ob', g', _⟩ := hL
          rw [← q] at g'
          have n2' : s.heap.get? a = none := n3
          rw [n2'] at g'; cases g'
        · intro q
          have n2' : s.heap.get? a = none := n3
          rw [q, hP] at n2'; cases n2'
      · simp only [scriptLoc] at e'
        split at e'
        · rename_i q; subst q; cases e'
          refine ⟨.ref l, ?_, rfl⟩
          have hk2 : ¬ ((envOfC name scope s.heap.objs.size fa (.ref cc)).kindOf "script" = some .local) := by
            intro q
            rcases kx with kx | kx
            · have : (envOfC name scope s.heap.objs.size fa (.ref cc)).kindOf "script" = some .cell := kx
              rw [q] at this; cases this
            · have : (envOfC name scope s.heap.objs.size fa (.ref cc)).kindOf "script" = some .free := kx
              rw [q] at this; cases this
          simp only [bindC, hk2, if_false]
          simp
        · cases e'
    · simp only [lamHp] at e
      split at e
      · rename_i q; subst q; cases e
        exact ⟨_, hPN.1, rfl, fun _ => hPN.2, fun x => by cases x⟩
      · simp only [scriptHp] at e
        split at e
        · rename_i q; subst q; cases e
          obtain ⟨ob, g, hc, n, hd⟩ := ghost_list hT hL
          exact ⟨ob, F'.keep _ _ g, ⟨vs.toArray, n, hc, hd, by simpa using of_intsAre hI, fun x => by cases x⟩, (fun x => by cases x), fun _ => g⟩
        · cases e
  have := h c ok okc rfl rfl rfl rfl hCP hlP
  refine Tri.use this st fun f s' ρ' H' sm st' ⟨hf, ps, hps⟩ => ?_
  obtain ⟨m, Fm, _⟩ := st'.fr
  have sm' : Same s s' := Same.trans ⟨h₁, tk, rfl⟩ sm.same
  obtain ⟨obP, gP, rP, _⟩ := st'.has P _ true hps
  have hgr : GrownAll [(cc, P)] s'.heap := ⟨⟨ps, by cases rP; exact gP⟩, trivial⟩
  cases f with
  | ret v =>
    have hv : abs v = .bool true := by simpa [absF] using hf
    have := abs_bool hv; subst this
    exact hR s' m Fm hgr sm'
  | next => cases hf
  | brk => cases hf
  | cont => cases hf
section
variable {c : Cx} {ρ : Loc} {H : Hp}
/-- a def of the text that takes one argument -/
structure Fn1K (K : Frag) (p : Program) (i : Nat) (name arg : Str) (f : Addr) (oc : Value) (od : Option Addr) (dV kV doc pm : Value) (an : Option Addr) (cdv ct : Value) (osl : Array (Option Value)) : Prop where
  fn : FnK K p i name f oc od dV kV doc pm an cdv ct osl
  b1 : ∀ y, BindsK K (fdOf p i name dV kV doc pm an cdv ct) [y] [(arg, y)]
def Fn1 (K : Frag) (p : Program) (i : Nat) (name arg : Str) : Prop := ∃ f oc od dV kV doc pm an cdv ct osl, Fn1K K p i name arg f oc od dV kV doc pm an cdv ct osl
theorem ev_fn1 {p : Program} {i : Nat} {name arg : Str} {n : Nat} {np pos : Pos} {e1 : Expr} {Φ : AV → Hp → Prop}
    (ok : Ok c) (okc : OkC c (n + 1)) (hf : Fn1 c.K p i name arg) (hl : c.env.kindOf name = some .globalImplicit)
    (h1 : EV c ρ H e1 fun v H₁ => ∀ (c' : Cx) (ρ' : Loc), c'.K = c.K → Ok c' → OkC c' n → c'.own = true → c'.env.scope = fnScope p i → ρ' arg = some v → XS c' ρ' H₁ (fnBody p i) fun f _ H' => Φ (retv f) H')
    (hsc : plainScope (fnScope p i) = true := by decide +kernel) (hnm : (fnScope p i).names.lookup arg = some .local := by decide +kernel) (hns : noStars [e1] = true := by decide +kernel) (hd : (name == ("__debug__" : Str)) = false := by decide +kernel) (hn : name ≠ ("__name__" : Str) := by decide +kernel) :
    EV c ρ H (.Call (.Name name np) [e1] [] pos) Φ := by
  obtain ⟨f, oc, od, dV, kV, doc, pm, an, cdv, ct, osl, hb⟩ := hf
  obtain ⟨s1, s2, s3, s4, s5⟩ := plainScope.of hsc
  refine ev_call_fn ok hl hb.fn.g hb.fn.o (es_cons (h1.mono fun v H₁ hv => es_nil fun ys hys => ?_)) hns hd hn
  obtain ⟨y, rfl, hy⟩ := one_of hys
  refine call_def ok okc hb.fn.o hb.fn.cd (hb.b1 y) ?_ s1 s2 s3 s4 s5 fun L' g ok' okc' => ?_
  · intro z hz
    rw [List.mem_singleton.mp hz]; exact hnm
  · refine hv _ _ rfl ok' okc' rfl rfl ?_
    show Option.map abs _ = _
    rw [← hy]
    simp
end
theorem nodup_range (n : Nat) : ((List.range n).map Int.ofNat).Nodup := by
  unfold List.Nodup
  rw [List.pairwise_map]
  exact List.pairwise_lt_range.imp fun h => by simp; omega
/-- all that stands stays -/
def Keeps (H H' : Hp) : Prop := ∀ a x, H a = some x → H' a = some x
theorem Keeps.refl {H : Hp} : Keeps H H := fun _ _ e => e
theorem Keeps.trans {H H' H'' : Hp} (h : Keeps H H') (h' : Keeps H' H'') : Keeps H H'' := fun a x e => h' a x (h a x e)
theorem Keeps.set {H H' : Hp} {a : Addr} {o : AObj} (h : Keeps H H') (ha : H a = none) : Keeps H (H'.set a o) := fun b x e => by
  have : b ≠ a := by intro q; rw [q, ha] at e; cases e
  exact Hp.set_ne this (h b x e)
theorem Keeps.new {H H' : Hp} {a : Addr} {o : AObj} (h : Keeps H H') (ha : H' a = none) : Keeps H (H'.set a o) := fun b x e => keepH (h b x e) ha
theorem Keeps.none {H H' : Hp} {a : Addr} (h : Keeps H H') (ha : H' a = none) : H a = none := by
  cases e : H a with
  | none => rfl
  | some x => rw [h a x e] at ha; cases ha
section
variable {prog : Program} {w : World} {A : Around} {s : Shared} {R : Result → Shared → Prop} {E : Value → Shared → Prop}
variable {I : Addr} {fp wr : List Addr} {G : Array GenState → Array GenState → Prop} {n : Nat} {P : Nat → Value → Prop} {St : Nat → Shared → Prop}
end
section
variable {c : Cx} {ρ : Loc} {H : Hp}
end
section
variable (r : Nat → Int)
def RK (p : Array Nat) (k : Nat) : Int := r (p.getD k 0)
def SortT (p : Array Nat) (k : Nat) : Prop := ∀ i j, i ≤ j → j < k → RK r p i ≤ RK r p j
def NonT (p : Array Nat) (k : Nat) : Prop := ∀ i j, i ≤ j → j < k → RK r p j ≤ RK r p i
variable {r}
theorem SortT.step {p : Array Nat} {n : Nat} (h : SortT r p n) (h1 : 1 ≤ n) (hn : RK r p (n - 1) ≤ RK r p n) : SortT r p (n + 1) := by
  intro i j hij hj
  by_cases hjn : j < n
  · exact h i j hij hjn
  · have : j = n := by omega
    subst this
    by_cases hi : i = j
    · subst hi; exact Int.le_refl _
    · exact Int.le_trans (h i (j - 1) (by omega) (by omega)) hn
theorem NonT.step {p : Array Nat} {n : Nat} (h : NonT r p n) (h1 : 1 ≤ n) (hn : RK r p n ≤ RK r p (n - 1)) : NonT r p (n + 1) := by
  intro i j hij hj
  by_cases hjn : j < n
  · exact h i j hij hjn
  · have : j = n := by omega
    subst this
    by_cases hi : i = j
    · subst hi; exact Int.le_refl _
    · exact Int.le_trans hn (h i (j - 1) (by omega) (by omega))
end
def AllLt (n : Nat) (p : Array Nat) : Prop := 0 < n ∧ ∀ x ∈ p.toList, x < n
theorem AllLt.get {n : Nat} {p : Array Nat} (h : AllLt n p) (k : Nat) : p.getD k 0 < n := by
  by_cases hk : k < p.size
  · have e : p.getD k 0 = p[k] := by simp [Array.getD, hk]
    rw [e]; exact h.2 _ (by simp)
  · have e : p.getD k 0 = 0 := by simp [Array.getD, hk]
    rw [e]; exact h.1
section
variable {n : Nat}
end
abbrev Pr := Int × Int
section
variable {prog : Program} {w : World} {A : Around} {E : Value → Shared → Prop} {s : Shared}
end
section
variable {c : Cx} {ρ : Loc} {H : Hp}
theorem pv_to {e : Expr} {i j : Int} (h : PV c ρ H e (.int i)) (q : i = j) : PV c ρ H e (.int j) := q ▸ h
/-- a list of pairs of ints, by their places -/
structure PairsAt (H : Hp) (as : List Addr) (ps : List Pr) : Prop where
  len : as.length = ps.length
  at' : ∀ (j : Nat) (a : Addr) (p : Pr), as[j]? = some a → ps[j]? = some p → ∃ fl, H a = some (.tup [.int p.1, .int p.2], fl)
theorem PairsAt.nil : PairsAt H [] [] := ⟨rfl, fun j a p h => by simp at h⟩
theorem PairsAt.mono {H' : Hp} {as : List Addr} {ps : List Pr} (h : PairsAt H as ps) (hk : ∀ a x, H a = some x → H' a = some x) : PairsAt H' as ps :=
  ⟨h.len, fun j a p ha hp => let ⟨fl, e⟩ := h.at' j a p ha hp; ⟨fl, hk _ _ e⟩⟩
theorem PairsAt.snoc {as : List Addr} {ps : List Pr} {a : Addr} {p : Pr} {fl : Bool} (h : PairsAt H as ps) (ha : H a = some (.tup [.int p.1, .int p.2], fl)) : PairsAt H (as ++ [a]) (ps ++ [p]) := by
  refine ⟨by simp [h.len], fun j b q hb hq => ?_⟩
  by_cases hj : j < as.length
  · rw [List.getElem?_append_left hj] at hb
    rw [List.getElem?_append_left (by rw [← h.len]; exact hj)] at hq
    exact h.at' j b q hb hq
  · rw [List.getElem?_append_right (by omega)] at hb
    rw [List.getElem?_append_right (by rw [← h.len]; omega)] at hq
    rw [h.len] at hb
    cases e : j - ps.length with
    | zero => rw [e] at hb hq; simp at hb hq; subst hb hq; exact ⟨fl, ha⟩
    | succ n => rw [e] at hb; simp at hb
theorem PairsAt.get {as : List Addr} {ps : List Pr} (h : PairsAt H as ps) {j : Nat} (hj : j < ps.length) : ∃ a fl, as[j]? = some a ∧ H a = some (.tup [.int (ps[j]).1, .int (ps[j]).2], fl) := by
  have hj' : j < as.length := by rw [h.len]; exact hj
  obtain ⟨fl, e⟩ := h.at' j as[j] ps[j] (by simp) (by simp)
  exact ⟨as[j], fl, by simp, e⟩
theorem PairsAt.upd {as : List Addr} {ps : List Pr} {S : Addr} {xs : List AV} {fl : Bool} {o : AObj} (h : PairsAt H as ps) (hS : H S = some (.list xs, fl)) : PairsAt (H.set S o) as ps :=
  ⟨h.len, fun j a p ha hp => let ⟨f, e⟩ := h.at' j a p ha hp; ⟨f, Hp.set_ne (fun q => by rw [q, hS] at e; cases e) e⟩⟩
theorem PairsAt.new {as : List Addr} {ps : List Pr} {D : Addr} {o : AObj} (h : PairsAt H as ps) (hD : H D = none) : PairsAt (H.set D o) as ps := h.mono fun _ _ e => keepH e hD
theorem abs_refs : ∀ {vs : List Value} {as : List Addr}, vs.map abs = refs as → vs = as.map .ref
  | [], [], _ => rfl
  | [], _ :: _, h => by simp [refs] at h
  | _ :: _, [], h => by simp [refs] at h
  | v :: vs, a :: as, h => by
    simp only [refs, List.map_cons, List.cons.injEq] at h
    rw [abs_ref h.1, abs_refs (as := as) h.2]; rfl
end
def rowIns (d : Int) : List Int → Int → List Int × Option Int
  | [], x => ([x], none)
  | a :: r, x => if x + d ≤ a then (x :: r, some a) else (a :: (rowIns d r x).1, (rowIns d r x).2)
def NS (d : Int) (r : List Int) : Prop := r.Pairwise fun a b => a < b + d
theorem ns_one {r : List Int} : NS 1 r ↔ Sorted r := by
  unfold NS Sorted
  constructor
  · exact fun h => h.imp fun {a b} q => by omega
  · exact fun h => h.imp fun {a b} q => by omega
theorem rowIns_mem {d : Int} {y x : Int} : ∀ {r : List Int}, y ∈ (rowIns d r x).1 → y = x ∨ y ∈ r
  | [], h => by simp [rowIns] at h; exact .inl h
  | a :: r, h => by
    unfold rowIns at h
    split at h
    · rcases List.mem_cons.mp h with e | e
      · exact .inl e
      · exact .inr (.tail _ e)
    · rcases List.mem_cons.mp h with e | e
      · subst e; exact .inr (.head _)
      · rcases rowIns_mem e with e | e
        · exact .inl e
        · exact .inr (.tail _ e)
theorem rowIns_ns {d : Int} (hd : d = 0 ∨ d = 1) {x : Int} : ∀ {r : List Int}, NS d r → NS d (rowIns d r x).1
  | [], _ => by simp [rowIns, NS]
  | a :: r, h => by
    obtain ⟨h1, h2⟩ := List.pairwise_cons.mp h
    unfold rowIns
    split
    · rename_i hx
      refine List.pairwise_cons.mpr ⟨fun b hb => ?_, h2⟩
      have := h1 b hb; omega
    · rename_i hx
      refine List.pairwise_cons.mpr ⟨fun b hb => ?_, rowIns_ns hd h2⟩
      rcases rowIns_mem hb with e | e
      · subst e; omega
      · exact h1 b e
theorem rowIns_is {d : Int} (hd : d = 0 ∨ d = 1) {x : Int} : ∀ {r : List Int}, NS d r → rowIns d r x = (if r.countP (fun y => decide (y < x + d)) = r.length then r ++ [x] else r.set (r.countP fun y => decide (y < x + d)) x, r[r.countP fun y => decide (y < x + d)]?)
  | [], _ => by simp [rowIns]
  | a :: r, h => by
    obtain ⟨h1, h2⟩ := List.pairwise_cons.mp h
    unfold rowIns
    by_cases hx : x + d ≤ a
    · rw [if_pos hx]
      have h0 : (a :: r).countP (fun y => decide (y < x + d)) = 0 := by
        rw [List.countP_eq_zero]
        intro y hy
        rcases List.mem_cons.mp hy with e | e
        · subst e; simp; omega
        · have := h1 y e; simp; omega
      rw [h0]
      simp
    · have e : (a :: r).countP (fun y => decide (y < x + d)) = r.countP (fun y => decide (y < x + d)) + 1 := by
        rw [List.countP_cons, if_pos (decide_eq_true (by omega))]
      rw [if_neg hx, rowIns_is hd h2, e]
      simp only [List.length_cons, List.getElem?_cons_succ, List.set_cons_succ, List.cons_append, Nat.add_right_cancel_iff]
      split <;> rfl
abbrev Tab := List (List Int × List Int)
def ins2 (d : Int) : Tab → Int × Int → Tab
  | [], p => [([p.2], [p.1])]
  | (r, m) :: T, p => match rowIns d r p.2 with
    | (r', none) => (r', m ++ [p.1]) :: T
    | (r', some b) => (r', m) :: ins2 d T (p.1, b)
def tabs (d : Int) (ps : List (Int × Int)) : Tab := ps.foldl (ins2 d) []
def rowRun (d : Int) : List Int → List Int → List (Int × Int) → List Int × List Int × List (Int × Int)
  | r, m, [] => (r, m, [])
  | r, m, p :: ps => match rowIns d r p.2 with
    | (r', none) => rowRun d r' (m ++ [p.1]) ps
    | (r', some b) => ((rowRun d r' m ps).1, (rowRun d r' m ps).2.1, (p.1, b) :: (rowRun d r' m ps).2.2)
theorem run_cons {d : Int} : ∀ (ps : List (Int × Int)) (r m : List Int) (T : Tab), ps.foldl (ins2 d) ((r, m) :: T) = ((rowRun d r m ps).1, (rowRun d r m ps).2.1) :: (rowRun d r m ps).2.2.foldl (ins2 d) T
  | [], r, m, T => rfl
  | p :: ps, r, m, T => by
    rw [List.foldl_cons]
    unfold rowRun ins2
    rcases e : rowIns d r p.2 with ⟨r', _ | b⟩
    · dsimp only; rw [run_cons ps]
    · dsimp only; rw [run_cons ps]; rfl
theorem tabs_cons {d : Int} (p : Int × Int) (ps : List (Int × Int)) : tabs d (p :: ps) = ((rowRun d [] [] (p :: ps)).1, (rowRun d [] [] (p :: ps)).2.1) :: tabs d (rowRun d [] [] (p :: ps)).2.2 := by
  have := run_cons (d := d) (p :: ps) [] [] []
  unfold tabs
  rw [← this]
  rfl
theorem run_len {d : Int} : ∀ (ps : List (Int × Int)) (r m : List Int), (rowRun d r m ps).2.2.length ≤ ps.length
  | [], r, m => Nat.le_refl _
  | p :: ps, r, m => by
    unfold rowRun
    rcases e : rowIns d r p.2 with ⟨r', _ | b⟩
    · dsimp only; exact Nat.le_succ_of_le (run_len ps _ _)
    · dsimp only; exact Nat.succ_le_succ (run_len ps _ _)
theorem bumps_lt {d : Int} (p : Int × Int) (ps : List (Int × Int)) : (rowRun d [] [] (p :: ps)).2.2.length < (p :: ps).length := by
  unfold rowRun
  have e : rowIns d [] p.2 = ([p.2], none) := rfl
  rw [e]
  exact Nat.lt_succ_of_le (run_len ps _ _)
abbrev Pt := Int × Int
structure Good (ps : List Pt) : Prop where
  tm : ps.Pairwise fun p q => p.1 < q.1
  vl : ∀ p ∈ ps, ∀ q ∈ ps, p.2 = q.2 → p = q
theorem Good.tmeq {ps : List Pt} (g : Good ps) {p q : Pt} (hp : p ∈ ps) (hq : q ∈ ps) (e : p.1 = q.1) : p = q := by
  have := g.tm
  induction ps with
  | nil => cases hp
  | cons a r ih =>
    obtain ⟨h1, h2⟩ := List.pairwise_cons.mp this
    rcases List.mem_cons.mp hp with e1 | hp1
    · rcases List.mem_cons.mp hq with e2 | hq1
      · rw [e1, e2]
      · have := h1 q hq1; rw [e1] at e; omega
    · rcases List.mem_cons.mp hq with e2 | hq1
      · have := h1 p hp1; rw [e2] at e; omega
      · exact ih ⟨h2, fun p hp q hq => g.vl p (.tail _ hp) q (.tail _ hq)⟩ hp1 hq1 h2
structure IsHt (S : List Pt) (h : Pt → Nat) : Prop where
  up : ∀ p ∈ S, ∀ q ∈ S, q.1 < p.1 → q.2 < p.2 → h q < h p
  dn : ∀ p ∈ S, h p = 0 ∨ ∃ q ∈ S, q.1 < p.1 ∧ q.2 < p.2 ∧ h p = h q + 1
theorem ht_le {S : List Pt} {h g : Pt → Nat} (h1 : IsHt S h) (h2 : IsHt S g) : ∀ n, ∀ p ∈ S, h p = n → n ≤ g p
  | 0, p, hp, e => Nat.zero_le _
  | n + 1, p, hp, e => by
    rcases h1.dn p hp with e' | ⟨q, hq, a, b, e'⟩
    · omega
    · have := ht_le h1 h2 n q hq (by omega)
      have := h2.up p hp q hq a b
      omega
theorem ht_eq {S : List Pt} {h g : Pt → Nat} (h1 : IsHt S h) (h2 : IsHt S g) {p : Pt} (hp : p ∈ S) : h p = g p :=
  Nat.le_antisymm (ht_le h1 h2 _ p hp rfl) (ht_le h2 h1 _ p hp rfl)
theorem ht_anti {S : List Pt} {h : Pt → Nat} (h1 : IsHt S h) (g : Good S) {p q : Pt} (hp : p ∈ S) (hq : q ∈ S) (e : h p = h q) (l : q.1 < p.1) : p.2 < q.2 := by
  rcases Int.lt_trichotomy p.2 q.2 with a | a | a
  · exact a
  · have := g.vl p hp q hq a; subst this; omega
  · have := h1.up p hp q hq l a; omega
theorem ht_anti' {S : List Pt} {h : Pt → Nat} (h1 : IsHt S h) (g : Good S) {p q : Pt} (hp : p ∈ S) (hq : q ∈ S) (e : h p = h q) (l : p.2 < q.2) : q.1 < p.1 := by
  rcases Int.lt_trichotomy p.1 q.1 with a | a | a
  · have := ht_anti h1 g hq hp e.symm a; omega
  · have := g.tmeq hp hq a; subst this; omega
  · exact a
/-- q, then p, neighbours on a line -/
structure Nb (S : List Pt) (h : Pt → Nat) (p q : Pt) : Prop where
  hp : p ∈ S
  hq : q ∈ S
  eq : h p = h q
  lt : q.1 < p.1
  no : ∀ r ∈ S, h r = h p → ¬ (q.1 < r.1 ∧ r.1 < p.1)
structure Run (S : List Pt) (h : Pt → Nat) (r m : List Int) (bs : List Pt) : Prop where
  ht : IsHt S h
  len : r.length = m.length
  srt : NS 1 r
  lt : ∀ p ∈ S, h p < r.length
  row : ∀ k v, r[k]? = some v → (∃ p ∈ S, h p = k ∧ p.2 = v) ∧ ∀ p ∈ S, h p = k → v ≤ p.2
  mrk : ∀ k v, m[k]? = some v → (∃ p ∈ S, h p = k ∧ p.1 = v) ∧ ∀ p ∈ S, h p = k → v ≤ p.1
  bmp : ∀ t b, (t, b) ∈ bs ↔ ∃ p q, Nb S h p q ∧ p.1 = t ∧ q.2 = b
  bt : bs.Pairwise fun p q => p.1 < q.1
theorem run_nil : Run [] (fun _ => 0) [] [] [] := by
  refine ⟨⟨by simp, by simp⟩, rfl, by simp [NS], by simp, by simp, by simp, fun t b => ?_, by simp⟩
  constructor
  · intro h; cases h
  · rintro ⟨p, q, h, _⟩; cases h.hp
theorem upd_old {S : List Pt} {h : Pt → Nat} {p : Pt} {k : Nat} (hS : ∀ q ∈ S, q.1 < p.1) {q : Pt} (hq : q ∈ S) : (if q = p then k else h q) = h q := by
  have := hS q hq
  rw [if_neg (by rintro rfl; omega)]
theorem run_step {S : List Pt} {h : Pt → Nat} {r m : List Int} {bs : List Pt} (R : Run S h r m bs) {p : Pt} (hS : ∀ q ∈ S, q.1 < p.1) (g : Good (S ++ [p])) :
    ∃ h', (∀ r', rowIns 1 r p.2 = (r', none) → Run (S ++ [p]) h' r' (m ++ [p.1]) bs) ∧ ∀ r' b, rowIns 1 r p.2 = (r', some b) → Run (S ++ [p]) h' r' m (bs ++ [(p.1, b)]) := by
  have hrow := rowIns_is (.inr rfl) (x := p.2) R.srt
  have hns := rowIns_ns (.inr rfl) (x := p.2) R.srt
  obtain ⟨pl1, pl2⟩ := countP_place (p := fun y => decide (y < p.2 + 1)) (ns_one.mp R.srt) (fun a b h1 h2 => by simp at h2 ⊢; omega)
  have hk : r.countP (fun y => decide (y < p.2 + 1)) ≤ r.length := List.countP_le_length
  generalize r.countP (fun y => decide (y < p.2 + 1)) = k at hrow pl1 pl2 hk
  have A : ∀ j v, j < k → r[j]? = some v → v ≤ p.2 := fun j v hj e => by
    have := pl1 v (by
      refine List.mem_of_getElem? (i := j) ?_
      rw [List.getElem?_take, if_pos hj]; exact e)
    have := of_decide_eq_true this; omega
  have B : ∀ j v, k ≤ j → r[j]? = some v → p.2 < v := fun j v hj e => by
    have := pl2 v (by
      refine List.mem_of_getElem? (i := j - k) ?_
      rw [List.getElem?_drop, show k + (j - k) = j by omega]; exact e)
    have := of_decide_eq_false this; omega
  clear pl1 pl2
  have hpS : p ∉ S := fun hp => by have := hS p hp; omega
  have gv : ∀ q ∈ S, q.2 ≠ p.2 := fun q hq e => by
    have := g.vl q (List.mem_append_left _ hq) p (by simp) e
    subst this; exact hpS hq
  have gS : Good S := ⟨(List.pairwise_append.mp g.tm).1, fun a ha b hb => g.vl a (List.mem_append_left _ ha) b (List.mem_append_left _ hb)⟩
  have mem2 : ∀ {q : Pt}, q ∈ S ++ [p] → q ∈ S ∨ q = p := fun {q} hq => by
    rcases List.mem_append.mp hq with e | e
    · exact .inl e
    · simp at e; exact .inr e
  have inS : ∀ {q : Pt}, q ∈ S → q ∈ S ++ [p] := fun {q} hq => List.mem_append_left _ hq
  have inP : p ∈ S ++ [p] := by simp
  have up : ∀ q ∈ S, q.2 < p.2 → h q < k := fun q hq hlt => by
    obtain ⟨v, hv⟩ : ∃ v, r[h q]? = some v := ⟨_, List.getElem?_eq_getElem (R.lt q hq)⟩
    have h1 := (R.row _ _ hv).2 q hq rfl
    rcases Nat.lt_or_ge (h q) k with e | e
    · exact e
    · have := B _ _ e hv; omega
  refine ⟨fun q => if q = p then k else h q, ?_⟩
  have hp' : (fun q => if q = p then k else h q) p = k := by simp
  have ho : ∀ q ∈ S, (fun q => if q = p then k else h q) q = h q := fun q hq => upd_old hS hq
  generalize (fun q => if q = p then k else h q) = h' at hp' ho
  have ht' : IsHt (S ++ [p]) h' := by
    refine ⟨fun a ha b hb l1 l2 => ?_, fun a ha => ?_⟩
    · rcases mem2 ha with ha1 | ea
      · rcases mem2 hb with hb1 | eb
        · rw [ho a ha1, ho b hb1]; exact R.ht.up a ha1 b hb1 l1 l2
        · have := hS a ha1; rw [eb] at l1; omega
      · rcases mem2 hb with hb1 | eb
        · rw [ea, hp', ho b hb1]; rw [ea] at l2; exact up b hb1 l2
        · rw [ea, eb] at l1; omega
    · rcases mem2 ha with ha | rfl
      · rw [ho a ha]
        rcases R.ht.dn a ha with e | ⟨q, hq, a1, a2, a3⟩
        · exact .inl e
        · exact .inr ⟨q, inS hq, a1, a2, by rw [ho q hq]; exact a3⟩
      · rw [hp']
        rcases Nat.eq_zero_or_pos k with e | e
        · exact .inl e
        · obtain ⟨v, hv⟩ : ∃ v, r[k - 1]? = some v := ⟨_, List.getElem?_eq_getElem (by omega)⟩
          obtain ⟨q, hq, e1, e2⟩ := (R.row _ _ hv).1
          have := A _ _ (by omega) hv
          have := gv q hq
          exact .inr ⟨q, inS hq, hS q hq, by omega, by rw [ho q hq]; omega⟩
  have nbOld : ∀ a b, Nb S h a b → Nb (S ++ [p]) h' a b := fun a b n =>
    ⟨inS n.hp, inS n.hq, by rw [ho a n.hp, ho b n.hq]; exact n.eq, n.lt, fun r hr e => by
      rcases mem2 hr with hr | rfl
      · exact n.no r hr (by rw [ho r hr, ho a n.hp] at e; exact e)
      · have := hS a n.hp; omega⟩
  have nbBack : ∀ a b, Nb (S ++ [p]) h' a b → a ≠ p → Nb S h a b := fun a b n hne => by
    have ha : a ∈ S := (mem2 n.hp).resolve_right hne
    have hb : b ∈ S := (mem2 n.hq).resolve_right (by rintro rfl; have := hS a ha; have := n.lt; omega)
    refine ⟨ha, hb, by have := n.eq; rw [ho a ha, ho b hb] at this; exact this, n.lt, fun r hr e => n.no r (inS hr) (by rw [ho r hr, ho a ha]; exact e)⟩
  constructor
  · intro r' er
    rw [hrow] at er
    by_cases hkl : k = r.length
    · rw [if_pos hkl] at er
      have er1 : r' = r ++ [p.2] := (Prod.mk.inj er).1.symm
      rw [hrow, if_pos hkl] at hns
      subst er1
      refine ⟨ht', by simp [R.len], hns, ?_, ?_, ?_, ?_, R.bt⟩
      · intro q hq
        rw [List.length_append]
        rcases mem2 hq with hq | rfl
        · rw [ho q hq]; have := R.lt q hq; simp; omega
        · rw [hp']; simp; omega
      · intro j v e
        rcases Nat.lt_or_ge j r.length with hj | hj
        · rw [List.getElem?_append_left hj] at e
          obtain ⟨⟨q, hq, e1, e2⟩, hm⟩ := R.row j v e
          refine ⟨⟨q, inS hq, by rw [ho q hq]; exact e1, e2⟩, fun q hq e => ?_⟩
          rcases mem2 hq with hq | rfl
          · exact hm q hq (by rw [ho q hq] at e; exact e)
          · rw [hp'] at e; omega
        · rw [List.getElem?_append_right hj] at e
          have hj0 : j - r.length = 0 := by
            rcases Nat.eq_zero_or_pos (j - r.length) with z | z
            · exact z
            · rw [List.getElem?_eq_none (by simp; omega)] at e; cases e
          rw [hj0] at e; simp at e; subst e
          refine ⟨⟨p, inP, by rw [hp']; omega, rfl⟩, fun q hq e => ?_⟩
          rcases mem2 hq with hq | rfl
          · rw [ho q hq] at e; have := R.lt q hq; omega
          · exact Int.le_refl _
      · intro j v e
        rcases Nat.lt_or_ge j m.length with hj | hj
        · rw [List.getElem?_append_left hj] at e
          obtain ⟨⟨q, hq, e1, e2⟩, hm⟩ := R.mrk j v e
          refine ⟨⟨q, inS hq, by rw [ho q hq]; exact e1, e2⟩, fun q hq e => ?_⟩
          rcases mem2 hq with hq | rfl
          · exact hm q hq (by rw [ho q hq] at e; exact e)
          · rw [hp'] at e; have := R.len; omega
        · rw [List.getElem?_append_right hj] at e
          have hj0 : j - m.length = 0 := by
            rcases Nat.eq_zero_or_pos (j - m.length) with z | z
            · exact z
            · rw [List.getElem?_eq_none (by simp; omega)] at e; cases e
          rw [hj0] at e; simp at e; subst e
          have := R.len
          refine ⟨⟨p, inP, by rw [hp']; omega, rfl⟩, fun q hq e => ?_⟩
          rcases mem2 hq with hq | rfl
          · rw [ho q hq] at e; have := R.lt q hq; omega
          · exact Int.le_refl _
      · intro t b
        rw [R.bmp]
        constructor
        · rintro ⟨a, c, n, e1, e2⟩; exact ⟨a, c, nbOld a c n, e1, e2⟩
        · rintro ⟨a, c, n, e1, e2⟩
          refine ⟨a, c, nbBack a c n ?_, e1, e2⟩
          rintro rfl
          have hc : c ∈ S := (mem2 n.hq).resolve_right (by rintro rfl; have := n.lt; omega)
          have := n.eq
          rw [hp', ho c hc] at this
          have := R.lt c hc; omega
    · have : r[k]? = none := (Prod.mk.inj er).2
      rw [List.getElem?_eq_getElem (by omega)] at this; cases this
  · intro r' b er
    rw [hrow] at er
    have eb : r[k]? = some b := (Prod.mk.inj er).2
    have hkl : k < r.length := (List.getElem?_eq_some_iff.mp eb).1
    rw [if_neg (by omega)] at er
    rw [hrow, if_neg (by omega)] at hns
    have er1 : r' = r.set k p.2 := (Prod.mk.inj er).1.symm
    subst er1
    have hpb := B k b (Nat.le_refl _) eb
    refine ⟨ht', by simp [R.len], hns, ?_, ?_, ?_, ?_, ?_⟩
    · intro q hq
      rw [List.length_set]
      rcases mem2 hq with hq | rfl
      · rw [ho q hq]; exact R.lt q hq
      · rw [hp']; exact hkl
    · intro j v e
      by_cases hj : j = k
      · subst hj
        rw [List.getElem?_set_self hkl] at e
        cases e
        refine ⟨⟨p, inP, hp', rfl⟩, fun q hq e => ?_⟩
        rcases mem2 hq with hq | rfl
        · have := (R.row _ _ eb).2 q hq (by rw [ho q hq] at e; exact e); omega
        · exact Int.le_refl _
      · rw [List.getElem?_set_ne (Ne.symm hj)] at e
        obtain ⟨⟨q, hq, e1, e2⟩, hm⟩ := R.row j v e
        refine ⟨⟨q, inS hq, by rw [ho q hq]; exact e1, e2⟩, fun q hq e => ?_⟩
        rcases mem2 hq with hq | rfl
        · exact hm q hq (by rw [ho q hq] at e; exact e)
        · rw [hp'] at e; omega
    · intro j v e
      obtain ⟨⟨q, hq, e1, e2⟩, hm⟩ := R.mrk j v e
      refine ⟨⟨q, inS hq, by rw [ho q hq]; exact e1, e2⟩, fun q' hq' e' => ?_⟩
      rcases mem2 hq' with hq' | rfl
      · exact hm q' hq' (by rw [ho q' hq'] at e'; exact e')
      · have := hS q hq; omega
    · intro t b'
      obtain ⟨⟨q, hq, e1, e2⟩, hm⟩ := R.row k b eb
      have hNb : Nb (S ++ [p]) h' p q := by
        refine ⟨inP, inS hq, by rw [hp', ho q hq]; exact e1.symm, hS q hq, fun r hr e h2 => ?_⟩
        rcases mem2 hr with hr | rfl
        · rw [hp', ho r hr] at e
          have h3 := ht_anti R.ht gS hr hq (by omega) h2.1
          have := hm r hr e; omega
        · omega
      rw [List.mem_append, R.bmp]
      constructor
      · rintro (⟨a, c, n, e1, e2⟩ | e)
        · exact ⟨a, c, nbOld a c n, e1, e2⟩
        · simp at e; obtain ⟨rfl, rfl⟩ := e; exact ⟨p, q, hNb, rfl, e2⟩
      · rintro ⟨a, c, n, e1', e2'⟩
        by_cases hap : a = p
        · subst hap
          have hc : c ∈ S := (mem2 n.hq).resolve_right (by rintro rfl; have := n.lt; omega)
          have hck : h c = k := by have := n.eq; rw [hp', ho c hc] at this; exact this.symm
          have hcq : c = q := by
            refine gS.tmeq hc hq ?_
            have h1 := n.no q (inS hq) (by rw [hp', ho q hq]; exact e1)
            have h2 := hNb.no c (inS hc) (by rw [hp', ho c hc]; exact hck)
            have := hS c hc; have := hS q hq
            omega
          subst hcq
          refine .inr ?_
          simp; exact ⟨e1'.symm, by rw [← e2', e2]⟩
        · exact .inl ⟨a, c, nbBack a c n hap, e1', e2'⟩
    · rw [List.pairwise_append]
      refine ⟨R.bt, by simp, fun a ha c hc => ?_⟩
      simp at hc; subst hc
      obtain ⟨u, v, n, e1, e2⟩ := (R.bmp a.1 a.2).mp ha
      have := hS u n.hp
      show a.1 < p.1; omega
theorem run_all : ∀ (ps : List Pt) {S : List Pt} {h : Pt → Nat} {r m : List Int} {bs : List Pt}, Run S h r m bs → Good (S ++ ps) → ∃ h', Run (S ++ ps) h' (rowRun 1 r m ps).1 (rowRun 1 r m ps).2.1 (bs ++ (rowRun 1 r m ps).2.2)
  | [], S, h, r, m, bs, R, g => ⟨h, by simpa [rowRun] using R⟩
  | p :: ps, S, h, r, m, bs, R, g => by
    have g' : Good ((S ++ [p]) ++ ps) := by simpa using g
    have gp : Good (S ++ [p]) := ⟨(List.pairwise_append.mp g'.tm).1, fun a ha b hb => g'.vl a (List.mem_append_left _ ha) b (List.mem_append_left _ hb)⟩
    obtain ⟨h1, c1, c2⟩ := run_step R (p := p) (fun q hq => (List.pairwise_append.mp gp.tm).2.2 q hq p (by simp)) gp
    unfold rowRun
    rcases e : rowIns 1 r p.2 with ⟨r', _ | b⟩
    · obtain ⟨h2, R2⟩ := run_all ps (c1 r' e) g'
      exact ⟨h2, by simpa using R2⟩
    · obtain ⟨h2, R2⟩ := run_all ps (c2 r' b e) g'
      refine ⟨h2, ?_⟩
      dsimp only
      simpa using R2
theorem run_is {ps : List Pt} (g : Good ps) : ∃ h, Run ps h (rowRun 1 [] [] ps).1 (rowRun 1 [] [] ps).2.1 (rowRun 1 [] [] ps).2.2 := by
  obtain ⟨h, R⟩ := run_all ps run_nil (by simpa using g)
  exact ⟨h, by simpa using R⟩
/-- what is pushed out is such a list again -/
theorem Run.good {S : List Pt} {h : Pt → Nat} {r m : List Int} {bs : List Pt} (R : Run S h r m bs) (g : Good S) : Good bs := by
  refine ⟨R.bt, fun a ha c hc e => ?_⟩
  obtain ⟨p, q, n, e1, e2⟩ := (R.bmp a.1 a.2).mp ha
  obtain ⟨p', q', n', e1', e2'⟩ := (R.bmp c.1 c.2).mp hc
  have hq : q = q' := g.vl q n.hq q' n'.hq (by omega)
  subst hq
  have h1 := n.no p' n'.hp (by rw [n'.eq, n.eq])
  have h2 := n'.no p n.hp (by rw [n'.eq, n.eq])
  have h3 := n.lt; have h4 := n'.lt
  refine Prod.ext ?_ e
  omega
/-- the same points, time and value exchanged -/
def Tr (ps qs : List Pt) : Prop := ∀ a b, (a, b) ∈ qs ↔ (b, a) ∈ ps
theorem Tr.sym {ps qs : List Pt} (h : Tr ps qs) : Tr qs ps := fun a b => (h b a).symm
theorem isHt_swap {ps qs : List Pt} (t : Tr ps qs) {h : Pt → Nat} (H : IsHt qs h) : IsHt ps (fun p => h (p.2, p.1)) := by
  refine ⟨fun p hp q hq l1 l2 => H.up _ ((t _ _).mpr hp) _ ((t _ _).mpr hq) l2 l1, fun p hp => ?_⟩
  rcases H.dn _ ((t _ _).mpr hp) with e | ⟨q, hq, a, b, e⟩
  · exact .inl e
  · exact .inr ⟨(q.2, q.1), (t _ _).mp hq, b, a, e⟩
theorem nb_swap {ps qs : List Pt} (t : Tr ps qs) (gp : Good ps) {h g : Pt → Nat} (H : IsHt ps h) (hg : ∀ p ∈ ps, g (p.2, p.1) = h p) {p q : Pt} (n : Nb ps h p q) : Nb qs g (q.2, q.1) (p.2, p.1) := by
  refine ⟨(t _ _).mpr n.hq, (t _ _).mpr n.hp, by rw [hg p n.hp, hg q n.hq, n.eq], ht_anti H gp n.hp n.hq n.eq n.lt, fun r hr e hb => ?_⟩
  have hr' : (r.2, r.1) ∈ ps := (t _ _).mp hr
  have er : h (r.2, r.1) = h q := by
    have := hg _ hr'
    rw [hg q n.hq] at e
    rw [← this]; exact e
  refine n.no _ hr' (by rw [er, n.eq]) ⟨?_, ?_⟩
  · exact ht_anti' H gp hr' n.hq er hb.2
  · exact ht_anti' H gp n.hp hr' (by rw [n.eq, er]) hb.1
theorem run_swap {ps qs : List Pt} (t : Tr ps qs) (gp : Good ps) (gq : Good qs) {h g : Pt → Nat} {r m r' m' : List Int} {bs cs : List Pt} (R : Run ps h r m bs) (R' : Run qs g r' m' cs) : r' = m ∧ m' = r ∧ Tr bs cs := by
  have hg : ∀ p ∈ ps, g (p.2, p.1) = h p := fun p hp => (ht_eq R.ht (isHt_swap t R'.ht) hp).symm
  have hg' : ∀ p ∈ qs, h (p.2, p.1) = g p := fun p hp => (hg (p.2, p.1) ((t _ _).mp hp)).symm
  have len : r'.length = r.length := by
    have l1 : r.length ≤ r'.length := by
      rcases Nat.eq_zero_or_pos r.length with e | e
      · omega
      · obtain ⟨v, hv⟩ : ∃ v, r[r.length - 1]? = some v := ⟨_, List.getElem?_eq_getElem (by omega)⟩
        obtain ⟨p, hp, e1, e2⟩ := (R.row _ _ hv).1
        have := R'.lt _ ((t p.2 p.1).mpr hp)
        rw [hg p hp] at this; omega
    have l2 : r'.length ≤ r.length := by
      rcases Nat.eq_zero_or_pos r'.length with e | e
      · omega
      · obtain ⟨v, hv⟩ : ∃ v, r'[r'.length - 1]? = some v := ⟨_, List.getElem?_eq_getElem (by omega)⟩
        obtain ⟨p, hp, e1, e2⟩ := (R'.row _ _ hv).1
        have := R.lt _ ((t p.1 p.2).mp hp)
        rw [hg' p hp] at this; omega
    omega
  have l1 := R.len
  have l2 := R'.len
  refine ⟨?_, ?_, ?_⟩
  · refine List.ext_getElem (by omega) fun k h1 h2 => ?_
    obtain ⟨⟨p, hp, e1, e2⟩, hm⟩ := R'.row k r'[k] (List.getElem?_eq_getElem h1)
    obtain ⟨⟨q, hq, e3, e4⟩, hn⟩ := R.mrk k m[k] (List.getElem?_eq_getElem h2)
    have a1 := hm _ ((t q.2 q.1).mpr hq) (by rw [hg q hq]; exact e3)
    have a2 := hn _ ((t p.1 p.2).mp hp) (by rw [hg' p hp]; exact e1)
    simp only at a1 a2
    omega
  · refine List.ext_getElem (by omega) fun k h1 h2 => ?_
    obtain ⟨⟨p, hp, e1, e2⟩, hm⟩ := R'.mrk k m'[k] (List.getElem?_eq_getElem h1)
    obtain ⟨⟨q, hq, e3, e4⟩, hn⟩ := R.row k r[k] (List.getElem?_eq_getElem h2)
    have a1 := hm _ ((t q.2 q.1).mpr hq) (by rw [hg q hq]; exact e3)
    have a2 := hn _ ((t p.1 p.2).mp hp) (by rw [hg' p hp]; exact e1)
    simp only at a1 a2
    omega
  · intro a b
    rw [R'.bmp, R.bmp]
    constructor
    · rintro ⟨p, q, n, e1, e2⟩
      exact ⟨_, _, nb_swap t.sym gq R'.ht hg' n, e2, e1⟩
    · rintro ⟨p, q, n, e1, e2⟩
      exact ⟨_, _, nb_swap t gp R.ht hg n, e2, e1⟩
/-- the two tables of an order and of its inverse are the same, exchanged -/
theorem tabs_swap : ∀ (n : Nat) (ps qs : List Pt), ps.length ≤ n → Good ps → Good qs → Tr ps qs → tabs 1 qs = (tabs 1 ps).map fun x => (x.2, x.1)
  | n, [], qs, hn, gp, gq, t => by
    have : qs = [] := by
      cases qs with
      | nil => rfl
      | cons q _ => have := (t q.1 q.2).mp (.head _); cases this
    subst this; rfl
  | 0, p :: ps, qs, hn, gp, gq, t => by simp at hn
  | n + 1, p :: ps, [], hn, gp, gq, t => by have := (t p.2 p.1).mpr (.head _); cases this
  | n + 1, p :: ps, q :: qs, hn, gp, gq, t => by
    obtain ⟨h, R⟩ := run_is gp
    obtain ⟨g, R'⟩ := run_is gq
    obtain ⟨e1, e2, t'⟩ := run_swap t gp gq R R'
    have hl := bumps_lt (d := 1) p ps
    rw [tabs_cons, tabs_cons, e1, e2, tabs_swap n _ _ (by omega) (R.good gp) (R'.good gq) t']
    rfl
section
variable {H₀ H : Hp} {R M : Addr} {as bs : List Addr} {rows marks : List (List Int)}
/-- two tables of the call's own, made since H₀ -/
structure TabsIn (H₀ H : Hp) (R M : Addr) (as bs : List Addr) (rows marks : List (List Int)) : Prop where
  r : H R = some (.list (refs as), true)
  m : H M = some (.list (refs bs), true)
  ra : RowsAt H as rows
  rb : RowsAt H bs marks
  nd : (R :: M :: (as ++ bs)).Nodup
  kp : Keeps H₀ H
  fr : ∀ a ∈ R :: M :: (as ++ bs), H₀ a = none
theorem TabsIn.neRM (t : TabsIn H₀ H R M as bs rows marks) : R ≠ M := fun e => (List.nodup_cons.mp t.nd).1 (e ▸ .head _)
theorem TabsIn.Ra (t : TabsIn H₀ H R M as bs rows marks) : R ∉ as := fun h => (List.nodup_cons.mp t.nd).1 (.tail _ (List.mem_append_left _ h))
theorem TabsIn.Rb (t : TabsIn H₀ H R M as bs rows marks) : R ∉ bs := fun h => (List.nodup_cons.mp t.nd).1 (.tail _ (List.mem_append_right _ h))
theorem TabsIn.Ma (t : TabsIn H₀ H R M as bs rows marks) : M ∉ as := fun h => (List.nodup_cons.mp (List.nodup_cons.mp t.nd).2).1 (List.mem_append_left _ h)
theorem TabsIn.Mb (t : TabsIn H₀ H R M as bs rows marks) : M ∉ bs := fun h => (List.nodup_cons.mp (List.nodup_cons.mp t.nd).2).1 (List.mem_append_right _ h)
theorem TabsIn.nda (t : TabsIn H₀ H R M as bs rows marks) : as.Nodup := (List.nodup_append.mp (List.nodup_cons.mp (List.nodup_cons.mp t.nd).2).2).1
theorem TabsIn.ndb (t : TabsIn H₀ H R M as bs rows marks) : bs.Nodup := (List.nodup_append.mp (List.nodup_cons.mp (List.nodup_cons.mp t.nd).2).2).2.1
theorem TabsIn.ab (t : TabsIn H₀ H R M as bs rows marks) {a : Addr} (h1 : a ∈ as) (h2 : a ∈ bs) : False := (List.nodup_append.mp (List.nodup_cons.mp (List.nodup_cons.mp t.nd).2).2).2.2 a h1 a h2 rfl
theorem TabsIn.new {D : Addr} {o : AObj} (t : TabsIn H₀ H R M as bs rows marks) (hD : H D = none) : TabsIn H₀ (H.set D o) R M as bs rows marks :=
  ⟨keepH t.r hD, keepH t.m hD, t.ra.keepNew hD, t.rb.keepNew hD, t.nd, t.kp.new hD, t.fr⟩
theorem TabsIn.setR {j : Nat} {a : Addr} {r' : List Int} (t : TabsIn H₀ H R M as bs rows marks) (ha : as[j]? = some a) : TabsIn H₀ (H.set a (.list (zs r'))) R M as bs (rows.set j r') marks := by
  have hm := List.mem_of_getElem? ha
  refine ⟨Hp.set_ne (fun e => t.Ra (e ▸ hm)) t.r, Hp.set_ne (fun e => t.Ma (e ▸ hm)) t.m, t.ra.set t.nda ha, t.rb.keep (fun h => t.ab hm h), t.nd, t.kp.set (t.fr a (.tail _ (.tail _ (List.mem_append_left _ hm)))), t.fr⟩
theorem TabsIn.setM {j : Nat} {b : Addr} {r' : List Int} (t : TabsIn H₀ H R M as bs rows marks) (hb : bs[j]? = some b) : TabsIn H₀ (H.set b (.list (zs r'))) R M as bs rows (marks.set j r') := by
  have hm := List.mem_of_getElem? hb
  refine ⟨Hp.set_ne (fun e => t.Rb (e ▸ hm)) t.r, Hp.set_ne (fun e => t.Mb (e ▸ hm)) t.m, t.ra.keep (fun h => t.ab h hm), t.rb.set t.ndb hb, t.nd, t.kp.set (t.fr b (.tail _ (.tail _ (List.mem_append_right _ hm)))), t.fr⟩
theorem nodup_snocA {R M D : Addr} {as bs : List Addr} (nd : (R :: M :: (as ++ bs)).Nodup) (hD : D ∉ R :: M :: (as ++ bs)) : (R :: M :: ((as ++ [D]) ++ bs)).Nodup := by
  have hp : (R :: M :: ((as ++ [D]) ++ bs)).Perm (D :: R :: M :: (as ++ bs)) := by
    have : ((as ++ [D]) ++ bs).Perm (D :: (as ++ bs)) := by
      rw [List.append_assoc]; exact List.perm_middle
    exact ((this.cons M).cons R).trans (((List.Perm.swap D M _).cons R).trans (List.Perm.swap D R _))
  exact hp.nodup_iff.mpr (List.nodup_cons.mpr ⟨hD, nd⟩)
theorem nodup_snocB {R M D : Addr} {as bs : List Addr} (nd : (R :: M :: (as ++ bs)).Nodup) (hD : D ∉ R :: M :: (as ++ bs)) : (R :: M :: (as ++ (bs ++ [D]))).Nodup := by
  have hp : (R :: M :: (as ++ (bs ++ [D]))).Perm (D :: R :: M :: (as ++ bs)) := by
    have : (as ++ (bs ++ [D])).Perm (D :: (as ++ bs)) := by
      rw [← List.append_assoc]; exact List.perm_append_singleton _ _
    exact ((this.cons M).cons R).trans (((List.Perm.swap D M _).cons R).trans (List.Perm.swap D R _))
  exact hp.nodup_iff.mpr (List.nodup_cons.mpr ⟨hD, nd⟩)
theorem TabsIn.outside {D : Addr} (t : TabsIn H₀ H R M as bs rows marks) (hD : H D = none) : D ∉ R :: M :: (as ++ bs) := by
  intro h
  rcases List.mem_cons.mp h with e | h
  · rw [e, t.r] at hD; cases hD
  · rcases List.mem_cons.mp h with e | h
    · rw [e, t.m] at hD; cases hD
    · rcases List.mem_append.mp h with h | h
      · obtain ⟨r, e⟩ := t.ra.mem h; rw [e] at hD; cases hD
      · obtain ⟨r, e⟩ := t.rb.mem h; rw [e] at hD; cases hD
/-- rows.append([..]) -/
theorem TabsIn.pushR {D : Addr} {r : List Int} (t : TabsIn H₀ H R M as bs rows marks) (hD : H D = none) : TabsIn H₀ ((H.set D (.list (zs r))).set R (.list (refs (as ++ [D])))) R M (as ++ [D]) bs (rows ++ [r]) marks := by
  have hout := t.outside hD
  have t' := t.new (o := .list (zs r)) hD
  have hDR : D ≠ R := fun e => hout (e ▸ .head _)
  have nd' := nodup_snocA t.nd hout
  have hR' : R ∉ as ++ [D] := fun h => by
    rcases List.mem_append.mp h with h | h
    · exact t.Ra h
    · simp at h; exact hDR h.symm
  refine ⟨Hp.set_same, Hp.set_ne (Ne.symm t.neRM) t'.m, (t'.ra.snoc Hp.set_same).keep hR', t'.rb.keep t.Rb, nd', (t.kp.new hD).set (t.fr R (.head _)), fun a ha => ?_⟩
  rcases List.mem_cons.mp ha with e | ha
  · rw [e]; exact t.fr R (.head _)
  · rcases List.mem_cons.mp ha with e | ha
    · rw [e]; exact t.fr M (.tail _ (.head _))
    · rcases List.mem_append.mp ha with ha | ha
      · rcases List.mem_append.mp ha with ha | ha
        · exact t.fr a (.tail _ (.tail _ (List.mem_append_left _ ha)))
        · simp at ha; rw [ha]; exact t.kp.none hD
      · exact t.fr a (.tail _ (.tail _ (List.mem_append_right _ ha)))
theorem TabsIn.pushM {D : Addr} {r : List Int} (t : TabsIn H₀ H R M as bs rows marks) (hD : H D = none) : TabsIn H₀ ((H.set D (.list (zs r))).set M (.list (refs (bs ++ [D])))) R M as (bs ++ [D]) rows (marks ++ [r]) := by
  have hout := t.outside hD
  have t' := t.new (o := .list (zs r)) hD
  have hDM : D ≠ M := fun e => hout (e ▸ .tail _ (.head _))
  have nd' := nodup_snocB t.nd hout
  have hM' : M ∉ bs ++ [D] := fun h => by
    rcases List.mem_append.mp h with h | h
    · exact t.Mb h
    · simp at h; exact hDM h.symm
  refine ⟨Hp.set_ne t.neRM t'.r, Hp.set_same, t'.ra.keep t.Ma, (t'.rb.snoc Hp.set_same).keep hM', nd', (t.kp.new hD).set (t.fr M (.tail _ (.head _))), fun a ha => ?_⟩
  rcases List.mem_cons.mp ha with e | ha
  · rw [e]; exact t.fr R (.head _)
  · rcases List.mem_cons.mp ha with e | ha
    · rw [e]; exact t.fr M (.tail _ (.head _))
    · rcases List.mem_append.mp ha with ha | ha
      · exact t.fr a (.tail _ (.tail _ (List.mem_append_left _ ha)))
      · rcases List.mem_append.mp ha with ha | ha
        · exact t.fr a (.tail _ (.tail _ (List.mem_append_right _ ha)))
        · simp at ha; rw [ha]; exact t.kp.none hD
end
def Sz (N : Nat) (T : Tab) : Prop := T.length ≤ N ∧ ∀ x ∈ T, x.1.length ≤ N ∧ x.2.length ≤ N ∧ NS 1 x.1
theorem rowIns_len {d : Int} : ∀ (r : List Int) (x : Int), (rowIns d r x).1.length = r.length + (if (rowIns d r x).2.isSome then 0 else 1)
  | [], x => rfl
  | a :: r, x => by
    unfold rowIns
    split
    · simp
    · simp only [List.length_cons]; rw [rowIns_len r x]; omega
theorem Sz.mono {N N' : Nat} {T : Tab} (h : Sz N T) (hn : N ≤ N') : Sz N' T := ⟨by have := h.1; omega, fun x hx => by obtain ⟨a, b, e⟩ := h.2 x hx; exact ⟨by omega, by omega, e⟩⟩
theorem ins2_sz {N : Nat} : ∀ {T : Tab} (p : Int × Int), Sz N T → Sz (N + 1) (ins2 1 T p)
  | [], p, h => by
    refine ⟨by simp [ins2], fun x hx => ?_⟩
    simp [ins2] at hx; subst hx
    exact ⟨by simp, by simp, by simp [NS]⟩
  | (r, m) :: T, p, h => by
    have h0 := h.2 (r, m) (.head _)
    dsimp only at h0
    have hT : Sz N T := ⟨by have := h.1; simp at this; omega, fun x hx => h.2 x (.tail _ hx)⟩
    have hns := rowIns_ns (.inr rfl) (x := p.2) h0.2.2
    have hl := rowIns_len (d := 1) r p.2
    have hl0 := h.1
    unfold ins2
    rcases e : rowIns 1 r p.2 with ⟨r', _ | b⟩
    · rw [e] at hns hl
      refine ⟨by simp at hl0 ⊢; omega, fun x hx => ?_⟩
      rcases List.mem_cons.mp hx with e | hx
      · subst e; simp at hl ⊢; exact ⟨by omega, by omega, hns⟩
      · obtain ⟨a, b, e⟩ := hT.2 x hx; exact ⟨by omega, by omega, e⟩
    · rw [e] at hns hl
      have hlen : ∀ (T : Tab) (q : Int × Int), (ins2 1 T q).length ≤ T.length + 1 := by
        intro T
        induction T with
        | nil => intro q; simp [ins2]
        | cons y T ih =>
          intro q
          obtain ⟨r, m⟩ := y
          unfold ins2
          rcases rowIns 1 r q.2 with ⟨r', _ | b⟩
          · simp
          · simp; exact ih _
      refine ⟨by simp at hl0 ⊢; have := hlen T (p.1, b); omega, fun x hx => ?_⟩
      rcases List.mem_cons.mp hx with e | hx
      · subst e; simp at hl ⊢; exact ⟨by omega, by omega, hns⟩
      · exact (ins2_sz (p.1, b) hT).2 x hx
def ptsN (xs : List Int) (n : Nat) : List Pt := (List.range n).map fun j : Nat => ((j : Int), xs.getD j 0)
theorem ptsN_succ {xs : List Int} {n : Nat} {x : Int} (h : xs[n]? = some x) : ptsN xs (n + 1) = ptsN xs n ++ [((n : Int), x)] := by
  unfold ptsN
  rw [List.range_succ, List.map_append]
  simp [h]
theorem tabs_snoc {d : Int} (ps : List Pt) (p : Pt) : tabs d (ps ++ [p]) = ins2 d (tabs d ps) p := by
  unfold tabs; rw [List.foldl_append]; rfl
def pts (xs : List Int) : List Pt := ptsN xs xs.length
theorem ins2_push {T : Tab} {n : Nat} {r m : List Int} {t x : Int} (hn : T[n]? = some (r, m)) (hs : NS 1 r) (hk : r.countP (fun y => decide (y ≤ x)) < r.length) {b : Int} (hb : r[r.countP (fun y => decide (y ≤ x))]? = some b) :
    T.take n ++ ins2 1 (T.drop n) (t, x) = (T.set n (r.set (r.countP fun y => decide (y ≤ x)) x, m)).take (n + 1) ++ ins2 1 ((T.set n (r.set (r.countP fun y => decide (y ≤ x)) x, m)).drop (n + 1)) (t, b) := by
  obtain ⟨hlt, he⟩ := List.getElem?_eq_some_iff.mp hn
  have ec : r.countP (fun y => decide (y < x + 1)) = r.countP fun y => decide (y ≤ x) := List.countP_congr fun y _ => by simp; omega
  have hr := rowIns_is (.inr rfl) (x := x) hs
  rw [ec, if_neg (by omega), hb] at hr
  have hd : T.drop n = (r, m) :: T.drop (n + 1) := by rw [List.drop_eq_getElem_cons hlt, he]
  rw [hd]
  have : ins2 1 ((r, m) :: T.drop (n + 1)) (t, x) = (r.set (r.countP fun y => decide (y ≤ x)) x, m) :: ins2 1 (T.drop (n + 1)) (t, b) := by
    show (match rowIns 1 r x with | (r', none) => (r', m ++ [t]) :: T.drop (n + 1) | (r', some b) => (r', m) :: ins2 1 (T.drop (n + 1)) (t, b)) = _
    rw [hr]
  rw [this, List.take_add_one, List.getElem?_set_self hlt, List.take_set_of_le (Nat.le_refl _), List.drop_set_of_lt (Nat.lt_succ_self _)]
  simp
theorem ins2_stay {T : Tab} {n : Nat} {r m : List Int} {t x : Int} (hn : T[n]? = some (r, m)) (hs : NS 1 r) (hk : r.countP (fun y => decide (y ≤ x)) = r.length) : T.take n ++ ins2 1 (T.drop n) (t, x) = T.set n (r ++ [x], m ++ [t]) := by
  obtain ⟨hlt, he⟩ := List.getElem?_eq_some_iff.mp hn
  have ec : r.countP (fun y => decide (y < x + 1)) = r.countP fun y => decide (y ≤ x) := List.countP_congr fun y _ => by simp; omega
  have hr := rowIns_is (.inr rfl) (x := x) hs
  rw [ec, if_pos hk, hk, List.getElem?_eq_none (Nat.le_refl _)] at hr
  have hd : T.drop n = (r, m) :: T.drop (n + 1) := by rw [List.drop_eq_getElem_cons hlt, he]
  rw [hd]
  have : ins2 1 ((r, m) :: T.drop (n + 1)) (t, x) = (r ++ [x], m ++ [t]) :: T.drop (n + 1) := by
    show (match rowIns 1 r x with | (r', none) => (r', m ++ [t]) :: T.drop (n + 1) | (r', some b) => (r', m) :: ins2 1 (T.drop (n + 1)) (t, b)) = _
    rw [hr]
  rw [this, List.set_eq_take_append_cons_drop, if_pos hlt]
theorem map_set1 {T : Tab} {n : Nat} {r m r' : List Int} (hn : T[n]? = some (r, m)) : (T.set n (r', m)).map (·.1) = (T.map (·.1)).set n r' ∧ (T.set n (r', m)).map (·.2) = T.map (·.2) := by
  constructor
  · rw [List.map_set]
  · rw [List.map_set]
    refine List.ext_getElem? fun i => ?_
    rw [List.getElem?_set]
    split
    · rename_i e
      subst e
      rw [List.getElem?_map, hn]
      have := (List.getElem?_eq_some_iff.mp hn).1
      simp [this]
    · rfl
section
open PySem.Spec
def dat1 (r : List Int) : PyData := .list (r.map PyData.int)
theorem eqv_rows : ∀ xs ys : List (List Int), PyData.eqvAll (xs.map dat1) (ys.map dat1) = decide (xs = ys)
  | [], [] => by simp [PyData.eqvAll]
  | [], _ :: _ => by simp [PyData.eqvAll]
  | _ :: _, [] => by simp [PyData.eqvAll]
  | a :: r, b :: t => by
    simp only [List.map_cons, PyData.eqvAll, eqv_rows r t]
    have : PyData.eqv (dat1 a) (dat1 b) = decide (a = b) := by
      unfold dat1; rw [PyData.eqv, ked_eqvAll]
    rw [this]
    by_cases h : a = b <;> by_cases h' : r = t <;> simp [h, h']
theorem lay_rows : ∀ xs : List (List Int), PyData.canLayAll0 (xs.map dat1) = true ∧ PyData.depthAll (xs.map dat1) ≤ 1
  | [] => ⟨rfl, Nat.zero_le _⟩
  | a :: r => by
    obtain ⟨h1, h2⟩ := lay_rows r
    have e1 : PyData.canLay0 (dat1 a) = true := by unfold dat1; simp [PyData.canLay0, ke_canLayAll0]
    have e2 : PyData.depth (dat1 a) ≤ 1 := by unfold dat1; simp [PyData.depth, ke_depthAll]
    simp only [List.map_cons, PyData.canLayAll0, PyData.depthAll, e1, h1]
    exact ⟨rfl, by omega⟩
theorem shaped_rows (xs : List (List Int)) : SeqAt.shaped (.list (xs.map dat1)) = true := by
  obtain ⟨h1, h2⟩ := lay_rows xs
  simp only [SeqAt.shaped, PyData.canLay0, PyData.depth, h1, Bool.true_and, decide_eq_true_eq]
  exact decide_eq_true (by omega)
variable {c : Cx} {ρ : Loc} {H : Hp}
theorem reads_rows {F : Hp} {s : Shared} (st : St c ρ H F s) : ∀ {as : List Addr} {xs : List (List Int)}, RowsAt H as xs → ∃ bs, ReadsAll s.heap (as.map Value.ref) (xs.map dat1) bs
  | [], xs, h => by
    have : xs = [] := by have := h.len; simp at this; exact List.eq_nil_of_length_eq_zero this.symm
    subst this; exact ⟨[], .nil⟩
  | a :: as, [], h => by have := h.len; simp at this
  | a :: as, x :: xs, h => by
    obtain ⟨bs, hb⟩ := reads_rows st (as := as) (xs := xs) ⟨by have := h.len; simpa using this, fun j b q hb hq => h.at' (j + 1) b q (by simpa using hb) (by simpa using hq)⟩
    obtain ⟨vs, hl, hi⟩ := st.ints (h.at' 0 a x rfl rfl)
    exact ⟨_, .cons (reads_newData hl (ke_carried hi)) hb⟩
theorem reads_tab {F : Hp} {s : Shared} (st : St c ρ H F s) {a : Addr} {as : List Addr} {xs : List (List Int)} {fl : Bool} (ha : H a = some (.list (refs as), fl)) (hx : RowsAt H as xs) : ∃ bs, Reads s.heap (.ref a) (.list (xs.map dat1)) bs := by
  obtain ⟨its, ⟨ob, g, hc, n, hd⟩, hm⟩ := st.isList ha
  obtain ⟨l⟩ := its
  have e := abs_refs hm
  simp only at e; subst e
  obtain ⟨bs, hb⟩ := reads_rows st hx
  exact ⟨_, reads_list_at g hc hd hb⟩
theorem ov_eqLL {a b : Addr} {as bs : List Addr} {xs ys : List (List Int)} {fa fb : Bool} {Φ : AV → Hp → Prop} (ok : Ok c) (ha : H a = some (.list (refs as), fa)) (hx : RowsAt H as xs) (hb : H b = some (.list (refs bs), fb)) (hy : RowsAt H bs ys) (h : Φ (.bool (decide (xs = ys))) H) :
    OV c ρ H (compareOp .Eq (.ref a) (.ref b)) Φ :=
  Tri.of fun F s Q st k => by
    obtain ⟨_, r1⟩ := reads_tab st ha hx
    obtain ⟨_, r2⟩ := reads_tab st hb hy
    refine eq_dataH r1 r2 (shaped_rows xs) (shaped_rows ys) (units_ok ok) ?_
    rw [PyData.eqv, eqv_rows]
    exact k _ _ _ _ (.refl s) st ⟨rfl, h⟩
theorem ev_eqLL {l r : Expr} {pos : Pos} {Φ : AV → Hp → Prop} (ok : Ok c) (h : EV c ρ H l fun v H₁ => EV c ρ H₁ r fun w H₂ => ∃ a b as bs xs ys fa fb, v = .ref a ∧ w = .ref b ∧ H₂ a = some (.list (refs as), fa) ∧ RowsAt H₂ as xs ∧ H₂ b = some (.list (refs bs), fb) ∧ RowsAt H₂ bs ys ∧ Φ (.bool (decide (xs = ys))) H₂) : EV c ρ H (.Compare l [.Eq] [r] pos) Φ :=
  ev_cmp (behind_of rfl) (h.mono fun v H₁ h₁ => h₁.mono fun w H₂ ⟨a, b, as, bs, xs, ys, fa, fb, e1, e2, h1, h2, h3, h4, p⟩ y z hy hz => by
    subst e1 e2
    have := abs_ref hy; subst this
    have := abs_ref hz; subst this
    exact ov_eqLL ok h1 h2 h3 h4 p)
theorem ev_andB {x y : Expr} {pos : Pos} {Φ : AV → Hp → Prop} (h : EV c ρ H x fun v H' => ∃ b : Bool, v = .bool b ∧ if b then EV c ρ H' y Φ else Φ (.bool false) H') : EV c ρ H (.BoolOp .And [x, y] pos) Φ :=
  Tri.of fun F s Q st k => BoolOp_and (h.use st fun a s₁ ρ₁ H₁ sm st₁ ⟨e, b, hb, p⟩ => by
    subst e
    have := abs_bool hb; subst this
    refine wpAny_truthy_bool ?_
    cases b with
    | false => exact k _ _ _ _ sm st₁ ⟨rfl, p⟩
    | true =>
      show wpAny _ _ (eval (.BoolOp .And [y] pos) c.env) _ _ _
      exact BoolOp_one (p.use st₁ fun d s₂ ρ₂ H₂ sm₂ st₂ ⟨e₂, p₂⟩ => by
        subst e₂
        exact k _ _ _ _ (sm.trans sm₂) st₂ ⟨rfl, p₂⟩))
end

local macro_rules | `(tactic| walk_at "loc") => `(tactic| first | with_reducible assumption | with_reducible exact Loc.set_same | exact freeLoc_get (by decide +kernel) (by walk_at "loc") | ((with_reducible refine' Loc.set_ne ?k1 ?_); (case k1 => decide); walk_at "loc"))
local macro_rules | `(tactic| walk_at "kd") => `(tactic| first | exact kd_of (by with_reducible assumption) (by decide +kernel) | exact comp_kd (by decide +kernel) (by decide))
local macro_rules | `(tactic| walk_at "hne") => `(tactic| first | with_reducible assumption | (apply Ne.symm; with_reducible assumption))
local macro_rules | `(tactic| walk_at "hp") => `(tactic| first | with_reducible assumption | with_reducible exact Hp.set_same | ((with_reducible refine' Hp.set_ne ?k1 ?_); (case k1 => walk_at "hne"); walk_at "hp"))
local macro_rules | `(tactic| walk_at "st") => `(tactic| first | exact Or.inl (by walk_at "kd") | exact Or.inr ⟨by with_reducible assumption, by walk_at "kd"⟩)
local macro_rules | `(tactic| walk_at "side") => `(tactic| first | with_reducible assumption | omega | decide)
local macro_rules | `(tactic| walk_at "lens") => `(tactic| first | (simp only [zs_len, refs_len, List.length_append, List.length_cons, List.length_nil]; omega) | omega)
local macro_rules | `(tactic| walk_at "pv") => `(tactic| first
  | with_reducible exact pv_int | with_reducible exact pv_none | with_reducible exact pv_bool
  | ((with_reducible refine' pv_local ?k1 ?k2 ?k3); (case k1 => assumption); (case k2 => walk_at "kd"); (case k3 => walk_at "loc"))
  | ((with_reducible refine' pv_cell ?k1 ?k2 ?k3); (case k1 => assumption); (case k2 => walk_at "kd"); (case k3 => walk_at "loc"))
  | ((with_reducible refine' pv_free ?k1 ?k2 ?k3); (case k1 => assumption); (case k2 => walk_at "kd"); (case k3 => walk_at "loc"))
  | ((with_reducible refine' pv_around ?k1 ?k2 ?k3); (case k1 => assumption); (case k2 => decide +kernel); (case k3 => walk_at "loc"))
  | ((with_reducible refine' pv_add ?k1 ?k2); (case k1 => walk_at "pv"); (case k2 => walk_at "pv"))
  | ((with_reducible refine' pv_sub ?k1 ?k2); (case k1 => walk_at "pv"); (case k2 => walk_at "pv"))
  | ((with_reducible refine' pv_neg ?k1); (case k1 => walk_at "pv"))
  | ((with_reducible refine' pv_lt ?k1 ?k2); (case k1 => walk_at "pv"); (case k2 => walk_at "pv"))
  | ((with_reducible refine' pv_le ?k1 ?k2); (case k1 => walk_at "pv"); (case k2 => walk_at "pv"))
  | ((with_reducible refine' pv_gt ?k1 ?k2); (case k1 => walk_at "pv"); (case k2 => walk_at "pv"))
  | ((with_reducible refine' pv_ge ?k1 ?k2); (case k1 => walk_at "pv"); (case k2 => walk_at "pv"))
  | ((with_reducible refine' pv_eq ?k1 ?k2); (case k1 => walk_at "pv"); (case k2 => walk_at "pv"))
  | ((with_reducible refine' pv_ne ?k1 ?k2); (case k1 => walk_at "pv"); (case k2 => walk_at "pv"))
  | ((with_reducible refine' pv_fdiv ?k1 ?k2 ?k3 ?k4); (case k1 => walk_at "pv"); (case k2 => walk_at "pv"); (case k3 => walk_at "side"); (case k4 => walk_at "side"))
  | ((with_reducible refine' pv_mod ?k1 ?k2 ?k3); (case k1 => walk_at "pv"); (case k2 => walk_at "pv"); (case k3 => walk_at "side"))
  | ((with_reducible refine' pv_len ?k1 ?k2 ?k3 ?k4 ?k5 ?k6); (case k1 => assumption); (case k2 => walk_at "kd"); (case k3 => with_reducible assumption); (case k4 => walk_at "pv"); (case k5 => walk_at "hp"); (case k6 => walk_at "lens"))
  | ((with_reducible refine' pv_max2 ?k1 ?k2 ?k3 ?k4 ?k5); (case k1 => assumption); (case k2 => walk_at "kd"); (case k3 => with_reducible assumption); (case k4 => walk_at "pv"); (case k5 => walk_at "pv"))
  | ((with_reducible refine' pv_min2 ?k1 ?k2 ?k3 ?k4 ?k5); (case k1 => assumption); (case k2 => walk_at "kd"); (case k3 => with_reducible assumption); (case k4 => walk_at "pv"); (case k5 => walk_at "pv"))
  | ((with_reducible refine' pv_abs ?k1 ?k2 ?k3 ?k4); (case k1 => assumption); (case k2 => walk_at "kd"); (case k3 => with_reducible assumption); (case k4 => walk_at "pv")))
abbrev P01 := PySem.Challenge.pw_da0001_01

theorem bisR_body {K : Frag} (g1 : gl K "len" = some (.builtin "len")) : BisBody P01 1 (fun x y => decide (y ≤ x)) K := by
  intro c ρ H l xs x fl hK ok hk h1 h2 h3 h4 h5 hl hs hn
  rw [← hK] at g1
  refine xs_cons ?_
  refine ex_ifp (pt_cmp (by walk_at "pv")) (fun h => absurd h (by decide)) fun _ => ?_
  refine xs_nil ?_
  refine xs_cons ?_
  refine ex_ifp (pt_is_none (by walk_at "pv") true rfl trivial) (fun _ => ?_) (fun h => absurd h (by decide))
  refine xs_cons (ex_assignp ok (by walk_at "st") (by walk_at "pv") (xs_nil ?_))
  refine xs_cons ?_
  refine ex_ifp (pt_is_none (by walk_at "pv") true rfl trivial) (fun _ => ?_) (fun h => absurd h (by decide))
  refine xs_cons ?_
  refine ex_while (fun n ρ' H' => H' = H ∧ ∃ lo hi : Nat, n = hi - lo ∧ lo ≤ hi ∧ hi ≤ xs.length ∧ ρ' "a" = some (.ref l) ∧ ρ' "x" = some (.int x) ∧ ρ' "lo" = some (.int lo) ∧ ρ' "hi" = some (.int hi) ∧
    (∀ i y, i < lo → xs[i]? = some y → y ≤ x) ∧ (∀ i y, hi ≤ i → xs[i]? = some y → ¬ (y ≤ x))) xs.length ⟨rfl, 0, xs.length, rfl, Nat.zero_le _, Nat.le_refl _, by walk_at "loc", by walk_at "loc", Loc.set_ne (by decide) h3, ?_, ?_, ?_⟩ ?_
  · rw [Loc.set_same, zs_len]
  · intro i y h; omega
  · intro i y h e; obtain ⟨h', _⟩ := List.getElem?_eq_some_iff.mp e; omega
  rintro n ρ' H' ⟨rfl, lo, hi, rfl, hle, hhi, a1, a2, a3, a4, b1, b2⟩
  refine (pt_cmp (by walk_at "pv")).tv ?_
  by_cases hlt : (lo : Int) < hi
  · rw [decide_eq_true hlt, if_pos rfl]
    refine xs_cons (ex_assignp ok (by walk_at "st") (by walk_at "pv") ?_)
    obtain ⟨mid, hmid, hm1, hm2⟩ : ∃ mid : Nat, ((lo : Int) + hi).fdiv 2 = mid ∧ lo ≤ mid ∧ mid < hi := by
      refine ⟨(lo + hi) / 2, ?_, by omega, by omega⟩
      rw [Int.fdiv_eq_ediv_of_nonneg _ (by omega)]; omega
    rw [hmid]
    obtain ⟨y, hy⟩ : ∃ y, xs[mid]? = some y := ⟨xs[mid]'(by omega), by simp⟩
    refine xs_cons (ex_ifp (pt_cmp (pv_lt (by walk_at "pv") (pv_itemZ (by walk_at "pv") (by walk_at "pv") hl (by omega) hy))) (fun h => ?_) fun h => ?_)
    · have h' : x < y := of_decide_eq_true h
      refine xs_cons (ex_assignp ok (by walk_at "st") (by walk_at "pv") (xs_nil (xs_nil ⟨mid - lo, by omega, rfl, lo, mid, rfl, by omega, by omega, by walk_at "loc", by walk_at "loc", by walk_at "loc", by walk_at "loc", b1, ?_⟩)))
      intro i z hi' e
      have := hs.le hi' hy e
      omega
    · have h' : ¬ x < y := of_decide_eq_false h
      refine xs_cons (ex_assignp (v := .int ((mid : Int) + 1)) ok (by walk_at "st") (by walk_at "pv") (xs_nil (xs_nil ⟨hi - (mid + 1), by omega, rfl, mid + 1, hi, rfl, by omega, by omega, by walk_at "loc", by walk_at "loc", Loc.set_same, by walk_at "loc", ?_, b2⟩)))
      intro i z hi' e
      have := hs.le (i := i) (j := mid) (by omega) e hy
      omega
  · rw [decide_eq_false hlt, if_neg (by decide)]
    refine xs_nil ?_
    refine xs_cons ?_
    refine ex_returnp (by walk_at "pv") ⟨?_, rfl⟩
    have : lo = hi := by omega
    subst this
    rw [countP_split xs lo hhi (fun i y h e => by simpa using b1 i y h e) (fun i y h e => by simpa using b2 i y h e)]

theorem tables_body {c : Cx} (g_len : gl c.K "len" = some (.builtin "len")) (g_rng : gl c.K "range" = some (.type "range")) (hbR : Bis c.K P01 1 "bisect_right") {n : Nat} {ρ : Loc} {H : Hp} {l : Addr} {xs : List Int} {fl : Bool} (ok : Ok c) (okc : OkC c (n + 1)) (own : c.own = true) (hk : c.env.scope = fnScope P01 3)
    (r0 : ρ "numbers" = some (.ref l)) (hl : H l = some (.list (zs xs), fl)) (hlen : xs.length ≤ 63) :
    XS c ρ H (fnBody P01 3) fun f _ H' => ∃ D R M as bs, retv f = .ref D ∧ H' D = some (.tup [.ref R, .ref M], true) ∧ TabsIn H H' R M as bs ((tabs 1 (pts xs)).map (·.1)) ((tabs 1 (pts xs)).map (·.2)) := by
  refine xs_cons (ex_assign ok (by walk_at "st") (ev_list (PS.es ps_nil ⟨by decide, fun R hR => ?_⟩)))
  refine xs_cons (ex_assign ok (by walk_at "st") (ev_list (PS.es ps_nil ⟨by decide, fun M hM => ?_⟩)))
  have hRM : R ≠ M := fun e => by rw [← e, Hp.set_same] at hM; cases hM
  have hM0 : H M = none := by rw [Hp.set, if_neg (Ne.symm hRM)] at hM; exact hM
  have t0 : TabsIn H ((H.set R (.list [])).set M (.list [])) R M [] [] [] [] :=
    ⟨Hp.set_ne hRM Hp.set_same, Hp.set_same, .nil, .nil, by simp [hRM], (Keeps.refl.new hR).set hM0, fun a ha => by simp at ha; rcases ha with e | e <;> rw [e] <;> assumption⟩
  generalize (H.set R (.list [])).set M (.list []) = H1 at t0 ⊢
  refine xs_cons (ex_for ?_)
  have hl1 := t0.kp _ _ hl
  refine itr_range1 ok (by walk_at "kd") g_rng (by walk_at "pv") (by walk_at "lens") ?_
  rw [zs_len, Int.toNat_natCast]
  refine ⟨fun i ρ' H' => ∃ as bs, TabsIn H H' R M as bs ((tabs 1 (ptsN xs i)).map (·.1)) ((tabs 1 (ptsN xs i)).map (·.2)) ∧ Sz i (tabs 1 (ptsN xs i)) ∧ ρ' "numbers" = some (.ref l) ∧ ρ' "rows" = some (.ref R) ∧ ρ' "marks" = some (.ref M),
    ⟨[], [], by simpa [ptsN, tabs] using t0, by simp [ptsN, tabs, Sz], by walk_at "loc", by walk_at "loc", by walk_at "loc"⟩, fun _ _ _ _ => trivial, ?_, ?_⟩
  · rintro i ρ' H' hi ⟨as, bs, t, sz, q1, q2, q3⟩
    have hl2 := t.kp _ _ hl
    obtain ⟨x, hx⟩ : ∃ x, xs[i]? = some x := ⟨_, List.getElem?_eq_getElem hi⟩
    dsimp only
    rw [ptsN_succ hx, tabs_snoc]
    refine asg_name ok (by walk_at "st") ?_
    have sz1 := ins2_sz ((i : Int), x) sz
    generalize tabs 1 (ptsN xs i) = T0 at t sz sz1 ⊢
    refine xs_cons (ex_assignp ok (by walk_at "st") (pv_itemZ (k := i) (by walk_at "pv") (by walk_at "pv") hl2 (by omega) hx) ?_)
    refine xs_cons (ex_assignp ok (by walk_at "st") (by walk_at "pv") ?_)
    refine xs_cons (ex_while (fun n ρ' H' => ∃ (T : Tab) (ap : Nat) (y : Int) (as bs : List Addr), n = T.length - ap ∧ ap ≤ T.length ∧ ins2 1 T0 ((i : Int), x) = T.take ap ++ ins2 1 (T.drop ap) ((i : Int), y) ∧ Sz 63 T ∧ TabsIn H H' R M as bs (T.map (·.1)) (T.map (·.2)) ∧
      ρ' "numbers" = some (.ref l) ∧ ρ' "rows" = some (.ref R) ∧ ρ' "marks" = some (.ref M) ∧ ρ' "step" = some (.int i) ∧ ρ' "at" = some (.int ap) ∧ ρ' "x" = some (.int y)) T0.length
      ⟨T0, 0, x, as, bs, rfl, Nat.zero_le _, rfl, sz.mono (by omega), t, by walk_at "loc", by walk_at "loc", by walk_at "loc", by walk_at "loc", Loc.set_same, by walk_at "loc"⟩ ?_)
    rintro n' ρ2 H2 ⟨T, ap, y, as, bs, rfl, hap, hT, szT, t, q1, q2, q3, q4, q5, q6⟩
    have lenA : as.length = T.length := by rw [t.ra.len, List.length_map]
    have lenB : bs.length = T.length := by rw [t.rb.len, List.length_map]
    have hTl := szT.1
    refine tv_and (PT.tv (pt_cmp (pv_lt (by walk_at "pv") (pv_len ok (by walk_at "kd") g_len (by walk_at "pv") t.r (by walk_at "lens")))) ?_)
    rw [refs_len, lenA]
    by_cases hlt : ap < T.length
    · rw [decide_eq_true (show (ap : Int) < (T.length : Nat) by omega), if_pos rfl]
      obtain ⟨r, m, hrm⟩ : ∃ r m, T[ap]? = some (r, m) := ⟨_, _, List.getElem?_eq_getElem hlt⟩
      obtain ⟨hr1, hr2, hr3⟩ := szT.2 (r, m) (List.mem_of_getElem? hrm)
      dsimp only at hr1 hr2 hr3
      have hr4 := ns_one.mp hr3
      obtain ⟨a, ha⟩ : ∃ a, as[ap]? = some a := ⟨_, List.getElem?_eq_getElem (by omega)⟩
      obtain ⟨b, hb⟩ : ∃ b, bs[ap]? = some b := ⟨_, List.getElem?_eq_getElem (by omega)⟩
      have hHa := t.ra.at' ap a r ha (by rw [List.getElem?_map, hrm]; rfl)
      have hHb := t.rb.at' ap b m hb (by rw [List.getElem?_map, hrm]; rfl)
      refine PT.tv (pt_cmp (pv_lt (pv_bis (q := fun x y => decide (y ≤ x)) ok okc hbR (bisR_body g_len) (by walk_at "kd") (pv_row (k := ap) (by walk_at "pv") (by walk_at "pv") t.r (by omega) ha) (by walk_at "pv") hHa hr4 (by omega))
        (pv_len ok (by walk_at "kd") g_len (pv_row (k := ap) (by walk_at "pv") (by walk_at "pv") t.r (by omega) ha) hHa (by walk_at "lens")))) ?_
      rw [zs_len]
      have hcl : r.countP (fun z => decide (z ≤ y)) ≤ r.length := List.countP_le_length
      by_cases hk2 : r.countP (fun z => decide (z ≤ y)) < r.length
      · rw [decide_eq_true (show ((r.countP (fun z => decide (z ≤ y)) : Nat) : Int) < (r.length : Nat) by omega), if_pos rfl]
        obtain ⟨v, hv⟩ : ∃ v, r[r.countP (fun z => decide (z ≤ y))]? = some v := ⟨_, List.getElem?_eq_getElem hk2⟩
        have hstep := ins2_push (t := (i : Int)) hrm hr3 hk2 hv
        have hns := rowIns_ns (.inr rfl) (x := y) hr3
        rw [rowIns_is (.inr rfl) hr3, show r.countP (fun z => decide (z < y + 1)) = r.countP (fun z => decide (z ≤ y)) from List.countP_congr fun z _ => by simp; omega, if_neg (by omega)] at hns
        refine xs_cons (ex_assignp ok (by walk_at "st") (pv_bis (q := fun x y => decide (y ≤ x)) ok okc hbR (bisR_body g_len) (by walk_at "kd") (pv_row (k := ap) (by walk_at "pv") (by walk_at "pv") t.r (by omega) ha) (by walk_at "pv") hHa hr4 (by omega)) ?_)
        generalize hkk : r.countP (fun z => decide (z ≤ y)) = kk at hstep hv hk2 hcl hns ⊢
        refine xs_cons (ex_assign_tuple (ev_tuple (PS.es (ps_cons (v := .int y) (by walk_at "pv") (ps_cons (v := .int v) (pv_itemZ (k := kk) (pv_row (k := ap) (by walk_at "pv") (by walk_at "pv") t.r (by omega) ha) (by walk_at "pv") hHa (by omega) hv) ps_nil)) ⟨by simp, fun D hD => ?_⟩)) rfl (swapped_none fun l => by
          simp only [List.filterMap_cons, List.filterMap_nil]; split <;> simp))
        have t1 := t.new (o := .tup [.int y, .int v]) hD
        have hHa1 := keepH (o := .tup [.int y, .int v]) hHa hD
        refine asg_two ok (.inl Hp.set_same) (asg_item (PV.ev (v := .ref a) (pv_row (k := ap) (by walk_at "pv") (by walk_at "pv") t1.r (by omega) ha) (PV.ev (v := .int (kk : Nat)) (by walk_at "pv") ⟨a, _, kk, rfl, rfl, hHa1, by rw [zs_len]; exact hk2, by walk_at "lens", ?_⟩))) rfl
        rw [show (zs r).set kk (.int y) = zs (r.set kk y) by unfold zs; rw [List.map_set]]
        have t2 := t1.setR (r' := r.set kk y) ha
        generalize Hp.set (Hp.set H2 D _) a _ = H3 at t2 ⊢
        refine asg_name ok (by walk_at "st") ?_
        refine xs_cons (ex_assignp ok (by walk_at "st") (by walk_at "pv") (xs_nil ?_))
        obtain ⟨m1, m2⟩ := map_set1 (r' := r.set kk y) hrm
        refine ⟨T.length - (ap + 1), by omega, T.set ap (r.set kk y, m), ap + 1, v, as, bs, by rw [List.length_set], by rw [List.length_set]; omega, by rw [hT]; exact hstep, ⟨by rw [List.length_set]; exact hTl, fun z hz => ?_⟩, ?_, by walk_at "loc", by walk_at "loc", by walk_at "loc", by walk_at "loc", Loc.set_same, by walk_at "loc"⟩
        · rcases List.mem_or_eq_of_mem_set hz with h | h
          · exact szT.2 z h
          · subst h; simp only [List.length_set]; exact ⟨hr1, hr2, hns⟩
        · rw [m1, m2]; exact t2
      · rw [decide_eq_false (show ¬ ((r.countP (fun z => decide (z ≤ y)) : Nat) : Int) < (r.length : Nat) by omega), if_neg (by decide)]
        dsimp only
        have hstay := ins2_stay (t := (i : Int)) (x := y) hrm hr3 (by omega)
        rw [hT, hstay] at sz1 ⊢
        refine xs_cons (ex_ifp (pt_cmp (pv_eq (by walk_at "pv") (pv_len ok (by walk_at "kd") g_len (by walk_at "pv") t.r (by walk_at "lens")))) (fun h => ?_) fun _ => xs_nil ?_)
        · rw [refs_len, lenA] at h
          have := beq_iff_eq.mp h; omega
        refine xs_cons (ex_expr ok (ev_append (PV.ev (pv_row (k := ap) (by walk_at "pv") (by walk_at "pv") t.r (by omega) ha) ⟨a, _, rfl, hHa, PV.ev (v := .int y) (by walk_at "pv") ⟨_, hHa, by walk_at "lens", ?_⟩⟩)))
        rw [show zs r ++ [AV.int y] = zs (r ++ [y]) by rw [zs_append]; rfl]
        have t1 := t.setR (r' := r ++ [y]) ha
        have hHb1 := Hp.set_ne (o := .list (zs (r ++ [y]))) (fun e : b = a => t.ab (List.mem_of_getElem? ha) (e ▸ List.mem_of_getElem? hb)) hHb
        generalize Hp.set H2 a _ = H3 at t1 hHb1 ⊢
        refine xs_cons (ex_expr ok (ev_append (PV.ev (pv_row (k := ap) (by walk_at "pv") (by walk_at "pv") t1.m (by omega) hb) ⟨b, _, rfl, hHb1, PV.ev (v := .int i) (by walk_at "pv") ⟨_, hHb1, by walk_at "lens", xs_nil ?_⟩⟩)))
        rw [show zs m ++ [AV.int (i : Int)] = zs (m ++ [(i : Int)]) by rw [zs_append]; rfl]
        have t2 := t1.setM (r' := m ++ [(i : Int)]) hb
        refine ⟨as, bs, ?_, sz1, by walk_at "loc", by walk_at "loc", by walk_at "loc"⟩
        rw [List.map_set, List.map_set]; exact t2
    · rw [decide_eq_false (show ¬ (ap : Int) < (T.length : Nat) by omega), if_neg (by decide), if_neg (by decide)]
      dsimp only
      have hape : ap = T.length := by omega
      rw [hape, List.take_length, List.drop_length] at hT
      have hT' : ins2 1 T0 ((i : Int), x) = T ++ [([y], [(i : Int)])] := hT
      rw [hT'] at sz1 ⊢
      refine xs_cons (ex_ifp (pt_cmp (pv_eq (by walk_at "pv") (pv_len ok (by walk_at "kd") g_len (by walk_at "pv") t.r (by walk_at "lens")))) (fun _ => ?_) fun h => ?_)
      · refine xs_cons (ex_expr ok (ev_append (PV.ev (v := .ref R) (by walk_at "pv") ⟨R, _, rfl, t.r, ev_list (PS.es ps_nil ⟨by decide, fun D hD => ?_⟩)⟩)))
        refine ⟨_, keepH t.r hD, by rw [refs_len]; omega, ?_⟩
        rw [show refs as ++ [AV.ref D] = refs (as ++ [D]) by rw [refs_append]; rfl]
        have t1 := t.pushR (r := []) hD
        rw [show zs [] = [] from rfl] at t1
        generalize Hp.set (Hp.set H2 D _) R _ = H3 at t1 ⊢
        refine xs_cons (ex_expr ok (ev_append (PV.ev (v := .ref M) (by walk_at "pv") ⟨M, _, rfl, t1.m, ev_list (PS.es ps_nil ⟨by decide, fun D2 hD2 => ?_⟩)⟩)))
        refine ⟨_, keepH t1.m hD2, by rw [refs_len]; omega, xs_nil ?_⟩
        rw [show refs bs ++ [AV.ref D2] = refs (bs ++ [D2]) by rw [refs_append]; rfl]
        have t2 := t1.pushM (r := []) hD2
        rw [show zs [] = [] from rfl] at t2
        generalize Hp.set (Hp.set H3 D2 _) M _ = H4 at t2 ⊢
        have ha : (as ++ [D])[ap]? = some D := by rw [List.getElem?_append_right (by omega), show ap - as.length = 0 by omega]; rfl
        have hb : (bs ++ [D2])[ap]? = some D2 := by rw [List.getElem?_append_right (by omega), show ap - bs.length = 0 by omega]; rfl
        have ga : (T.map (·.1) ++ [[]])[ap]? = some [] := by rw [List.getElem?_append_right (by rw [List.length_map]; omega), List.length_map, show ap - T.length = 0 by omega]; rfl
        have gb : (T.map (·.2) ++ [[]])[ap]? = some [] := by rw [List.getElem?_append_right (by rw [List.length_map]; omega), List.length_map, show ap - T.length = 0 by omega]; rfl
        have hHa := t2.ra.at' ap D [] ha ga
        have hHb := t2.rb.at' ap D2 [] hb gb
        refine xs_cons (ex_expr ok (ev_append (PV.ev (pv_row (k := ap) (by walk_at "pv") (by walk_at "pv") t2.r (by rw [List.length_append]; simp; omega) ha) ⟨D, _, rfl, hHa, PV.ev (v := .int y) (by walk_at "pv") ⟨_, hHa, by walk_at "lens", ?_⟩⟩)))
        rw [show zs [] ++ [AV.int y] = zs [y] from rfl]
        have t3 := t2.setR (r' := [y]) ha
        have hHb1 := Hp.set_ne (o := .list (zs [y])) (fun e : D2 = D => t2.ab (List.mem_of_getElem? ha) (e ▸ List.mem_of_getElem? hb)) hHb
        generalize Hp.set H4 D _ = H5 at t3 hHb1 ⊢
        refine xs_cons (ex_expr ok (ev_append (PV.ev (pv_row (k := ap) (by walk_at "pv") (by walk_at "pv") t3.m (by rw [List.length_append]; simp; omega) hb) ⟨D2, _, rfl, hHb1, PV.ev (v := .int i) (by walk_at "pv") ⟨_, hHb1, by walk_at "lens", xs_nil ?_⟩⟩)))
        rw [show zs [] ++ [AV.int (i : Int)] = zs [(i : Int)] from rfl]
        have t4 := t3.setM (r' := [(i : Int)]) hb
        refine ⟨as ++ [D], bs ++ [D2], ?_, sz1, by walk_at "loc", by walk_at "loc", by walk_at "loc"⟩
        rw [List.map_append, List.map_append]
        have e1 : (List.map (fun z : List Int × List Int => z.1) T ++ [[]]).set ap [y] = List.map (fun z : List Int × List Int => z.1) T ++ [[y]] := by
          rw [List.set_append_right _ _ (by rw [List.length_map]; omega), List.length_map, show ap - T.length = 0 by omega]; rfl
        have e2 : (List.map (fun z : List Int × List Int => z.2) T ++ [[]]).set ap [(i : Int)] = List.map (fun z : List Int × List Int => z.2) T ++ [[(i : Int)]] := by
          rw [List.set_append_right _ _ (by rw [List.length_map]; omega), List.length_map, show ap - T.length = 0 by omega]; rfl
        rw [e1, e2] at t4
        exact t4
      · rw [refs_len, lenA] at h
        have := beq_eq_false_iff_ne.mp h; omega
  rintro ρ' H' ⟨as, bs, t, sz, q1, q2, q3⟩
  dsimp only
  refine xs_cons (ex_return (ev_tuple (PS.es (ps_cons (v := .ref R) (by walk_at "pv") (ps_cons (v := .ref M) (by walk_at "pv") ps_nil)) ⟨by simp, fun D hD => ?_⟩)))
  exact ⟨D, R, M, as, bs, rfl, Hp.set_same, t.new hD⟩
structure KF (K : Frag) : Prop where
  len : gl K "len" = some (.builtin "len")
  rng : gl K "range" = some (.type "range")
  srt : gl K "sorted" = some (.builtin "sorted")
  bR : Bis K P01 1 "bisect_right"
  ft : Fn1 K P01 3 "_law_tables" "numbers"
theorem good_pts {xs : List Int} (hn : xs.Nodup) : Good (pts xs) := by
  unfold pts ptsN
  refine ⟨?_, ?_⟩
  · rw [List.pairwise_map]
    refine List.Pairwise.imp (R := fun a b => a < b) ?_ (List.pairwise_lt_range)
    intro a b h; show (a : Int) < b; omega
  · intro p hp q hq e
    obtain ⟨i, hi, rfl⟩ := List.mem_map.mp hp
    obtain ⟨j, hj, rfl⟩ := List.mem_map.mp hq
    rw [List.mem_range] at hi hj
    simp only [List.getD_eq_getElem?_getD, List.getElem?_eq_getElem hi, List.getElem?_eq_getElem hj, Option.getD_some] at e
    have := (List.getElem_inj hn).mp e
    rw [this]
theorem mem_pts {xs : List Int} {a b : Int} : (a, b) ∈ pts xs ↔ ∃ i : Nat, a = i ∧ xs[i]? = some b := by
  unfold pts ptsN
  rw [List.mem_map]
  constructor
  · rintro ⟨i, hi, e⟩
    rw [List.mem_range] at hi
    simp only [Prod.mk.injEq] at e
    refine ⟨i, e.1.symm, ?_⟩
    rw [List.getElem?_eq_getElem hi, ← e.2]; simp [hi]
  · rintro ⟨i, rfl, e⟩
    obtain ⟨hi, e2⟩ := List.getElem?_eq_some_iff.mp e
    exact ⟨i, List.mem_range.mpr hi, by simp [hi, e2]⟩
theorem law_main {c : Cx} {ns : List Int} {l P cc : Addr} (ok : Ok c) (okc : OkC c 20) (hk : c.env.scope = fnScope P01 4) (own : c.own = true) (hcode : c.env.code = .ref cc) (hC : CodeHd c.h₀ cc P) (hlP : l ≠ P) (hlen : ns.length ≤ 63) (kf : KF c.K) :
    XS c (scriptLoc l) (lamHp l ns P) (fnBody P01 4) fun f _ H' => f = .ret (.bool true) ∧ ∃ ps, H' P = some (.raw (tabObj ps), true) := by
  obtain ⟨g_len, g_rng, g_srt, hbR, hft⟩ := kf
  refine law_order ok okc own (by walk_at "kd") g_srt (by walk_at "kd") g_rng (by walk_at "kd") g_len hcode hC hlP hlen (by walk_at "kd") (by walk_at "st") fun O ks hO hp => ?_
  have r1 : ((scriptLoc l).set "order" (.ref O)) "order" = some (.ref O) := Loc.set_same
  have hO1 : ((scriptHp l ns).set O (.list (zs ks))) O = some (.list (zs ks), true) := Hp.set_same
  generalize (scriptLoc l).set "order" (.ref O) = ρ at r1 ⊢
  generalize (scriptHp l ns).set O (.list (zs ks)) = H at hO1 ⊢
  have hn : ks.length = ns.length := by rw [hp.length_eq]; simp
  have hn63 : ks.length ≤ 63 := by omega
  rw [← hn] at hp
  have hnd : ks.Nodup := hp.nodup_iff.mpr (nodup_range _)
  have hin : ∀ (j : Nat) (y : Int), ks[j]? = some y → ∃ a : Nat, y = a ∧ a < ks.length := fun j y e => by
    have := hp.mem_iff.mp (List.mem_of_getElem? e)
    obtain ⟨a, ha, e⟩ := List.mem_map.mp this
    exact ⟨a, e.symm, List.mem_range.mp ha⟩
  clear hn hlen hlP hC hcode
  -- inverse
  refine xs_cons (ex_assign ok (by walk_at "st") (ev_mulL1 (ev_list (PS.es (ps_cons pv_int ps_nil) ⟨by decide, fun D0 hD0 => ?_⟩))))
  have hO2 := keepH (o := .list [.int 0]) hO1 hD0
  refine PV.ev (v := .int ks.length) (pv_to (i := ((zs ks).length : Nat)) (pv_len ok (by walk_at "kd") g_len (by walk_at "pv") hO2 (by walk_at "lens")) (by rw [zs_len])) ⟨D0, .int 0, ks.length, rfl, rfl, Hp.set_same, by omega, fun V hV => ?_⟩
  have hO3 := keepH (o := .list (List.replicate ks.length (.int 0))) hO2 hV
  have hOV : O ≠ V := Hp.ne_of hO2 hV
  have hV3 : Hp.set (Hp.set H D0 (.list [.int 0])) V (.list (List.replicate ks.length (.int 0))) V = some (.list (zs (List.replicate ks.length 0)), true) := by
    rw [Hp.set_same]; simp [zs]
  generalize Hp.set (Hp.set H D0 (.list [.int 0])) V (.list (List.replicate ks.length (.int 0))) = H3 at hO3 hV3 ⊢
  refine xs_cons (ex_for ?_)
  refine itr_range1 ok (by walk_at "kd") g_rng (by walk_at "pv") (by walk_at "lens") ?_
  rw [zs_len, Int.toNat_natCast]
  refine ⟨fun i ρ' H' => ∃ vs : List Int, H' O = some (.list (zs ks), true) ∧ H' V = some (.list (zs vs), true) ∧ vs.length = ks.length ∧ (∀ (j a : Nat), j < i → ks[j]? = some (a : Int) → vs[a]? = some (j : Int)) ∧ ρ' "order" = some (.ref O) ∧ ρ' "inverse" = some (.ref V),
    ⟨_, hO3, hV3, by simp, fun j a h => by omega, by walk_at "loc", by walk_at "loc"⟩, fun _ _ _ _ => trivial, ?_, ?_⟩
  · rintro i ρ' H' hi ⟨vs, p1, p2, p3, p4, q1, q2⟩
    refine asg_name ok (by walk_at "st") ?_
    obtain ⟨y, hy⟩ : ∃ y, ks[i]? = some y := ⟨_, List.getElem?_eq_getElem hi⟩
    obtain ⟨a, rfl, ha⟩ := hin i y hy
    refine xs_cons (ex_assign_item (PV.ev (v := .int i) (by walk_at "pv") (PV.ev (v := .ref V) (by walk_at "pv") (PV.ev (v := .int (a : Nat)) (pv_itemZ (k := i) (by walk_at "pv") (by walk_at "pv") p1 (by omega) hy) ⟨V, _, a, rfl, rfl, p2, by rw [zs_len]; omega, by walk_at "lens", xs_nil ?_⟩))))
    rw [show (zs vs).set a (.int (i : Int)) = zs (vs.set a i) by unfold zs; rw [List.map_set]]
    refine ⟨vs.set a i, Hp.set_ne hOV p1, Hp.set_same, by simp [p3], fun j b hj hb => ?_, by walk_at "loc", by walk_at "loc"⟩
    rcases Nat.lt_or_ge j i with h | h
    · have hab : a ≠ b := by
        rintro rfl
        obtain ⟨h1, e1⟩ := List.getElem?_eq_some_iff.mp hy
        obtain ⟨h2, e2⟩ := List.getElem?_eq_some_iff.mp hb
        have := (List.getElem_inj hnd).mp (e1.trans e2.symm)
        omega
      rw [List.getElem?_set_ne hab]; exact p4 j b h hb
    · have : j = i := by omega
      subst this
      rw [hy] at hb
      have : a = b := by have := Option.some.inj hb; omega
      subst this
      rw [List.getElem?_set_self (by omega)]
  rintro ρ' H' ⟨vs, p1, p2, p3, p4, q1, q2⟩
  dsimp only
  have hfwd : ∀ (j a : Nat), ks[j]? = some (a : Int) → vs[a]? = some (j : Int) := fun j a e => p4 j a (List.getElem?_eq_some_iff.mp e).1 e
  have hbwd : ∀ (a : Nat) (y : Int), vs[a]? = some y → ∃ j : Nat, y = j ∧ ks[j]? = some (a : Int) := fun a y e => by
    have ha : a < ks.length := by have := (List.getElem?_eq_some_iff.mp e).1; omega
    have : (a : Int) ∈ ks := hp.mem_iff.mpr (List.mem_map.mpr ⟨a, List.mem_range.mpr ha, rfl⟩)
    obtain ⟨j, hj⟩ := List.getElem?_of_mem this
    have := hfwd j a hj
    rw [e] at this; cases this
    exact ⟨j, rfl, hj⟩
  have hvd : vs.Nodup := by
    rw [List.nodup_iff_pairwise_ne, List.pairwise_iff_getElem]
    intro i j hi hj hij e
    obtain ⟨x, e1, h1⟩ := hbwd i _ (List.getElem?_eq_getElem hi)
    obtain ⟨y, e2, h2⟩ := hbwd j _ (List.getElem?_eq_getElem hj)
    have : x = y := by omega
    subst this
    rw [h1] at h2
    have := Option.some.inj h2
    omega
  have htr : Tr (pts ks) (pts vs) := by
    intro a b
    rw [mem_pts, mem_pts]
    constructor
    · rintro ⟨i, rfl, e⟩
      obtain ⟨j, rfl, hj⟩ := hbwd i b e
      exact ⟨j, rfl, hj⟩
    · rintro ⟨j, rfl, e⟩
      obtain ⟨x, rfl, hx⟩ := hin j a e
      exact ⟨x, rfl, hfwd j x e⟩
  have hsw := tabs_swap _ (pts ks) (pts vs) (Nat.le_refl _) (good_pts hnd) (good_pts hvd) htr
  -- the tables
  refine xs_cons (ex_assign_tuple (ev_fn1 ok okc hft (by walk_at "kd") (PV.ev (v := .ref O) (by walk_at "pv") fun c' ρ1 hK ok' okc' own' hk' hr => ?_)) rfl rfl)
  refine XS.mono (tables_body (hK ▸ g_len) (hK ▸ g_rng) (hK ▸ hbR) ok' okc' own' hk' hr p1 hn63) ?_
  rintro f ρ1' H1 ⟨D, R, M, as, bs, hf, hD, t⟩
  rw [hf]
  refine asg_two ok (.inl hD) (asg_name ok (by walk_at "st") (asg_name ok (by walk_at "st") ?_)) rfl
  have p2' := t.kp _ _ p2
  refine xs_cons (ex_assign_tuple (ev_fn1 ok okc hft (by walk_at "kd") (PV.ev (v := .ref V) (by walk_at "pv") fun c' ρ1 hK ok' okc' own' hk' hr => ?_)) rfl rfl)
  refine XS.mono (tables_body (hK ▸ g_len) (hK ▸ g_rng) (hK ▸ hbR) ok' okc' own' hk' hr p2' (by omega)) ?_
  rintro f ρ1' H2 ⟨D', R', M', as', bs', hf', hD', t'⟩
  rw [hf']
  refine asg_two ok (.inl hD') (asg_name ok (by walk_at "st") (asg_name ok (by walk_at "st") ?_)) rfl
  have u1 : H2 R = _ := t'.kp _ _ t.r
  have u2 : H2 M = _ := t'.kp _ _ t.m
  have u3 : RowsAt H2 as _ := ⟨t.ra.len, fun j a r h1 h2 => t'.kp _ _ (t.ra.at' j a r h1 h2)⟩
  have u4 : RowsAt H2 bs _ := ⟨t.rb.len, fun j a r h1 h2 => t'.kp _ _ (t.rb.at' j a r h1 h2)⟩
  rw [hsw] at t'
  have e1 : ((tabs 1 (pts ks)).map fun x => (x.2, x.1)).map (·.1) = (tabs 1 (pts ks)).map (·.2) := by rw [List.map_map]; rfl
  have e2 : ((tabs 1 (pts ks)).map fun x => (x.2, x.1)).map (·.2) = (tabs 1 (pts ks)).map (·.1) := by rw [List.map_map]; rfl
  rw [e1, e2] at t'
  refine xs_cons (ex_return (ev_andB (ev_eqLL ok (PV.ev (v := .ref R) (by walk_at "pv") (PV.ev (v := .ref M') (by walk_at "pv") ⟨R, M', as, bs', _, _, _, _, rfl, rfl, u1, u3, t'.m, t'.rb, true, by simp, ?_⟩)))))
  rw [if_pos rfl]
  refine ev_eqLL ok (PV.ev (v := .ref M) (by walk_at "pv") (PV.ev (v := .ref R') (by walk_at "pv") ⟨M, R', bs, as', _, _, _, _, rfl, rfl, u2, u4, t'.r, t'.ra, ?_⟩))
  simp

end Mine

set_option maxRecDepth 100000 in
set_option maxHeartbeats 8000000 in
theorem PySem.Challenge.cw_da0001_01_holds : PySem.Challenge.rw_da0001_01.Holds := by
  w_on
  o_law
  k_head
  (case hw => w_witness2)
  k_fill
  intro w s₀ s₁ mg mb G Y fa o pm cd doc dV kV ho hd hcd hD hmg hg args vals as hpre hlay hrd hwl hlo
  have KX := km_in_of Y
  refine Ground.open G ?_
  intro T B D TE TW
  obtain ⟨cc, P, hK1, hK2⟩ := Mine.tabs_at KX T hmg ho hd (by kernel_rfl) (by kernel_rfl)
  have hT9 : TabsAt [(cc, P)] s₁.heap := fun q hq => by rw [List.mem_singleton.mp hq]; exact hK1
  clear hmg
  wrow_args hpre hlay hrd hwl hlo
  first | refine callC_kw (enter_call ?_) | refine enter_call ?_ | refine callC_kw (enter_callW ?_) | refine enter_callW ?_ | w_how
  refine kn_post hT9 (fun _ _ => rfl) ?_
  have he := Dflts.none hD rfl; subst he; have he := Dflts.noKw hD; subst he
  have hK2' : cd = .ref cc := hK2
  subst hK2'
  rename IntsAre _ _ => hI
  rename Heap.IsList _ _ _ => hL
  rename (¬ (_ < _)) => hlen
  refine Mine.law_enter_lam hT9 ho (fd_plain hd) T KX (by kernel_rfl) hcd hL hI rfl (by decide +kernel) (by decide +kernel) (by decide +kernel) rfl rfl rfl (fun c ok okc hK hs own hcode hC hlP => ?_) (fun s' m F hgr sm => ?_)
  · refine Mine.law_main ok okc hs own hcode hC hlP (by omega) ?_
    rw [hK]
    exact ⟨rfl, rfl, rfl, ⟨_, _, _, _, _, _, _, _, _, _, _, ⟨⟨rfl, rfl, rfl⟩, fun _ _ => ⟨_, fun s X => kp_binds X (fun S => rfl)⟩, fun _ _ _ _ s X => kp_binds X (fun S => rfl)⟩⟩, ⟨_, _, _, _, _, _, _, _, _, _, _, ⟨⟨rfl, rfl, rfl⟩, fun _ s X => kp_binds X (fun S => rfl)⟩⟩⟩
  · obtain ⟨h, tk, rfl⟩ := sm
    exact ⟨goodW_bool F hg (raisesW_false (by intro ct h; cases h)) (postW_of rfl rfl (by decide +kernel)) rfl, hgr⟩

