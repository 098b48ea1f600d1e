import PyProof.Rows.All
import Wide.All
import OpenK.AllK
import KE.KSuper
import KE.KLcPair
import Wide.FinOn
import PySem.Challenge.RW_tv0015_01
set_option Elab.async false
set_option linter.all false
section Part1
set_option tactic.hygienic false
open PySem PySem.W PySem.W.X PySem.Calls PyProof.Rows
set_option maxRecDepth 100000
namespace Mine

noncomputable abbrev prg : Program := PySem.Challenge.pw_tv0015_01

/-! ## small steps -/
def tacSeq (xs : Array Lean.Syntax) : Lean.Syntax := .node .none `Lean.Parser.Tactic.tacticSeq #[.node .none `Lean.Parser.Tactic.tacticSeq1Indented #[.node .none `null xs]]
def tacR : Lean.Syntax := .node .none `Lean.Parser.Tactic.tacticRfl #[.atom .none "rfl"]
def tacI (xs : Array Lean.Syntax) : Lean.Syntax := .node .none `Lean.Parser.Tactic.intro #[.atom .none "intro", .node .none `null xs]
def tacH : Lean.Syntax := .node .none `Lean.Parser.Term.hole #[.atom .none "_"]
/-- rfl -/
def tacRfl : Lean.Syntax := tacSeq #[tacR]
/-- decide -/
def tacDec : Lean.Syntax := tacSeq #[.node .none `Lean.Parser.Tactic.decide #[.atom .none "decide", .node .none `Lean.Parser.Tactic.optConfig #[.node .none `null #[]]]]
/-- intro _; rfl -/
def tacRfl1 : Lean.Syntax := tacSeq #[tacI #[tacH], .atom .none ";", tacR]
/-- intro _ _; rfl -/
def tacRfl2 : Lean.Syntax := tacSeq #[tacI #[tacH, tacH], .atom .none ";", tacR]
@[elab_as_elim] theorem rwP {α : Sort u} {a : α} {motive : α → Prop} {b : α} (h : a = b) (x : motive b) : motive a := h ▸ x
@[elab_as_elim] theorem rwQ {α : Sort u} {a : α} {motive : α → Prop} {b : α} (h : b = a) (x : motive b) : motive a := h ▸ x
theorem wpIf0 {α : Type} {M : Model} {A : Around} {t e : Sem α} {Q : α → Shared → Prop} {E : Value → Shared → Prop} {s : Shared} {i : Decidable (false = true)} (h : wpAny M A e Q E s) : wpAny M A (@ite _ (false = true) i t e) Q E s := by
  rw [if_neg Bool.false_ne_true]; exact h
theorem wpIf1 {α : Type} {M : Model} {A : Around} {t e : Sem α} {Q : α → Shared → Prop} {E : Value → Shared → Prop} {s : Shared} {i : Decidable (true = true)} (h : wpAny M A t Q E s) : wpAny M A (@ite _ (true = true) i t e) Q E s := by
  rw [if_pos rfl]; exact h

theorem wpIfN {α : Type} {M : Model} {A : Around} {t e : Sem α} {Q : α → Shared → Prop} {E : Value → Shared → Prop} {s : Shared} {c : Prop} {i : Decidable c} (n : ¬ c) (h : wpAny M A e Q E s) : wpAny M A (@ite _ c i t e) Q E s := by
  rw [if_neg n]; exact h
theorem wpIfP {α : Type} {M : Model} {A : Around} {t e : Sem α} {Q : α → Shared → Prop} {E : Value → Shared → Prop} {s : Shared} {c : Prop} {i : Decidable c} (n : c) (h : wpAny M A t Q E s) : wpAny M A (@ite _ c i t e) Q E s := by
  rw [if_pos n]; exact h

theorem wpIfB {α : Type} {M : Model} {A : Around} {t e : Sem α} {Q : α → Shared → Prop} {E : Value → Shared → Prop} {s : Shared} {c : Prop} {i : Decidable c} (h : wpAny M A t Q E s) (k : wpAny M A e Q E s) : wpAny M A (@ite _ c i t e) Q E s := by
  by_cases n : c
  · exact wpIfP n h
  · exact wpIfN n k

/-! ## flat forms of what there is and of what holds together -/
inductive Ex2 {α β : Type} (p : α → β → Prop) : Prop
  | mk (a : α) (b : β) (x : p a b) : Ex2 p
inductive Ex3 {α β γ : Type} (p : α → β → γ → Prop) : Prop
  | mk (a : α) (b : β) (c : γ) (x : p a b c) : Ex3 p
inductive Ex4 {α β γ δ : Type} (p : α → β → γ → δ → Prop) : Prop
  | mk (a : α) (b : β) (c : γ) (d : δ) (x : p a b c d) : Ex4 p
inductive Ex5 {α β γ δ ε : Type} (p : α → β → γ → δ → ε → Prop) : Prop
  | mk (a : α) (b : β) (c : γ) (d : δ) (e : ε) (x : p a b c d e) : Ex5 p
inductive Ex6 {α β γ δ ε ζ : Type} (p : α → β → γ → δ → ε → ζ → Prop) : Prop
  | mk (a : α) (b : β) (c : γ) (d : δ) (e : ε) (f : ζ) (x : p a b c d e f) : Ex6 p
inductive Ex8 {α β γ δ ε ζ η θ : Type} (p : α → β → γ → δ → ε → ζ → η → θ → Prop) : Prop
  | mk (a : α) (b : β) (c : γ) (d : δ) (e : ε) (f : ζ) (g : η) (h : θ) (x : p a b c d e f g h) : Ex8 p
inductive Ex9 {α β γ δ ε ζ η θ κ : Type} (p : α → β → γ → δ → ε → ζ → η → θ → κ → Prop) : Prop
  | mk (a : α) (b : β) (c : γ) (d : δ) (e : ε) (f : ζ) (g : η) (h : θ) (i : κ) (x : p a b c d e f g h i) : Ex9 p
inductive And3 (p1 p2 p3 : Prop) : Prop
  | mk (x1 : p1) (x2 : p2) (x3 : p3) : And3 p1 p2 p3
inductive And4 (p1 p2 p3 p4 : Prop) : Prop
  | mk (x1 : p1) (x2 : p2) (x3 : p3) (x4 : p4) : And4 p1 p2 p3 p4
inductive And5 (p1 p2 p3 p4 p5 : Prop) : Prop
  | mk (x1 : p1) (x2 : p2) (x3 : p3) (x4 : p4) (x5 : p5) : And5 p1 p2 p3 p4 p5
inductive And6 (p1 p2 p3 p4 p5 p6 : Prop) : Prop
  | mk (x1 : p1) (x2 : p2) (x3 : p3) (x4 : p4) (x5 : p5) (x6 : p6) : And6 p1 p2 p3 p4 p5 p6
inductive And7 (p1 p2 p3 p4 p5 p6 p7 : Prop) : Prop
  | mk (x1 : p1) (x2 : p2) (x3 : p3) (x4 : p4) (x5 : p5) (x6 : p6) (x7 : p7) : And7 p1 p2 p3 p4 p5 p6 p7
inductive And8 (p1 p2 p3 p4 p5 p6 p7 p8 : Prop) : Prop
  | mk (x1 : p1) (x2 : p2) (x3 : p3) (x4 : p4) (x5 : p5) (x6 : p6) (x7 : p7) (x8 : p8) : And8 p1 p2 p3 p4 p5 p6 p7 p8
inductive And9 (p1 p2 p3 p4 p5 p6 p7 p8 p9 : Prop) : Prop
  | mk (x1 : p1) (x2 : p2) (x3 : p3) (x4 : p4) (x5 : p5) (x6 : p6) (x7 : p7) (x8 : p8) (x9 : p9) : And9 p1 p2 p3 p4 p5 p6 p7 p8 p9
inductive And10 (p1 p2 p3 p4 p5 p6 p7 p8 p9 p10 : Prop) : Prop
  | mk (x1 : p1) (x2 : p2) (x3 : p3) (x4 : p4) (x5 : p5) (x6 : p6) (x7 : p7) (x8 : p8) (x9 : p9) (x10 : p10) : And10 p1 p2 p3 p4 p5 p6 p7 p8 p9 p10
inductive And11 (p1 p2 p3 p4 p5 p6 p7 p8 p9 p10 p11 : Prop) : Prop
  | mk (x1 : p1) (x2 : p2) (x3 : p3) (x4 : p4) (x5 : p5) (x6 : p6) (x7 : p7) (x8 : p8) (x9 : p9) (x10 : p10) (x11 : p11) : And11 p1 p2 p3 p4 p5 p6 p7 p8 p9 p10 p11
inductive And12 (p1 p2 p3 p4 p5 p6 p7 p8 p9 p10 p11 p12 : Prop) : Prop
  | mk (x1 : p1) (x2 : p2) (x3 : p3) (x4 : p4) (x5 : p5) (x6 : p6) (x7 : p7) (x8 : p8) (x9 : p9) (x10 : p10) (x11 : p11) (x12 : p12) : And12 p1 p2 p3 p4 p5 p6 p7 p8 p9 p10 p11 p12
inductive And13 (p1 p2 p3 p4 p5 p6 p7 p8 p9 p10 p11 p12 p13 : Prop) : Prop
  | mk (x1 : p1) (x2 : p2) (x3 : p3) (x4 : p4) (x5 : p5) (x6 : p6) (x7 : p7) (x8 : p8) (x9 : p9) (x10 : p10) (x11 : p11) (x12 : p12) (x13 : p13) : And13 p1 p2 p3 p4 p5 p6 p7 p8 p9 p10 p11 p12 p13
inductive And14 (p1 p2 p3 p4 p5 p6 p7 p8 p9 p10 p11 p12 p13 p14 : Prop) : Prop
  | mk (x1 : p1) (x2 : p2) (x3 : p3) (x4 : p4) (x5 : p5) (x6 : p6) (x7 : p7) (x8 : p8) (x9 : p9) (x10 : p10) (x11 : p11) (x12 : p12) (x13 : p13) (x14 : p14) : And14 p1 p2 p3 p4 p5 p6 p7 p8 p9 p10 p11 p12 p13 p14
/-! ## the abstract heap -/
noncomputable abbrev OP := Obj → Prop
noncomputable abbrev Led := List (Addr × OP)
noncomputable abbrev Imm := List (Addr × Obj)
noncomputable def At (h : Heap) (a : Addr) (P : OP) : Prop := ∃ o, h.get? a = some o ∧ P o

structure Cx where
  w : World
  K : Frag
  base : Heap
  os : OsState

noncomputable def isTup (o : Obj) : Prop := o.cls = .type "tuple" ∧ ∃ xs n, o.data = .seq xs n
/-- the two tables of code objects that grow -/
noncomputable def isTab (b : Addr) : Bool := b == 63 || b == 70

noncomputable def tabCode (P : Addr) : Addr := if P == 63 then 67 else 74
structure TabOk (base h : Heap) (P : Addr) : Prop where
  more : Ex3 fun c ps mr => And4 (c = tabCode P) (h.IsCode c P (ps ++ mr)) (base.TableAt c P ps) (h.TableAt c P (ps ++ mr))

structure St (C : Cx) (σ : Led) (ι : Imm) (h : Heap) (g : Array GenState) (os : OsState) : Prop where
  nd : (σ.map (·.1)).Nodup
  own : ∀ p ∈ σ, ∃ o, h.get? p.1 = some o ∧ p.2 o ∧ ¬ isTup o ∧ C.base.get? p.1 = none
  imm : ∀ p ∈ ι, h.get? p.1 = some p.2 ∧ isTup p.2 ∧ C.base.get? p.1 = none
  old : ∀ b o, C.base.get? b = some o → isTab b = false → h.get? b = some o
  tab : ∀ P, isTab P = true → TabOk C.base h P
  big : ∀ a o, C.base.get? a = some o → a < h.objs.size
  gens : AllBare g
  os : os = C.os

noncomputable abbrev SS (C : Cx) (σ : Led) (ι : Imm) (s : Shared) : Prop := St C σ ι s.heap s.gens s.os

section
variable {C : Cx} {σ σ' : Led} {ι ι' : Imm} {h h' : Heap} {g g' : Array GenState} {os : OsState}

theorem St.at (S : St C σ ι h g os) {a : Addr} {P : OP} (m : (a, P) ∈ σ) : ∃ o, h.get? a = some o ∧ P o := by
  obtain ⟨o, e, p, _⟩ := S.own _ m
  exact ⟨o, e, p⟩
theorem St.tup (S : St C σ ι h g os) {a : Addr} {o : Obj} (m : (a, o) ∈ ι) : h.get? a = some o := (S.imm _ m).1

theorem fresh_base {base h : Heap} {a : Addr} (hb : ∀ a o, base.get? a = some o → a < h.objs.size) (ha : h.objs.size ≤ a) : base.get? a = none := by
  cases q : base.get? a with
  | none => rfl
  | some o => exact absurd (hb _ _ q) (Nat.not_lt.mpr ha)

/-- everything that stood stands -/
theorem St.kept (S : St C σ ι h g os) (k : ∀ b o, h.get? b = some o → h'.get? b = some o) : St C σ ι h' g os := by
  refine ⟨S.nd, fun p hp => ?_, fun p hp => ?_, fun b o e n => k _ _ (S.old b o e n), fun P hP => ?_, fun a o e => ?_, S.gens, S.os⟩
  · obtain ⟨o, e, r⟩ := S.own p hp; exact ⟨o, k _ _ e, r⟩
  · obtain ⟨e, r⟩ := S.imm p hp; exact ⟨k _ _ e, r⟩
  · obtain ⟨c, ps, mr, hc, ic, a, b⟩ := (S.tab P hP).more
    exact ⟨c, ps, mr, hc, ic.keeps k, a, b.keeps k⟩
  · cases q : isTab a with
    | false => exact Heap.lt_size (k _ _ (S.old _ _ e q))
    | true =>
      obtain ⟨c, ps, mr, _, _, _, ⟨_, et⟩⟩ := (S.tab a q).more
      exact Heap.lt_size (k _ _ et)
theorem St.keeps (S : St C σ ι h g os) (k : ∀ b o, h.get? b = some o → h'.get? b = some o) (_hs : h.objs.size ≤ h'.objs.size) : St C σ ι h' g os := S.kept k

theorem St.push (S : St C σ ι h g os) (o : Obj) : St C σ ι (h.push o) g os :=
  S.keeps (fun _ _ e => Heap.get?_push_of_some o e) (by rw [Heap.size_push]; exact Nat.le_succ _)

theorem St.lt (S : St C σ ι h g os) {p : Addr × OP} (hp : p ∈ σ) : p.1 < h.objs.size := by
  obtain ⟨o, e, _⟩ := S.own p hp; exact Heap.lt_size e

/-- a new object, its own -/
theorem St.new (S : St C σ ι h g os) {a : Addr} {o : Obj} {P : OP} (k : ∀ b o, h.get? b = some o → h'.get? b = some o) (hs : h.objs.size ≤ h'.objs.size)
    (hsz : h.objs.size ≤ a) (ho : h'.get? a = some o) (hP : P o) (hc : ¬ isTup o) : St C ((a, P) :: σ) ι h' g os := by
  have S' := S.keeps k hs
  refine ⟨?_, ?_, S'.imm, S'.old, S'.tab, S'.big, S'.gens, S'.os⟩
  · rw [List.map_cons, List.nodup_cons]
    refine ⟨fun hm => ?_, S.nd⟩
    obtain ⟨p, hp, e⟩ := List.mem_map.mp hm
    have := S.lt hp
    have e : p.1 = a := e
    rw [e] at this
    exact absurd this (Nat.not_lt.mpr hsz)
  · intro p hp
    rcases List.mem_cons.mp hp with rfl | hp
    · exact ⟨o, ho, hP, hc, fresh_base S.big hsz⟩
    · exact S'.own p hp

theorem St.alloc (S : St C σ ι h g os) {o : Obj} {P : OP} (hP : P o) (hf : o.isFreed = false) (hc : ¬ isTup o) : St C ((h.objs.size, P) :: σ) ι (h.push o) g os :=
  S.new (fun _ _ e => Heap.get?_push_of_some o e) (by rw [Heap.size_push]; exact Nat.le_succ _)
    (Nat.le_refl _) (Heap.get?_push_size h hf) hP hc

/-- a new tuple -/
theorem St.allocT (S : St C σ ι h g os) {o : Obj} (hf : o.isFreed = false) (hc : isTup o) : St C σ ((h.objs.size, o) :: ι) (h.push o) g os := by
  have S' := S.push o
  refine ⟨S'.nd, S'.own, fun p hp => ?_, S'.old, S'.tab, S'.big, S'.gens, S'.os⟩
  rcases List.mem_cons.mp hp with rfl | hp
  · exact ⟨Heap.get?_push_size h hf, hc, fresh_base S.big (Nat.le_refl _)⟩
  · exact S'.imm p hp

theorem St.drop (S : St C σ ι h g os) {p : Addr × OP} (e : σ = p :: σ') : St C σ' ι h g os := by
  subst e
  exact ⟨(List.nodup_cons.mp S.nd).2, fun q hq => S.own q (.tail _ hq), S.imm, S.old, S.tab, S.big, S.gens, S.os⟩
theorem St.tl {p : Addr × OP} (S : St C (p :: σ) ι h g os) : St C σ ι h g os := S.drop rfl
theorem St.sub (S : St C σ ι h g os) (e : σ'.Sublist σ) : St C σ' ι h g os :=
  ⟨List.Nodup.sublist (e.map _) S.nd, fun q hq => S.own q (e.subset hq), S.imm, S.old, S.tab, S.big, S.gens, S.os⟩
theorem St.less (S : St C σ ι h g os) (e : ι' ⊆ ι) : St C σ ι' h g os :=
  ⟨S.nd, S.own, fun q hq => S.imm q (e hq), S.old, S.tab, S.big, S.gens, S.os⟩
theorem St.os_eq (S : St C σ ι h g os) (hg : AllBare g') : St C σ ι h g' os := ⟨S.nd, S.own, S.imm, S.old, S.tab, S.big, hg, S.os⟩

/-- one entry turned -/
inductive Upd (a : Addr) (P P' : OP) : Led → Led → Prop
  | head {r : Led} : Upd a P P' ((a, P) :: r) ((a, P') :: r)
  | tail {p : Addr × OP} {r r' : Led} : Upd a P P' r r' → Upd a P P' (p :: r) (p :: r')
theorem Upd.mid {a : Addr} {P P' : OP} : ∀ {pre post : Led}, Upd a P P' (pre ++ (a, P) :: post) (pre ++ (a, P') :: post)
  | [], _ => .head
  | _ :: _, _ => .tail Upd.mid
theorem Upd.app {a : Addr} {P P' : OP} {r r' : Led} (u : Upd a P P' r r') : ∀ {pre : Led}, Upd a P P' (pre ++ r) (pre ++ r')
  | [] => u
  | _ :: _ => .tail (Upd.app u)
theorem Upd.mem {a : Addr} {P P' : OP} : ∀ {σ σ' : Led}, Upd a P P' σ σ' → (a, P) ∈ σ
  | _, _, .head => .head _
  | _, _, .tail u => .tail _ u.mem
theorem Upd.mem' {a : Addr} {P P' : OP} : ∀ {σ σ' : Led}, Upd a P P' σ σ' → (a, P') ∈ σ'
  | _, _, .head => .head _
  | _, _, .tail u => .tail _ u.mem'
theorem Upd.keys {a : Addr} {P P' : OP} : ∀ {σ σ' : Led}, Upd a P P' σ σ' → σ'.map (·.1) = σ.map (·.1)
  | _, _, .head => rfl
  | _, _, .tail u => by rw [List.map_cons, List.map_cons, u.keys]
theorem Upd.from {a : Addr} {P P' : OP} : ∀ {σ σ' : Led}, Upd a P P' σ σ' → (σ.map (·.1)).Nodup → ∀ p ∈ σ', (p = (a, P')) ∨ (p ∈ σ ∧ p.1 ≠ a)
  | _, _, .head, nd, p, hp => by
    rcases List.mem_cons.mp hp with rfl | hp
    · exact .inl rfl
    · refine .inr ⟨.tail _ hp, fun e => ?_⟩
      rw [List.map_cons, List.nodup_cons] at nd
      exact nd.1 (by rw [← e]; exact List.mem_map_of_mem (f := (·.1)) hp)
  | _, _, .tail u, nd, p, hp => by
    rw [List.map_cons, List.nodup_cons] at nd
    rcases List.mem_cons.mp hp with rfl | hp
    · refine .inr ⟨.head _, fun e => ?_⟩
      exact nd.1 (by rw [e]; exact List.mem_map_of_mem (f := (·.1)) u.mem)
    · rcases u.from nd.2 p hp with h | h
      · exact .inl h
      · exact .inr ⟨.tail _ h.1, h.2⟩

theorem St.same (S : St C σ ι h g os) {a : Addr} {P P' : OP} {o' : Obj} (u : Upd a P P' σ σ') (hs : Heap.SameBut a h h') (ho : h'.get? a = some o') (hP : P' o') (hc : ¬ isTup o') :
    St C σ' ι h' g os := by
  obtain ⟨oa, ea, _, nta, nba⟩ := S.own _ u.mem
  have nba : C.base.get? a = none := nba
  refine ⟨by rw [u.keys]; exact S.nd, fun p hp => ?_, fun p hp => ?_, fun b o e n => ?_, fun P hP => ?_, by rw [hs.1]; exact S.big, S.gens, S.os⟩
  · rcases u.from S.nd p hp with rfl | ⟨hp, ne⟩
    · exact ⟨o', ho, hP, hc, nba⟩
    · obtain ⟨o, e, r⟩ := S.own p hp
      exact ⟨o, (hs.2 _ ne).trans e, r⟩
  · obtain ⟨e, t, n⟩ := S.imm p hp
    refine ⟨(hs.2 _ fun q => ?_).trans e, t, n⟩
    rw [q] at e
    rw [show h.get? a = some oa from ea] at e
    cases e
    exact nta t
  · refine (hs.2 _ fun q => ?_).trans (S.old b o e n)
    rw [q, nba] at e; cases e
  · obtain ⟨c, ps, mr, hc, ic, ⟨⟨oc, vc, ec, r⟩, et⟩, ⟨⟨oc', vc', ec', r'⟩, et'⟩⟩ := (S.tab P hP).more
    have n1 : c ≠ a := fun q => by rw [q, nba] at ec; cases ec
    have n2 : P ≠ a := fun q => by rw [q, nba] at et; cases et
    exact ⟨c, ps, mr, hc, ic.sameBut hs n1 n2, ⟨⟨oc, vc, ec, r⟩, et⟩, ⟨⟨oc', vc', (hs.2 _ n1).trans ec', r'⟩, (hs.2 _ n2).trans et'⟩⟩

theorem St.upd (S : St C σ ι h g os) {a : Addr} {P P' : OP} {f : Obj → Obj} (u : Upd a P P' σ σ') (hf : ∀ o, P o → P' (f o) ∧ (f o).isFreed = false ∧ ¬ isTup (f o)) : St C σ' ι (h.update a f) g os := by
  obtain ⟨o, e, p, _, _⟩ := S.own _ u.mem
  obtain ⟨p', fr, c⟩ := hf o p
  exact S.same u (Heap.SameBut.update ..) (Heap.get?_update_self f e fr) p' c
end
/-! ## a goal with its post put aside (it keeps the proofs small) -/
theorem gen_Q {α : Type} {M : Model} {A : Around} {t : Sem α} {Q : α → Shared → Prop} {E : Value → Shared → Prop} {s : Shared} (h : ∀ (Q' : α → Shared → Prop) (E' : Value → Shared → Prop), (∀ v s, Q v s → Q' v s) → wpAny M A t Q' E' s) : wpAny M A t Q E s := h Q E fun _ _ x => x
theorem gen_R {M : Model} {A : Around} {c : Code} {R : Result → Shared → Prop} {s : Shared} (h : ∀ R' : Result → Shared → Prop, (∀ r s, R r s → R' r s) → codeAny M A c R' s) : codeAny M A c R s := h R fun _ _ x => x
theorem gen_P {G : Prop} (h : ∀ P : Prop, (G → P) → P) : G := h G id
end Mine
end Part1
section Part2
set_option tactic.hygienic false
open PySem PySem.W PySem.W.X PySem.Calls PyProof.Rows
set_option maxRecDepth 100000
namespace Mine

/-! ## the text's parts -/
/-- what a statement holds: parameters, body, scope, handlers, value -/
noncomputable def partsS (s : Stmt) : Arguments × List Stmt × Scope × List ExceptHandler × Expr :=
  @Stmt.casesOn (fun _ => Arguments × List Stmt × Scope × List ExceptHandler × Expr) s (fun _ args body _ _ _ scope _ _ _ => (args, body, scope, [], default)) (fun _ args body _ _ _ scope _ _ _ => (args, body, scope, [], default)) (fun _ _ _ body _ _ scope _ _ _ _ => (default, body, scope, [], default)) (fun _ _ => (default, [], default, [], default)) (fun _ _ => (default, [], default, [], default)) (fun _ value _ => (default, [], default, [], value)) (fun _ _ _ scope _ _ _ => (default, [], scope, [], default)) (fun _ _ _ _ => (default, [], default, [], default)) (fun _ _ _ _ _ => (default, [], default, [], default)) (fun _ _ body _ _ => (default, body, default, [], default)) (fun _ _ body _ _ => (default, body, default, [], default)) (fun _ body _ _ => (default, body, default, [], default)) (fun _ body _ _ => (default, body, default, [], default)) (fun _ body _ => (default, body, default, [], default)) (fun _ body _ => (default, body, default, [], default)) (fun _ _ _ => (default, [], default, [], default)) (fun _ _ _ => (default, [], default, [], default)) (fun body handlers _ _ _ => (default, body, default, handlers, default)) (fun body handlers _ _ _ => (default, body, default, handlers, default)) (fun _ _ _ => (default, [], default, [], default)) (fun _ _ => (default, [], default, [], default)) (fun _ _ _ _ => (default, [], default, [], default)) (fun _ _ => (default, [], default, [], default)) (fun _ _ => (default, [], default, [], default)) (fun _ _ => (default, [], default, [], default)) (fun _ => (default, [], default, [], default)) (fun _ => (default, [], default, [], default)) (fun _ => (default, [], default, [], default))
noncomputable def argsOf (s : Stmt) : Arguments := (partsS s).1
noncomputable def bodyOf (s : Stmt) : List Stmt := (partsS s).2.1
noncomputable def scopeOf (s : Stmt) : Scope := (partsS s).2.2.1
noncomputable def hsOf (s : Stmt) : List ExceptHandler := (partsS s).2.2.2.1
noncomputable def valOf (s : Stmt) : Expr := (partsS s).2.2.2.2
noncomputable def topS (i : Nat) : Stmt := prg.main.body.getD i (.Pass default)
noncomputable def clsS (i : Nat) : Stmt := (bodyOf (topS 4)).getD i (.Pass default)

/-! ## the written part: what is asked of it -/
structure Fn (K : Frag) (f c : Addr) (qual : Str) (D : Stmt) (cl : List (Str × Addr)) (dV : Value) : Prop where
  look : ∃ od osl name doc pm an ct, K.lookup f = some ⟨.type "function", od, .func (fnX name qual (argsOf D) (bodyOf D) (scopeOf D) cl dV .none doc pm an (.ref c) ct), osl⟩
  code : codeIn K (.ref c) qual = true

structure CxOk (C : Cx) : Prop where
  kin : C.K.In C.base
  ktab : ∀ P, isTab P = true → C.K.lookup P = none
  lim : nsIn C.K cStatics "sys.recursionlimit" = some none
  limo : ∃ c d es n sl, C.K.lookup cStatics = some ⟨c, d, .dict es n, sl⟩ ∧ StrKeys es

section
variable {C : Cx} {σ σ' : Led} {ι ι' : Imm} {h h' : Heap} {g g' : Array GenState} {os : OsState}
theorem St.kin (S : St C σ ι h g os) (X : CxOk C) : C.K.In h := fun a o e => by
  refine S.old a o (X.kin a o e) ?_
  cases q : isTab a with
  | false => rfl
  | true => rw [X.ktab a q] at e; cases e
theorem St.noLimit (S : St C σ ι h g os) (X : CxOk C) : h.NoLimit := by
  refine gen_P fun Pg kg => ?_
  obtain ⟨c, d, es, n, sl, e, sk⟩ := X.limo
  refine kg ?_
  clear kg
  have e' := S.kin X _ _ e
  have q := X.lim
  unfold nsIn at q
  rw [e] at q
  dsimp only at q
  refine ⟨nsFind es, ⟨_, es, n, e', rfl, sk, fun _ => rfl⟩, ?_⟩
  unfold nsFind findBy
  (first | (refine rwQ (Array.find?_toList) ?_; try with_reducible rfl) | rw [← Array.find?_toList])
  split at q
  · cases q
  · rename_i hq; (first | (refine rwP (hq) ?_; try with_reducible rfl) | rw [hq]); rfl
end

/-! ## around a tree -/
structure Room (n : Nat) (A : Around) : Prop where
  d : A.depth + n ≤ 900
  u : A.units + 16 * n ≤ 9000
  h : A.handled = none
  f : ∃ fs, A.frames = some fs

theorem Room.deeper {n : Nat} {A : Around} {env : Env} (R : Room (n + 1) A) : Room n (A.deeper env) :=
  ⟨by have := R.d; show A.depth + 1 + n ≤ _; (first | lia | omega), by have := R.u; show A.units + 3 + 16 * n ≤ _; (first | lia | omega), R.h, by obtain ⟨fs, e⟩ := R.f; exact ⟨_, Around.frames_deeper e⟩⟩
theorem Room.in1 {n : Nat} {A : Around} (R : Room (n + 1) A) : Room n A.in1 :=
  ⟨by have := R.d; show A.depth + n ≤ _; (first | lia | omega), by have := R.u; show A.units + 1 + 16 * n ≤ _; (first | lia | omega), R.h, R.f⟩
theorem Room.lt {n : Nat} {A : Around} (R : Room n A) : A.depth < recursionLimit := by have := R.d; unfold recursionLimit; (first | lia | omega)
theorem Room.cl {n : Nat} {A : Around} (R : Room n A) : A.units < cLine := by have := R.u; unfold cLine; (first | lia | omega)

/-! ## a namespace's object -/
noncomputable def nsP (m : Str → Option Value) : OP := fun o => ∃ es ep, o.data = .dict es ep ∧ StrKeys es ∧ ∀ name, nsFind es name = m name
theorem nsP_not {m : Str → Option Value} {o : Obj} (h : nsP m o) : ¬ isTup o := by
  rintro ⟨_, xs, n, e⟩
  obtain ⟨es, ep, e', _⟩ := h
  rw [e] at e'; cases e'
theorem ns_of {h : Heap} {L : Addr} {m : Str → Option Value} (x : ∃ o, h.get? L = some o ∧ nsP m o) : h.Ns L m :=
  let ⟨o, e, es, ep, r⟩ := x; ⟨o, es, ep, e, r⟩
theorem of_ns {h : Heap} {L : Addr} {m : Str → Option Value} (x : h.Ns L m) : ∃ o, h.get? L = some o ∧ nsP m o :=
  let ⟨o, es, ep, e, r⟩ := x; ⟨o, e, es, ep, r⟩
noncomputable def cellP (v : Option Value) : OP := fun o => o.data = .cell v
theorem cellP_not {v : Option Value} {o : Obj} (h : cellP v o) : ¬ isTup o := by
  rintro ⟨_, xs, n, e⟩
  rw [show o.data = .cell v from h] at e; cases e

section
variable {C : Cx} {σ σ' : Led} {ι ι' : Imm} {A : Around} {s : Shared} {E : Value → Shared → Prop}

theorem SS.ns {L : Addr} {m : Str → Option Value} (S : SS C σ ι s) (hm : (L, nsP m) ∈ σ) : s.heap.Ns L m := ns_of (S.at hm)
theorem SS.cell {c : Addr} {v : Option Value} (S : SS C σ ι s) (hm : (c, cellP v) ∈ σ) : s.heap.IsCell c v := let ⟨o, e, p⟩ := S.at hm; ⟨o, e, p⟩

/-! ## names -/
theorem n_local {x : Str} {pos : Pos} {env : Env} {m : Str → Option Value} {v : Value} {Q : Value → Shared → Prop} (S : SS C σ ι s) (hm : (env.locals, nsP m) ∈ σ) (hv : m x = some v) (h : Q v s)
    (hk : autoParam (env.scope.kind = .function) tacRfl) (hl : autoParam (env.kindOf x = some .local) tacRfl) (hd : autoParam ((x == ("__debug__" : Str)) = false) tacDec) : wpAny (model prg C.w) A (eval (.Name x pos) env) Q E s :=
  wpAny_Name (wpAny_loadName_local hk hl (SS.ns S hm) hv h) hd
theorem n_cell {x : Str} {pos : Pos} {env : Env} {c : Addr} {v : Value} {Q : Value → Shared → Prop} (S : SS C σ ι s) (hc : env.cells.lookup x = some c) (hm : (c, cellP (some v)) ∈ σ) (h : Q v s)
    (hk : autoParam (env.scope.kind = .function) tacRfl) (hl : autoParam (env.kindOf x = some .cell) tacRfl) (hd : autoParam ((x == ("__debug__" : Str)) = false) tacDec) : wpAny (model prg C.w) A (eval (.Name x pos) env) Q E s :=
  wpAny_Name (wpAny_loadName_cell hk hl hc (SS.cell S hm) h) hd
theorem n_global {x : Str} {pos : Pos} {env : Env} {v : Value} {Q : Value → Shared → Prop} (X : CxOk C) (S : SS C σ ι s) (hv : nsIn C.K 3 x = some (some v)) (h : Q v s)
    (hg : autoParam (env.globals = 3) tacRfl) (hk : autoParam (env.scope.kind = .function) tacRfl) (hl : autoParam (env.kindOf x = some .globalImplicit) tacRfl) (hd : autoParam ((x == ("__debug__" : Str)) = false) tacDec) :
    wpAny (model prg C.w) A (eval (.Name x pos) env) Q E s := by
  refine Name_function_global hk hl ?_ hd
  unfold loadGlobal
  (first | (refine rwP (hg) ?_; try with_reducible rfl) | rw [hg])
  exact wpAny_bind ((looks_nsIn (S.kin X) hv).here (wpAny_pure h))
theorem n_builtin {x : Str} {pos : Pos} {env : Env} {v : Value} {Q : Value → Shared → Prop} (X : CxOk C) (S : SS C σ ι s) (hv : nsIn C.K 3 x = some none) (hb : nsIn C.K 0 x = some (some v)) (h : Q v s)
    (hg : autoParam (env.globals = 3) tacRfl) (hgb : autoParam (env.builtins = 0) tacRfl) (hk : autoParam (env.scope.kind = .function) tacRfl) (hl : autoParam (env.kindOf x = some .globalImplicit) tacRfl) (hd : autoParam ((x == ("__debug__" : Str)) = false) tacDec) :
    wpAny (model prg C.w) A (eval (.Name x pos) env) Q E s := by
  refine Name_function_global hk hl ?_ hd
  unfold loadGlobal
  (first | (refine rwP (hg) ?_; refine rwP (hgb) ?_; try with_reducible rfl) | rw [hg, hgb])
  exact wpAny_bind ((looks_nsIn (S.kin X) hv).here (wpAny_bind ((looks_nsIn (S.kin X) hb).here (wpAny_pure h))))

/-! ## a def is called -/
theorem code_fn {n : Nat} {f c : Addr} {qual : Str} {D : Stmt} {cl : List (Str × Addr)} {dV : Value} {args : List Value} {binds : List (Str × Value)} {Q : Value → Shared → Prop}
    (X : CxOk C) (F : Fn C.K f c qual D cl dV) (R : Room (n + 1) A) (S : SS C σ ι s)
    (hb : ∀ name doc pm an ct, BindsTo s (fnX name qual (argsOf D) (bodyOf D) (scopeOf D) cl dV .none doc pm an (.ref c) ct) ⟨args, []⟩ binds)
    (h : ∀ L s', SS C ((L, nsP (fun x => binds.reverse.lookup x)) :: σ) ι s' → Room n (A.deeper (envX qual (scopeOf D) L f (.ref c) cl)) →
      wpAny (model prg C.w) (A.deeper (envX qual (scopeOf D) L f (.ref c) cl)) (execs (bodyOf D) (envX qual (scopeOf D) L f (.ref c) cl))
        (fun fl s'' => Q (match fl with | .ret v => v | _ => .none) s'') (fun _ _ => False) s')
    (hloc : ∀ x ∈ binds, (scopeOf D).names.lookup x.1 = some .local := by exact locs rfl) (hcell : autoParam (∀ x ∈ (scopeOf D).names, x.2 ≠ .cell) tacDec)
    (hco : autoParam ((scopeOf D).isCoroutine = false) tacRfl) (hgen : autoParam ((scopeOf D).isGenerator = false) tacRfl) (hk : autoParam ((scopeOf D).kind = .function) tacRfl) :
    codeAny (model prg C.w) A (.call (.ref f) ⟨args, []⟩) (fun r s' => match r with | .ok (.ret v) => Q v s' | .ok _ => False | .error e => E e s') s := by
  refine gen_P fun Pg kg => ?_
  obtain ⟨od, osl, name, doc, pm, an, ct, e⟩ := F.look
  refine kg ?_
  clear kg
  have K := S.kin X
  refine (codeAny_call_def (fd := fnX name qual (argsOf D) (bodyOf D) (scopeOf D) cl dV .none doc pm an (.ref c) ct) (body := bodyOf D) (binds := binds) R.lt (K _ _ e) rfl (S.noLimit X) (codeRec_of K F.code) rfl (hb _ _ _ _ _) hcell hloc (fun h₁ hns hk₁ => ?_) hco hgen hk)
  obtain ⟨o, eo, po⟩ := of_ns hns
  have S' : St C ((s.heap.objs.size, nsP (fun x => binds.reverse.lookup x)) :: σ) ι h₁ s.gens s.os :=
    S.new hk₁ (Nat.le_of_lt (Heap.lt_size eo)) (Nat.le_refl _) eo po (nsP_not po)
  exact wpAny_mono (h s.heap.objs.size _ S' R.deeper) (fun _ _ z => z) (fun _ _ z => z.elim)
theorem call_fn {n : Nat} {f c : Addr} {qual : Str} {D : Stmt} {cl : List (Str × Addr)} {dV : Value} {args : List Value} {binds : List (Str × Value)} {Q : Value → Shared → Prop}
    (X : CxOk C) (F : Fn C.K f c qual D cl dV) (R : Room (n + 1) A) (S : SS C σ ι s)
    (hb : ∀ name doc pm an ct, BindsTo s (fnX name qual (argsOf D) (bodyOf D) (scopeOf D) cl dV .none doc pm an (.ref c) ct) ⟨args, []⟩ binds)
    (h : ∀ L s', SS C ((L, nsP (fun x => binds.reverse.lookup x)) :: σ) ι s' → Room n (A.deeper (envX qual (scopeOf D) L f (.ref c) cl)) →
      wpAny (model prg C.w) (A.deeper (envX qual (scopeOf D) L f (.ref c) cl)) (execs (bodyOf D) (envX qual (scopeOf D) L f (.ref c) cl))
        (fun fl s'' => Q (match fl with | .ret v => v | _ => .none) s'') (fun _ _ => False) s')
    (hloc : ∀ x ∈ binds, (scopeOf D).names.lookup x.1 = some .local := by exact locs rfl) (hcell : autoParam (∀ x ∈ (scopeOf D).names, x.2 ≠ .cell) tacDec)
    (hco : autoParam ((scopeOf D).isCoroutine = false) tacRfl) (hgen : autoParam ((scopeOf D).isGenerator = false) tacRfl) (hk : autoParam ((scopeOf D).kind = .function) tacRfl) :
    wpAny (model prg C.w) A (call (.ref f) args []) Q E s := wpAny_call (code_fn X F R S hb h hloc hcell hco hgen hk)
end
end Mine
end Part2
section Part3
set_option tactic.hygienic false
open PySem PySem.W PySem.W.X PySem.Calls PyProof.Rows
set_option maxRecDepth 100000
namespace Mine

/-! ## trees of nodes -/
section
variable {M : Model} {A : Around} {E : Value → Shared → Prop} {s : Shared} {env : Env}

theorem sp_nil {pos : Pos} {Q : List Value → Shared → Prop} (h : Q [] s) : wpAny M A (spliced (backTo pos (starEach [] env))) Q E s := spliced_nil h
theorem sp_cons {pos : Pos} {e : Expr} {rest : List Expr} {Q : List Value → Shared → Prop}
    (h : wpAny M A (eval e env) (fun v s₁ => wpAny M A (spliced (backTo pos (starEach rest env))) (fun vs s₂ => Q (v :: vs) s₂) E s₁) E s)
    (he : autoParam (starEach (e :: rest) env = (false, eval e env) :: starEach rest env) tacRfl) : wpAny M A (spliced (backTo pos (starEach (e :: rest) env))) Q E s := by
  (first | (refine rwP (he) ?_; try with_reducible rfl) | rw [he])
  exact spliced_cons h
theorem ea {f : Value} {pos : Pos} {args : List Expr} {Q : Args → Shared → Prop} (hp : (backTo pos (starEach args env)).any (·.1) = false)
    (h : wpAny M A (spliced (backTo pos (starEach args env))) (fun vs s' => Q ⟨vs, []⟩ s') E s) : wpAny M A (evalArgs f true (backTo pos (starEach args env)) []) Q E s := by
  generalize backTo pos (starEach args env) = ts at h hp ⊢
  cases ts with
  | nil =>
    unfold evalArgs
    show wpAny M A (spliced [] >>= _) Q E s
    refine wpAny_bind (wpAny_mono h (fun vs s' h' => ?_) fun _ _ x => x)
    refine wpAny_bind (wpAny_pure ?_)
    refine wpAny_holding ?_
    exact wpAny_bind (wpAny_pure (wpAny_bind (wpAny_pure (wpAny_pure h'))))
  | cons t rest =>
    obtain ⟨b, x⟩ := t
    have hb : b = false := by simp at hp; exact hp.1
    subst hb
    exact evalArgs_plain h

/-- o.name(args), o no super() -/
theorem n_meth {o : Expr} {name : Str} {apos pos : Pos} {args : List Expr} {Q : Value → Shared → Prop}
    (h : wpAny M A (eval o env) (fun ov s₁ => wpAny M A (getMethod ov name (do return (← importBound o env).getD true))
      (fun fm s₂ => wpAny M A (callWith pos fm.1 fm.2 (backTo pos (starEach args env)) []) Q E s₂) E s₁) E s)
    (hbase : autoParam (attributeBase o name env (eval o env) = eval o env) tacRfl)
    (hform : autoParam (methodCallForm (args.length + ([] : List Keyword).length) (backTo pos (starEach args env)) (backToKw pos (keywordEach [] env)) = true) tacRfl)
    (hline : autoParam ((apos.endLine == pos.line) = true) tacRfl) : wpAny M A (eval (.Call (.Attribute o name apos) args [] pos) env) Q E s := by
  (first | (refine rwP (arm_eval_Call) ?_; refine rwP (hbase) ?_; try with_reducible rfl) | rw [arm_eval_Call, hbase])
  refine wpAny_bind (wpAny_mono h (fun ov s₁ h₁ => wpAny_bind (wpAny_standAt ?_)) fun _ _ e => e)
  have hpos : methodCallPos true o env apos pos = pure pos := by unfold methodCallPos; simp [hline]
  unfold methodCall
  (first | (refine rwP (hform) ?_; refine rwP (hpos) ?_; try with_reducible rfl) | rw [hform, hpos])
  refine wpAny_bind (wpAny_holding ?_)
  unfold calleeOf
  (first | refine wpIf1 ?_ | simp only [if_true])
  exact wpAny_mono h₁ (fun fm s₂ h₂ => wpAny_bind (wpAny_pure h₂)) fun _ _ e => e

theorem n_callb {pos : Pos} {id : String} {first : List Value} {args : List Expr} {Q : Value → Shared → Prop}
    (h : wpAny M A (spliced (backTo pos (starEach args env))) (fun vs s₁ => wpAny M A (call (.builtin id) (first ++ vs) []) Q E s₁) E s)
    (hp : autoParam ((backTo pos (starEach args env)).any (·.1) = false) tacRfl) : wpAny M A (callWith pos (.builtin id) first (backTo pos (starEach args env)) []) Q E s :=
  callWith_builtin hp (ea hp h)
theorem n_callf {pos : Pos} {f : Addr} {o : Obj} {fd : FuncData} {first : List Value} {args : List Expr} {Q : Value → Shared → Prop}
    (h : wpAny M A (spliced (backTo pos (starEach args env))) (fun vs s₁ => (s₁.heap.get? f = some o ∧ o.data = .func fd) ∧ wpAny M A (call (.ref f) (first ++ vs) []) Q E s₁) E s)
    (hp : autoParam ((backTo pos (starEach args env)).any (·.1) = false) tacRfl) : wpAny M A (callWith pos (.ref f) first (backTo pos (starEach args env)) []) Q E s :=
  callWith_function (ea hp h)
end

/-! ## built-ins -/
section
variable {prog : Program} {w : World} {A : Around} {E : Value → Shared → Prop} {s : Shared}

/-- what a built-in hands back: by itself, or by going on -/
noncomputable def BiPost (prog : Program) (w : World) (A : Around) (Q : Value → Shared → Prop) (E : Value → Shared → Prop) : Fin → Shared → Prop := fun fin s' => match fin with
  | .done (.ret v) => Q v s'
  | .done _ => False
  | .again c' => c'.quiet = true ∧ codeAny (model prog w) A c' (fun r s' => match r with | .ok (.ret v) => Q v s' | .ok _ => False | .error e => E e s') s'

theorem call_b {id : String} {b : Builtin} {args : List Value} {Q : Value → Shared → Prop} (hp : plainId id = true) (hb : entryFor table id = some b)
    (h : wpAny (model prog w) A.in1 (checkBuiltinCall id ⟨args, []⟩) (fun _ s₁ => wpAny (model prog w) A.in1 (b ⟨args, []⟩) (BiPost prog w A Q E) E s₁) E s) :
    wpAny (model prog w) A (call (.builtin id) args []) Q E s := by
  refine wpAny_call (codeAny_call_builtin hp hb (wpAny_mono h (fun _ s₁ h₁ => wpAny_mono h₁ (fun fin s' h' => ?_) fun _ _ x => x) fun _ _ x => x))
  rcases fin with (_ | _ | _ | v) | c <;> first | exact h' | exact h'.elim

theorem again_b {id : String} {b : Builtin} {args : List Value} {Q : Value → Shared → Prop} (hp : plainId id = true) (hb : entryFor table id = some b)
    (h : wpAny (model prog w) A.in1 (b ⟨args, []⟩) (BiPost prog w A Q E) E s) : BiPost prog w A Q E (.again (.builtin id ⟨args, []⟩)) s := by
  refine ⟨plainId_quiet hp _, codeAny_builtin hb ?_⟩
  (first | (refine rwP (Around.under_plainId hp) ?_; try with_reducible rfl) | rw [Around.under_plainId hp])
  refine wpAny_mono h (fun fin s' h' => ?_) fun _ _ x => x
  rcases fin with (_ | _ | _ | v) | c <;> first | exact h' | exact h'.elim

/-- the check of a method's or a slot's self -/
theorem chk {i owner n : String} {self : Value} {rest : List Value} {Q : Unit → Shared → Prop} {M : Model} (hkk : builtinKind i = some .method ∨ builtinKind i = some .slot) (hs : splitId i = some (owner, n))
    (hi : Looks M s.heap (isInstance self (.type owner)) true) (ha : argsOk i ⟨self :: rest, []⟩) (q : Q () s) : wpAny M A (checkBuiltinCall i ⟨self :: rest, []⟩) Q E s := by
  rcases hkk with hk | hk
  · unfold checkBuiltinCall
    (first | (refine rwP (hk) ?_; refine rwP (hs) ?_; try with_reducible rfl) | rw [hk, hs])
    dsimp only
    refine wpAny_bind (hi.here ?_)
    simp only [Bool.not_true, Bool.false_eq_true, if_false]
    cases hsig : Manifest.signature? i with
    | none => exact wpAny_pure q
    | some sig =>
      simp only [argsOk, hsig] at ha
      have h2 : Bind.checkArgs i sig ⟨self :: rest, []⟩ = pure () := ha
      show wpAny M A (Bind.checkArgs i sig ⟨self :: rest, []⟩) Q E s
      (first | (refine rwP (h2) ?_; try with_reducible rfl) | rw [h2]); exact wpAny_pure q
  · exact check_slot hk hs hi ha q
end
end Mine
end Part3
section Part4
set_option tactic.hygienic false
open PySem PySem.W PySem.W.X PySem.Calls PyProof.Rows
set_option maxRecDepth 100000
namespace Mine

/-! ## the accumulator -/
noncomputable def accP (dx : Addr) (vs : Array Value) : OP := fun o => ∃ n sl, o = ⟨.ref 101, some dx, .seq vs n, sl⟩
noncomputable def szP (k : Int) : OP := fun o => Ex5 fun hsh tk t m sl => o = ⟨.type "dict", none, .dict #[⟨hsh, .str "_initial_size" tk, .int k t⟩] m, sl⟩
theorem accP_not {dx : Addr} {vs : Array Value} {o : Obj} (h : accP dx vs o) : ¬ isTup o := by
  obtain ⟨n, sl, rfl⟩ := h
  rintro ⟨e, _⟩; cases e
theorem szP_not {k : Int} {o : Obj} (h : szP k o) : ¬ isTup o := by
  obtain ⟨_, _, _, _, _, rfl⟩ := h
  rintro ⟨e, _⟩; injection e with e; exact absurd e (by decide)

structure KF (K : Frag) : Prop where
  ga : findIn K (.ref 101) "__getattribute__" = some (some (.builtin "list.__getattribute__"))
  gt : findIn K (.ref 101) "__getattr__" = some none
  append : findIn K (.ref 101) "append" = some (some (.builtin "list.append"))
  tappend : typeIn K (.builtin "list.append") = some (.type "method_descriptor")
  isList : mroIn K 101 (.type "list") = some true
  push : Fn K 45 44 "_Accumulator.push" (clsS 1) [] .none

section
variable {C : Cx} {σ σ' : Led} {ι ι' : Imm} {A : Around} {s : Shared} {E : Value → Shared → Prop} {a dx : Addr} {vs : Array Value} {k : Int}

theorem acc_inst (S : SS C σ ι s) (ha : (a, accP dx vs) ∈ σ) (hd : (dx, szP k) ∈ σ) : ∃ ox od, InstAt s.heap a ox 101 (some od) ∧ accP dx vs ox ∧ szP k od := by
  refine gen_P fun Pg kg => ?_
  obtain ⟨ox, e, p⟩ := S.at ha
  obtain ⟨od, e', p'⟩ := S.at hd
  refine kg ?_
  clear kg
  refine ⟨ox, od, ?_, p, p'⟩
  obtain ⟨n, sl, rfl⟩ := p
  exact ⟨e, rfl, rfl, e'⟩
theorem sz_look {od : Obj} (h : szP k od) (name : Str) (hn : (name == ("_initial_size" : Str)) = false) : lookIn name od = some none := by
  obtain ⟨hsh, tk, t, m, sl, rfl⟩ := h
  have : (("_initial_size" : Str) == name) = false := by rw [Bool.eq_false_iff] at hn ⊢; intro e; exact hn (by rw [beq_iff_eq] at e ⊢; exact e.symm)
  simp [lookIn, Value.isStr, this, DictEntry.refKey]

theorem acc_meth {id : String} {name : Str} {pl : Sem Bool} {Q : Value × List Value → Shared → Prop} (X : CxOk C) (KK : KF C.K) (S : SS C σ ι s) (ha : (a, accP dx vs) ∈ σ) (hd : (dx, szP k) ∈ σ)
    (hf : findIn C.K (.ref 101) name = some (some (.builtin id))) (ht : typeIn C.K (.builtin id) = some (.type "method_descriptor")) (hn : (name == ("_initial_size" : Str)) = false)
    (h : Q (.builtin id, [.ref a]) s) : wpAny (model prg C.w) A (getMethod (.ref a) name pl) Q E s := by
  refine gen_P fun Pg kg => ?_
  obtain ⟨ox, od, I, px, pd⟩ := acc_inst S ha hd
  refine kg ?_
  clear kg
  have K := S.kin X
  have hcan := canon_list_getattribute
  unfold getMethod specialOf
  refine wpAny_bind (wpAny_bind (I.type.here ((looks_findIn K KK.ga).here ?_)))
  dsimp only
  (first | (refine rwP (hcan) ?_; refine rwP (if_neg (by decide)) ?_; try with_reducible rfl) | rw [hcan, if_neg (by decide)])
  refine wpAny_bind (wpAny_bind (I.type.here ((looks_findIn K KK.gt).here ?_)))
  refine wpAny_bind (wpAny_bind (I.type.here ((looks_findIn K hf).here (wpAny_bind ((looks_typeIn K ht).here ?_)))))
  (first | (refine rwP (if_neg (by decide +kernel)) ?_; try with_reducible rfl) | rw [if_neg (by decide +kernel)])
  refine wpAny_bind (wpAny_loadPart I.at_ ?_)
  obtain ⟨n, sl, rfl⟩ := px
  have hdx : s.heap.get? dx = some od := I.dict
  refine wpAny_bind (wpAny_bind (wpAny_loadPart hdx ?_))
  (first | (refine rwP (nsLook_of (sz_look pd name hn)) ?_; try with_reducible rfl) | rw [nsLook_of (sz_look pd name hn)])
  exact wpAny_pure (wpAny_bind (wpAny_rule (wpAny_pure h)))

theorem acc_isList (X : CxOk C) (KK : KF C.K) (S : SS C σ ι s) (ha : (a, accP dx vs) ∈ σ) : Looks (model prg C.w) s.heap (isInstance (.ref a) (.type "list")) true := by
  refine gen_P fun Pg kg => ?_
  obtain ⟨o, e, n, sl, rfl⟩ := S.at ha
  refine kg ?_
  clear kg
  exact ((Looks.ld e).andThen .now).andThen (looks_mroIn (S.kin X) KK.isList)

theorem acc_append {v : Value} {Q : Value → Shared → Prop} (X : CxOk C) (KK : KF C.K) (S : SS C σ ι s) (u : Upd a (accP dx vs) (accP dx (vs.push v)) σ σ') (hz : vs.size ≤ sizeLine)
    (h : ∀ s', SS C σ' ι s' → Q .none s') : wpAny (model prg C.w) A (call (.builtin "list.append") [.ref a, v] []) Q E s := by
  refine call_b F.slot_list_append.plain F.entry_list_append (chk (owner := "list") (n := "append") (.inl (by decide +kernel)) (by decide +kernel) (acc_isList X KK S u.mem) (F.args_list_append_2 _ _) ?_)
  refine gen_P fun Pg kg => ?_
  obtain ⟨o, e, n, sl, rfl⟩ := S.at u.mem
  refine kg ?_
  clear kg
  show wpAny _ _ (updateSeq a (·.push v) >>= fun _ => ret .none) _ _ s
  refine wpAny_bind (wpAny_updateSeq e rfl (wpAny_pure (h _ (S.upd u fun o ⟨n, sl, eo⟩ => ?_))) hz (by (first | (refine rwP (Array.size_push) ?_; try with_reducible rfl) | rw [Array.size_push]); (first | lia | omega)))
  subst eo
  exact ⟨⟨_, _, rfl⟩, rfl, accP_not ⟨_, _, rfl⟩⟩
end

/-! ## push -/
section
variable {C : Cx} {σ : Led} {σ' : Value → Led} {ι ι' : Imm} {A : Around} {s : Shared} {E : Value → Shared → Prop} {a dx : Addr} {vs : Array Value} {k : Int}
noncomputable def pieceObj (x y : Value) : Obj := { cls := .type "tuple", data := .seq [x, y].toArray }
theorem pieceObj_tup (x y : Value) : isTup (pieceObj x y) := ⟨rfl, _, _, rfl⟩

theorem push_code {n : Nat} {x y : Value} {Q : Value → Shared → Prop} (X : CxOk C) (KK : KF C.K) (R : Room (n + 1) A) (S : SS C σ ι s) (hd : (dx, szP k) ∈ σ)
    (u : ∀ v, Upd a (accP dx vs) (accP dx (vs.push v)) σ (σ' v)) (hz : vs.size ≤ sizeLine)
    (h : ∀ t s', SS C (σ' (.ref t)) ((t, pieceObj x y) :: ι) s' → Q .none s') : codeAny (model prg C.w) A (.call (.ref 45) ⟨[.ref a, x, y], []⟩) (fun r s' => match r with | .ok (.ret v) => Q v s' | .ok _ => False | .error e => E e s') s := by
  refine code_fn (binds := [("self", .ref a), ("fws", x), ("string", y)]) X KK.push R S (fun _ _ _ _ _ => BindsTo.of_eq rfl) fun L s1 S1 R1 => ?_
  refine wpAny_execs_cons ?_
  refine wpAny_Expr_any ?_
  refine n_meth ?_
  refine n_local S1 (.head _) rfl ?_
  refine acc_meth X KK S1 (.tail _ (u .none).mem) (.tail _ hd) KK.append KK.tappend (by decide) ?_
  refine n_callb ?_
  refine sp_cons ?_
  refine Tuple_ ?_
  refine sp_cons (n_local S1 (.head _) rfl ?_)
  refine sp_cons (n_local S1 (.head _) rfl ?_)
  refine sp_nil ?_
  refine wpAny_newTuple ?_
  have S2 := S1.allocT (o := pieceObj x y) rfl (pieceObj_tup x y)
  refine sp_nil ?_
  refine acc_append X KK S2 (.tail (u _)) hz fun s3 S3 => ?_
  refine wpAny_execs_nil ?_
  exact h _ _ S3.tl
theorem push_c {n : Nat} {x y : Value} {Q : Value → Shared → Prop} (X : CxOk C) (KK : KF C.K) (R : Room (n + 1) A) (S : SS C σ ι s) (hd : (dx, szP k) ∈ σ)
    (u : ∀ v, Upd a (accP dx vs) (accP dx (vs.push v)) σ (σ' v)) (hz : vs.size ≤ sizeLine)
    (h : ∀ t s', SS C (σ' (.ref t)) ((t, pieceObj x y) :: ι) s' → Q .none s') : wpAny (model prg C.w) A (call (.ref 45) [.ref a, x, y] []) Q E s := wpAny_call (push_code X KK R S hd u hz h)
end
end Mine
end Part4
section Part5
set_option tactic.hygienic false
open PySem PySem.W PySem.W.X PySem.Calls PyProof.Rows
set_option maxRecDepth 100000
namespace Mine

namespace G
theorem slot_md : Slot "method_descriptor" "__get__" "method_descriptor.__get__" :=
  .of (owner := "method_descriptor") (n := "__get__") (by (first | (refine rwP (typeLookup_type) ?_; refine rwP (builtinLookup_eq_fast) ?_; try with_reducible rfl) | rw [typeLookup_type, builtinLookup_eq_fast]); kernel_rfl) (by decide +kernel) (by decide +kernel) (by decide +kernel)
    (by first | exact .inl (by decide +kernel) | exact .inr (by decide +kernel)) (by (first | (refine rwP (isSubtype_type) ?_; try with_reducible rfl) | rw [isSubtype_type]); kernel_rfl)
theorem entry_md : entryFor table "method_descriptor.__get__" = some Builtin.«method_descriptor.__get__» := entryFor_of_tree (by kernel_rfl)
theorem args_md (a b c : Value) : argsOk "method_descriptor.__get__" ⟨[a, b, c], []⟩ := by unfold argsOk; kernel_rfl
theorem slot_wd : Slot "wrapper_descriptor" "__get__" "wrapper_descriptor.__get__" :=
  .of (owner := "wrapper_descriptor") (n := "__get__") (by (first | (refine rwP (typeLookup_type) ?_; refine rwP (builtinLookup_eq_fast) ?_; try with_reducible rfl) | rw [typeLookup_type, builtinLookup_eq_fast]); kernel_rfl) (by decide +kernel) (by decide +kernel) (by decide +kernel)
    (by first | exact .inl (by decide +kernel) | exact .inr (by decide +kernel)) (by (first | (refine rwP (isSubtype_type) ?_; try with_reducible rfl) | rw [isSubtype_type]); kernel_rfl)
theorem entry_wd : entryFor table "wrapper_descriptor.__get__" = some Builtin.«wrapper_descriptor.__get__» := entryFor_of_tree (by kernel_rfl)
theorem args_wd (a b c : Value) : argsOk "wrapper_descriptor.__get__" ⟨[a, b, c], []⟩ := by unfold argsOk; kernel_rfl
theorem type_len : typeOf (.builtin "list.__len__") = pure (.type "wrapper_descriptor") := by show builtinType _ = _; (first | (refine rwP (builtinType_eq_fast) ?_; try with_reducible rfl) | rw [builtinType_eq_fast]); kernel_rfl
theorem type_init : typeOf (.builtin "list.__init__") = pure (.type "wrapper_descriptor") := by show builtinType _ = _; (first | (refine rwP (builtinType_eq_fast) ?_; try with_reducible rfl) | rw [builtinType_eq_fast]); kernel_rfl
end G

section
variable {prog : Program} {w : World} {A : Around} {E : Value → Shared → Prop} {h : Heap} {g : Array GenState} {d : Drawn} {t : Nat} {os : OsState}

theorem told_no : Manifest.toldItsClass.contains "list.pop" = false := by decide +kernel
theorem ite_told {α : Type} {M : Model} {s : Shared} {a b : Sem α} {Q : α → Shared → Prop} (h : wpAny M A b Q E s) : wpAny M A (if Manifest.toldItsClass.contains "list.pop" = true then a else b) Q E s := by
  (first | (refine rwP (told_no) ?_; try with_reducible rfl) | rw [told_no]); exact h
theorem cut_pop : ".".intercalate ("list.pop".cutAt '.').dropLast = "list" := by decide +kernel
theorem cut_len : ".".intercalate ("list.__len__".cutAt '.').dropLast = "list" := by decide +kernel
theorem cut_init : ".".intercalate ("list.__init__".cutAt '.').dropLast = "list" := by decide +kernel
theorem md_get {x c : Addr} {Q : Value → Shared → Prop} 
    (hI : Looks (model prog w) h (isInstance (.ref x) (.type "list")) true)
    (hq : Q (.ref h.objs.size) ⟨h.push { cls := .type "builtin_function_or_method", data := .fields #[.builtin "list.pop", .ref x] }, g, d, t, os⟩) :
    wpAny (model prog w) A (call (.builtin "method_descriptor.__get__") [.builtin "list.pop", .ref x, .ref c]) Q E ⟨h, g, d, t, os⟩ := by
  refine wpAny_call_entry G.slot_md F.type_list_pop G.entry_md ?_ (G.args_md _ _ _)
  unfold Builtin.«method_descriptor.__get__»
  have hI' : Looks (model prog w) h (isInstance (.ref x) (.type (".".intercalate ("list.pop".cutAt '.').dropLast))) true := by (first | (refine rwP (cut_pop) ?_; try with_reducible rfl) | rw [cut_pop]); exact hI
  repeat (first | (with_reducible refine ite_told ?_) | (with_reducible refine Looks.at hI' ?_) | (with_reducible refine wpAny_newObj_type ?_ (by size_fits)) | wp_step)
  exact ⟨_, rfl, hq⟩
theorem wd_get {id : String} {x c : Addr} {Q : Value → Shared → Prop} (hT : typeOf (.builtin id) = pure (.type "wrapper_descriptor")) (hid : ".".intercalate (id.cutAt '.').dropLast = "list")
    (hI : Looks (model prog w) h (isInstance (.ref x) (.type "list")) true)
    (hq : Q (.ref h.objs.size) ⟨h.push { cls := .type "method-wrapper", data := .fields #[.builtin id, .ref x] }, g, d, t, os⟩) :
    wpAny (model prog w) A (call (.builtin "wrapper_descriptor.__get__") [.builtin id, .ref x, .ref c]) Q E ⟨h, g, d, t, os⟩ := by
  refine wpAny_call_entry G.slot_wd hT G.entry_wd ?_ (G.args_wd _ _ _)
  unfold Builtin.«wrapper_descriptor.__get__»
  have hI' : Looks (model prog w) h (isInstance (.ref x) (.type (".".intercalate (id.cutAt '.').dropLast))) true := by (first | (refine rwP (hid) ?_; try with_reducible rfl) | rw [hid]); exact hI
  repeat (first | (with_reducible refine Looks.at hI' ?_) | (with_reducible refine wpAny_newObj_type ?_ (by size_fits)) | wp_step)
  exact ⟨_, rfl, hq⟩

/-- super().name, a built-in's -/
theorem super_ga {so D x c : Addr} {l₀ l : List Value} {K : Frag} {name : Str} {id T gid : String} {tk : Tok} {bo : Obj} {Q : Fin → Shared → Prop}
    (hso : h.get? so = some { cls := .type "super", dict := none, data := .fields #[.ref D, .ref x, .ref c], slots := #[] }) (hno : Looks (model prog w) h (opaqueClassAbove (.ref c)) none)
    (hC : Looks (model prog w) h (mroOf (.ref c)) l₀) (hl : (l₀.dropWhile (· != .ref D)).drop 1 = l) (X : K.In h)
    (hf : alongIn K name l = some (some (.builtin id))) (hTy : typeOf (.builtin id) = pure (.type T)) (hlk : typeLookup (.type T) "__get__" = pure (some (.builtin gid)))
    (hget : ∀ {A : Around} {Q : Value → Shared → Prop}, Q (.ref h.objs.size) ⟨h.push bo, g, d, t, os⟩ → wpAny (model prog w) A (call (.builtin gid) [.builtin id, .ref x, .ref c]) Q E ⟨h, g, d, t, os⟩)
    (hxC : x ≠ c) (hn : (name == ("__class__" : Str)) = false)
    (hq : Q (.done (.ret (.ref h.objs.size))) ⟨h.push bo, g, d, t, os⟩) :
    wpAny (model prog w) A (Builtin.«super.__getattribute__» ⟨[.ref so, .str name tk], []⟩) Q E ⟨h, g, d, t, os⟩ := by
  have hne : (Value.ref x == Value.ref c) = false := by simp [hxC]
  have hdt : ({ cls := .type "super", dict := none, data := .fields #[.ref D, .ref x, .ref c], slots := #[] } : Obj).data = .fields #[.ref D, .ref x, .ref c] := rfl
  have f0 : (#[.ref D, .ref x, .ref c] : Array Value)[0]? = some (.ref D) := rfl
  have f1 : (#[.ref D, .ref x, .ref c] : Array Value)[1]? = some (.ref x) := rfl
  have f2 : (#[.ref D, .ref x, .ref c] : Array Value)[2]? = some (.ref c) := rfl
  unfold Builtin.«super.__getattribute__»
  repeat (first
    | (with_reducible refine wpAny_field hso hdt f0 ?_) | (with_reducible refine wpAny_field hso hdt f1 ?_) | (with_reducible refine wpAny_field hso hdt f2 ?_)
    | (with_reducible refine ks_wpAny_notOpaque hno ?_)
    | (with_reducible refine Looks.at hC ?_; (first | (refine rwP (hl) ?_; try with_reducible rfl) | rw [hl]))
    | (refine ks_forIn_along X (fun _ _ => rfl) rfl ?_ hf)
    | (with_reducible refine wpAny_of_eq hTy ?_)
    | (with_reducible refine wpAny_of_eq hlk ?_)
    | (with_reducible refine hget ?_)
    | (simp only [hn, hne, Bool.or_false, Bool.false_eq_true, if_false])
    | wp_step
    | dsimp only)
  all_goals exact hq

theorem super_meth {so D x c : Addr} {l₀ l : List Value} {K : Frag} {name : Str} {id T gid : String} {bo : Obj} {pl : Sem Bool} {Q : Value × List Value → Shared → Prop}
    (hso : h.get? so = some { cls := .type "super", dict := none, data := .fields #[.ref D, .ref x, .ref c], slots := #[] }) (hno : Looks (model prog w) h (opaqueClassAbove (.ref c)) none)
    (hC : Looks (model prog w) h (mroOf (.ref c)) l₀) (hl : (l₀.dropWhile (· != .ref D)).drop 1 = l) (X : K.In h)
    (hf : alongIn K name l = some (some (.builtin id))) (hTy : typeOf (.builtin id) = pure (.type T)) (hlk : typeLookup (.type T) "__get__" = pure (some (.builtin gid)))
    (hget : ∀ {A : Around} {Q : Value → Shared → Prop} {E : Value → Shared → Prop} {t : Nat}, Q (.ref h.objs.size) ⟨h.push bo, g, d, t, os⟩ → wpAny (model prog w) A (call (.builtin gid) [.builtin id, .ref x, .ref c]) Q E ⟨h, g, d, t, os⟩)
    (hxC : x ≠ c) (hn : (name == ("__class__" : Str)) = false)
    (hq : Q (.ref h.objs.size, []) ⟨h.push bo, g, d, t + 1, os⟩) :
    wpAny (model prog w) A (getMethod (.ref so) name pl) Q E ⟨h, g, d, t, os⟩ := by
  have hlk' := F.ks_slot_super_ga.lookup
  have hcan := F.ks_canon_super_ga
  have hT : ∀ t', (⟨h, g, d, t', os⟩ : Shared).TypeIs (.ref so) "super" := fun _ => ⟨_, hso, rfl⟩
  unfold getMethod
  refine wpAny_bind (wpAny_specialOf (hT _) hlk' ?_)
  show wpAny _ _ (if (Manifest.canonical "super.__getattribute__" != "object.__getattribute__") = true then _ else _) _ _ _
  (first | (refine rwP (if_pos hcan) ?_; try with_reducible rfl) | rw [if_pos hcan])
  unfold getAttr getAttrBy
  refine wpAny_bind (wpAny_bind (wpAny_mkText (wpAny_holding (wpAny_bind (wpAny_typeOf (hT _) (wpAny_bind (wpAny_of_eq hlk' ?_)))))))
  show wpAny _ _ (getAttrByItsOwn (.ref so) (.str name t) (.type "super") (.builtin "super.__getattribute__") true false) _ _ _
  unfold getAttrByItsOwn hookBefore callGetattribute boundAndCalled
  refine wpAny_bind (wpAny_of_eq (show (if onTheHeap (.type "super") then typeLookup (.type "super") "__getattr__" else pure none) = pure none from rfl) ?_)
  refine wpAny_bind (wpAny_attempt (wpAny_holding ?_))
  show wpAny _ _ (bindSpecial (.builtin "super.__getattribute__") (.ref so) >>= _) _ _ _
  refine wpAny_bind (wpAny_of_eq (F.ks_slot_super_ga.bind _) ?_)
  refine wpAny_mono (Q := fun v s' => v = .ref h.objs.size ∧ s' = ⟨h.push bo, g, d, t + 1, os⟩) (E := fun _ _ => False)
    (wpAny_call_entry F.ks_slot_super_ga (hT _) F.ks_entry_super_ga (super_ga hso hno hC hl X hf hTy hlk hget hxC hn ⟨_, rfl, rfl, rfl⟩) (F.ks_gaArgs_super _ _)) (fun v s' hv => ?_) fun _ _ z => z.elim
  obtain ⟨rfl, rfl⟩ := hv
  exact wpAny_pure (wpAny_pure hq)

/-- a bound built-in is called -/
theorem bound_call {b x : Addr} {id T : String} {B : Builtin} {args : List Value} {Q : Value → Shared → Prop} {s : Shared}
    (hb : s.heap.get? b = some { cls := .type T, data := .fields #[.builtin id, .ref x] }) (hT : T = "method-wrapper" ∨ T = "builtin_function_or_method") (hp : plainId id = true) (he : entryFor table id = some B)
    (hc : ∀ {Q' : Unit → Shared → Prop}, Q' () s → wpAny (model prog w) A.in1 (checkBoundCall id ⟨.ref x :: args, []⟩) Q' E s)
    (h : wpAny (model prog w) A.in1 (B ⟨.ref x :: args, []⟩) (BiPost prog w A Q E) E s) : wpAny (model prog w) A (call (.ref b) args []) Q E s := by
  refine wpAny_call (codeAny_of_tree ?_)
  show wpAny _ A.in1 (callAny (.ref b) ⟨args, []⟩) _ _ _
  unfold callAny
  refine wpAny_bind (wpAny_load hb ?_)
  have hq := again_b (prog := prog) (w := w) hp he h
  rcases hT with rfl | rfl
  · exact wpAny_bind (hc (wpAny_pure hq))
  · exact wpAny_bind (hc (wpAny_pure hq))
end
end Mine
end Part5
section Part6
open PySem PySem.W PySem.W.X PySem.Calls PyProof.Rows
set_option maxRecDepth 100000
namespace Mine

noncomputable def codeFileIn (K : Frag) (c : Addr) : Bool := match K.lookup c with
  | some ⟨_, _, .fields vs, _⟩ => (match (vs : Array Value)[2]? with | some (Value.str f _) => (prg.main.file : Str) == f | _ => false)
  | _ => false

structure KS (K : Frag) : Prop where
  cell : ∃ cl cld csl, K.lookup 25 = some ⟨cl, cld, .cell (some (.ref 101)), csl⟩
  cls : ∃ cd : ClassData, clsIn K 101 = some cd ∧ (cd.mro.dropWhile (· != .ref 101)).drop 1 = [.type "list", .type "object"]
  self : mroIn K 101 (.ref 101) = some true
  gSuper : nsIn K 3 "super" = some none
  bSuper : nsIn K 0 "super" = some (some (.type "super"))
  tp : nsIn K cStatics "thirdparty.any" = some none
  len : alongIn K "__len__" [.type "list", .type "object"] = some (some (.builtin "list.__len__"))
  pop : alongIn K "pop" [.type "list", .type "object"] = some (some (.builtin "list.pop"))
  init : alongIn K "__init__" [.type "list", .type "object"] = some (some (.builtin "list.__init__"))
  f37 : codeFileIn K 37 = true
  f60 : codeFileIn K 60 = true
  f97 : codeFileIn K 97 = true
  fInit : Fn K 38 37 "_Accumulator.__init__" (clsS 0) [("__class__", 25)] (.ref 30)
  fPop : Fn K 61 60 "_Accumulator.pop" (clsS 3) [("__class__", 25)] .none
  fCount : Fn K 98 97 "_Accumulator.part_count" (clsS 8) [("__class__", 25)] .none

section
variable {C : Cx} {σ σ' : Led} {ι ι' : Imm} {A : Around} {s : Shared} {E : Value → Shared → Prop} {a dx : Addr} {vs : Array Value} {k : Int}

/-- a def is called whose activation is asked for -/
theorem call_fnAt {n : Nat} {f c : Addr} {qual : Str} {D : Stmt} {cl : List (Str × Addr)} {dV : Value} {args : List Value} {binds : List (Str × Value)} {Q : Value → Shared → Prop}
    (X : CxOk C) (F : Fn C.K f c qual D cl dV) (R : Room (n + 1) A) (S : SS C σ ι s)
    (hb : ∀ name doc pm an ct, BindsTo s (fnX name qual (argsOf D) (bodyOf D) (scopeOf D) cl dV .none doc pm an (.ref c) ct) ⟨args, []⟩ binds)
    (h : ∀ L s', SS C ((L, nsP (fun x => binds.reverse.lookup x)) :: σ) ι s' → Room n (A.deeper (envX qual (scopeOf D) L f (.ref c) cl)) →
      PySem.wpAt (model prg C.w) (A.deeper (envX qual (scopeOf D) L f (.ref c) cl)) (.func (bodyOf D) (envX qual (scopeOf D) L f (.ref c) cl)) (execs (bodyOf D) (envX qual (scopeOf D) L f (.ref c) cl))
        (fun fl s'' => Q (match fl with | .ret v => v | _ => .none) s'') (fun _ _ => False) s')
    (hloc : ∀ x ∈ binds, (scopeOf D).names.lookup x.1 = some .local := by exact locs rfl) (hcell : autoParam (∀ x ∈ (scopeOf D).names, x.2 ≠ .cell) tacDec)
    (hco : autoParam ((scopeOf D).isCoroutine = false) tacRfl) (hgen : autoParam ((scopeOf D).isGenerator = false) tacRfl) (hk : autoParam ((scopeOf D).kind = .function) tacRfl) :
    wpAny (model prg C.w) A (call (.ref f) args []) Q E s := by
  refine gen_P fun Pg kg => ?_
  obtain ⟨od, osl, name, doc, pm, an, ct, e⟩ := F.look
  refine kg ?_
  clear kg
  have K := S.kin X
  refine wpAny_call (ks_codeAny_call_defAt (fd := fnX name qual (argsOf D) (bodyOf D) (scopeOf D) cl dV .none doc pm an (.ref c) ct) (body := bodyOf D) (binds := binds) R.lt (K _ _ e) rfl (S.noLimit X) (codeRec_of K F.code) rfl (hb _ _ _ _ _) hcell hloc (fun h₁ hns hk₁ => ?_) hco hgen hk)
  obtain ⟨o, eo, po⟩ := of_ns hns
  have S' : St C ((s.heap.objs.size, nsP (fun x => binds.reverse.lookup x)) :: σ) ι h₁ s.gens s.os :=
    S.new hk₁ (Nat.le_of_lt (Heap.lt_size eo)) (Nat.le_refl _) eo po (nsP_not po)
  exact ks_wpAt_mono (h s.heap.objs.size _ S' R.deeper) (fun _ _ z => z) (fun _ _ z => z.elim)

theorem no_some {α : Type} {x : α} {P : Prop} (h : none = some x) : P := nomatch h
theorem no_ft {P : Prop} (h : false = true) : P := nomatch h
theorem cls_at {K : Frag} {a : Addr} {cd : ClassData} (h : clsIn K a = some cd) : ∃ c d sl, K.lookup a = some ⟨c, d, .cls cd, sl⟩ := by
  unfold clsIn at h
  refine gen_P fun P k => ?_
  cases e : K.lookup a with
  | none => rw [e] at h; exact no_some h
  | some o =>
    rw [e] at h
    refine k (e ▸ ?_)
    clear k e
    refine gen_P fun P k => ?_
    refine gen_P fun Pg kg => ?_
    obtain ⟨c, d, dt, sl⟩ := o
    refine kg ?_
    clear kg
    cases dt <;> first | exact no_some h | (cases h; exact k ⟨_, _, _, rfl⟩)
theorem acc_ne101 (X : CxOk C) (KK : KS C.K) (S : SS C σ ι s) (ha : (a, accP dx vs) ∈ σ) : a ≠ 101 := by
  rintro rfl
  obtain ⟨cd, hcd, _⟩ := KK.cls
  obtain ⟨o, e, _, _, nb⟩ := S.own _ ha
  have nb : C.base.get? 101 = none := nb
  obtain ⟨_, _, _, ho⟩ := cls_at hcd
  rw [X.kin _ _ ho] at nb; cases nb

theorem n_super {f c : Addr} {qual name : Str} {D : Stmt} {dV : Value} {p0 p1 apos pos : Pos} {id T gid T' : String} {m : Str → Option Value} {L : Addr} {Q : Value → Shared → Prop} {ar : Arg}
    (X : CxOk C) (KA : KF C.K) (KK : KS C.K) (F : Fn C.K f c qual D [("__class__", 25)] dV) (hfile : codeFileIn C.K c = true) (S : SS C σ ι s)
    (ha : (a, accP dx vs) ∈ σ) (hL : (L, nsP m) ∈ σ) (har : ((argsOf D).posonlyargs ++ (argsOf D).args).head? = some ar) (hv : m ar.arg = some (.ref a))
    (hks : (scopeOf D).names.lookup ("super" : Str) = some .globalImplicit) (hkc : (scopeOf D).names.lookup ("__class__" : Str) = some .free) (hka : (scopeOf D).names.lookup ar.arg = some .local) (hk : (scopeOf D).kind = .function)
    (hf : alongIn C.K name [.type "list", .type "object"] = some (some (.builtin id))) (hTy : typeOf (.builtin id) = pure (.type T)) (hlk : typeLookup (.type T) "__get__" = pure (some (.builtin gid)))
    (hget : ∀ {A : Around} {Q : Value → Shared → Prop} {E : Value → Shared → Prop} {h : Heap} {g d t os}, Looks (model prg C.w) h (isInstance (.ref a) (.type "list")) true →
      Q (.ref h.objs.size) ⟨h.push { cls := .type T', data := .fields #[.builtin id, .ref a] }, g, d, t, os⟩ → wpAny (model prg C.w) A (call (.builtin gid) [.builtin id, .ref a, .ref 101]) Q E ⟨h, g, d, t, os⟩)
    (hT' : T' = "method-wrapper" ∨ T' = "builtin_function_or_method") (hn : (name == ("__class__" : Str)) = false)
    (h : ∀ b s', SS C σ ι s' → s'.heap.get? b = some { cls := .type T', data := .fields #[.builtin id, .ref a] } → wpAny (model prg C.w) A (call (.ref b) [] []) Q E s')
    (he : autoParam (eval (.Call (.Attribute (.Call (.Name "super" p0) [] [] p1) name apos) [] [] pos) (envX qual (scopeOf D) L f (.ref c) [("__class__", 25)]) = (do
      let ov ← attributeBase (.Call (.Name "super" p0) [] [] p1) name (envX qual (scopeOf D) L f (.ref c) [("__class__", 25)]) (eval (.Call (.Name "super" p0) [] [] p1) (envX qual (scopeOf D) L f (.ref c) [("__class__", 25)]))
      standAt apos.atName
      let (f', first) ← holding [ov] (getMethod ov name (pure false))
      callWith pos f' first (backTo pos (starEach [] (envX qual (scopeOf D) L f (.ref c) [("__class__", 25)]))) [])) tacRfl) :
    PySem.wpAt (model prg C.w) A (.func (bodyOf D) (envX qual (scopeOf D) L f (.ref c) [("__class__", 25)])) (eval (.Call (.Attribute (.Call (.Name "super" p0) [] [] p1) name apos) [] [] pos) (envX qual (scopeOf D) L f (.ref c) [("__class__", 25)])) Q E s := by
  refine gen_P fun Pg kg => ?_
  obtain ⟨od, osl, nm, doc, pm, an, ct, ef⟩ := F.look
  obtain ⟨cl, cld, csl, ecell⟩ := KK.cell
  obtain ⟨cd, hcd, hmro⟩ := KK.cls
  refine kg ?_
  clear kg
  have K := S.kin X
  have ne := acc_ne101 X KK S ha
  obtain ⟨oc, od2, ccs, vsc, file, tf, ecode, hvs, hfl⟩ : Ex6 fun (oc : Value) (od2 : Option Addr) (ccs : Array (Option Value)) (vsc : Array Value) (file : Str) (tf : Tok) => And3 (C.K.lookup c = some ⟨oc, od2, .fields vsc, ccs⟩) (vsc[2]? = some (.str file tf)) (((prg.main.file : Str) == file) = true) := by
    refine gen_P fun P k => ?_
    unfold codeFileIn at hfile
    cases e1 : C.K.lookup c with
    | none => rw [e1] at hfile; exact no_ft hfile
    | some o =>
      rw [e1] at hfile k
      clear e1
      obtain ⟨c1, c2, dt, sl1⟩ := o
      cases dt with
      | fields vs1 =>
        dsimp only at hfile
        cases e2 : vs1[2]? with
        | none => rw [e2] at hfile; exact no_ft hfile
        | some v =>
          rw [e2] at hfile
          cases v with
          | str f1 t1 => exact k ⟨c1, c2, sl1, vs1, f1, t1, rfl, e2, hfile⟩
          | _ => exact no_ft hfile
      | _ => exact no_ft hfile
  obtain ⟨oD, hD1, hD2⟩ : ∃ oD, s.heap.get? 101 = some oD ∧ oD.data = .cls cd := by
    obtain ⟨_, _, _, ho⟩ := cls_at hcd
    exact ⟨_, K _ _ ho, rfl⟩
  obtain ⟨ox, ex, nx, slx, rfl⟩ := S.at ha
  refine ks_wpAt_MethodCall (pl := pure false) ?_ he
  refine ks_wpAt_super_base (env := envX qual (scopeOf D) L f (.ref c) [("__class__", 25)]) hks hkc hn rfl (K _ _ ef) rfl har rfl (K _ _ ecode) rfl hvs hfl (by rfl) ?_
  refine ks_loadName_global hk hks ?_
  unfold loadGlobal
  refine wpAny_bind ((looks_nsIn K KK.gSuper).here (wpAny_bind ((looks_nsIn K KK.bSuper).here (wpAny_pure ⟨rfl, ?_⟩))))
  refine wpAny_loadName_free hk hkc rfl ⟨_, K _ _ ecell, rfl⟩ ?_
  refine wpAny_loadName_local hk hka (SS.ns S hL) hv ?_
  obtain ⟨hh, g, d, t, os⟩ := s
  refine ks_wpAny_isType_cls hD1 hD2 ⟨rfl, ?_⟩
  refine ks_wpAny_call_super hD1 hD2 ex rfl (fun c e => by cases e) (looks_mroIn K KK.self) (fun h' e kp => ?_)
  have S' : St C σ ι h' g os := St.keeps S kp (Nat.le_of_lt (Heap.lt_size e))
  have K' := S'.kin X
  have hm' : Looks (model prg C.w) h' (mroOf (.ref 101)) cd.mro := fun A Q E s k q => wpAny_bind ((looks_clsIn K' hcd) A _ E s k (wpAny_pure q))
  have hI' : Looks (model prg C.w) h' (isInstance (.ref a) (.type "list")) true := acc_isList (s := ⟨h', g, d, t, os⟩) X KA S' ha
  refine super_meth e (looks_opaque K' KK.tp) hm' hmro K' hf hTy hlk (fun q => hget hI' q) ne hn ?_
  have S2 := S'.push { cls := .type T', data := .fields #[.builtin id, .ref a] }
  have eb : (h'.push { cls := .type T', data := .fields #[.builtin id, .ref a] }).get? h'.objs.size = some { cls := .type T', data := .fields #[.builtin id, .ref a] } := Heap.get?_push_size h' rfl
  refine callWith_of (P := fun hp => hp.get? h'.objs.size = some { cls := .type T', data := .fields #[.builtin id, .ref a] }) rfl (fun hp hb => ⟨.machine, .inr (.inl rfl), ?_⟩) (evalArgs_nil3 ⟨eb, h _ _ S2 eb⟩)
  rcases hT' with rfl | rfl <;> exact (Looks.ld (part := none) hb).andThen .now

theorem chkB_slot {id : String} {args : Args} {M : Model} {Q : Unit → Shared → Prop} (hk : builtinKind id = some .slot) (ha : argsOk id args) (q : Q () s) : wpAny M A (checkBoundCall id args) Q E s := by
  unfold checkBoundCall
  cases hsig : Manifest.signature? id with
  | none => exact wpAny_pure q
  | some sig =>
    simp only [argsOk, hsig] at ha
    have h2 : Bind.checkArgs id sig args = pure () := ha
    (first | (refine rwP (hk) ?_; try with_reducible rfl) | rw [hk])
    dsimp only
    cases args.pos with
    | nil => show wpAny M A (Bind.checkArgs id sig args) Q E s; (first | (refine rwP (h2) ?_; try with_reducible rfl) | rw [h2]); exact wpAny_pure q
    | cons x r =>
      show wpAny M A (Bind.checkArgs id sig args) Q E s
      (first | (refine rwP (h2) ?_; try with_reducible rfl) | rw [h2]); exact wpAny_pure q

theorem acc_len (X : CxOk C) (S : SS C σ ι s) (ha : (a, accP dx vs) ∈ σ) {b : Addr} {Q : Value → Shared → Prop} 
    (hb : s.heap.get? b = some { cls := .type "method-wrapper", data := .fields #[.builtin "list.__len__", .ref a] })
    (h : ∀ t s', SS C σ ι s' → Q (.int vs.size t) s') : wpAny (model prg C.w) A (call (.ref b) [] []) Q E s := by
  refine gen_P fun Pg kg => ?_
  obtain ⟨o, e, n, sl, rfl⟩ := S.at ha
  refine kg ?_
  clear kg
  refine bound_call hb (.inl rfl) F.slot_list_len.plain F.entry_list_len (chkB_slot (by decide +kernel) (F.args_list_len_1 _)) ?_
  unfold Builtin.«list.__len__»
  refine wpAny_bind (m := slotArgs "__len__" 0 _) (wpAny_pure ?_)
  refine wpAny_bind (m := seqSize a) (wpAny_bind (wpAny_loadPart e (wpAny_pure ?_)))
  exact wpAny_bind (wpAny_mkInt (wpAny_pure (h _ _ S)))
end
end Mine
end Part6
section Part7
set_option tactic.hygienic false
open PySem PySem.W PySem.W.X PySem.Calls PyProof.Rows
set_option maxRecDepth 100000
namespace Mine

section
variable {C : Cx} {σ σ' : Led} {ι ι' : Imm} {A : Around} {s : Shared} {E : Value → Shared → Prop} {a dx : Addr} {vs : Array Value} {k : Int}

/-- a method of the accumulator's own class -/
theorem acc_fmeth {f : Addr} {name : Str} {pl : Sem Bool} {Q : Value × List Value → Shared → Prop} (X : CxOk C) (KK : KF C.K) (S : SS C σ ι s) (ha : (a, accP dx vs) ∈ σ) (hd : (dx, szP k) ∈ σ)
    (hf : findIn C.K (.ref 101) name = some (some (.ref f))) (ht : typeIn C.K (.ref f) = some (.type "function")) (hn : (name == ("_initial_size" : Str)) = false)
    (h : Q (.ref f, [.ref a]) s) : wpAny (model prg C.w) A (getMethod (.ref a) name pl) Q E s := by
  refine gen_P fun Pg kg => ?_
  obtain ⟨ox, od, I, px, pd⟩ := acc_inst S ha hd
  refine kg ?_
  clear kg
  have K := S.kin X
  have hcan := canon_list_getattribute
  unfold getMethod specialOf
  refine wpAny_bind (wpAny_bind (I.type.here ((looks_findIn K KK.ga).here ?_)))
  dsimp only
  (first | (refine rwP (hcan) ?_; refine rwP (if_neg (by decide)) ?_; try with_reducible rfl) | rw [hcan, if_neg (by decide)])
  refine wpAny_bind (wpAny_bind (I.type.here ((looks_findIn K KK.gt).here ?_)))
  refine wpAny_bind (wpAny_bind (I.type.here ((looks_findIn K hf).here (wpAny_bind ((looks_typeIn K ht).here ?_)))))
  (first | (refine rwP (if_neg (by decide +kernel)) ?_; try with_reducible rfl) | rw [if_neg (by decide +kernel)])
  refine wpAny_bind (wpAny_loadPart I.at_ ?_)
  obtain ⟨n, sl, rfl⟩ := px
  have hdx : s.heap.get? dx = some od := I.dict
  refine wpAny_bind (wpAny_bind (wpAny_loadPart hdx ?_))
  (first | (refine rwP (nsLook_of (sz_look pd name hn)) ?_; try with_reducible rfl) | rw [nsLook_of (sz_look pd name hn)])
  exact wpAny_pure (wpAny_bind (wpAny_rule (wpAny_pure h)))

theorem Fn.type {K : Frag} {f c : Addr} {qual : Str} {D : Stmt} {cl : List (Str × Addr)} {dV : Value} (F : Fn K f c qual D cl dV) : typeIn K (.ref f) = some (.type "function") := by
  refine gen_P fun Pg kg => ?_
  obtain ⟨od, osl, name, doc, pm, an, ct, e⟩ := F.look
  refine kg ?_
  clear kg
  show (K.lookup f).map (·.cls) = _
  (first | (refine rwP (e) ?_; try with_reducible rfl) | rw [e]); rfl

theorem n_callF {f c : Addr} {qual : Str} {D : Stmt} {cl : List (Str × Addr)} {dV : Value} {pos : Pos} {first : List Value} {args : List Expr} {env : Env} {Q : Value → Shared → Prop} (X : CxOk C) (F : Fn C.K f c qual D cl dV)
    (h : wpAny (model prg C.w) A (spliced (backTo pos (starEach args env))) (fun vs s₁ => (∃ σ ι, SS C σ ι s₁) ∧ wpAny (model prg C.w) A (call (.ref f) (first ++ vs) []) Q E s₁) E s)
    (hp : autoParam ((backTo pos (starEach args env)).any (·.1) = false) tacRfl) : wpAny (model prg C.w) A (callWith pos (.ref f) first (backTo pos (starEach args env)) []) Q E s := by
  refine gen_P fun Pg kg => ?_
  obtain ⟨od, osl, name, doc, pm, an, ct, e⟩ := F.look
  refine kg ?_
  clear kg
  exact n_callf (wpAny_mono h (fun vs s₁ ⟨⟨σ, ι, S⟩, h₁⟩ => ⟨⟨S.kin X _ _ e, rfl⟩, h₁⟩) fun _ _ z => z) hp

theorem count_c {n : Nat} {Q : Value → Shared → Prop} (X : CxOk C) (KA : KF C.K) (KK : KS C.K) (R : Room (n + 1) A) (S : SS C σ ι s) (ha : (a, accP dx vs) ∈ σ)
    (h : ∀ t s', SS C σ ι s' → Q (.int vs.size t) s') : wpAny (model prg C.w) A (call (.ref 98) [.ref a] []) Q E s := by
  refine call_fnAt (binds := [("self", .ref a)]) X KK.fCount R S (fun _ _ _ _ _ => BindsTo.of_eq rfl) fun L s1 S1 R1 => ?_
  refine ks_wpAt_execs_cons (ks_wpAt_Return_some ?_)
  refine n_super X KA KK KK.fCount KK.f97 S1 (.tail _ ha) (.head _) rfl rfl rfl rfl rfl rfl KK.len G.type_len G.slot_wd.lookup
    (fun hI q => wd_get G.type_len cut_len hI q) (.inl rfl) (by decide) fun b s2 S2 eb => ?_
  exact acc_len X S2 (.tail _ ha) eb fun t s3 S3 => h t s3 S3.tl
end
end Mine
end Part7
section Part8
set_option tactic.hygienic false
open PySem PySem.W PySem.W.X PySem.Calls PyProof.Rows
set_option maxRecDepth 100000
namespace Mine

noncomputable abbrev popSig : Manifest.Signature := ⟨.positional, "list.pop", "pop", .self, [⟨"index", .posOnly, false⟩]⟩
theorem sig_pop : Manifest.signature? "list.pop" = some popSig := by
  (first | (refine rwP (signature?_of (id := "list.pop") (n := ['p', 'o', 'p']) (o := ['t', 's', 'i', 'l']) (by kernel_rfl) F.owner_list) ?_; try with_reducible rfl) | rw [signature?_of (id := "list.pop") (n := ['p', 'o', 'p']) (o := ['t', 's', 'i', 'l']) (by kernel_rfl) F.owner_list]); kernel_rfl
theorem last_pop : Bind.lastOf "list.pop" = "pop" := by decide +kernel

structure KP (K : Frag) : Prop where
  noMod : mroIn K 101 (.type "module") = some false
  clsTy : typeIn K (.ref 101) = some (.type "type")
  qual : ∃ cd, clsIn K 101 = some cd ∧ (toString cd.qualname.toString ++ toString "." ++ toString "pop" != "*") = true
  fnCount : findIn K (.ref 101) "part_count" = some (some (.ref 98))

section
variable {M : Model} {C : Cx} {σ σ' : Led} {ι ι' : Imm} {A : Around} {s : Shared} {E : Value → Shared → Prop} {a dx : Addr} {vs : Array Value} {k : Int}
theorem checkArgs_pop (x : String) (hx : (x != "*") = true) (v : Value) {Q : Unit → Shared → Prop} (q : Q () s) : wpAny M A (Bind.checkArgs "list.pop" { popSig with full := x } ⟨[v], []⟩) Q E s := by
  have e1 : Bind.printed x true { popSig with full := x } (some v) = pure x := by unfold Bind.printed; (first | (refine rwP (if_pos hx) ?_; try with_reducible rfl) | rw [if_pos hx])
  have e2 : Bind.printed "pop" false { popSig with full := x } (some v) = pure "pop" := by unfold Bind.printed; (first | (refine rwP (if_pos (by decide)) ?_; try with_reducible rfl) | rw [if_pos (by decide)])
  show wpAny M A (Bind.printed x true { popSig with full := x } (some v) >>= fun fu => Bind.printed "pop" false { popSig with full := x } (some v) >>= fun sh => _) Q E s
  (first | (refine rwP (e1) ?_; refine rwP (e2) ?_; try with_reducible rfl) | rw [e1, e2])
  refine wpAny_bind (wpAny_pure (wpAny_bind (wpAny_pure ?_)))
  refine wpAny_onRaise ?_
  show wpAny M A (pure ()) _ E s
  exact wpAny_pure q
theorem chkB_pop (X : CxOk C) (KK : KP C.K) (S : SS C σ ι s) (ha : (a, accP dx vs) ∈ σ) {Q : Unit → Shared → Prop} (q : Q () s) :
    wpAny (model prg C.w) A (checkBoundCall "list.pop" ⟨[.ref a], []⟩) Q E s := by
  refine gen_P fun Pg kg => ?_
  obtain ⟨o, e, n, sl, rfl⟩ := S.at ha
  obtain ⟨cd, hcd, hq⟩ := KK.qual
  refine kg ?_
  clear kg
  have K := S.kin X
  unfold checkBoundCall
  (first | (refine rwP (sig_pop) ?_; try with_reducible rfl) | rw [sig_pop])
  have hk : builtinKind "list.pop" = some .method := by decide +kernel
  (first | (refine rwP (hk) ?_; try with_reducible rfl) | rw [hk])
  dsimp only
  refine (wpAny_bind ((((Looks.ld e).andThen .now).andThen (looks_mroIn K KK.noMod)).here ?_))
  have hv : Manifest.varargsMethods.contains "list.pop" = false := by decide +kernel
  (first | (refine rwP (hv) ?_; try with_reducible rfl) | rw [hv])
  show wpAny _ _ (isType (.ref a) >>= _) _ _ _
  have i1 : Looks (model prg C.w) s.heap (isType (.ref a)) false := (Looks.ld e).andThen .now
  have i2 : Looks (model prg C.w) s.heap (typeOf (.ref a)) (.ref 101) := (Looks.ld e).andThen .now
  refine wpAny_bind (i1.here ?_)
  show wpAny _ _ (typeOf (.ref a) >>= _) _ _ _
  refine wpAny_bind (i2.here ?_)
  show wpAny _ _ (classData 101 >>= _) _ _ _
  refine wpAny_bind (m := classData 101) ((looks_clsIn K hcd).here ?_)
  refine wpAny_bind (m := typeOf (.ref 101)) ((looks_typeIn K KK.clsTy).here ?_)
  (first | (refine rwP (last_pop) ?_; try with_reducible rfl) | rw [last_pop])
  (first | (refine rwP (if_pos (by rfl)) ?_; try with_reducible rfl) | rw [if_pos (by rfl)])
  exact checkArgs_pop _ hq _ q

theorem erase_push (vs : Array Value) (x : Value) : (vs.push x).eraseIdxIfInBounds ((vs.push x).size - 1) = vs := by
  (first | (refine rwP (Array.eraseIdxIfInBounds) ?_; refine rwP (dif_pos (by simp)) ?_; try with_reducible rfl) | rw [Array.eraseIdxIfInBounds, dif_pos (by simp)]); apply Array.toList_inj.mp; simp [Array.toList_eraseIdx, List.eraseIdx_append_of_length_le]
theorem accP_map {vs' : Array Value} {f : Array Value → Array Value} {o : Obj} (e : f vs = vs') (h : accP dx vs o) : accP dx vs' (Obj.mapSeq f o) ∧ (Obj.mapSeq f o).isFreed = false ∧ ¬ isTup (Obj.mapSeq f o) := by
  subst e
  obtain ⟨n, sl, rfl⟩ := h
  exact ⟨⟨_, _, rfl⟩, rfl, accP_not (dx := dx) (vs := f vs) ⟨_, _, rfl⟩⟩
theorem acc_pop (X : CxOk C) (KK : KP C.K) (S : SS C σ ι s) {x : Value} (u : Upd a (accP dx (vs.push x)) (accP dx vs) σ σ') {b : Addr} {Q : Value → Shared → Prop} (hz : vs.size < sizeLine)
    (hb : s.heap.get? b = some { cls := .type "builtin_function_or_method", data := .fields #[.builtin "list.pop", .ref a] })
    (h : ∀ s', SS C σ' ι s' → Q x s') : wpAny (model prg C.w) A (call (.ref b) [] []) Q E s := by
  refine gen_P fun Pg kg => ?_
  obtain ⟨o, e, n, sl, rfl⟩ := S.at u.mem
  refine kg ?_
  clear kg
  refine bound_call hb (.inr rfl) F.slot_list_pop.plain F.entry_list_pop (fun q => chkB_pop X KK S u.mem q) ?_
  have hk : seqIndex? (-1) (vs.push x).size = some ((vs.push x).size - 1) := by
    (first | (refine rwP (Array.size_push) ?_; refine rwP (PySem.seqIndex_neg (by (first | lia | omega)) (by (first | lia | omega))) ?_; try with_reducible rfl) | rw [Array.size_push, PySem.seqIndex_neg (by (first | lia | omega)) (by (first | lia | omega))]); congr 1; (first | lia | omega)
  have hy : (vs.push x)[(vs.push x).size - 1]? = some x := by simp
  have hne : ¬ (vs.push x).isEmpty = true := by simp
  have hz1 : (vs.push x).size ≤ sizeLine := by (first | (refine rwP (Array.size_push) ?_; try with_reducible rfl) | rw [Array.size_push]); (first | lia | omega)
  have hz' : ((vs.push x).eraseIdxIfInBounds ((vs.push x).size - 1)).size ≤ sizeLine + 1 := by (first | (refine rwP (erase_push) ?_; try with_reducible rfl) | rw [erase_push]); (first | lia | omega)
  unfold Builtin.«list.pop»
  wp_walk using wpAny_loadPart' e
  simp only [hk, hy, Option.bind_some, Option.map_some]
  wp_walk using (wpAny_updateSeq e rfl (hz := hz1) (_hz' := hz')), wpAny_loadPart' e
  refine h _ (S.upd u fun o po => ?_)
  exact accP_map (erase_push vs x) po

/-- pop of an accumulator with pieces -/
theorem pop_some {n : Nat} {x : Value} {Q : Value → Shared → Prop} (X : CxOk C) (KA : KF C.K) (KK : KS C.K) (KQ : KP C.K) (R : Room (n + 2) A) (S : SS C σ ι s)
    (hd : (dx, szP k) ∈ σ) (u : Upd a (accP dx (vs.push x)) (accP dx vs) σ σ') (hz : vs.size < sizeLine)
    (h : ∀ s', SS C σ' ι s' → Q x s') : wpAny (model prg C.w) A (call (.ref 61) [.ref a] []) Q E s := by
  refine call_fnAt (binds := [("self", .ref a)]) X KK.fPop R S (fun _ _ _ _ _ => BindsTo.of_eq rfl) fun L s1 S1 R1 => ?_
  refine ks_wpAt_execs_cons (ks_wpAt_If (wpAt_of_wpAny (wpAny_isTrue_Compare1 ?_)))
  refine n_meth (n_local S1 (.head _) rfl ?_)
  refine acc_fmeth X KA S1 (.tail _ u.mem) (.tail _ hd) KQ.fnCount KK.fCount.type (by decide) ?_
  refine n_callF X KK.fCount (sp_nil ⟨⟨_, _, S1⟩, ?_⟩)
  refine count_c X KA KK R1 S1 (.tail _ u.mem) fun t s2 S2 => ?_
  refine wpAny_Constant_int ?_
  have S3 : SS C _ _ { s2 with toks := s2.toks + 1 } := S2
  refine P.eq_int ?_
  have e0 : (((vs.push x).size : Int) == 0) = false := by (first | (refine rwP (Array.size_push) ?_; try with_reducible rfl) | rw [Array.size_push]); simp; (first | lia | omega)
  (first | (refine rwP (e0) ?_; try with_reducible rfl) | rw [e0])
  refine wpAny_truthy_bool ?_
  refine wpAt_of_wpAny (wpAny_execs_nil ?_)
  refine ks_wpAt_execs_cons (ks_wpAt_Return_some ?_)
  refine n_super X KA KK KK.fPop KK.f60 S3 (.tail _ u.mem) (.head _) rfl rfl rfl rfl rfl rfl KK.pop F.type_list_pop G.slot_md.lookup
    (fun hI q => md_get hI q) (.inr rfl) (by decide) fun b s4 S4 eb => ?_
  exact acc_pop X KQ S4 (.tail u) hz eb fun s5 S5 => h _ S5.tl

theorem pop_none {n : Nat} {Q : Value → Shared → Prop} (X : CxOk C) (KA : KF C.K) (KK : KS C.K) (KQ : KP C.K) (R : Room (n + 2) A) (S : SS C σ ι s)
    (ha : (a, accP dx #[]) ∈ σ) (hd : (dx, szP k) ∈ σ)
    (h : ∀ t tk1 tk2 s', SS C σ ((t, pieceObj (.str "" tk1) (.str "" tk2)) :: ι) s' → Q (.ref t) s') : wpAny (model prg C.w) A (call (.ref 61) [.ref a] []) Q E s := by
  refine call_fn (binds := [("self", .ref a)]) X KK.fPop R S (fun _ _ _ _ _ => BindsTo.of_eq rfl) fun L s1 S1 R1 => ?_
  refine wpAny_execs_cons (wpAny_If (wpAny_isTrue_Compare1 ?_))
  refine n_meth (n_local S1 (.head _) rfl ?_)
  refine acc_fmeth X KA S1 (.tail _ ha) (.tail _ hd) KQ.fnCount KK.fCount.type (by decide) ?_
  refine n_callF X KK.fCount (sp_nil ⟨⟨_, _, S1⟩, ?_⟩)
  refine count_c X KA KK R1 S1 (.tail _ ha) fun t s2 S2 => ?_
  refine wpAny_Constant_int ?_
  refine P.eq_int ?_
  refine wpAny_truthy_bool ?_
  refine wpAny_execs_cons (wpAny_Return_some ?_)
  refine Tuple_ ?_
  refine sp_cons (Constant_str ?_)
  refine sp_cons (Constant_str (sp_nil ?_))
  refine wpAny_newTuple ?_
  have S2' : SS C _ _ { s2 with toks := s2.toks + 1 + 1 + 1 } := S2
  have S3 := S2'.allocT (o := pieceObj (.str "" (s2.toks + 1)) (.str "" (s2.toks + 1 + 1))) rfl (pieceObj_tup _ _)
  exact h _ _ _ _ S3.tl
end
end Mine
end Part8
section Part9
set_option tactic.hygienic false
open PySem PySem.W PySem.W.X PySem.Calls PyProof.Rows Builtin Builtin.ObjectAttr
set_option maxRecDepth 100000
namespace Mine

structure KI (K : Frag) : Prop where
  sa : findIn K (.ref 101) "__setattr__" = some (some (.builtin "object.__setattr__"))
  isObj : mroIn K 101 (.type "object") = some true
  taker : takerIn K 101 "_initial_size" = some none
  cd : ∃ cd : ClassData, clsIn K 101 = some cd ∧ cd.mro = [.ref 101, .type "list", .type "object"] ∧ cd.hasDict = true ∧ cd.hasDel = false ∧ cd.abstract = false
  made : ∃ oc od dt sl, K.lookup 101 = some ⟨oc, od, dt, sl⟩ ∧ sl.toList[4]? = some (some (.builtin "list.__new__"))
  call : specialIn K (.ref 101) "__call__" = some (some (.builtin "type.__call__"))
  typ : instIn K (.ref 101) (.type "type") = some true
  init : findIn K (.ref 101) "__init__" = some (some (.ref 38))
  d30 : ∃ od sl tk n, K.lookup 30 = some ⟨.type "tuple", od, .seq #[.int 0 tk] n, sl⟩

/-- a dict that takes the size -/
noncomputable def preP : OP := fun o => ∃ es m sl, o = ⟨.type "dict", none, .dict es m, sl⟩ ∧ (es = #[] ∨ ∃ hsh tk k t, es = #[⟨hsh, .str "_initial_size" tk, .int k t⟩])
theorem szP_pre {k : Int} {o : Obj} (h : szP k o) : preP o := by
  obtain ⟨hsh, tk, t, m, sl, rfl⟩ := h
  exact ⟨_, _, _, rfl, .inr ⟨_, _, _, _, rfl⟩⟩
theorem pre_put {o : Obj} (h : preP o) (hsh : Int) (tk : Tok) (k : Int) (t : Tok) : szP k (Obj.putName "_initial_size" hsh (.str "_initial_size" tk) (.int k t) o) := by
  obtain ⟨es, m, sl, rfl, rfl | ⟨hsh', tk', k', t', rfl⟩⟩ := h
  · exact ⟨hsh, tk, t, m + 1, sl, rfl⟩
  · refine ⟨hsh', tk', t, m, sl, ?_⟩
    (first | (refine rwP (Obj.putName_eq) ?_; try with_reducible rfl) | rw [Obj.putName_eq])
    kernel_rfl
theorem refuse_acc (self : Value) : refuseLoop self "__setattr__" [.ref 101, .type "list", .type "object"] = pure () := by
  (first | (refine rwP (refuseLoop_ref) ?_; try with_reducible rfl) | rw [refuseLoop_ref]); kernel_rfl

section
variable {M : Model} {C : Cx} {σ σ' : Led} {ι ι' : Imm} {A : Around} {s : Shared} {E : Value → Shared → Prop} {a dx : Addr} {vs : Array Value} {k k' : Int}
theorem set_size {t : Tok} {P : OP} {Q : Unit → Shared → Prop} (X : CxOk C) (KK : KI C.K) (S : SS C σ ι s) (ha : (a, accP dx vs) ∈ σ) (u : Upd dx P (szP k) σ σ') (hP : ∀ o, P o → preP o)
    (h : ∀ s', SS C σ' ι s' → Q () s') : wpAny (model prg C.w) A (setAttr (.ref a) "_initial_size" (.int k t)) Q E s := by
  refine gen_P fun Pg kg => ?_
  obtain ⟨cd, hcd, hmro, hdict, -, -⟩ := KK.cd
  obtain ⟨hh, gg, dd, tt, oo⟩ := s
  obtain ⟨ox, ex, nx, slx, rfl⟩ := S.at ha
  obtain ⟨od, ed, pd⟩ := S.at u.mem
  refine kg ?_
  clear kg
  have pd' := hP od pd
  have K : C.K.In hh := S.kin X
  dsimp only at ex ed
  have ty : Looks (model prg C.w) hh (typeOf (.ref a)) (.ref 101) := (Looks.ld ex).andThen .now
  refine wpAny_bind (wpAny_mkText (wpAny_bind (wpAny_bind (wpAny_bind (ty.here ((looks_findIn K KK.sa).here (wpAny_holding ?_)))))))
  (first | (refine rwP (PySem.F.store_object.slot.bind) ?_; try with_reducible rfl) | rw [PySem.F.store_object.slot.bind])
  refine wpAny_bind (wpAny_pure (wpAny_bind (wpAny_call ?_)))
  have SF := PySem.F.store_object
  have sub : Looks (model prg C.w) hh (isInstance (.ref a) (.type "object")) true := ty.andThen (looks_mroIn K KK.isObj)
  refine codeAny_call_builtin SF.slot.plain SF.entry (@check_slot (model prg C.w) _ _ _ "object.__setattr__" "object" "__setattr__" (.ref a) [.str "_initial_size" tt, .int k t] [] _ SF.kind SF.split sub (SF.args _ _ _) ?_)
  obtain ⟨attr, hat, hr⟩ := Option.bind_eq_some_iff.mp KK.taker
  have hm : Looks (model prg C.w) hh (mroOf (.ref 101)) cd.mro := (looks_clsIn K hcd).andThen .now
  have L3 : Looks (model prg C.w) hh (storeTaker? attr) none := by
    cases attr with
    | none => cases hr; exact .now
    | some a =>
      obtain ⟨b, hb, e⟩ := Option.map_eq_some_iff.mp hr
      refine (looks_takesIn K hb).andThen ?_
      cases b with
      | false => exact .now
      | true => cases e
  show wpAny _ _ (Builtin.«object.__setattr__» ⟨[.ref a, .str "_initial_size" tt, .int k t], []⟩) _ _ ⟨hh, gg, dd, tt + 1, oo⟩
  (first | (refine rwP (osa_eq) ?_; refine rwP (refuse_eq) ?_; try with_reducible rfl) | rw [osa_eq, refuse_eq])
  refine wpAny_bind (wpAny_bind (ty.here (wpAny_bind (hm.here ?_))))
  (first | (refine rwP (hmro) ?_; refine rwP (refuse_acc) ?_; try with_reducible rfl) | rw [hmro, refuse_acc])
  refine wpAny_pure (wpAny_bind (ty.here (wpAny_bind ((looks_findIn K hat).here (wpAny_bind (L3.here ?_))))))
  refine wpAny_bind (wpAny_pure (wpAny_bind (wpAny_bind (wpAny_loadPart ex (wpAny_bind ((looks_clsIn K hcd).here ?_))))))
  (first | (refine rwP (hdict) ?_; try with_reducible rfl) | rw [hdict])
  refine wpAny_pure (a := some dx) (wpAny_bind (wpAny_pure (wpAny_bind ?_)))
  unfold nsSet
  refine wpAny_bind (wpAny_bind (wpAny_askSetting (wpAny_pure (wpAny_bind (wpAny_mkText (wpAny_bind (wpAny_loadPart ed ?_)))))))
  have c : Ex5 fun c d es m sl => od = ⟨c, d, .dict es m, sl⟩ ∧ (!es.any (·.key.isStr "_initial_size") && es.any (·.refKey)) = false := by
    obtain ⟨es, m, sl, rfl, e⟩ := pd'
    refine ⟨_, _, es, m, sl, rfl, ?_⟩
    rcases e with rfl | ⟨_, _, _, _, rfl⟩ <;> simp [Value.isStr]
  refine gen_P fun Pg kg => ?_
  obtain ⟨c1, c2, es, m, sl, rfl, c⟩ := c
  refine kg ?_
  clear kg
  dsimp only
  (first | (refine rwP (aRefKeyMayBeTheName_at) ?_; refine rwP (c) ?_; try with_reducible rfl) | rw [aRefKeyMayBeTheName_at, c])
  have S2 : SS C _ _ ⟨hh, gg, dd, tt + 1 + 1, oo⟩ := S
  have S3 := S2.upd (f := Obj.putName "_initial_size" (PyData.keyHash C.w.params "_initial_size") (.str "_initial_size" (tt + 1)) (.int k t)) u (fun o po => ?_)
  · refine wpAny_updatePart ed ?_
    obtain ⟨o', e', p'⟩ := S3.at u.mem'
    refine wpAny_bind (wpAny_lookBehind e' ?_ ?_)
    · obtain ⟨_, _, _, _, _, rfl⟩ := p'
      exact pastItsLine_dict (by (first | (refine rwP (sizeLine_eq) ?_; try with_reducible rfl) | rw [sizeLine_eq]); show 1 ≤ _; (first | lia | omega))
    · exact wpAny_pure (wpAny_pure (wpAny_pure (h _ S3)))
  · have q := pre_put (hP o po) (PyData.keyHash C.w.params "_initial_size") (tt + 1) k t
    refine ⟨q, ?_, szP_not q⟩
    obtain ⟨_, _, _, _, _, e⟩ := q
    (first | (refine rwP (e) ?_; try with_reducible rfl) | rw [e]); rfl

theorem Upd.other {P P' : OP} {p : Addr × OP} : ∀ {σ σ' : Led}, Upd a P P' σ σ' → p ∈ σ → p ∈ σ' ∨ p = (a, P)
  | _, _, .head, h => by
    rcases List.mem_cons.mp h with h | h
    · exact .inr h
    · exact .inl (.tail _ h)
  | _, _, .tail u, h => by
    rcases List.mem_cons.mp h with h | h
    · exact .inl (h ▸ .head _)
    · exact (u.other h).imp (.tail _) id
theorem Upd.refl {P : OP} : ∀ {σ : Led}, (a, P) ∈ σ → Upd a P P σ σ
  | p :: r, h => by
    by_cases e : p = (a, P)
    · subst e; exact .head
    · refine .tail (Upd.refl ?_)
      rcases List.mem_cons.mp h with h | h
      · exact (e h.symm).elim
      · exact h
theorem acc_listinit (X : CxOk C) (S : SS C σ ι s) (ha : (a, accP dx #[]) ∈ σ) {b : Addr} {Q : Value → Shared → Prop}
    (hb : s.heap.get? b = some { cls := .type "method-wrapper", data := .fields #[.builtin "list.__init__", .ref a] })
    (h : ∀ s', SS C σ ι s' → Q .none s') : wpAny (model prg C.w) A (call (.ref b) [] []) Q E s := by
  refine gen_P fun Pg kg => ?_
  obtain ⟨o, e, n, sl, rfl⟩ := S.at ha
  refine kg ?_
  clear kg
  have hk : builtinKind "list.__init__" = some .slot := by decide +kernel
  have hm := ha
  have ha := F.args_list_init_1 (.ref a)
  refine bound_call (id := "list.__init__") (x := a) (args := []) (B := Builtin.«list.__init__») hb (.inl rfl) F.slot_list_init.plain F.entry_list_init (fun q => ?_) ?_
  · exact chkB_slot (id := "list.__init__") (args := ⟨[.ref a], []⟩) hk ha q
  have hz1 : (#[] : Array Value).size ≤ sizeLine := Nat.zero_le _
  have hz' : (#[] : Array Value).size ≤ sizeLine + 1 := Nat.zero_le _
  unfold Builtin.«list.__init__»
  wp_walk using wpAny_loadPart' e, (wpAny_updateSeq e rfl (hz := hz1) (_hz' := hz')), wpAny_letGo
  exact h _ (S.upd (.refl hm) fun o po => accP_map rfl po)

theorem init_body {n : Nat} {t : Tok} {args : List Value} {Q : Value → Shared → Prop} (X : CxOk C) (KA : KF C.K) (KK : KS C.K) (KQ : KI C.K) (R : Room (n + 1) A) (S : SS C σ ι s)
    (ha : (a, accP dx #[]) ∈ σ) (u : Upd dx preP (szP k) σ σ')
    (hb : ∀ name doc pm an ct, BindsTo s (fnX name "_Accumulator.__init__" (argsOf (clsS 0)) (bodyOf (clsS 0)) (scopeOf (clsS 0)) [("__class__", 25)] (.ref 30) .none doc pm an (.ref 37) ct) ⟨args, []⟩ [("self", .ref a), ("initial_size", .int k t)])
    (h : ∀ s', SS C σ' ι s' → Q .none s') : wpAny (model prg C.w) A (call (.ref 38) args []) Q E s := by
  have ha' : (a, accP dx #[]) ∈ σ' := by
    rcases u.other ha with h | h
    · exact h
    · refine gen_P fun Pg kg => ?_
      obtain ⟨o, e, p⟩ := S.at ha
      obtain ⟨n, sl, eo⟩ := p
      refine kg ?_
      clear kg
      have e2 : accP dx #[] = preP := (Prod.mk.inj h).2
      have q : preP o := e2 ▸ ⟨n, sl, eo⟩
      refine gen_P fun Pg kg => ?_
      obtain ⟨_, _, _, e3, _⟩ := q
      refine kg ?_
      clear kg
      rw [eo] at e3; cases e3
  refine call_fnAt (binds := [("self", .ref a), ("initial_size", .int k t)]) X KK.fInit R S hb fun L s1 S1 R1 => ?_
  refine ks_wpAt_execs_cons (ks_wpAt_Assign_Attr (wpAt_of_wpAny ?_))
  refine n_local S1 (.head _) rfl ?_
  refine n_local S1 (.head _) rfl ?_
  refine set_size X KQ S1 (.tail _ ha) (.tail u) (fun _ h => h) fun s2 S2 => ?_
  refine ks_wpAt_execs_cons (ks_wpAt_Expr_any ?_)
  refine n_super X KA KK KK.fInit KK.f37 S2 (.tail _ ha') (.head _) rfl rfl rfl rfl rfl rfl KK.init G.type_init G.slot_wd.lookup
    (fun hI q => wd_get G.type_init cut_init hI q) (.inl rfl) (by decide) fun b s4 S4 eb => ?_
  refine acc_listinit X S4 (.tail _ ha') eb fun s5 S5 => ?_
  exact wpAt_of_wpAny (wpAny_execs_nil (h _ S5.tl))

noncomputable abbrev newSig : Manifest.Signature := ⟨.any, "list", "list", .cls, [⟨"args", .varPos, false⟩, ⟨"kwargs", .varKw, false⟩]⟩
theorem checkArgs_new (a : Addr) (l : List Value) : Bind.checkArgs "list.__new__" newSig ⟨.ref a :: l, []⟩ = pure () := by kernel_rfl
theorem sig_new : Manifest.signature? "list.__new__" = some newSig := by
  (first | (refine rwP (signature?_of (id := "list.__new__") (n := ['_', '_', 'w', 'e', 'n', '_', '_']) (o := ['t', 's', 'i', 'l']) (by kernel_rfl) F.owner_list) ?_; try with_reducible rfl) | rw [signature?_of (id := "list.__new__") (n := ['_', '_', 'w', 'e', 'n', '_', '_']) (o := ['t', 's', 'i', 'l']) (by kernel_rfl) F.owner_list]); kernel_rfl
theorem kind_list_new : builtinKind "list.__new__" = some .builtinFn := by decide +kernel
theorem split_list_new : splitId "list.__new__" = some ("list", "__new__") := by decide +kernel
noncomputable abbrev accObj (dx : Addr) : Obj := { cls := .ref 101, dict := some dx, data := .seq #[] }
theorem acc_made (X : CxOk C) (KK : KI C.K) {h : Heap} {g : Array GenState} {os : OsState} (S : St C σ ι h g os) : Looks (model prg C.w) h (Bind.madeBy (.ref 101)) (some "list.__new__") := by
  refine gen_P fun Pg kg => ?_
  obtain ⟨cd, hcd, hmro, hdict, hdel, habs⟩ := KK.cd
  obtain ⟨oc, od, dt, sl, ho, hsl⟩ := KK.made
  refine kg ?_
  clear kg
  have K : C.K.In h := S.kin X
  have ho' := K _ _ ho
  have hm : Looks (model prg C.w) h (mroOf (.ref 101)) cd.mro := (looks_clsIn K hcd).andThen .now
  intro A Q E s k q
  unfold Bind.madeBy
  refine wpAny_bind (hm A _ E s k ?_)
  (first | (refine rwP (hmro) ?_; refine rwP (List.forIn_cons) ?_; try with_reducible rfl) | rw [hmro, List.forIn_cons])
  refine wpAny_bind (wpAny_bind (wpAny_bind (wpAny_bind (wpAny_loadPart (k _ _ ho') (wpAny_pure ?_)))))
  dsimp only
  (first | (refine rwQ (Array.getElem?_toList) ?_; refine rwP (hsl) ?_; try with_reducible rfl) | rw [← Array.getElem?_toList, hsl])
  exact wpAny_pure (wpAny_pure (wpAny_pure q))
theorem list_new (X : CxOk C) (KA : KF C.K) (KK : KI C.K) {rest : List Value} {R : Result → Shared → Prop} {h : Heap} {g : Array GenState} {d : Drawn} {t : Nat} {os : OsState} (S : SS C σ ι ⟨h, g, d, t, os⟩)
    (hq : R (.ok (.ret (.ref (h.objs.size + 1)))) ⟨(h.push emptyDict).push (accObj h.objs.size), g, d, t, os⟩) :
    codeAny (model prg C.w) A (.call (.builtin "list.__new__") ⟨.ref 101 :: rest, []⟩) R ⟨h, g, d, t, os⟩ := by
  refine gen_P fun Pg kg => ?_
  obtain ⟨cd, hcd, hmro, hdict, hdel, habs⟩ := KK.cd
  obtain ⟨oc, od, dt, sl, ho, hsl⟩ := KK.made
  refine kg ?_
  clear kg
  have K : C.K.In h := S.kin X
  have ho' := K _ _ ho
  have hdt : dt = .cls cd := by
    refine gen_P fun Pg kg => ?_
    obtain ⟨_, _, _, q⟩ := cls_at hcd
    refine kg ?_
    clear kg
    rw [ho] at q; cases q; rfl
  subst hdt
  have hm : Looks (model prg C.w) h (mroOf (.ref 101)) cd.mro := (looks_clsIn K hcd).andThen .now
  have made := acc_made X KK S
  have base : Looks (model prg C.w) h (Bind.staticBase (.ref 101)) (.ref 101) := by
    intro A Q E s k q
    unfold Bind.staticBase
    refine wpAny_bind (hm A _ E s k ?_)
    (first | (refine rwP (hmro) ?_; refine rwP (List.forIn_cons) ?_; try with_reducible rfl) | rw [hmro, List.forIn_cons])
    exact wpAny_bind (wpAny_bind (wpAny_bind (made A _ E s k (wpAny_pure (wpAny_pure (wpAny_pure q))))))
  have isT : Looks (model prg C.w) h (isType (.ref 101)) true := (Looks.ld (part := none) ho').andThen .now
  have sub := looks_mroIn (M := model prg C.w) K KA.isList
  have here : Looks (model prg C.w) h (Bind.madeBy (.ref 101)) (some "list.__new__") := made
  refine codeAny_call_builtin_code (plainId_quiet F.plain_list_new _) ?_
  unfold checkBuiltinCall
  (first | (refine rwP (kind_list_new) ?_; refine rwP (split_list_new) ?_; try with_reducible rfl) | rw [kind_list_new, split_list_new])
  dsimp only
  (first | (refine rwP (sig_new) ?_; try with_reducible rfl) | rw [sig_new])
  dsimp only
  (first | (refine rwP (checkArgs_new) ?_; try with_reducible rfl) | rw [checkArgs_new])
  repeat (first | with_reducible refine wpIfN (by simp only [bne_self_eq_false, Bool.false_eq_true, not_false_eq_true]) ?_ | lk)
  refine codeAny_builtin_stack F.entry_list_new rfl fun p st => ?_
  have hown := owner_list_new
  simp only [hown]
  have hC' := Heap.get?_push_of_some (accObj h.objs.size) (Heap.get?_push_of_some emptyDict ho')
  repeat (first | lk)
  (first | (refine rwP (hdel) ?_; try with_reducible rfl) | rw [hdel])
  refine wpAny_pure (wpAny_pure ?_)
  show R _ _
  (first | (refine rwP (Heap.size_push) ?_; try with_reducible rfl) | rw [Heap.size_push])
  exact hq
noncomputable abbrev tcCode (rest : List Value) : Code := .builtin "type.__call__" ⟨.ref 101 :: rest, []⟩
theorem weight_tc (rest : List Value) : (tcCode rest).weight = 1 := by kernel_rfl
theorem envs_tc (rest : List Value) : (tcCode rest).envs = [] := by kernel_rfl
theorem units_tc (rest : List Value) : (tcCode rest).cUnits = 1 := by kernel_rfl
theorem Room.tc {n : Nat} (R : Room (n + 1) A) (rest : List Value) : Room n (A.under (tcCode rest)) := by
  refine ⟨?_, ?_, R.h, ?_⟩
  · show A.depth + (tcCode rest).weight + n ≤ _
    (first | (refine rwP (weight_tc) ?_; try with_reducible rfl) | rw [weight_tc]); have := R.d; (first | lia | omega)
  · show A.units + (tcCode rest).cUnits + 16 * n ≤ _
    (first | (refine rwP (units_tc) ?_; try with_reducible rfl) | rw [units_tc]); have := R.u; (first | lia | omega)
  · obtain ⟨fs, e⟩ := R.f
    exact ⟨fs, by unfold Around.under; show pushEnvs (tcCode rest).envs A.frames = _; (first | (refine rwP (envs_tc) ?_; refine rwP (e) ?_; try with_reducible rfl) | rw [envs_tc, e]); rfl⟩
theorem make_acc {n : Nat} (X : CxOk C) (KA : KF C.K) (KS' : KS C.K) (KK : KI C.K) {rest : List Value} {Q : Value → Shared → Prop} (R : Room (n + 1) A) (S : SS C σ ι s)
    (hq : ∀ x dx s', SS C ((x, accP dx #[]) :: (dx, preP) :: σ) ι s' → Room n (A.under (tcCode rest)) →
      wpAny (model prg C.w) (A.under (tcCode rest)) (call (.ref 38) (.ref x :: rest) []) (fun r s'' => r = .none ∧ Q (.ref x) s'') E s') :
    wpAny (model prg C.w) A (call (.ref 101) rest []) Q E s := by
  refine gen_P fun Pg kg => ?_
  obtain ⟨h, g, d, t, os⟩ := s
  obtain ⟨cd, hcd, hmro, hdict, hdel, habs⟩ := KK.cd
  obtain ⟨oc, od, dt, sl, ho, hsl⟩ := KK.made
  refine kg ?_
  clear kg
  have K : C.K.In h := S.kin X
  have ho' := K _ _ ho
  have hdt : dt = .cls cd := by
    refine gen_P fun Pg kg => ?_
    obtain ⟨_, _, _, q⟩ := cls_at hcd
    refine kg ?_
    clear kg
    rw [ho] at q; cases q; rfl
  subst hdt
  have call := looks_specialIn (M := model prg C.w) K KK.call
  have typ := looks_instIn (M := model prg C.w) K KK.typ
  refine wpAny_call (codeAny_of_tree ?_)
  show wpAny _ _ (callAny (.ref 101) _) _ _ _
  refine nd_load ho' ?_
  show wpAny _ _ (callAny.viaDunder (.ref 101) _) _ _ _
  unfold callAny.viaDunder
  refine wpAny_bind (call.at ?_)
  dsimp only
  (first | (refine rwP (tc_bind) ?_; try with_reducible rfl) | rw [tc_bind])
  refine wpAny_bind (wpAny_pure (wpAny_bind (wpAny_pure ?_)))
  refine wpAny_pure (a := Fin.again (.call (.builtin "type.__call__") ⟨.ref 101 :: rest, []⟩)) (And.intro rfl ?_)
  refine codeAny_call_builtin_at (Code.quiet_builtin _ (by decide +kernel)) entry_typeCall (check_slot tc_kind tc_split typ (tc_args _ _ _) ?_)
  unfold Builtin.«type.__call__»
  have made : Looks (model prg C.w) h (Bind.madeBy (.ref 101)) (some "list.__new__") := acc_made X KK S
  have hm : Looks (model prg C.w) h (mroOf (.ref 101)) [.ref 101, .type "list", .type "object"] := by
    (first | (refine rwQ (hmro) ?_; try with_reducible rfl) | rw [← hmro]); exact (looks_clsIn K hcd).andThen .now
  repeat (first | with_reducible refine wpIf0 ?_ | with_reducible refine wpAny_call ?_ | lk)
  refine list_new X KA KK S ?_
  have S1 := S.alloc (o := emptyDict) (P := preP) ⟨_, _, _, rfl, .inl rfl⟩ rfl (by rintro ⟨e, _⟩; injection e with e; exact absurd e (by decide))
  have S2 := S1.alloc (o := accObj h.objs.size) (P := accP h.objs.size #[]) ⟨_, _, rfl⟩ rfl (accP_not (dx := h.objs.size) (vs := #[]) ⟨_, _, rfl⟩)
  rw [Heap.size_push] at S2
  have hx : ((h.push emptyDict).push (accObj h.objs.size)).get? (h.objs.size + 1) = some (accObj h.objs.size) := by heap_get
  have K2 : C.K.In ((h.push emptyDict).push (accObj h.objs.size)) := S2.kin X
  have t1 : Looks (model prg C.w) ((h.push emptyDict).push (accObj h.objs.size)) (typeOf (.ref (h.objs.size + 1))) (.ref 101) := (Looks.ld hx).andThen .now
  have s1 := looks_mroIn (M := model prg C.w) K2 KS'.self
  have i1 := looks_findIn (M := model prg C.w) K2 KK.init
  have b1 := bind_fn (M := model prg C.w) K2 (.ref (h.objs.size + 1)) KS'.fInit.type
  unfold isInstance callSpecial? specialOf
  repeat (first | (fail_if_success (with_reducible refine wpAny_call ?_)); lk)
  refine wpAny_mono (hq (h.objs.size + 1) h.objs.size ⟨_, g, d, t, os⟩ S2 (R.tc rest)) (fun r s'' z => ?_) fun _ _ z => z
  obtain ⟨rfl, z⟩ := z
  exact wpAny_pure (wpAny_pure z)

/-- _Accumulator(k) -/
theorem make_c {n : Nat} {t : Tok} (X : CxOk C) (KA : KF C.K) (KS' : KS C.K) (KK : KI C.K) {Q : Value → Shared → Prop} (R : Room (n + 2) A) (S : SS C σ ι s)
    (hq : ∀ x dx s', SS C ((x, accP dx #[]) :: (dx, szP k) :: σ) ι s' → Q (.ref x) s') :
    wpAny (model prg C.w) A (call (.ref 101) [.int k t] []) Q E s := by
  refine make_acc X KA KS' KK R S fun x dx s1 S1 R1 => ?_
  refine gen_P fun Pg kg => ?_
  obtain ⟨od, sl, tk, nn, e⟩ := KK.d30
  refine kg ?_
  clear kg
  refine wpAny_mono (init_body (E := E) (k := k) (t := t) X KA KS' KK R1 S1 (.head _) (.tail .head) (fun _ _ _ _ _ => BindsTo.of_defaults rfl (S1.kin X _ _ e) rfl rfl rfl) fun s2 S2 => ?_) (fun _ _ z => z) fun _ _ z => z
  exact ⟨rfl, hq _ _ _ S2⟩
/-- _Accumulator() -/
theorem make0_c {n : Nat} (X : CxOk C) (KA : KF C.K) (KS' : KS C.K) (KK : KI C.K) {Q : Value → Shared → Prop} (R : Room (n + 2) A) (S : SS C σ ι s)
    (hq : ∀ x dx s', SS C ((x, accP dx #[]) :: (dx, szP 0) :: σ) ι s' → Q (.ref x) s') :
    wpAny (model prg C.w) A (call (.ref 101) [] []) Q E s := by
  refine make_acc X KA KS' KK R S fun x dx s1 S1 R1 => ?_
  refine gen_P fun Pg kg => ?_
  obtain ⟨od, sl, tk, nn, e⟩ := KK.d30
  refine kg ?_
  clear kg
  refine wpAny_mono (init_body (E := E) (k := 0) (t := tk) X KA KS' KK R1 S1 (.head _) (.tail .head) (fun _ _ _ _ _ => BindsTo.of_defaults rfl (S1.kin X _ _ e) rfl rfl rfl) fun s2 S2 => ?_) (fun _ _ z => z) fun _ _ z => z
  exact ⟨rfl, hq _ _ _ S2⟩
end
end Mine
end Part9
section Part10
set_option tactic.hygienic false
open PySem PySem.W PySem.W.X PySem.Calls PyProof.Rows
set_option maxRecDepth 100000
namespace Mine

/-! ## names stored -/
noncomputable def put (m : Str → Option Value) (x : Str) (v : Value) : Str → Option Value := fun y => if y = x then some v else m y
theorem put_same {m : Str → Option Value} {x : Str} {v : Value} : put m x v x = some v := if_pos rfl
theorem put_ne {m : Str → Option Value} {x y : Str} {v : Value} (h : (y == x) = false) : put m x v y = m y := if_neg (by simpa using h)

section
variable {C : Cx} {σ σ' : Led} {ι ι' : Imm} {h h' : Heap} {g : Array GenState} {os : OsState}
theorem St.forget {a : Addr} {P : OP} (S : St C ((a, P) :: σ) ι h g os) (hs : Heap.SameBut a h h') : St C σ ι h' g os := by
  refine gen_P fun Pg kg => ?_
  obtain ⟨oa, ea, _, nta, nba⟩ := S.own _ (.head _)
  refine kg ?_
  clear kg
  have nba : C.base.get? a = none := nba
  have nd := S.nd
  rw [List.map_cons, List.nodup_cons] at nd
  refine ⟨nd.2, fun p hp => ?_, fun p hp => ?_, fun b o e n => ?_, fun P hP => ?_, by (first | (refine rwP (hs.1) ?_; try with_reducible rfl) | rw [hs.1]); exact S.big, S.gens, S.os⟩
  · obtain ⟨o, e, r⟩ := S.own p (.tail _ hp)
    exact ⟨o, (hs.2 _ fun q => nd.1 (by (first | (refine rwQ (q) ?_; try with_reducible rfl) | rw [← q]); exact List.mem_map_of_mem (f := (·.1)) hp)).trans e, r⟩
  · obtain ⟨e, t, n⟩ := S.imm p hp
    refine ⟨(hs.2 _ fun q => ?_).trans e, t, n⟩
    rw [q] at e
    rw [show h.get? a = some oa from ea] at e
    cases e
    exact nta t
  · refine (hs.2 _ fun q => ?_).trans (S.old b o e n)
    rw [q, nba] at e; cases e
  · refine gen_P fun Pg kg => ?_
    obtain ⟨c, ps, mr, hc, ic, ⟨⟨oc, vc, ec, r⟩, et⟩, ⟨⟨oc', vc', ec', r'⟩, et'⟩⟩ := (S.tab P hP).more
    refine kg ?_
    clear kg
    have n1 : c ≠ a := fun q => by rw [q, nba] at ec; cases ec
    have n2 : P ≠ a := fun q => by rw [q, nba] at et; cases et
    exact ⟨c, ps, mr, hc, ic.sameBut hs n1 n2, ⟨⟨oc, vc, ec, r⟩, et⟩, ⟨⟨oc', vc', (hs.2 _ n1).trans ec', r'⟩, (hs.2 _ n2).trans et'⟩⟩

theorem St.swap {p q : Addr × OP} (S : St C (p :: q :: σ) ι h g os) : St C (q :: p :: σ) ι h g os := by
  refine ⟨?_, fun r hr => S.own r ?_, S.imm, S.old, S.tab, S.big, S.gens, S.os⟩
  · have := S.nd
    simp only [List.map_cons, List.nodup_cons, List.mem_cons, not_or] at this ⊢
    exact ⟨⟨fun e => this.1.1 e.symm, this.2.1⟩, this.1.2, this.2.2⟩
  · simp only [List.mem_cons] at hr ⊢
    rcases hr with h | h | h
    · exact .inr (.inl h)
    · exact .inl h
    · exact .inr (.inr h)
end

section
variable {C : Cx} {σ σ' : Led} {ι ι' : Imm} {A : Around} {s : Shared} {E : Value → Shared → Prop}
theorem n_store {x : Str} {env : Env} {m : Str → Option Value} {v : Value} {Q : Unit → Shared → Prop} (S : SS C σ ι s) (u : Upd env.locals (nsP m) (nsP (put m x v)) σ σ')
    (h : ∀ s', SS C σ' ι s' → Q () s') (hl : autoParam (env.kindOf x = some .local) tacRfl)
    (hp : autoParam ((env.scope.kind == .class || (env.scope.kind == .module && env.locals != env.globals)) = false) tacRfl) : wpAny (model prg C.w) A (storeName env x v) Q E s := by
  refine wpAny_storeName_local hl (SS.ns S u.mem) (fun h' hn hs => ?_) hp
  obtain ⟨o, e, p⟩ := of_ns hn
  exact h _ (S.same u hs e p (nsP_not p))
theorem n_storeC {x : Str} {env : Env} {c : Addr} {v₀ : Option Value} {v : Value} {Q : Unit → Shared → Prop} (S : SS C σ ι s) (hc : env.cells.lookup x = some c) (u : Upd c (cellP v₀) (cellP (some v)) σ σ')
    (h : ∀ s', SS C σ' ι s' → Q () s') (hk : autoParam (env.scope.kind = .function) tacRfl) (hl : autoParam (env.kindOf x = some .cell) tacRfl) : wpAny (model prg C.w) A (storeName env x v) Q E s := by
  refine wpAny_storeName_cell hk hl hc (SS.cell S u.mem) (fun h' hn hs => ?_)
  obtain ⟨o, e, p⟩ := hn
  exact h _ (S.same u hs e p (cellP_not p))
end

/-! ## what is iterated -/
noncomputable def seqP (vs : Array Value) : OP := fun o => ∃ n, o.data = .seq vs n
noncomputable def lstP (vs : Array Value) : OP := fun o => (o.cls = .type "list" ∧ o.dict = none) ∧ ∃ n, o.data = .seq vs n
noncomputable def liP (l : Addr) (i : Nat) : OP := fun o => o.cls = .type "list_iterator" ∧ o.data = .fields #[.ref l, .int i 0]
theorem lstP_not {vs : Array Value} {o : Obj} (h : lstP vs o) : ¬ isTup o := by
  rintro ⟨e, _⟩; rw [h.1.1] at e; injection e with e; exact absurd e (by decide)
theorem liP_not {l : Addr} {i : Nat} {o : Obj} (h : liP l i o) : ¬ isTup o := by
  rintro ⟨e, _⟩; rw [h.1] at e; injection e with e; exact absurd e (by decide)
theorem lstP_seq {vs : Array Value} {o : Obj} (h : lstP vs o) : seqP vs o := h.2
theorem accP_seq {dx : Addr} {vs : Array Value} {o : Obj} (h : accP dx vs o) : seqP vs o := by
  obtain ⟨n, sl, rfl⟩ := h; exact ⟨_, rfl⟩

/-- an iterator that walks n steps -/
structure Walker (C : Cx) (it : Addr) (J : Nat → OP) (n : Nat) (is : Nat → Value → Imm → Prop) (need : Led → Prop) : Prop where
  again : ∀ {A E σ ι s} {Q : Value → Shared → Prop} {i : Nat}, SS C ((it, J i) :: σ) ι s → Q (.ref it) s → wpAny (model prg C.w) A (pyIter (.ref it)) Q E s
  next : ∀ {A E σ ι s i} {Q : Option Value → Shared → Prop}, i < n → SS C ((it, J i) :: σ) ι s → need σ →
    (∀ v ι' s', ι ⊆ ι' → is i v ι' → SS C ((it, J (i + 1)) :: σ) ι' s' → Q (some v) s') → wpAny (model prg C.w) A (pyNext (.ref it)) Q E s
  stop : ∀ {A E σ ι s} {Q : Option Value → Shared → Prop}, A.handled = none → SS C ((it, J n) :: σ) ι s → need σ → (∀ s', SS C σ ι s' → Q none s') →
    wpAny (model prg C.w) A (pyNext (.ref it)) Q E s

section
variable {C : Cx} {σ σ' : Led} {ι ι' : Imm} {A : Around} {s : Shared} {E : Value → Shared → Prop}

theorem li_walker {it l : Addr} {vs : Array Value} : Walker C it (liP l) vs.size (fun i v _ => vs[i]? = some v) (fun σ => ∃ P, (l, P) ∈ σ ∧ ∀ o, P o → seqP vs o) := by
  refine ⟨fun {A E σ ι s Q i} S q => ?_, fun {A E σ ι s i Q} hi S hn q => ?_, fun {A E σ ι s Q} hh S hn q => ?_⟩
  · obtain ⟨o, e, p⟩ := S.at (.head _)
    exact wpAny_pyIter_listiter ⟨o, e, p.1, p.2⟩ q
  · refine gen_P fun Pg kg => ?_
    obtain ⟨o, ho, hc, hd⟩ := S.at (.head _)
    obtain ⟨P, hP, hs⟩ := hn
    obtain ⟨ol, hol, pl⟩ := S.at (.tail _ hP)
    obtain ⟨nl, hdl⟩ := hs _ pl
    refine kg ?_
    clear kg
    have hit : s.heap.IsListIter it l i := ⟨o, ho, hc, hd⟩
    have hx : vs[i]? = some vs[i] := by (first | (refine rwP (Array.getElem?_eq_getElem hi) ?_; try with_reducible rfl) | rw [Array.getElem?_eq_getElem hi])
    unfold pyNext
    refine wpAny_bind (wpAny_attempt (wpAny_callSpecial?_slot (name := Str.ofString "__next__") hit.typeIs slot_listiter_next
      (wpAny_call_entry slot_listiter_next hit.typeIs entry_listiter_next ?_ (args_listiter_next _))))
    show wpAny _ _ (field (.ref it) 0 >>= _) _ _ s
    refine wpAny_bind (wpAny_field ho hd (x := .ref l) rfl ?_)
    show wpAny _ _ (if (Value.ref l == Value.none) = true then _ else _) _ _ s
    (first | (refine rwP (if_neg (show ¬ ((Value.ref l == Value.none) = true) from Bool.false_ne_true)) ?_; try with_reducible rfl) | rw [if_neg (show ¬ ((Value.ref l == Value.none) = true) from Bool.false_ne_true)])
    show wpAny _ _ (field (.ref it) 1 >>= _) _ _ s
    refine wpAny_bind (wpAny_field ho hd (x := .int i 0) rfl ?_)
    show wpAny _ _ (seqItems? (.ref l) >>= _) _ _ s
    refine wpAny_bind (wpAny_seqItems hol hdl ?_)
    (first | (refine rwP (Int.toNat_natCast) ?_; try with_reducible rfl) | rw [Int.toNat_natCast]); dsimp only; (first | (refine rwP (hx) ?_; try with_reducible rfl) | rw [hx]); dsimp only
    refine wpAny_bind (wpAny_setField ho hd (by simp) (wpAny_pure ⟨vs[i], rfl, wpAny_pure (q _ ι _ (fun _ h => h) hx ?_)⟩))
    refine S.upd .head fun o' p' => ?_
    have e : liP l (i + 1) (Obj.mapFields (fun vs => vs.setIfInBounds 1 (rawInt (i + 1))) o') := ⟨(Obj.cls_mapFields ..).trans p'.1, by (first | (refine rwP (Obj.data_mapFields p'.2) ?_; try with_reducible rfl) | rw [Obj.data_mapFields p'.2]); simp [rawInt]⟩
    exact ⟨e, Obj.isFreed_of_fields e.2, liP_not e⟩
  · refine gen_P fun Pg kg => ?_
    obtain ⟨o, ho, hc, hd⟩ := S.at (.head _)
    obtain ⟨P, hP, hs⟩ := hn
    obtain ⟨ol, hol, pl⟩ := S.at (.tail _ hP)
    obtain ⟨nl, hdl⟩ := hs _ pl
    refine kg ?_
    clear kg
    have hit : s.heap.IsListIter it l vs.size := ⟨o, ho, hc, hd⟩
    have hx : vs[vs.size]? = none := by simp
    unfold pyNext
    refine wpAny_bind (wpAny_attempt (wpAny_callSpecial?_slot (name := Str.ofString "__next__") hit.typeIs slot_listiter_next
      (wpAny_call_entry slot_listiter_next hit.typeIs entry_listiter_next ?_ (args_listiter_next _))))
    show wpAny _ _ (field (.ref it) 0 >>= _) _ _ s
    refine wpAny_bind (wpAny_field ho hd (x := .ref l) rfl ?_)
    show wpAny _ _ (if (Value.ref l == Value.none) = true then _ else _) _ _ s
    (first | (refine rwP (if_neg (show ¬ ((Value.ref l == Value.none) = true) from Bool.false_ne_true)) ?_; try with_reducible rfl) | rw [if_neg (show ¬ ((Value.ref l == Value.none) = true) from Bool.false_ne_true)])
    show wpAny _ _ (field (.ref it) 1 >>= _) _ _ s
    refine wpAny_bind (wpAny_field ho hd (x := .int vs.size 0) rfl ?_)
    show wpAny _ _ (seqItems? (.ref l) >>= _) _ _ s
    refine wpAny_bind (wpAny_seqItems hol hdl ?_)
    (first | (refine rwP (Int.toNat_natCast) ?_; try with_reducible rfl) | rw [Int.toNat_natCast]); dsimp only; (first | (refine rwP (hx) ?_; try with_reducible rfl) | rw [hx]); dsimp only
    refine wpAny_bind (wpAny_rule (wpAny_bind (wpAny_setField ho hd (by simp) ?_)))
    show wpAny _ _ (newExc (.type "StopIteration") [] >>= _) _ _ _
    refine wpAny_bind ?_
    dsimp only [newExc, newTuple]
    refine wpAny_bind (wpAny_newObj_type ?_ (by size_fits))
    refine wpAny_bind (m := firstArgMember _ _) (wpAny_of_eq (a := Value.none) (by first | rfl | (simp only [firstArgMember]; rfl)) ?_)
    refine wpAny_newObj_type ?_ (by size_fits)
    dsimp only [raiseNew]
    refine wpAny_bind (wpAny_handled ?_)
    (first | (refine rwP (show A.in1.handled = none from hh) ?_; try with_reducible rfl) | rw [show A.in1.handled = none from hh])
    refine wpAny_bind (wpAny_pure (wpAny_throw ?_))
    refine wpAny_bind (wpAny_isInstance (T := "StopIteration") (b := true) ⟨_, Heap.get?_push_size _ rfl, rfl⟩ isSubtype_stop ?_)
    exact wpAny_pure (q _ (((S.forget (Heap.SameBut.update ..)).push _).push _))
end
end Mine
end Part10
section Part11
set_option tactic.hygienic false
open PySem PySem.W PySem.W.X PySem.Calls PyProof.Rows
set_option maxRecDepth 100000
namespace Mine

section
variable {C : Cx} {σ σ' : Led} {ι ι' : Imm} {A : Around} {s : Shared} {E : Value → Shared → Prop} {a dx : Addr} {vs : Array Value}

/-! ## loops -/
theorem for_w {it : Addr} {J : Nat → OP} {n : Nat} {is : Nat → Value → Imm → Prop} {need : Led → Prop} {target : Expr} {body orelse : List Stmt} {env : Env} {R : Result → Shared → Prop}
    (W : Walker C it J n is need) (Inv : Nat → Led → Imm → Prop) (hneed : ∀ i σ ι, Inv i σ ι → need σ)
    (step : ∀ i σ ι ι' v s, i < n → Inv i σ ι → ι ⊆ ι' → is i v ι' → SS C ((it, J (i + 1)) :: σ) ι' s →
      wpAny (model prg C.w) A (assign target env v) (fun _ s₂ => wpAny (model prg C.w) A (execs body env) (fun f s₃ => match f with
        | .next | .cont => ∃ σ' ι', SS C ((it, J (i + 1)) :: σ') ι' s₃ ∧ Inv (i + 1) σ' ι'
        | .brk => R (.ok .next) s₃
        | .ret v => R (.ok (.ret v)) s₃) (notedBy (model prg C.w) A env fun e s' => R (.error e) s') s₂) (notedBy (model prg C.w) A env fun e s' => R (.error e) s') s)
    (done : ∀ σ ι s, Inv n σ ι → SS C σ ι s → wpAny (model prg C.w) A (execs orelse env) (fun f s₃ => R (.ok f) s₃) (notedBy (model prg C.w) A env fun e s' => R (.error e) s') s)
    (hA : A.handled = none) (S : SS C ((it, J 0) :: σ) ι s) (h0 : Inv 0 σ ι) (ht : autoParam (∀ v, letOwnedTupleGo target (.ref it) v = pure ()) tacRfl1) :
    codeAny (model prg C.w) A (.forLoop target (.ref it) body orelse env) R s := by
  refine codeAny_forLoop (fun k s => Ex3 fun i σ ι => And3 (i + k = n) (SS C ((it, J i) :: σ) ι s) (Inv i σ ι)) (fun k s hk => ?_) n ⟨0, σ, ι, Nat.zero_add _, S, h0⟩ ht
  obtain ⟨i, σ, ι, e, S, hI⟩ := hk
  by_cases hi : i < n
  · refine W.next hi S (hneed _ _ _ hI) fun v ι' s' hι hv S' => ?_
    refine wpAny_mono (step i σ ι ι' v s' hi hI hι hv S') (fun _ s2 h2 => wpAny_mono h2 (fun f s3 h3 => ?_) fun _ _ x => x) fun _ _ x => x
    cases f with
    | next => obtain ⟨σ', ι', S3, h⟩ := h3; exact ⟨k - 1, by (first | lia | omega), i + 1, σ', ι', by (first | lia | omega), S3, h⟩
    | cont => obtain ⟨σ', ι', S3, h⟩ := h3; exact ⟨k - 1, by (first | lia | omega), i + 1, σ', ι', by (first | lia | omega), S3, h⟩
    | brk => exact h3
    | ret v => exact h3
  · have : i = n := by (first | lia | omega)
    subst this
    exact W.stop hA S (hneed _ _ _ hI) fun s' S' => done σ ι s' hI S'

theorem iter_list {l : Addr} {Q : Value → Shared → Prop} (S : SS C σ ι s) (hl : (l, lstP vs) ∈ σ) (h : ∀ it s', SS C ((it, liP l 0) :: σ) ι s' → Q (.ref it) s') :
    wpAny (model prg C.w) A (pyIter (.ref l)) Q E s := by
  obtain ⟨o, e, p⟩ := S.at hl
  refine wpAny_pyIter_list ⟨o, e, p.1.1, p.2⟩ (h _ _ ?_)
  have e : liP l 0 { cls := .type "list_iterator", data := .fields #[.ref l, .int 0 0] } := ⟨rfl, rfl⟩
  exact S.alloc e rfl (liP_not e)

structure KT (K : Frag) : Prop where
  iter : findIn K (.ref 101) "__iter__" = some (some (.builtin "list.__iter__"))

theorem iter_acc {Q : Value → Shared → Prop} (X : CxOk C) (KA : KF C.K) (KK : KT C.K) (S : SS C σ ι s) (ha : (a, accP dx vs) ∈ σ) (h : ∀ it s', SS C ((it, liP a 0) :: σ) ι s' → Q (.ref it) s') :
    wpAny (model prg C.w) A (pyIter (.ref a)) Q E s := by
  refine gen_P fun Pg kg => ?_
  obtain ⟨o, e, n, sl, rfl⟩ := S.at ha
  refine kg ?_
  clear kg
  have K := S.kin X
  have ty : Looks (model prg C.w) s.heap (typeOf (.ref a)) (.ref 101) := (Looks.ld e).andThen .now
  have lk := looks_findIn (M := model prg C.w) K KK.iter
  unfold pyIter
  refine wpAny_bind (wpAny_bind (ty.here (lk.here ?_)))
  refine wpAny_bind ?_
  have eb : liP a 0 { cls := .type "list_iterator", data := .fields #[.ref a, .int 0 0] } := ⟨rfl, rfl⟩
  have fin : wpAny (model prg C.w) A (call (.builtin "list.__iter__") [.ref a]) (fun v s' => wpAny (model prg C.w) A (specialOf v "__next__" >>= fun r => match r with
      | none => (do rule "iter.non-iterator"; raiseError "TypeError" s!"iter() returned non-iterator of type '{← typeNameOf v}'")
      | some _ => pure v) Q E s') E s := by
    refine call_b F.slot_list_iter.plain F.entry_list_iter (chk (owner := "list") (n := "__iter__") (.inr (by decide +kernel)) (by decide +kernel) (acc_isList X KA S ha) (args_list_iter _) ?_)
    show wpAny _ _ (do ret (← newFields "list_iterator" [.ref a, rawInt 0])) _ _ s
    refine wpAny_bind (wpAny_newObj_type (wpAny_pure ?_))
    have S' := S.alloc eb rfl (liP_not eb)
    refine wpAny_bind (wpAny_specialOf (T := "list_iterator") ⟨_, Heap.get?_push_size _ rfl, rfl⟩ slot_listiter_next.lookup ?_)
    exact wpAny_pure (h _ _ S')
  dsimp only [callSpecialIfBoundUnlessNone?, bindSpecialIfBound?]
  refine wpAny_holding (wpAny_bind (wpAny_bind (wpAny_bind (ty.here (lk.here ?_)))))
  dsimp only
  (first | (refine rwP (F.slot_list_iter.bind) ?_; try with_reducible rfl) | rw [F.slot_list_iter.bind])
  refine wpAny_bind (wpAny_askSetting (wpIfB ?_ ?_))
  · exact wpAny_bind (wpAny_pure (wpAny_pure (wpAny_bind (wpAny_mono fin (fun v s' h' => wpAny_pure h') fun _ _ h' => h'))))
  · exact wpAny_tryCatch (wpAny_bind (wpAny_pure (wpAny_pure (wpAny_bind (wpAny_mono fin (fun v s' h' => wpAny_pure h') fun _ _ h' => h')))))

/-! ## comprehensions -/
theorem list_push {l : Addr} {x : Value} {Q : Value → Shared → Prop} (S : SS C σ ι s) (u : Upd l (lstP vs) (lstP (vs.push x)) σ σ') (hz : vs.size ≤ sizeLine) (h : ∀ s', SS C σ' ι s' → Q .none s') :
    wpAny (model prg C.w) A (call (.builtin "list.append") [.ref l, x]) Q E s := by
  refine gen_P fun Pg kg => ?_
  obtain ⟨o, e, ⟨p1, p2⟩, n, p3⟩ := S.at u.mem
  refine kg ?_
  clear kg
  refine list_append_plainL ⟨o, n, e, p1, p2, p3⟩ (fun h' ⟨o', n', e', q1, q2, q3⟩ hs => ?_) hz
  exact h _ (S.same u hs e' ⟨⟨q1, q2⟩, n', q3⟩ (lstP_not (vs := vs.push x) ⟨⟨q1, q2⟩, n', q3⟩))

theorem comp_w {it : Addr} {J : Nat → OP} {n : Nat} {is : Nat → Value → Imm → Prop} {need : Led → Prop} {elt target iter : Expr} {scope : Scope} {pos : Pos} {cenv : Env} {D acc : Addr} {R : Result → Shared → Prop}
    (W : Walker C it J n is need) (Inv : Nat → Array Value → Led → Imm → Prop) (hneed : ∀ i out m σ ι, Inv i out σ ι → need ((D, nsP m) :: (acc, lstP out) :: σ))
    (step : ∀ i out m σ ι ι' v s, i < n → Inv i out σ ι → ι ⊆ ι' → is i v ι' → SS C ((it, J (i + 1)) :: (D, nsP m) :: (acc, lstP out) :: σ) ι' s →
      wpAny (model prg C.w) A (assign target cenv v) (fun _ s₂ => wpAny (model prg C.w) A (eval elt cenv) (fun x s₃ => Ex3 fun m' σ' ι' => SS C ((it, J (i + 1)) :: (D, nsP m') :: (acc, lstP out) :: σ') ι' s₃ ∧ Inv (i + 1) (out.push x) σ' ι')
        (notedBy (model prg C.w) A cenv fun e s' => R (.error e) s') s₂) (notedBy (model prg C.w) A cenv fun e s' => R (.error e) s') s)
    (hsz : ∀ i out σ ι, i < n → Inv i out σ ι → out.size ≤ sizeLine)
    (done : ∀ out m σ ι s, Inv n out σ ι → SS C ((D, nsP m) :: (acc, lstP out) :: σ) ι s → R (.ok .next) s)
    (hA : A.handled = none) {m : Str → Option Value} (S : SS C ((it, J 0) :: (D, nsP m) :: (acc, lstP #[]) :: σ) ι s) (h0 : Inv 0 #[] σ ι) (ht : autoParam (∀ v, letOwnedTupleGo target (.ref it) v = pure ()) tacRfl1) :
    codeAny (model prg C.w) A (.compStart (.ListComp elt [⟨target, iter, [], 0⟩] scope pos) 0 (.ref it) (.ref acc) cenv) R s := by
  have loop : ∀ s, SS C ((it, J 0) :: (D, nsP m) :: (acc, lstP #[]) :: σ) ι s → codeAny (model prg C.w) A (.compLoop (.ListComp elt [⟨target, iter, [], 0⟩] scope pos) 0 (.ref it) (.ref acc) cenv) R s := fun s S => by
    refine codeAny_compLoop_list (fun k s => Ex5 fun i out m σ ι => And3 (i + k = n) (SS C ((it, J i) :: (D, nsP m) :: (acc, lstP out) :: σ) ι s) (Inv i out σ ι)) (fun k s hk => ?_) n ⟨0, #[], m, σ, ι, Nat.zero_add _, S, h0⟩ ht
    obtain ⟨i, out, m, σ, ι, e, S, hI⟩ := hk
    by_cases hi : i < n
    · refine W.next hi S (hneed _ _ _ _ _ hI) fun v ι' s' hι hv S' => ?_
      refine wpAny_mono (step i out m σ ι ι' v s' hi hI hι hv S') (fun _ s2 h2 => wpAny_mono h2 (fun x s3 h3 => ?_) fun _ _ x => x) fun _ _ x => x
      obtain ⟨m', σ', ι'', S3, h⟩ := h3
      exact list_push S3 (.tail (.tail .head)) (hsz _ _ _ _ hi hI) fun s4 S4 => ⟨k - 1, by (first | lia | omega), i + 1, out.push x, m', σ', ι'', by (first | lia | omega), S4, h⟩
    · have : i = n := by (first | lia | omega)
      subst this
      exact W.stop hA S (hneed _ _ _ _ _ hI) fun s' S' => done out m σ ι s' hI S'
  exact codeAny_compStart_list (loop s S) (W.again S (loop s S))
end
end Mine
end Part11
section Part12
set_option tactic.hygienic false
open PySem PySem.W PySem.W.X PySem.Calls PyProof.Rows
set_option maxRecDepth 100000
namespace Mine

section
variable {C : Cx} {σ σ' : Led} {ι ι' : Imm} {A : Around} {s : Shared} {E : Value → Shared → Prop} {a dx : Addr} {vs : Array Value}
theorem St.perm {h : Heap} {g : Array GenState} {os : OsState} (S : St C σ ι h g os) (p : σ.Perm σ') : St C σ' ι h g os :=
  ⟨(p.map _).nodup_iff.mp S.nd, fun q hq => S.own q (p.mem_iff.mpr hq), S.imm, S.old, S.tab, S.big, S.gens, S.os⟩

theorem n_newList {vs : List Value} {Q : Value → Shared → Prop} (S : SS C σ ι s) (h : ∀ l s', SS C ((l, lstP vs.toArray) :: σ) ι s' → Q (.ref l) s') (hz : vs.length ≤ sizeLine := by size_fits) :
    wpAny (model prg C.w) A (newList vs) Q E s := by
  refine wpAny_newObj_type (h _ _ ?_) (by show vs.toArray.size ≤ _; (first | (refine rwP (List.size_toArray) ?_; try with_reducible rfl) | rw [List.size_toArray]); exact hz)
  have e : lstP vs.toArray { cls := .type "list", data := .seq vs.toArray } := ⟨⟨rfl, rfl⟩, _, rfl⟩
  exact S.alloc e rfl (lstP_not e)

structure CompOk (C : Cx) (A : Around) (elt target : Expr) (scope : Scope) (env : Env) (cl : List (Str × Addr)) (Q : Value → Shared → Prop)
    (it : Addr) (J : Nat → OP) (n : Nat) (is : Nat → Value → Imm → Prop) (need : Led → Prop) (Inv : Nat → Array Value → Led → Imm → Prop) : Prop where
  W : Walker C it J n is need
  need : ∀ i out m D acc σ ι, Inv i out σ ι → need ((D, nsP m) :: (acc, lstP out) :: σ)
  size : ∀ i out σ ι, i < n → Inv i out σ ι → out.size ≤ sizeLine
  step : ∀ i out m D acc σ ι ι' v s E, i < n → Inv i out σ ι → ι ⊆ ι' → is i v ι' → SS C ((it, J (i + 1)) :: (D, nsP m) :: (acc, lstP out) :: σ) ι' s →
      wpAny (model prg C.w) A (assign target (compEnvC scope cl D env) v) (fun _ s₂ => wpAny (model prg C.w) A (eval elt (compEnvC scope cl D env)) (fun x s₃ =>
        Ex3 fun m' σ' ι' => SS C ((it, J (i + 1)) :: (D, nsP m') :: (acc, lstP out) :: σ') ι' s₃ ∧ Inv (i + 1) (out.push x) σ' ι') E s₂) E s
  done : ∀ out acc σ ι s, Inv n out σ ι → SS C ((acc, lstP out) :: σ) ι s → Q (.ref acc) s

theorem comp_eval {elt target iter : Expr} {scope : Scope} {pos : Pos} {env : Env} {cl : List (Str × Addr)} {Q : Value → Shared → Prop}
    (h : wpAny (model prg C.w) A (eval iter env) (fun x s₁ => wpAny (model prg C.w) A (pyIter x) (fun itv s₂ => Ex8 fun it J n is need Inv σ ι => And4 (itv = .ref it) (SS C ((it, J 0) :: σ) ι s₂) (Inv 0 #[] σ ι) (CompOk C A elt target scope env cl Q it J n is need Inv)) E s₁) E s)
    (hA : A.handled = none) (hclos : closureFor scope env = pure cl) (ht : autoParam (∀ it v, letOwnedTupleGo target (.ref it) v = pure ()) tacRfl2)
    (hcell : autoParam (∀ x ∈ scope.names, x.2 ≠ .cell) tacDec) (hkind : autoParam (scope.kind = .function) tacRfl) (hnames : autoParam (∀ x ∈ scope.names, x.2 = .local → scope.names.lookup x.1 = some .local) tacDec)
    (hs : autoParam (∀ x, foldedSetIterable iter env x = pure x) tacRfl1) : wpAny (model prg C.w) A (eval (.ListComp elt [⟨target, iter, [], 0⟩] scope pos) env) Q E s := by
  (first | (refine rwP (eval_ListComp) ?_; try with_reducible rfl) | rw [eval_ListComp])
  refine wpAny_comprehension_free rfl hs hclos hkind hnames ?_
  refine wpAny_mono h (fun x s1 h1 => wpAny_mono h1 (fun itv s2 h2 => ?_) fun _ _ x => x) fun _ _ x => x
  obtain ⟨it, J, n, is, need, Inv, σ, ι, rfl, S, h0, ok⟩ := h2
  refine n_newList S fun acc s3 S3 => ?_
  refine wpAny_newFunctionEnv hcell (fun x hx => nomatch hx) (fun h' hn hs' => ?_) hkind
  obtain ⟨o, eo, po⟩ := of_ns hn
  have kp : ∀ b o, s3.heap.get? b = some o → h'.get? b = some o := fun b o e => (hs'.2 _ (Nat.ne_of_lt (Heap.lt_size e))).trans (Heap.get?_push_of_some _ e)
  have S4 : SS C ((s3.heap.objs.size, nsP (fun x => ([] : List (Str × Value)).reverse.lookup x)) :: (acc, lstP #[]) :: (it, J 0) :: σ) ι { s3 with heap := h', toks := s3.toks + 0 } :=
    S3.new kp (by (first | (refine rwP (hs'.1) ?_; refine rwP (Heap.size_push) ?_; try with_reducible rfl) | rw [hs'.1, Heap.size_push]); exact Nat.le_succ _) (Nat.le_refl _) eo po (nsP_not po)
  have S5 : SS C ((it, J 0) :: (s3.heap.objs.size, nsP (fun x => ([] : List (Str × Value)).reverse.lookup x)) :: (acc, lstP #[]) :: σ) ι { s3 with heap := h', toks := s3.toks + 0 } := by
    refine S4.perm ?_
    exact ((List.Perm.swap _ _ _).cons _).trans (List.Perm.swap _ _ _)
  refine comp_w ok.W Inv (fun i out m σ ι h => ok.need _ _ _ _ _ _ _ h) (fun i out m σ ι ι' v s a b c d e => ok.step i out m _ _ σ ι ι' v s _ a b c d e) ok.size (fun out m σ ι s hI S => ?_) hA S5 h0 (ht it)
  refine ⟨m, SS.ns S (.head _), fun h'' hs'' => ?_⟩
  exact ok.done out acc σ ι _ hI (S.forget hs'')
end
end Mine
end Part12
section Part13
set_option tactic.hygienic false
open PySem PySem.W PySem.W.X PySem.Calls PyProof.Rows
set_option maxRecDepth 100000
namespace Mine

noncomputable def IsPiece (ι : Imm) (v : Value) (p : Str × Str) : Prop := Ex3 fun t k1 k2 => v = .ref t ∧ (t, pieceObj (.str p.1 k1) (.str p.2 k2)) ∈ ι
theorem IsPiece.mono {ι ι' : Imm} {v : Value} {p : Str × Str} (h : ι ⊆ ι') : IsPiece ι v p → IsPiece ι' v p := fun ⟨t, k1, k2, e, m⟩ => ⟨t, k1, k2, e, h m⟩

structure KG (K : Frag) : Prop where
  hd : hasDictIn K 101 = true
  push : findIn K (.ref 101) "push" = some (some (.ref 45))
  getF : specialIn K (.ref 45) "__get__" = some (some (.builtin "function.__get__"))
  take : takesIn K (.ref 45) = some false
  isObj : mroIn K 101 (.type "object") = some true

section
variable {C : Cx} {σ σ' : Led} {ι ι' : Imm} {A : Around} {s : Shared} {E : Value → Shared → Prop} {a dx : Addr} {vs : Array Value} {k : Int}

theorem kind_lga : builtinKind "list.__getattribute__" = some .method ∨ builtinKind "list.__getattribute__" = some .slot := .inr (by decide +kernel)
theorem split_lga : splitId "list.__getattribute__" = some ("list", "__getattribute__") := by decide +kernel
/-- an attribute of the accumulator, by list's own __getattribute__ -/
theorem acc_open {Q : Value → Shared → Prop} {expr : Bool} {name : Str} {r : Builtin.ObjectAttr.Found} {ox : Obj} {od : Option Obj} (X : CxOk C) (KA : KF C.K) (S : SS C σ ι s) (ha : (a, accP dx vs) ∈ σ) (I : InstAt s.heap a ox 101 od)
    (hf : findObj C.K 101 od name = some r) 
    (h : match r with
      | .value v => wpAny (model prg C.w) A.in1 (ret v) (BiPost prg C.w A (fun v s' => wpAny (model prg C.w) A (handedOut v) Q E s') (fun _ _ => False)) (fun _ _ => False) { s with toks := s.toks + 1 }
      | .bind g x => wpAny (model prg C.w) A.in1 (Builtin.ObjectAttr.bindTo g x (.ref a) (.ref 101)) (BiPost prg C.w A (fun v s' => wpAny (model prg C.w) A (handedOut v) Q E s') (fun _ _ => False)) (fun _ _ => False) { s with toks := s.toks + 1 }
      | .missing => False) :
    wpAny (model prg C.w) A (getAttr (.ref a) name expr) Q E s := by
  obtain ⟨hh, g, d, tk, os⟩ := s
  have K : C.K.In hh := S.kin X
  have L0 := I.type (M := model prg C.w)
  have L1 := looks_findIn (M := model prg C.w) K KA.ga
  have L2 := looks_findIn (M := model prg C.w) K KA.gt
  have L3 := looks_find (M := model prg C.w) K I hf
  have isL := acc_isList X KA S ha
  unfold getAttr getAttrBy
  refine wpAny_bind (wpAny_mkText (wpAny_holding (wpAny_bind (L0.at (wpAny_bind (L1.at ?_))))))
  show wpAny _ _ (getAttrByItsOwn _ _ _ _ _ _) _ _ _
  unfold getAttrByItsOwn hookBefore callGetattribute boundAndCalled
  refine wpAny_bind (L2.at ?_)
  refine wpAny_bind (wpAny_attempt (wpAny_holding ?_))
  (first | (refine rwP (if_neg (by rw [show onTheHeap (.builtin "list.__getattribute__") = false from rfl, Bool.and_false]; decide)) ?_; try with_reducible rfl) | rw [if_neg (by rw [show onTheHeap (.builtin "list.__getattribute__") = false from rfl, Bool.and_false]; decide)])
  refine wpAny_bind (wpAny_of_eq (F.slot_list_getattribute.bind _) ?_)
  refine wpAny_mono (E := fun _ _ => False) (call_b (id := "list.__getattribute__") (args := [.ref a, .str name tk]) (Q := fun v s' => wpAny (model prg C.w) A (handedOut v) Q E s') F.slot_list_getattribute.plain F.entry_list_ga (chk (i := "list.__getattribute__") (self := .ref a) (rest := [.str name tk]) (owner := "list") (n := "__getattribute__") kind_lga split_lga isL (F.args_list_getattribute_2 _ _) ?_)) (fun _ _ z => z) fun _ _ z => z.elim
  refine wpAny_bind (wpAny_pure (wpAny_bind (wpAny_pure (wpAny_bind (L0.at (wpAny_bind (L3.at ?_)))))))
  cases r with
  | missing => exact h.elim
  | value v => exact h
  | bind g x => exact h

/-- a bound method of the accumulator -/
theorem acc_bound {Q : Value → Shared → Prop} {expr : Bool} (X : CxOk C) (KA : KF C.K) (KK : KG C.K) (S : SS C σ ι s) (ha : (a, accP dx vs) ∈ σ) (hd : (dx, szP k) ∈ σ)
    (h : ∀ q s', SS C σ ι s' → s'.heap.get? q = some (methodObj (.ref 45) (.ref a)) → Q (.ref q) s') : wpAny (model prg C.w) A (getAttr (.ref a) "push" expr) Q E s := by
  refine gen_P fun Pg kg => ?_
  obtain ⟨ox, od, I, px, pd⟩ := acc_inst S ha hd
  refine kg ?_
  clear kg
  have K := S.kin X
  refine acc_open X KA S ha I (findObj_fn KK.hd KK.push KK.getF KK.take (by decide) (sz_look pd _ (by decide))) ?_
  have S1 : SS C σ ι { s with toks := s.toks + 1 } := S
  refine wpAny_bind (wpAny_holding (wpAny_call (fn_get (s := { s with toks := s.toks + 1 }) K KA.push.type (wpAny_pure ?_))))
  exact handed_on rfl (h _ _ (S1.push _) (Heap.get?_push_size _ rfl))

theorem star_push {n : Nat} {σ' : Value → Led} {x y : Str} {m : Str → Option Value} {p1 p2 apos spos pos : Pos} {env : Env} {v : Value} {p : Str × Str} {Q : Value → Shared → Prop}
    (X : CxOk C) (KA : KF C.K) (KK : KG C.K) (R : Room (n + 1) A) (S : SS C σ ι s) (hm : (env.locals, nsP m) ∈ σ) (hx : m x = some (.ref a)) (hy : m y = some v) (hd : (dx, szP k) ∈ σ)
    (u : ∀ v, Upd a (accP dx vs) (accP dx (vs.push v)) σ (σ' v)) (hv : IsPiece ι v p) (hz : vs.size ≤ sizeLine)
    (h : ∀ v' ι' s', ι ⊆ ι' → IsPiece ι' v' p → SS C (σ' v') ι' s' → Q .none s')
    (hk : autoParam (env.scope.kind = .function) tacRfl) (hlx : autoParam (env.kindOf x = some .local) tacRfl) (hly : autoParam (env.kindOf y = some .local) tacRfl) (hdx : autoParam ((x == ("__debug__" : Str)) = false) tacDec) (hdy : autoParam ((y == ("__debug__" : Str)) = false) tacDec) :
    wpAny (model prg C.w) A (eval (.Call (.Attribute (.Name x p1) "push" apos) [.Starred (.Name y p2) spos] [] pos) env) Q E s := by
  (first | (refine rwP (arm_eval_Call) ?_; refine rwP (show attributeBase (.Name x p1) "push" env (eval (.Name x p1) env) = eval (.Name x p1) env from rfl) ?_; try with_reducible rfl) | rw [arm_eval_Call, show attributeBase (.Name x p1) "push" env (eval (.Name x p1) env) = eval (.Name x p1) env from rfl])
  refine wpAny_bind (n_local S hm hx ?_ hk hlx hdx)
  refine wpAny_bind (wpAny_standAt ?_)
  unfold methodCall
  have hform : methodCallForm (([Expr.Starred (.Name y p2) spos] : List Expr).length + ([] : List Keyword).length) (backTo pos (starEach [.Starred (.Name y p2) spos] env)) (backToKw pos (keywordEach [] env)) = false := by rfl
  (first | (refine rwP (hform) ?_; try with_reducible rfl) | rw [hform])
  refine wpAny_bind (wpAny_holding ?_)
  unfold calleeOf
  (first | refine wpIf0 ?_ | simp only [Bool.false_eq_true, if_false])
  refine wpAny_bind (acc_bound X KA KK S (u .none).mem hd fun q s2 S2 eq => wpAny_pure ?_)
  refine wpAny_bind (wpAny_of_eq (a := pos) (by rfl) ?_)
  refine gen_P fun Pg kg => ?_
  obtain ⟨t, k1, k2, rfl, ht⟩ := hv
  refine kg ?_
  clear kg
  show wpAny _ _ (callWith pos (.ref q) [] (backTo pos [(true, eval (.Name y p2) env)]) []) _ _ _
  unfold callWith
  refine wpAny_bind (wpAny_holding ?_)
  have hst : s2.heap.get? t = some (pieceObj (.str p.1 k1) (.str p.2 k2)) := S2.tup ht
  unfold evalArgs
  refine wpAny_bind (wpAny_bind (n_local S2 hm hy ?_ hk hly hdy))
  refine wpAny_bind (wpAny_standAt (wpAny_pure (wpAny_bind (wpAny_pure ?_))))
  dsimp only
  refine wpAny_holding ?_
  dsimp only [List.all_nil, if_true]
  have hni : ∀ {Q : Bool → Shared → Prop}, Q false s2 → wpAny (model prg C.w) A (notIterableAtAll (.ref t)) Q E s2 := fun hq =>
    wpAny_bind (wpAny_specialOf (T := "tuple") ⟨_, hst, rfl⟩ F.slot_tuple_iter.lookup (wpAny_pure hq))
  k_node
  refine wpAny_bind (m := evalAll _) (wpAny_pure ?_)
  refine wpAny_bind (wpAny_bind (hni ?_))
  k_node
  refine wpAny_holding (wpAny_collect_seq t (T := "tuple") (.inr rfl) hst rfl rfl (fun h' kp => ?_) (by show 2 ≤ _; (first | (refine rwP (sizeLine_eq) ?_; try with_reducible rfl) | rw [sizeLine_eq]); (first | lia | omega)))
  have S3 : SS C σ ι { s2 with heap := h' } := S2.kept kp
  refine wpAny_pure (wpAny_bind (wpAny_standAt ?_))
  refine gen_P fun Pg kg => ?_
  obtain ⟨od, osl, nm, doc, pm, an, ct, ef⟩ := KA.push.look
  refine kg ?_
  clear kg
  have keeper : Looks (model prg C.w) h' (keeperOf (.ref q)) .boundFrame :=
    (Looks.ld (part := none) (kp _ _ eq)).andThen ((Looks.ld (part := none) (S3.kin X _ _ ef)).andThen .now)
  refine wpAny_bind (keeper.at ?_)
  k_node
  unfold operate
  refine wpAny_bind (wpAny_bind (wpAny_holding ?_))
  refine wpAny_call (method_call (kp _ _ eq) ?_)
  refine push_code X KA R S3 hd u hz fun t' s4 S4 => ?_
  refine wpAny_bind (wpAny_release (wpAny_pure (wpAny_bind (wpAny_holding (wpAny_point (wpAny_pure ?_))))))
  exact h _ _ _ (fun _ h => .tail _ h) ⟨t', k1, k2, rfl, .head _⟩ S4
end
end Mine
end Part13
section Part14
set_option tactic.hygienic false
open PySem PySem.W PySem.W.X PySem.Calls PyProof.Rows
set_option maxRecDepth 100000
namespace Mine

/-- a list, or an accumulator, as a row of items -/
structure SeqLike (w : World) (h : Heap) (l : Addr) (items : Array Value) : Prop where
  obj : ∃ o n, h.get? l = some o ∧ o.data = .seq items n
  get : Looks (model prg w) h (specialOf (.ref l) "__getitem__") (some (.builtin "list.__getitem__"))
  key : ∀ k, Looks (model prg w) h (sequenceKey (.ref l) k "__getitem__") k
  isL : Looks (model prg w) h (isInstance (.ref l) (.type "list")) true

structure KL (K : Frag) : Prop where
  getitem : findIn K (.ref 101) "__getitem__" = some (some (.builtin "list.__getitem__"))
  setitem : findIn K (.ref 101) "__setitem__" = some (some (.builtin "list.__setitem__"))
  noDeq : mroIn K 101 (.type "collections.deque") = some false
  size : findIn K (.ref 101) "_initial_size" = some none

section
variable {C : Cx} {σ σ' : Led} {ι ι' : Imm} {A : Around} {s : Shared} {E : Value → Shared → Prop} {a dx l : Addr} {vs items : Array Value} {k : Int}

theorem sub_list_list : isSubtype (.type "list") (.type "list") = pure true := by (first | (refine rwP (isSubtype_type) ?_; try with_reducible rfl) | rw [isSubtype_type]); kernel_rfl

theorem lst_like {h : Heap} {g : Array GenState} {os : OsState} (S : St C σ ι h g os) (hl : (l, lstP vs) ∈ σ) : SeqLike C.w h l vs := by
  refine gen_P fun Pg kg => ?_
  obtain ⟨o, e, ⟨hc, _⟩, n, hd⟩ := S.at hl
  refine kg ?_
  clear kg
  have ty : Looks (model prg C.w) h (typeOf (.ref l)) (.type "list") := by (first | (refine rwQ (hc) ?_; try with_reducible rfl) | rw [← hc]); exact (Looks.ld e).andThen .now
  refine ⟨⟨o, n, e, hd⟩, ty.andThen (Looks.of_pure F.slot_list_getitem.lookup), fun k => ?_, ty.andThen (Looks.of_pure sub_list_list)⟩
  exact ty.andThen .now
theorem acc_like (X : CxOk C) (KA : KF C.K) (KK : KL C.K) (S : SS C σ ι s) (ha : (a, accP dx vs) ∈ σ) : SeqLike C.w s.heap a vs := by
  have isL := acc_isList X KA S ha
  refine gen_P fun Pg kg => ?_
  obtain ⟨h, g, d, tk, os⟩ := s
  obtain ⟨o, e, n, sl, rfl⟩ := S.at ha
  refine kg ?_
  clear kg
  have K : C.K.In h := S.kin X
  have ty : Looks (model prg C.w) h (typeOf (.ref a)) (.ref 101) := (Looks.ld e).andThen .now
  refine ⟨⟨_, n, e, rfl⟩, ty.andThen (looks_findIn K KK.getitem), fun k => ?_, isL⟩
  refine ty.andThen ?_
  have nd := looks_mroIn (M := model prg C.w) K KK.noDeq
  intro A Q E s kp q
  refine wpAny_bind (m := seqItemTypes.anyM fun n => isSubtype (.ref 101) (.type n)) ?_
  show wpAny _ _ (List.anyM (fun n => isSubtype (.ref 101) (.type n)) ["collections.deque"]) _ _ _
  unfold List.anyM
  refine wpAny_bind (nd _ _ _ _ kp ?_)
  exact wpAny_pure (wpAny_pure q)

theorem kind_getitem : builtinKind "list.__getitem__" = some .method ∨ builtinKind "list.__getitem__" = some .slot := .inl (by decide +kernel)
theorem split_getitem : splitId "list.__getitem__" = some ("list", "__getitem__") := by decide +kernel
section
variable (L : SeqLike C.w s.heap l items)
include L
theorem like_call {i : Value} {Q : Value → Shared → Prop} (h : wpAny (model prg C.w) A (call (.builtin "list.__getitem__") [.ref l, i]) Q E s) : wpAny (model prg C.w) A (getItem (.ref l) i) Q E s := by
  unfold getItem
  refine wpAny_holding (wpAny_bind ((L.key i).here ?_))
  unfold callSpecial?
  refine wpAny_bind (wpAny_bind (L.get.here ?_))
  refine wpAny_holding (wpAny_bind ?_)
  (first | (refine rwP (F.slot_list_getitem.bind) ?_; try with_reducible rfl) | rw [F.slot_list_getitem.bind])
  exact wpAny_pure (wpAny_bind (wpAny_mono h (fun v s' q => wpAny_pure (wpAny_pure q)) fun _ _ x => x))
theorem like_enter {i : Value} {Q : Value → Shared → Prop} (h : wpAny (model prg C.w) A.in1 (Builtin.«list.__getitem__» ⟨[.ref l, i], []⟩) (BiPost prg C.w A Q E) E s) :
    wpAny (model prg C.w) A (getItem (.ref l) i) Q E s :=
  like_call L (call_b (id := "list.__getitem__") (args := [.ref l, i]) F.slot_list_getitem.plain F.entry_list_getitem (chk (i := "list.__getitem__") (self := .ref l) (rest := [i]) (owner := "list") (n := "__getitem__") kind_getitem split_getitem L.isL (F.args_list_getitem_2 _ _) h))
theorem like_int {k : Int} {t : Tok} {x : Value} {Q : Value → Shared → Prop} (h0 : 0 ≤ k) (hfit : k < 2 ^ 63) (hx : items[k.toNat]? = some x) (h : Q x s) : wpAny (model prg C.w) A (getItem (.ref l) (.int k t)) Q E s := by
  refine gen_P fun Pg kg => ?_
  obtain ⟨o, n, ho, hd⟩ := L.obj
  refine kg ?_
  clear kg
  refine like_enter L ?_
  show wpAny _ _ (Builtin.List.listSubscript? (.int k t) >>= _) _ _ s
  refine wpAny_bind (wpAny_listSubscript_int (fitsIndex_of h0 hfit) ?_)
  clear hfit
  obtain ⟨j, rfl⟩ := Int.eq_ofNat_of_zero_le h0
  have hx' : items[j]? = some x := hx
  show wpAny _ _ ((seqItemAt l j >>= fun r => pure (r.map (j, ·))) >>= _) _ _ s
  refine wpAny_bind (wpAny_bind (wpAny_seqItemAt ho hd (wpAny_pure ?_)))
  (first | (refine rwP (hx') ?_; try with_reducible rfl) | rw [hx'])
  exact wpAny_pure h
theorem like_slice {sl : Addr} {vl vu vst : Value} {lo hi st : Option Int} {Q : Value → Shared → Prop} (hs : s.heap.IsSliceOf sl vl vu vst) (pl : IsPart vl lo) (pu : IsPart vu hi) (ps : IsPart vst st) (h0 : st ≠ some 0)
    (h : Q (.ref s.heap.objs.size) { s with heap := s.heap.push { cls := .type "list", data := .seq (slicePick items lo hi st) } })
    (hsz : items.size ≤ sizeLine) : wpAny (model prg C.w) A (getItem (.ref l) (.ref sl)) Q E s := by
  refine gen_P fun Pg kg => ?_
  obtain ⟨o, n, ho, hd⟩ := L.obj
  obtain ⟨os, hos, hcs, hds⟩ := id hs
  refine kg ?_
  clear kg
  have hTs : s.TypeIs (.ref sl) "slice" := ⟨os, hos, hcs⟩
  refine like_enter L ?_
  show wpAny _ _ (Builtin.List.listSubscript? (.ref sl) >>= _) _ _ s
  refine wpAny_bind ?_
  unfold Builtin.List.listSubscript?
  refine wpAny_bind (wpAny_specialOf hTs slice_no_index ?_)
  refine wpIfP rfl ?_
  refine wpAny_pure ?_
  show wpAny _ _ (typeOf (.ref sl) >>= _) _ _ s
  refine wpAny_bind (wpAny_typeOf hTs ?_)
  (first | (refine rwP (if_neg (by decide)) ?_; try with_reducible rfl) | rw [if_neg (by decide)])
  (first | (refine rwP (listSliceParts_eq) ?_; try with_reducible rfl) | rw [listSliceParts_eq])
  have hstep : ¬ ((rawPart st == rawInt 0) = true) := by
    cases st with
    | none => exact Bool.false_ne_true
    | some c =>
      intro hh
      have : c = 0 := by simpa [rawPart, rawInt] using hh
      exact h0 (by (first | (refine rwP (this) ?_; try with_reducible rfl) | rw [this]))
  refine wpAny_bind (wpAny_bind (wpAny_field hos hds (x := vst) rfl (wpAny_bind (wpAny_listPart ps ?_))))
  (first | (refine rwP (if_neg hstep) ?_; try with_reducible rfl) | rw [if_neg hstep])
  refine wpAny_bind (wpAny_field hos hds (x := vl) rfl (wpAny_bind (wpAny_listPart pl ?_)))
  refine wpAny_bind (wpAny_field hos hds (x := vu) rfl (wpAny_bind (wpAny_listPart pu (wpAny_pure ?_))))
  refine wpAny_bind (m := Builtin.List.listItems (.ref l)) ?_
  unfold Builtin.List.listItems
  refine wpAny_bind (wpAny_seqItems ho hd (wpAny_pure ?_))
  refine wpAny_bind (wpAny_of_eq (sliceIndices_raw lo hi st items.size h0) ?_)
  exact wpAny_bind (wpAny_newObj_type (wpAny_pure h) (Nat.le_trans (slicePick_size_le items lo hi st) hsz))

theorem like_tail {value slice : Expr} {i : Value} {Q : Value → Shared → Prop} (h : wpAny (model prg C.w) A (getItem (.ref l) i) Q E s)
    (hs : ∀ {Q : Value → Shared → Prop} {s : Shared}, wpAny (model prg C.w) A (getItem (.ref l) i) Q E s → wpAny (model prg C.w) A (subscripted slice false (.ref l) i) Q E s)
    (ht : ∀ r, letTemporaryGo value (.ref l) r = pure () := by intro _; with_unfolding_all rfl) : wpAny (model prg C.w) A (subscriptTail value slice (.ref l) i) Q E s := by
  unfold subscriptTail
  refine wpAny_bind (wpAny_bind (L.get.here (wpAny_pure ?_)))
  exact wpAny_bind (hs (wpAny_mono h (fun r s₃ h₃ => wpAny_bind (wpAny_of_eq (ht r) (wpAny_pure h₃))) fun _ _ x => x))
end
end
end Mine
end Part14
section Part15
set_option tactic.hygienic false
open PySem PySem.W PySem.W.X PySem.Calls PyProof.Rows
set_option maxRecDepth 100000
namespace Mine

theorem kind_setitem : builtinKind "list.__setitem__" = some .method ∨ builtinKind "list.__setitem__" = some .slot := .inr (by decide +kernel)
theorem split_setitem : splitId "list.__setitem__" = some ("list", "__setitem__") := by decide +kernel
theorem bounds_all (n : Nat) (lo : Option Int) (h : lo = none ∨ lo = some 0) : sliceBounds lo none none n = (0, (n : Int), 1) := by
  rcases h with rfl | rfl
  · simp [sliceBounds]
  · simp [sliceBounds]; (first | lia | omega)
section
variable {C : Cx} {σ σ' : Led} {ι ι' : Imm} {A : Around} {s : Shared} {E : Value → Shared → Prop} {a dx l : Addr} {vs items new : Array Value} {k : Int}

theorem acc_setslice {sl l2 : Addr} {vl : Value} {lo : Option Int} {Q : Unit → Shared → Prop} (X : CxOk C) (KA : KF C.K) (KK : KL C.K) (S : SS C σ ι s) (u : Upd a (accP dx vs) (accP dx new) σ σ')
    (hs : s.heap.IsSliceOf sl vl .none .none) (pl : IsPart vl lo) (hlo : lo = none ∨ lo = some 0) (h2 : (l2, lstP new) ∈ σ) (hz : vs.size + new.size ≤ sizeLine)
    (h : ∀ s', SS C σ' ι s' → Q () s') : wpAny (model prg C.w) A (setItem (.ref a) (.ref sl) (.ref l2)) Q E s := by
  obtain ⟨hh, g, d, tk, os⟩ := s
  have isL := acc_isList X KA S u.mem
  refine gen_P fun Pg kg => ?_
  obtain ⟨o, e, n, slo, rfl⟩ := S.at u.mem
  obtain ⟨o2, e2, ⟨hc2, _⟩, n2, hd2⟩ := S.at h2
  refine kg ?_
  clear kg
  have K : C.K.In hh := S.kin X
  have ty : Looks (model prg C.w) hh (typeOf (.ref a)) (.ref 101) := (Looks.ld e).andThen .now
  obtain ⟨os', hos, hcs, hds⟩ := id hs
  have hTs : (⟨hh, g, d, tk, os⟩ : Shared).TypeIs (.ref sl) "slice" := ⟨os', hos, hcs⟩
  have nd := looks_mroIn (M := model prg C.w) K KK.noDeq
  have key : Looks (model prg C.w) hh (sequenceKey (.ref a) (.ref sl) "__setitem__") (.ref sl) := by
    refine ty.andThen ?_
    intro A Q E s kp q
    refine wpAny_bind (m := seqItemTypes.anyM fun n => isSubtype (.ref 101) (.type n)) ?_
    show wpAny _ _ (List.anyM (fun n => isSubtype (.ref 101) (.type n)) ["collections.deque"]) _ _ _
    unfold List.anyM
    refine wpAny_bind (nd _ _ _ _ kp ?_)
    exact wpAny_pure (wpAny_pure q)
  unfold setItem
  refine wpAny_holding (wpAny_bind (key.at ?_))
  unfold callSpecial?
  refine wpAny_bind (wpAny_bind (wpAny_bind (ty.at ((looks_findIn K KK.setitem).at ?_))))
  refine wpAny_holding (wpAny_bind ?_)
  (first | (refine rwP (F.slot_list_setitem.bind) ?_; try with_reducible rfl) | rw [F.slot_list_setitem.bind])
  refine wpAny_pure (wpAny_bind ?_)
  refine call_b (id := "list.__setitem__") (args := [.ref a, .ref sl, .ref l2]) F.slot_list_setitem.plain F.entry_list_setitem (chk (i := "list.__setitem__") (self := .ref a) (rest := [.ref sl, .ref l2]) (owner := "list") (n := "__setitem__") kind_setitem split_setitem isL (F.args_list_setitem_3 _ _ _) ?_)
  show wpAny _ _ (Builtin.List.listSubscript? (.ref sl) >>= _) _ _ _
  refine wpAny_bind ?_
  unfold Builtin.List.listSubscript?
  refine wpAny_bind (wpAny_specialOf hTs slice_no_index ?_)
  refine wpIfP rfl ?_
  refine wpAny_pure ?_
  show wpAny _ _ (typeOf (.ref sl) >>= _) _ _ _
  refine wpAny_bind (wpAny_typeOf hTs ?_)
  (first | (refine rwP (if_neg (by decide)) ?_; try with_reducible rfl) | rw [if_neg (by decide)])
  (first | (refine rwP (listSliceParts_eq) ?_; try with_reducible rfl) | rw [listSliceParts_eq])
  refine wpAny_bind (wpAny_bind (wpAny_field hos hds (x := .none) rfl (wpAny_bind (wpAny_listPart (.none : IsPart .none none) ?_))))
  (first | (refine rwP (if_neg (show ¬ ((rawPart none == rawInt 0) = true) from Bool.false_ne_true)) ?_; try with_reducible rfl) | rw [if_neg (show ¬ ((rawPart none == rawInt 0) = true) from Bool.false_ne_true)])
  refine wpAny_bind (wpAny_field hos hds (x := vl) rfl (wpAny_bind (wpAny_listPart pl ?_)))
  refine wpAny_bind (wpAny_field hos hds (x := .none) rfl (wpAny_bind (wpAny_listPart (.none : IsPart .none none) (wpAny_pure ?_))))
  have ne : Builtin.List.listSameRef (.ref a) (.ref l2) = false := by
    show (a == l2) = false
    (first | (refine rwP (beq_eq_false_iff_ne) ?_; try with_reducible rfl) | rw [beq_eq_false_iff_ne])
    rintro rfl
    rw [e] at e2; cases e2
    cases hc2
  dsimp only
  (first | (refine rwP (ne) ?_; try with_reducible rfl) | rw [ne])
  have all : ∀ {A : Around} {Q : Array Value → Shared → Prop} {E : Value → Shared → Prop} {msg : String}, Q new ⟨hh, g, d, tk, os⟩ → wpAny (model prg C.w) A (Builtin.List.listAllItems (.ref l2) msg) Q E ⟨hh, g, d, tk, os⟩ := fun q => by
    unfold Builtin.List.listAllItems
    refine wpAny_bind (wpAny_typeOf (T := "list") ⟨_, e2, hc2⟩ ?_)
    (first | (refine rwP (if_pos (by decide)) ?_; try with_reducible rfl) | rw [if_pos (by decide)])
    unfold Builtin.List.listItems
    exact wpAny_bind (wpAny_seqItems e2 hd2 (wpAny_pure q))
  refine wpAny_bind (all ?_)
  refine wpAny_bind (m := Builtin.List.listItems (.ref a)) ?_
  unfold Builtin.List.listItems
  refine wpAny_bind (wpAny_seqItems e rfl (wpAny_pure ?_))
  refine wpAny_bind (wpAny_of_eq (sliceIndices_raw lo none none vs.size (by simp)) ?_)
  (first | (refine rwP (bounds_all _ _ hlo) ?_; try with_reducible rfl) | rw [bounds_all _ _ hlo])
  dsimp only
  have ext : ((vs.extract 0 (0 : Int).toNat ++ new) ++ vs.extract (max 0 (vs.size : Int)).toNat vs.size) = new := by
    have : (max 0 (vs.size : Int)).toNat = vs.size := by (first | lia | omega)
    (first | (refine rwP (this) ?_; try with_reducible rfl) | rw [this]); simp
  have big : Builtin.List.listTooLong (vs.size + new.size) = false := by unfold Builtin.List.listTooLong; simpa using hz
  (first | (refine rwP (big) ?_; try with_reducible rfl) | rw [big])
  k_node
  refine wpAny_bind (wpAny_rule ?_)
  k_node
  have hz1 : vs.size ≤ sizeLine := by (first | lia | omega)
  refine wpAny_bind (m := Builtin.List.listUpdate (.ref a) _) (wpAny_updateSeq e rfl ?_ (hz := hz1) (_hz' := by (first | (refine rwP (ext) ?_; try with_reducible rfl) | rw [ext]); (first | lia | omega)))
  refine wpAny_bind (wpAny_letGo (wpAny_pure (wpAny_pure (wpAny_pure (h _ (S.upd u fun o po => accP_map ext po))))))

/-! ## attributes -/
theorem acc_size {Q : Value → Shared → Prop} {expr : Bool} (X : CxOk C) (KA : KF C.K) (KG' : KG C.K) (KK : KL C.K) (S : SS C σ ι s) (ha : (a, accP dx vs) ∈ σ) (hd : (dx, szP k) ∈ σ)
    (h : ∀ t, Q (.int k t) { s with toks := s.toks + 1 }) : wpAny (model prg C.w) A (getAttr (.ref a) "_initial_size" expr) Q E s := by
  refine gen_P fun Pg kg => ?_
  obtain ⟨ox, od, I, px, pd⟩ := acc_inst S ha hd
  refine kg ?_
  clear kg
  have K := S.kin X
  refine gen_P fun Pg kg => ?_
  obtain ⟨hsh, tk, t, m, sl, rfl⟩ := pd
  refine kg ?_
  clear kg
  refine acc_open X KA S ha I (findObj_own (v := .int k t) KG'.hd KK.size rfl (by kernel_rfl)) ?_
  exact wpAny_pure (handed_on rfl (h t))

structure KR (K : Frag) : Prop where
  fPopFrom : Fn K 53 52 "_Accumulator.pop_from" (clsS 2) [] (.ref 46)
  fReset : Fn K 83 82 "_Accumulator.reset" (clsS 6) [] (.ref 76)
  d46 : ∃ od sl tk n, K.lookup 46 = some ⟨.type "tuple", od, .seq #[.int 0 tk] n, sl⟩
  d76 : ∃ od sl n, K.lookup 76 = some ⟨.type "tuple", od, .seq #[.none] n, sl⟩

theorem n_slice {lower : Option Expr} {p : Pos} {env : Env} {vl : Value} {Q : Value → Shared → Prop} 
    (h : wpAny (model prg C.w) A (evalPart lower env) (fun v s₁ => v = vl ∧ ∃ σ ι, SS C σ ι s₁ ∧ ∀ sl s₂, SS C σ ι s₂ → s₂.heap.IsSliceOf sl vl .none .none → Q (.ref sl) s₂) E s) : wpAny (model prg C.w) A (eval (.Slice lower none none p) env) Q E s := by
  refine wpAny_Slice (wpAny_mono h (fun v s1 h1 => ?_) fun _ _ x => x)
  refine gen_P fun Pg kg => ?_
  obtain ⟨rfl, σ, ι, S1, h1⟩ := h1
  refine kg ?_
  clear kg
  (first | (refine rwP (evalPart_none) ?_; try with_reducible rfl) | rw [evalPart_none])
  refine wpAny_pure (wpAny_pure (h1 _ _ (S1.push _) ⟨_, Heap.get?_push_size _ rfl, rfl, rfl⟩))
theorem pick_all (vs : Array Value) (lo : Option Int) (h : lo = none ∨ lo = some 0) : slicePick vs lo none none = vs := by
  unfold slicePick
  (first | (refine rwP (bounds_all _ _ h) ?_; try with_reducible rfl) | rw [bounds_all _ _ h])
  have := sliceRange_one 0 vs.size
  show ((sliceRange (0 : Int) (vs.size : Int) 1).filterMap (vs[·]?)).toArray = vs
  have e : sliceRange (0 : Int) (vs.size : Int) 1 = List.range vs.size := by
    (first | (refine rwP (show (0 : Int) = ((0 : Nat) : Int) from rfl) ?_; refine rwP (this) ?_; try with_reducible rfl) | rw [show (0 : Int) = ((0 : Nat) : Int) from rfl, this]); simp
  (first | (refine rwP (e) ?_; try with_reducible rfl) | rw [e])
  apply Array.toList_inj.mp
  (first | (refine rwP (List.toList_toArray) ?_; refine rwQ (Array.length_toList) ?_; try with_reducible rfl) | rw [List.toList_toArray, ← Array.length_toList])
  have : ∀ l : List Value, (List.range l.length).filterMap (fun i => l[i]?) = l := fun l => by
    induction l with
    | nil => rfl
    | cons x r ih => 
      (first | (refine rwP (List.length_cons) ?_; refine rwP (List.range_succ_eq_map) ?_; refine rwP (List.filterMap_cons) ?_; try with_reducible rfl) | rw [List.length_cons, List.range_succ_eq_map, List.filterMap_cons])
      simp only [List.getElem?_cons_zero, List.filterMap_map]
      exact congrArg _ ih
  have h2 := this vs.toList
  simpa using h2

theorem pop_from_c {n : Nat} {Q : Value → Shared → Prop} (X : CxOk C) (KA : KF C.K) (KK : KL C.K) (KQ : KR C.K) (R : Room (n + 1) A) (S : SS C σ ι s) (u : Upd a (accP dx vs) (accP dx #[]) σ σ') (hz : vs.size ≤ sizeLine)
    (h : ∀ l s', SS C ((l, lstP vs) :: σ') ι s' → Q (.ref l) s') : wpAny (model prg C.w) A (call (.ref 53) [.ref a] []) Q E s := by
  refine gen_P fun Pg kg => ?_
  obtain ⟨od, sl, tk, nn, e⟩ := KQ.d46
  refine kg ?_
  clear kg
  refine call_fn (binds := [("self", .ref a), ("i", .int 0 tk)]) X KQ.fPopFrom R S (fun _ _ _ _ _ => BindsTo.of_defaults rfl (S.kin X _ _ e) rfl rfl rfl) fun L s1 S1 R1 => ?_
  refine wpAny_execs_cons (wpAny_Assign_Name ?_)
  refine Subscript_ (n_local S1 (.head _) rfl ?_)
  refine n_slice (vl := .int 0 tk) (evalPart_some_step (n_local S1 (.head _) rfl ⟨rfl, _, _, S1, fun sl s2 S2 hsl => ?_⟩))
  refine like_tail (acc_like X KA KK S2 (.tail _ u.mem)) (like_slice (acc_like X KA KK S2 (.tail _ u.mem)) hsl (.int 0 tk) .none .none (by simp) ?_ hz) (fun q => wpAny_operating q)
  (first | (refine rwP (pick_all _ _ (.inr rfl)) ?_; try with_reducible rfl) | rw [pick_all _ _ (.inr rfl)])
  have e1 : lstP vs { cls := .type "list", data := .seq vs } := ⟨⟨rfl, rfl⟩, _, rfl⟩
  have S3 := S2.alloc e1 rfl (lstP_not e1)
  refine n_store S3 (.tail .head) fun s4 S4 => ?_
  refine wpAny_execs_cons (wpAny_Assign_Subscript ?_)
  refine List_ (sp_nil (n_newList S4 fun l2 s5 S5 => ?_))
  refine n_local S5 (.tail _ (.tail _ (.head _))) rfl ?_
  refine n_slice (vl := .int 0 tk) (evalPart_some_step (n_local S5 (.tail _ (.tail _ (.head _))) rfl ⟨rfl, _, _, S5, fun sl s6 S6 hsl => ?_⟩))
  refine acc_setslice X KA KK S6 (.tail (.tail (.tail u))) hsl (.int 0 tk) (.inr rfl) (.head _) (by simpa using hz) fun s7 S7 => ?_
  refine wpAny_execs_cons (wpAny_Return_some (n_local S7 (.tail _ (.tail _ (.head _))) rfl ?_))
  exact h _ _ (S7.tl.perm (.swap _ _ _)).tl
end
end Mine
end Part15
section Part16
set_option tactic.hygienic false
open PySem PySem.W PySem.W.X PySem.Calls PyProof.Rows
set_option maxRecDepth 100000
namespace Mine
section
variable {C : Cx} {σ σ' σ'' : Led} {ι ι' : Imm} {A : Around} {s : Shared} {E : Value → Shared → Prop} {a dx l l2 : Addr} {vs items new : Array Value} {k : Int}

theorem reset_c {n : Nat} {Q : Value → Shared → Prop} (X : CxOk C) (KA : KF C.K) (KK : KL C.K) (KI' : KI C.K) (KQ : KR C.K) (R : Room (n + 1) A) (S : SS C σ ι s)
    (u : Upd a (accP dx vs) (accP dx new) σ σ') (u2 : Upd dx (szP k) (szP 0) σ' σ'') (h2 : (l2, lstP new) ∈ σ) (hz : vs.size + new.size ≤ sizeLine)
    (h : ∀ s', SS C σ'' ι s' → Q .none s') : wpAny (model prg C.w) A (call (.ref 83) [.ref a, .ref l2] []) Q E s := by
  refine gen_P fun Pg kg => ?_
  obtain ⟨od, sl, nn, e⟩ := KQ.d76
  refine kg ?_
  clear kg
  refine call_fn (binds := [("self", .ref a), ("startval", .ref l2)]) X KQ.fReset R S (fun _ _ _ _ _ => BindsTo.of_defaults rfl (S.kin X _ _ e) rfl rfl rfl) fun L s1 S1 R1 => ?_
  refine wpAny_execs_cons (wpAny_If (wpAny_isTrue_Compare1 ?_))
  refine n_local S1 (.head _) rfl ?_
  refine wpAny_Constant_none ?_
  refine is_none (wpAny_truthy_bool ?_)
  refine wpAny_execs_nil ?_
  refine wpAny_execs_cons (wpAny_Assign_Subscript ?_)
  refine n_local S1 (.head _) rfl ?_
  refine n_local S1 (.head _) rfl ?_
  refine n_slice (vl := .none) (evalPart_none_step ⟨rfl, _, _, S1, fun sl s2 S2 hsl => ?_⟩)
  refine acc_setslice X KA KK S2 (.tail u) hsl .none (.inl rfl) (.tail _ h2) hz fun s3 S3 => ?_
  refine wpAny_execs_cons (plainObj_wpAny_Assign_Attribute ?_)
  refine wpAny_Constant_int ?_
  have S4 : SS C _ _ { s3 with toks := s3.toks + 1 } := S3
  refine n_local S4 (.head _) rfl ?_
  refine set_size X KI' S4 (.tail _ u.mem') (.tail u2) (fun _ => szP_pre) fun s5 S5 => ?_
  exact wpAny_execs_nil (h _ S5.tl)
theorem reset0_c {n : Nat} {Q : Value → Shared → Prop} (X : CxOk C) (KA : KF C.K) (KK : KL C.K) (KI' : KI C.K) (KQ : KR C.K) (R : Room (n + 1) A) (S : SS C σ ι s)
    (u : Upd a (accP dx vs) (accP dx #[]) σ σ') (u2 : Upd dx (szP k) (szP 0) σ' σ'') (hz : vs.size ≤ sizeLine)
    (h : ∀ s', SS C σ'' ι s' → Q .none s') : wpAny (model prg C.w) A (call (.ref 83) [.ref a] []) Q E s := by
  refine gen_P fun Pg kg => ?_
  obtain ⟨od, sl, nn, e⟩ := KQ.d76
  refine kg ?_
  clear kg
  refine call_fn (binds := [("self", .ref a), ("startval", .none)]) X KQ.fReset R S (fun _ _ _ _ _ => BindsTo.of_defaults rfl (S.kin X _ _ e) rfl rfl rfl) fun L s1 S1 R1 => ?_
  refine wpAny_execs_cons (wpAny_If (wpAny_isTrue_Compare1 ?_))
  refine n_local S1 (.head _) rfl ?_
  refine wpAny_Constant_none ?_
  refine is_none (wpAny_truthy_bool ?_)
  refine wpAny_execs_cons (wpAny_Assign_Name (List_ (sp_nil (n_newList S1 fun l2 s2 S2 => ?_))))
  refine n_store S2 (.tail .head) fun s3 S3 => ?_
  refine wpAny_execs_nil ?_
  refine wpAny_execs_cons (wpAny_Assign_Subscript ?_)
  refine n_local S3 (.tail _ (.head _)) rfl ?_
  refine n_local S3 (.tail _ (.head _)) rfl ?_
  refine n_slice (vl := .none) (evalPart_none_step ⟨rfl, _, _, S3, fun sl s4 S4 hsl => ?_⟩)
  refine acc_setslice X KA KK S4 (.tail (.tail u)) hsl .none (.inl rfl) (.head _) (by simpa using hz) fun s5 S5 => ?_
  refine wpAny_execs_cons (plainObj_wpAny_Assign_Attribute ?_)
  refine wpAny_Constant_int ?_
  have S6 : SS C _ _ { s5 with toks := s5.toks + 1 } := S5
  refine n_local S6 (.tail _ (.head _)) rfl ?_
  refine set_size X KI' S6 (.tail _ (.tail _ u.mem')) (.tail (.tail u2)) (fun _ => szP_pre) fun s7 S7 => ?_
  exact wpAny_execs_nil (h _ S7.tl.tl)
end
end Mine
end Part16
section Part17
set_option tactic.hygienic false
open PySem PySem.W PySem.W.X PySem.Calls PyProof.Rows
set_option maxRecDepth 100000
namespace Mine

section
variable {C : Cx} {σ σ' : Led} {ι ι' : Imm} {h h' : Heap} {g g' : Array GenState} {os : OsState}
theorem St.forgetE {a : Addr} {P : OP} (S : St C ((a, P) :: σ) ι h g os) (hs : Heap.ExtBut a h h') (hg : AllBare g') : St C σ ι h' g' os := by
  refine gen_P fun Pg kg => ?_
  obtain ⟨oa, ea, _, nta, nba⟩ := S.own _ (.head _)
  refine kg ?_
  clear kg
  have nba : C.base.get? a = none := nba
  have nd := S.nd
  rw [List.map_cons, List.nodup_cons] at nd
  have old : ∀ b o, C.base.get? b = some o → isTab b = false → h'.get? b = some o := fun b o e n => hs b o (fun q => by rw [q, nba] at e; cases e) (S.old b o e n)
  have tab : ∀ P, isTab P = true → TabOk C.base h' P := fun P hP => by
    refine gen_P fun Pg kg => ?_
    obtain ⟨c, ps, mr, hc, ic, ⟨⟨oc, vc, ec, r⟩, et⟩, t2⟩ := (S.tab P hP).more
    refine kg ?_
    clear kg
    have n1 : c ≠ a := fun q => by rw [q, nba] at ec; cases ec
    have n2 : P ≠ a := fun q => by rw [q, nba] at et; cases et
    exact ⟨c, ps, mr, hc, ic.extBut hs n1 n2, ⟨⟨oc, vc, ec, r⟩, et⟩, t2.extBut hs n1 n2⟩
  refine ⟨nd.2, fun p hp => ?_, fun p hp => ?_, old, tab, fun a o e => ?_, hg, S.os⟩
  · obtain ⟨o, e, r⟩ := S.own p (.tail _ hp)
    exact ⟨o, hs _ _ (fun q => nd.1 (by (first | (refine rwQ (q) ?_; try with_reducible rfl) | rw [← q]); exact List.mem_map_of_mem (f := (·.1)) hp)) e, r⟩
  · obtain ⟨e, t, n⟩ := S.imm p hp
    refine ⟨hs _ _ (fun q => ?_) e, t, n⟩
    rw [q] at e
    rw [show h.get? a = some oa from ea] at e
    cases e
    exact nta t
  · cases q : isTab a with
    | false => exact Heap.lt_size (old _ _ e q)
    | true =>
      refine gen_P fun Pg kg => ?_
      obtain ⟨c, ps, mr, _, _, _, ⟨_, et⟩⟩ := (tab a q).more
      refine kg ?_
      clear kg
      exact Heap.lt_size et

theorem tabs_apart {P P' : Addr} (hP : isTab P = true) (hP' : isTab P' = true) : tabCode P' ≠ P := by
  unfold isTab at hP hP'
  unfold tabCode
  simp only [Bool.or_eq_true, beq_iff_eq] at hP hP'
  rcases hP with rfl | rfl <;> rcases hP' with rfl | rfl <;> decide
theorem St.tabbed {P : Addr} {c' : Value} {l r : Value} (S : St C σ ι h g os) (hP : isTab P = true) (hs : Heap.ExtBut P h h') {qs : Array Value}
    (hq : h.TableAt (tabCode P) P qs) (ic : h'.IsCode (tabCode P) P (qs ++ #[l, r, c'])) (tt : h'.TableAt (tabCode P) P (qs ++ #[l, r, c'])) : St C σ ι h' g os := by
  obtain ⟨oP, eP⟩ : ∃ o, C.base.get? P = some o := by
    refine gen_P fun Pg kg => ?_
    obtain ⟨c, ps, mr, _, _, ⟨_, et⟩, _⟩ := (S.tab P hP).more
    refine kg ?_
    clear kg
    exact ⟨_, et⟩
  have old : ∀ b o, C.base.get? b = some o → isTab b = false → h'.get? b = some o := fun b o e n => hs b o (fun q => by rw [q, hP] at n; cases n) (S.old b o e n)
  have tab : ∀ P', isTab P' = true → TabOk C.base h' P' := fun P' hP' => by
    refine gen_P fun Pg kg => ?_
    obtain ⟨c, ps, mr, hc, ic1, t1, t2⟩ := (S.tab P' hP').more
    refine kg ?_
    clear kg
    by_cases e : P' = P
    · subst e
      have : qs = ps ++ mr := by
        refine gen_P fun Pg kg => ?_
        obtain ⟨_, e1⟩ := hq
        obtain ⟨_, e2⟩ := t2
        refine kg ?_
        clear kg
        rw [e1] at e2
        injection e2 with e2
        injection e2 with _ _ e2
        injection e2
      subst this
      refine ⟨c, ps, mr ++ #[l, r, c'], hc, ?_, t1, ?_⟩
      · (first | (refine rwQ (Array.append_assoc) ?_; refine rwP (hc) ?_; try with_reducible rfl) | rw [← Array.append_assoc, hc]); exact ic
      · (first | (refine rwQ (Array.append_assoc) ?_; refine rwP (hc) ?_; try with_reducible rfl) | rw [← Array.append_assoc, hc]); exact tt
    · have n1 : c ≠ P := by (first | (refine rwP (hc) ?_; try with_reducible rfl) | rw [hc]); exact tabs_apart hP hP'
      exact ⟨c, ps, mr, hc, ic1.extBut hs n1 e, t1, t2.extBut hs n1 e⟩
  refine ⟨S.nd, fun p hp => ?_, fun p hp => ?_, old, tab, fun a o e => ?_, S.gens, S.os⟩
  · refine gen_P fun Pg kg => ?_
    obtain ⟨o, e, x, y, z⟩ := S.own p hp
    refine kg ?_
    clear kg
    have z : C.base.get? p.1 = none := z
    exact ⟨o, hs _ _ (fun q => by rw [q, eP] at z; cases z) e, x, y, z⟩
  · obtain ⟨e, t, n⟩ := S.imm p hp
    have n : C.base.get? p.1 = none := n
    exact ⟨hs _ _ (fun q => by rw [q, eP] at n; cases n) e, t, n⟩
  · cases q : isTab a with
    | false => exact Heap.lt_size (old _ _ e q)
    | true =>
      refine gen_P fun Pg kg => ?_
      obtain ⟨c, ps, mr, _, _, _, ⟨_, et⟩⟩ := (tab a q).more
      refine kg ?_
      clear kg
      exact Heap.lt_size et
end

section
variable {C : Cx} {σ σ' : Led} {ι ι' : Imm} {A : Around} {s : Shared} {E : Value → Shared → Prop} {a dx : Addr} {vs : Array Value} {k : Int}
theorem n_gencode {P : Addr} {env : Env} {pos : Pos} {qual : Str} {scope : Scope} {Q : Value → Shared → Prop} (hP : isTab P = true) (hc : env.code = .ref (tabCode P)) (S : SS C σ ι s)
    (h : ∀ code s', SS C σ ι s' → Q code s') : wpAny (model prg C.w) A (genexprCode env pos qual scope) Q E s := by
  refine gen_P fun Pg kg => ?_
  obtain ⟨c, ps, mr, hc', ic, t1, t2⟩ := (S.tab P hP).more
  refine kg ?_
  clear kg
  subst hc'
  cases e : codeAmong pos (ps ++ mr).toList with
  | some c' => exact wpAny_genexprCode_hit hc ic e (h _ _ S)
  | none => exact wpAny_genexprCodeX hc ic t2 e fun c' h' tk hx _ _ ic' _ tt' _ => h _ _ (S.tabbed hP hx t2 ic' tt')
end
end Mine
end Part17
section Part18
set_option tactic.hygienic false
open PySem PySem.W PySem.W.X PySem.Calls PyProof.Rows
set_option maxRecDepth 100000
namespace Mine

section
variable {prog : Program} {w : World} {A : Around} {E : Value → Shared → Prop} {s : Shared} {I : Addr} {fp wr : List Addr} {G : Array GenState → Array GenState → Prop} {n : Nat} {P : Nat → Value → Prop} {St : Nat → Shared → Prop}

noncomputable def shP (P : Nat → Value → Prop) : Nat → Value → Prop := fun i v => match i with | 0 => False | i + 1 => P i v
noncomputable def shSt (St : Nat → Shared → Prop) : Nat → Shared → Prop := fun i s => match i with | 0 => False | i + 1 => St i s
noncomputable def shV (k : Int) (val : Nat → Int) : Nat → Int := fun i => match i with | 0 => k | i + 1 => val i
theorem shift (W : WalksS prog w A I fp wr G n P St) : WalksS prog w A I fp wr G (n + 1) (shP P) (shSt St) where
  sub := W.sub
  grefl := W.grefl
  gtrans := W.gtrans
  frame := fun i s h' tk st ht hk => by
    cases i with
    | zero => exact st.elim
    | succ i => exact W.frame i s h' tk st ht hk
  item := fun i s Q E hi st hQ => by
    cases i with
    | zero => exact st.elim
    | succ i => exact W.item i s Q E (Nat.lt_of_succ_lt_succ hi) st fun v s' hP hst' hm => hQ v s' hP hst' hm
  done := fun s Q E st hQ => W.done s Q E st hQ
  self := fun i s Q E st hQ => by
    cases i with
    | zero => exact st.elim
    | succ i => exact W.self i s Q E st hQ
theorem preSum_sh (k : Int) (val : Nat → Int) : ∀ i, preSum (shV k val) (i + 1) = k + preSum val i
  | 0 => by simp [preSum, shV]
  | i + 1 => by (first | (refine rwP (preSum) ?_; refine rwP (preSum_sh k val i) ?_; refine rwP (preSum) ?_; try with_reducible rfl) | rw [preSum, preSum_sh k val i, preSum]); simp only [shV]; (first | lia | omega)

theorem args_sum2 (a b : Value) : argsOk "sum" ⟨[a, b], []⟩ := by unfold argsOk; kernel_rfl
theorem call_sum2 {x : Value} {k : Int} {t : Tok} {Q : Value → Shared → Prop}
    (h : wpAny (model prog w) A.in1 (pyIter x) (fun it s₂ => ∃ I fp wr G n P St val, it = .ref I ∧ WalksS prog w A.in1 I fp wr G n P St ∧ St 0 s₂ ∧ (∀ b ∈ fp, b < s₂.heap.objs.size) ∧
      (∀ i v, P i v → ∃ t, v = .int (val i) t) ∧
      ∀ s' t', Moved wr G s₂ s' → Q (.int (k + preSum val n) t') s') E s) :
    wpAny (model prog w) A (call (.builtin "sum") [x, .int k t]) Q E s := by
  refine call_function_tree F.kind_sum F.plain_sum F.entry_sum (args_sum2 _ _) ?_
  unfold Builtin.«sum»
  dsimp only [List.length_cons, List.length_nil]
  refine wpIfN (by decide) ?_
  refine wpAny_bind (wpAny_of_eq (show Builtin.Builtins.bindParams "sum" ["start"] 0 ⟨[.int k t], []⟩ = pure [some (.int k t)] from rfl) ?_)
  refine wpAny_bind (wpAny_mono h (fun it s₂ h₂ => ?_) fun _ _ e => e)
  refine gen_P fun Pg kg => ?_
  obtain ⟨I, fp, wr, G, n, P, St, val, rfl, W, hst, hfp, hval, hQ⟩ := h₂
  refine kg ?_
  clear kg
  have go : ∀ (stage : Int) (tk : Tok) (toks : Nat), (stage = 0 ∨ stage = 2) → s₂.toks ≤ toks → wpAny (model prog w) A.in1 (do
      for (ty, what, hint) in [("str", "strings", "''"), ("bytes", "bytes", "b''"), ("bytearray", "bytearray", "b''")] do
        if ← isInstance (.int k tk) (.type ty) then
          rule "sum.start-refused"; raiseError "TypeError" s!"sum() can't sum {what} [use {hint}.join(seq) instead]"
      again (.builtin "sum.loop" ⟨[.ref I, ← newList [.int k tk], rawInt stage, rawInt 0], []⟩)) (BiPost prog w A Q E) E { s₂ with toks := toks } := by
    intro stage tk toks hs ht
    dsimp only [List.forIn_cons, List.forIn_nil]
    refine wpAny_bind (wpAny_bind (wpAny_bind (wpAny_isInstance (T := "int") (b := false) (typeIs_int _ _ _) PySem.sub_int_str ?_)))
    (first | refine wpIf0 ?_ | simp only [Bool.false_eq_true, if_false])
    refine wpAny_pure (wpAny_bind (wpAny_bind (wpAny_isInstance (T := "int") (b := false) (typeIs_int _ _ _) PySem.sub_int_bytes ?_)))
    (first | refine wpIf0 ?_ | simp only [Bool.false_eq_true, if_false])
    refine wpAny_pure (wpAny_bind (wpAny_bind (wpAny_isInstance (T := "int") (b := false) (typeIs_int _ _ _) PySem.sub_int_bytearray ?_)))
    (first | refine wpIf0 ?_ | simp only [Bool.false_eq_true, if_false])
    refine wpAny_pure (wpAny_pure ?_)
    refine wpAny_bind (wpAny_newObj_type ?_)
    have hSf : s₂.heap.objs.size ∉ fp := fun hm => Nat.lt_irrefl _ (hfp _ hm)
    refine wpAny_pure ⟨plainId_quiet F.plain_sum_loop _, codeAny_sum_loopAnyS (shift W) (shV k val) (fun i v hp => ?_) s₂.heap.objs.size hSf n 1 _ tk 0 stage hs (by (first | lia | omega)) (by (first | lia | omega))
      (W.frame 0 s₂ _ _ hst ht fun b _ o e => Heap.get?_push_of_some _ e) ?_ fun s' t' hm => ?_⟩
    · cases i with
      | zero => exact hp.elim
      | succ i => exact hval i v hp
    · (first | (refine rwP (preSum_sh) ?_; try with_reducible rfl) | rw [preSum_sh]); simp only [preSum, Int.add_zero]; exact Heap.get?_push_size _ rfl
    · (first | (refine rwP (preSum_sh) ?_; try with_reducible rfl) | rw [preSum_sh]); exact hQ s' t' (hm.drop_new ht)
  have h0 := go 0 s₂.toks (s₂.toks + 1) (.inl rfl) (Nat.le_succ _)
  have h2 := go 2 t s₂.toks (.inr rfl) (Nat.le_refl _)
  dsimp only
  refine wpIfB ?_ ?_
  · exact wpAny_bind (wpAny_rule (wpAny_bind (wpAny_mkInt (wpAny_bind (wpAny_pure h0)))))
  · exact wpAny_bind (wpAny_pure h2)
end
end Mine
end Part18
section Part19
set_option tactic.hygienic false
open PySem PySem.W PySem.W.X PySem.Calls PyProof.Rows
set_option maxRecDepth 100000
namespace Mine

noncomputable def SeqAt (h : Heap) (l : Addr) (items : Array Value) : Prop := ∃ o n, h.get? l = some o ∧ o.data = .seq items n
theorem SeqAt.at {h h' : Heap} {l : Addr} {items : Array Value} (x : SeqAt h l items) (e : ∀ o, h.get? l = some o → h'.get? l = some o) : SeqAt h' l items := let ⟨o, n, a, b⟩ := x; ⟨o, n, e _ a, b⟩

section
variable {prog : Program} {w : World} {A : Around} {E : Value → Shared → Prop} {s : Shared}
theorem nextH_item {it l : Addr} {i : Nat} {items} {x : Value} {Q : Option Value → Shared → Prop} (hit : s.heap.IsListIter it l i)
    (hl : SeqAt s.heap l items) (hx : items[i]? = some x)
    (hQ : ∀ h', h'.IsListIter it l (i + 1) → Heap.SameBut it s.heap h' → Q (some x) { s with heap := h' }) :
    wpAny (model prog w) A (pyNext (.ref it)) Q E s := by
  refine gen_P fun Pg kg => ?_
  obtain ⟨o, ho, hc, hd⟩ := id hit
  obtain ⟨ol, nl, hol, hdl⟩ := hl
  refine kg ?_
  clear kg
  unfold pyNext
  refine wpAny_bind (wpAny_attempt (wpAny_callSpecial?_slot (name := Str.ofString "__next__") hit.typeIs slot_listiter_next
    (wpAny_call_entry slot_listiter_next hit.typeIs entry_listiter_next ?_ (args_listiter_next _))))
  show wpAny _ _ (field (.ref it) 0 >>= _) _ _ s
  refine wpAny_bind (wpAny_field ho hd (x := .ref l) rfl ?_)
  show wpAny _ _ (if (Value.ref l == Value.none) = true then _ else _) _ _ s
  (first | (refine rwP (if_neg (show ¬ ((Value.ref l == Value.none) = true) from Bool.false_ne_true)) ?_; try with_reducible rfl) | rw [if_neg (show ¬ ((Value.ref l == Value.none) = true) from Bool.false_ne_true)])
  show wpAny _ _ (field (.ref it) 1 >>= _) _ _ s
  refine wpAny_bind (wpAny_field ho hd (x := .int i 0) rfl ?_)
  show wpAny _ _ (seqItems? (.ref l) >>= _) _ _ s
  refine wpAny_bind (wpAny_seqItems hol hdl ?_)
  (first | (refine rwP (Int.toNat_natCast) ?_; try with_reducible rfl) | rw [Int.toNat_natCast]); dsimp only; (first | (refine rwP (hx) ?_; try with_reducible rfl) | rw [hx]); dsimp only
  refine wpAny_bind (wpAny_setField ho hd (by simp) (wpAny_pure ⟨x, rfl, wpAny_pure (hQ _ ?_ (Heap.SameBut.update ..))⟩))
  exact ⟨_, Heap.get?_update_self _ ho (Obj.isFreed_of_fields (Obj.data_mapFields hd _)), (Obj.cls_mapFields ..).trans hc, by
    (first | (refine rwP (Obj.data_mapFields hd) ?_; try with_reducible rfl) | rw [Obj.data_mapFields hd]); simp [rawInt]⟩
theorem nextH_end {it l : Addr} {i : Nat} {items} {Q : Option Value → Shared → Prop} (hh : A.handled = none)
    (hit : s.heap.IsListIter it l i) (hl : SeqAt s.heap l items) (hx : items[i]? = none)
    (hQ : ∀ h', Heap.ExtBut it s.heap h' → Q none { s with heap := h' }) : wpAny (model prog w) A (pyNext (.ref it)) Q E s := by
  refine gen_P fun Pg kg => ?_
  obtain ⟨o, ho, hc, hd⟩ := id hit
  obtain ⟨ol, nl, hol, hdl⟩ := hl
  refine kg ?_
  clear kg
  unfold pyNext
  refine wpAny_bind (wpAny_attempt (wpAny_callSpecial?_slot (name := Str.ofString "__next__") hit.typeIs slot_listiter_next
    (wpAny_call_entry slot_listiter_next hit.typeIs entry_listiter_next ?_ (args_listiter_next _))))
  show wpAny _ _ (field (.ref it) 0 >>= _) _ _ s
  refine wpAny_bind (wpAny_field ho hd (x := .ref l) rfl ?_)
  show wpAny _ _ (if (Value.ref l == Value.none) = true then _ else _) _ _ s
  (first | (refine rwP (if_neg (show ¬ ((Value.ref l == Value.none) = true) from Bool.false_ne_true)) ?_; try with_reducible rfl) | rw [if_neg (show ¬ ((Value.ref l == Value.none) = true) from Bool.false_ne_true)])
  show wpAny _ _ (field (.ref it) 1 >>= _) _ _ s
  refine wpAny_bind (wpAny_field ho hd (x := .int i 0) rfl ?_)
  show wpAny _ _ (seqItems? (.ref l) >>= _) _ _ s
  refine wpAny_bind (wpAny_seqItems hol hdl ?_)
  (first | (refine rwP (Int.toNat_natCast) ?_; try with_reducible rfl) | rw [Int.toNat_natCast]); dsimp only; (first | (refine rwP (hx) ?_; try with_reducible rfl) | rw [hx]); dsimp only
  refine wpAny_bind (wpAny_rule (wpAny_bind (wpAny_setField ho hd (by simp) ?_)))
  show wpAny _ _ (newExc (.type "StopIteration") [] >>= _) _ _ _
  refine wpAny_bind ?_
  dsimp only [newExc, newTuple]
  refine wpAny_bind (wpAny_newObj_type ?_ (by size_fits))
  refine wpAny_bind (m := firstArgMember _ _) (wpAny_of_eq (a := Value.none) (by first | rfl | (simp only [firstArgMember]; rfl)) ?_)
  refine wpAny_newObj_type ?_ (by size_fits)
  dsimp only [raiseNew]
  refine wpAny_bind (wpAny_handled ?_)
  (first | (refine rwP (show A.in1.handled = none from hh) ?_; try with_reducible rfl) | rw [show A.in1.handled = none from hh])
  refine wpAny_bind (wpAny_pure (wpAny_throw ?_))
  refine wpAny_bind (wpAny_isInstance (T := "StopIteration") (b := true) ⟨_, Heap.get?_push_size _ rfl, rfl⟩ isSubtype_stop ?_)
  exact wpAny_pure (hQ _ (((Heap.SameBut.update ..).extBut.push _).push _))
end

theorem walksU_acc {prog : Program} {w : World} {A : Around} (hh : A.handled = none) (I ax : Addr) (hne : ax ≠ I) (items : Array Value) (Ts : Nat → Addr) (vals : Nat → Array Value)
    (hit : ∀ j, j < items.size → items[j]? = some (.ref (Ts j))) (hTI : ∀ j, j < items.size → Ts j ≠ I) :
    WalksU prog w A I (I :: ax :: (List.range items.size).map Ts) [I] items.size (fun j v => j < items.size ∧ v = vals j)
      (fun j h => h.IsListIter I ax j ∧ SeqAt h ax items ∧ ∀ k, k < items.size → h.IsTuple (Ts k) (vals k))
      (fun j T h => (j < items.size ∧ T = Ts j) ∧ h.IsListIter I ax (j + 1) ∧ SeqAt h ax items ∧ ∀ k, k < items.size → h.IsTuple (Ts k) (vals k)) where
  sub := fun b hb => by simp at hb; simp [hb]
  frame := fun _ _ _ st hk => ⟨st.1.at fun o e => hk I (by simp) o e, st.2.1.at fun o e => hk ax (by simp) o e,
    fun k hk' => (st.2.2 k hk').at fun o e => hk (Ts k) (List.mem_cons_of_mem _ (List.mem_cons_of_mem _ (List.mem_map.mpr ⟨k, List.mem_range.mpr hk', rfl⟩))) o e⟩
  item := fun i s Q E hi st hQ => by
    refine nextH_item st.1 st.2.1 (x := .ref (Ts i)) (hit i hi) fun h' hit' hs' => ?_
    have tup : ∀ k, k < items.size → h'.IsTuple (Ts k) (vals k) := fun k hk' => (st.2.2 k hk').extBut hs'.extBut (hTI k hk')
    exact hQ (Ts i) (vals i) h' s.toks ⟨hi, rfl⟩ (tup i hi) ⟨⟨hi, rfl⟩, hit', st.2.1.at fun o e => hs'.extBut _ _ hne e, tup⟩ fun b o hb e => hs'.extBut b o (fun h => hb (by simp [h])) e
  go := fun _ _ _ _ _ s Q _ hm hQ => wpAny_letOwnedTupleGo_listiter hm.2.1 (hQ s.heap hm.2 fun _ _ _ e => e)
  apart := fun j T _ hm hmem => by
    rcases List.mem_cons.mp hmem with e | e
    · exact hTI j hm.1.1 (hm.1.2 ▸ e)
    · cases e
  done := fun s Q E st hQ => nextH_end hh st.1 st.2.1 (by simp) fun h' he' => hQ h' s.toks fun b o hb e => he' b o (fun h => hb (by simp [h])) e
  self := fun _ _ _ _ st hQ => wpAny_pyIter_listiter st.1 hQ

/-- what stands of an accumulator's pieces -/
noncomputable def pcs (ι : Imm) (vs : Array Value) (ps : List (Str × Str)) : Prop := ps.length = vs.size ∧ ∀ (i : Nat) (p : Str × Str), ps[i]? = some p → ∃ v, vs[i]? = some v ∧ IsPiece ι v p
theorem pcs.mono {ι ι' : Imm} {vs : Array Value} {ps : List (Str × Str)} (h : ι ⊆ ι') (x : pcs ι vs ps) : pcs ι' vs ps := ⟨x.1, fun i p e => let ⟨v, a, b⟩ := x.2 i p e; ⟨v, a, b.mono h⟩⟩
theorem pcs.nil {ι : Imm} : pcs ι #[] [] := ⟨rfl, fun i p e => by simp at e⟩
theorem pcs.push {ι : Imm} {vs : Array Value} {ps : List (Str × Str)} {v : Value} {p : Str × Str} (x : pcs ι vs ps) (y : IsPiece ι v p) : pcs ι (vs.push v) (ps ++ [p]) := by
  refine ⟨by (first | (refine rwP (List.length_append) ?_; refine rwP (x.1) ?_; refine rwP (Array.size_push) ?_; try with_reducible rfl) | rw [List.length_append, x.1, Array.size_push]); rfl, fun i q e => ?_⟩
  by_cases hi : i < ps.length
  · rw [List.getElem?_append_left hi] at e
    obtain ⟨w, a, b⟩ := x.2 i q e
    exact ⟨w, by (first | (refine rwP (Array.getElem?_push) ?_; refine rwP (if_neg (by rw [← x.1]; (first | lia | omega))) ?_; try with_reducible rfl) | rw [Array.getElem?_push, if_neg (by rw [← x.1]; (first | lia | omega))]); exact a, b⟩
  · rw [List.getElem?_append_right (by (first | lia | omega))] at e
    have : i = ps.length := by
      by_cases h : i - ps.length = 0
      · (first | lia | omega)
      · rw [List.getElem?_cons, if_neg h] at e; simp at e
    subst this
    simp at e
    subst e
    exact ⟨v, by (first | (refine rwP (Array.getElem?_push) ?_; refine rwP (if_pos x.1) ?_; try with_reducible rfl) | rw [Array.getElem?_push, if_pos x.1]), y⟩
end Mine
end Part19
section Part20
set_option tactic.hygienic false
open PySem PySem.W PySem.W.X PySem.Calls PyProof.Rows
set_option maxRecDepth 100000
namespace Mine

structure KB (K : Frag) : Prop where
  bi : nsIn K 3 "__builtins__" = some (some (.ref 4))
  bm : ∃ sl, K.lookup 4 = some ⟨.type "module", some 0, .plain, sl⟩
  gSum : nsIn K 3 "sum" = some none
  bSum : nsIn K 0 "sum" = some (some (.builtin "sum"))
  gLen : nsIn K 3 "len" = some none
  bLen : nsIn K 0 "len" = some (some (.builtin "len"))
  fLen : Fn K 68 67 "_Accumulator.__len__" (clsS 4) [] .none

section
variable {C : Cx} {σ σ' : Led} {ι ι' : Imm} {A : Around} {s : Shared} {E : Value → Shared → Prop} {a dx : Addr} {vs : Array Value} {k : Int}

theorem n_builtinsFor {Q : Addr → Shared → Prop} (KK : KB C.K) (K : C.K.In s.heap) (h : Q 0 s) : wpAny (model prg C.w) A (builtinsFor 3 0) Q E s := by
  obtain ⟨sl, e⟩ := KK.bm
  unfold builtinsFor
  refine wpAny_bind ((looks_nsIn K KK.bi).here ?_)
  show wpAny _ _ (if _ then _ else _) _ _ _
  (first | (refine rwP (if_neg (by decide)) ?_; try with_reducible rfl) | rw [if_neg (by decide)])
  refine wpAny_bind (wpAny_load (K _ _ e) ?_)
  exact wpAny_pure h

theorem n_builtinK {x : Str} {pos : Pos} {env : Env} {v : Value} {Q : Value → Shared → Prop} (K : C.K.In s.heap) (hv : nsIn C.K 3 x = some none) (hb : nsIn C.K 0 x = some (some v)) (h : Q v s)
    (hg : autoParam (env.globals = 3) tacRfl) (hgb : autoParam (env.builtins = 0) tacRfl) (hk : autoParam (env.scope.kind = .function) tacRfl) (hl : autoParam (env.kindOf x = some .globalImplicit) tacRfl) (hd : autoParam ((x == ("__debug__" : Str)) = false) tacDec) :
    wpAny (model prg C.w) A (eval (.Name x pos) env) Q E s := by
  refine Name_function_global hk hl ?_ hd
  unfold loadGlobal
  (first | (refine rwP (hg) ?_; refine rwP (hgb) ?_; try with_reducible rfl) | rw [hg, hgb])
  exact wpAny_bind ((looks_nsIn K hv).here (wpAny_bind ((looks_nsIn K hb).here (wpAny_pure h))))

theorem n_len_name {x : Str} {p0 p1 pos : Pos} {env : Env} {L : Addr} {m : Str → Option Value} {v : Str} {t : Tok} {Q : Value → Shared → Prop} (KK : KB C.K) (K : C.K.In s.heap) (hn : s.heap.Ns env.locals m) (hm : m x = some (.str v t)) (hfit : v.length < 2 ^ 62)
    (h : Q (.int v.length (s.toks + 1)) { s with toks := s.toks + 1 + 1 })
    (hg : autoParam (env.globals = 3) tacRfl) (hgb : autoParam (env.builtins = 0) tacRfl) (hk : autoParam (env.scope.kind = .function) tacRfl) (hl : autoParam (env.kindOf "len" = some .globalImplicit) tacRfl) (hlx : autoParam (env.kindOf x = some .local) tacRfl) (hd : autoParam ((x == ("__debug__" : Str)) = false) tacDec) :
    wpAny (model prg C.w) A (eval (.Call (.Name "len" p0) [.Name x p1] [] pos) env) Q E s := by
  refine Call_ (n_builtinK K KK.gLen KK.bLen ?_ hg hgb hk hl)
  refine n_callb (sp_cons ?_)
  refine wpAny_Name (wpAny_loadName_local hk hlx hn hm ?_) hd
  refine sp_nil ?_
  exact P.len_str (by (first | lia | omega)) h
end
end Mine
end Part20
section Part21
set_option tactic.hygienic false
open PySem PySem.W PySem.W.X PySem.Calls PyProof.Rows
set_option maxRecDepth 100000
namespace Mine

noncomputable def tsOf (vs : Array Value) (j : Nat) : Addr := match vs[j]? with | some (.ref t) => t | _ => 0
noncomputable def valsOf (h : Heap) (vs : Array Value) (j : Nat) : Array Value := match h.get? (tsOf vs j) with | some ⟨_, _, .seq xs _, _⟩ => xs | _ => #[]
theorem passing_all (n : Nat) : passing (fun _ => true) n 0 = List.range n := by
  unfold passing; simp

section
variable {C : Cx} {σ σ' : Led} {ι ι' : Imm} {A : Around} {s : Shared} {E : Value → Shared → Prop} {a dx : Addr} {vs : Array Value} {k : Int}

noncomputable def GenOn (C : Cx) (σ : Led) (ι : Imm) (A : Around) (a : Addr) (n : Nat) (F : Nat → Value → Prop) (s : Shared) : Prop :=
  Ex5 fun fp wr G P St => And6 (WalksS prg C.w A.in1.in1 a fp wr G n P St) (((∀ i s, St i s → s.TypeIs (.ref a) "generator") ∧ a ∈ fp)) (St 0 s) ((∀ b ∈ fp, b < s.heap.objs.size)) ((∀ i v, P i v → F i v)) (∀ s', Moved wr G s s' → SS C σ ι s')

theorem pcs.fun {h : Heap} {g : Array GenState} {os : OsState} {ps : List (Str × Str)} (S : St C σ ι h g os) (x : pcs ι vs ps) (j : Nat) (hj : j < vs.size) :
    ∃ p k1 k2, ps[j]? = some p ∧ vs[j]? = some (.ref (tsOf vs j)) ∧ valsOf h vs j = #[.str p.1 k1, .str p.2 k2] ∧ h.get? (tsOf vs j) = some (pieceObj (.str p.1 k1) (.str p.2 k2)) := by
  obtain ⟨p, hp⟩ : ∃ p, ps[j]? = some p := ⟨_, List.getElem?_eq_getElem (by (first | (refine rwP (x.1) ?_; try with_reducible rfl) | rw [x.1]); exact hj)⟩
  refine gen_P fun Pg kg => ?_
  obtain ⟨v, hv, t, k1, k2, rfl, m⟩ := x.2 j p hp
  refine kg ?_
  clear kg
  have ht : tsOf vs j = t := by unfold tsOf; (first | (refine rwP (hv) ?_; try with_reducible rfl) | rw [hv])
  have e := S.tup m
  refine ⟨p, k1, k2, hp, by (first | (refine rwP (ht) ?_; try with_reducible rfl) | rw [ht]); exact hv, ?_, by (first | (refine rwP (ht) ?_; try with_reducible rfl) | rw [ht]); exact e⟩
  unfold valsOf; (first | (refine rwP (ht) ?_; refine rwP (e) ?_; try with_reducible rfl) | rw [ht, e]); rfl

theorem gen_pieces {P : Addr} {elt iter : Expr} {xa xb : Str} {pa pb pt : Pos} {kt : Nat} {scope : Scope} {pos : Pos} {env : Env} {ps : List (Str × Str)} {F : Nat → Value → Prop} {Q : Value → Shared → Prop} {n : Nat}
    (X : CxOk C) (KA : KF C.K) (KT' : KT C.K) (KK : KB C.K) (R : Room n A) (hP : isTab P = true) (hc : env.code = .ref (tabCode P)) (hg3 : env.globals = 3) (hb0 : env.builtins = 0) (S : SS C σ ι s)
    (hi : wpAny (model prg C.w) A (eval iter env) (fun v s' => v = .ref a ∧ SS C σ ι s') E s)
    (ha : (a, accP dx vs) ∈ σ) (hp : pcs ι vs ps)
    (helt : ∀ A' E' i p ta tb (s₂ : Shared) m₂ L code, A'.handled = none → C.K.In s₂.heap → ps[i]? = some p → s₂.heap.Ns L m₂ → m₂ xa = some (.str p.1 ta) → m₂ xb = some (.str p.2 tb) →
      wpAny (model prg C.w) A' (eval elt (genEnv scope [] L code 0 env)) (fun y s₃ => F i y ∧ Keeps s₂ s₃) E' s₂)
    (h : ∀ g s', SS C σ ι s' → (∀ tk, s'.toks ≤ tk → GenOn C σ ι A g vs.size F { s' with toks := tk }) → Q (.ref g) s')
    (hab : xa ≠ xb) (hco : autoParam (scope.isCoroutine = false) tacRfl) (hclos : autoParam (closureFor scope env = pure []) tacRfl) (hcell : autoParam (∀ y ∈ scope.names, y.2 ≠ .cell) tacDec) (h0 : autoParam (scope.names.lookup (".0" : Str) = some NameKind.local) tacRfl)
    (hxa : autoParam (scope.names.lookup xa = some .local) tacRfl) (hxb : autoParam (scope.names.lookup xb = some .local) tacRfl) (hkind : autoParam (scope.kind = .function) tacRfl) (hs : autoParam (∀ x, genFold iter env x = pure x) tacRfl1) :
    wpAny (model prg C.w) A (eval (.GeneratorExp elt [⟨.Tuple [.Name xa pa, .Name xb pb] kt pt, iter, [], 0⟩] scope pos) env) Q E s := by
  refine wpAny_GeneratorExp_walksQT R.h hco hclos hcell h0 hxa hxb hab hkind R.lt ?_ hs
  refine wpAny_mono hi (fun v s1 h1 => ?_) fun _ _ e => e
  obtain ⟨rfl, S1⟩ := h1
  refine iter_acc X KA KT' S1 ha fun I s2 S2 => ⟨S2.noLimit X, ?_⟩
  refine n_gencode hP hc S2 fun code s3 S3 => ?_
  (first | (refine rwP (hg3) ?_; refine rwP (hb0) ?_; try with_reducible rfl) | rw [hg3, hb0])
  refine n_builtinsFor KK (S3.kin X) ?_
  refine gen_P fun Pg kg => ?_
  obtain ⟨oI, eI, pI, ntI, nbI⟩ := S3.own _ (.head _)
  refine kg ?_
  clear kg
  have nbI : C.base.get? I = none := nbI
  have neI : a ≠ I := by
    have nd := S3.nd
    rw [List.map_cons, List.nodup_cons] at nd
    exact fun e => nd.1 (by (first | (refine rwQ (e) ?_; try with_reducible rfl) | rw [← e]); exact List.mem_map_of_mem (f := (·.1)) ha)
  have pf := hp.fun S3
  refine gen_P fun Pg kg => ?_
  obtain ⟨oa, ea, na, sla, rfl⟩ := S3.at (.tail _ ha)
  refine kg ?_
  clear kg
  have hTI : ∀ j, j < vs.size → tsOf vs j ≠ I := fun j hj e => by
    refine gen_P fun Pg kg => ?_
    obtain ⟨p, k1, k2, _, _, _, et⟩ := pf j hj
    refine kg ?_
    clear kg
    rw [e] at et
    have : oI = _ := Option.some.inj (eI.symm.trans et)
    exact ntI (this ▸ pieceObj_tup _ _)
  have tups : ∀ j, j < vs.size → s3.heap.IsTuple (tsOf vs j) (valsOf s3.heap vs j) := fun j hj => by
    refine gen_P fun Pg kg => ?_
    obtain ⟨p, k1, k2, _, _, ev, et⟩ := pf j hj
    refine kg ?_
    clear kg
    (first | (refine rwP (ev) ?_; try with_reducible rfl) | rw [ev]); exact ⟨_, et, rfl, _, rfl⟩
  refine ⟨I, _, _, vs.size, _, _, _, fun _ => true, F, rfl, fun A' hA' => walksU_acc hA' I a neI vs (tsOf vs) (valsOf s3.heap vs) (fun j hj => ?_) hTI, ?_, ?_, ?_, S3.noLimit X, ?_, ?_, ?_⟩
  · obtain ⟨p, k1, k2, _, e, _⟩ := pf j hj; exact e
  · rintro i vals ⟨hi, rfl⟩
    refine gen_P fun Pg kg => ?_
    obtain ⟨p, k1, k2, _, _, ev, _⟩ := pf i hi
    refine kg ?_
    clear kg
    exact ⟨_, _, ev⟩
  · exact ⟨⟨oI, eI, pI.1, pI.2⟩, ⟨_, _, ea, rfl⟩, tups⟩
  · intro b hb
    rcases List.mem_cons.mp hb with rfl | hb
    · exact Heap.lt_size eI
    rcases List.mem_cons.mp hb with rfl | hb
    · exact Heap.lt_size ea
    · refine gen_P fun Pg kg => ?_
      obtain ⟨j, hj, rfl⟩ := List.mem_map.mp hb
      obtain ⟨p, k1, k2, _, _, _, et⟩ := pf j (List.mem_range.mp hj)
      refine kg ?_
      clear kg
      exact Heap.lt_size et
  · intro hm
    rw [List.mem_singleton] at hm
    refine gen_P fun Pg kg => ?_
    obtain ⟨c, d, es, nn, sl, e, _⟩ := X.limo
    refine kg ?_
    clear kg
    have := X.kin _ _ e
    rw [hm, nbI] at this
    cases this
  · intro href hk
    have kin : ∀ s₂ : Shared, (∀ b ∈ List.range s3.heap.objs.size, b ∉ [I] → ∀ o, href.get? b = some o → s₂.heap.get? b = some o) → C.K.In s₂.heap := fun s₂ h2 b o e => by
      have e3 := S3.kin X _ _ e
      refine h2 b (List.mem_range.mpr (Heap.lt_size e3)) (fun hm => ?_) o (hk _ _ e3)
      rw [List.mem_singleton] at hm
      have := X.kin _ _ e
      rw [hm, nbI] at this; cases this
    refine ⟨fun A' E' i va vb s₂ m₂ hA' hPt hn h1 h2 h3 => ?_, fun A' E' i va vb s₂ m₂ hA' hPt _ hn h1 h2 h3 => ?_⟩
    · exact wpAny_pure ⟨rfl, _, _, rfl, fun _ _ e => e⟩
    · refine gen_P fun Pg kg => ?_
      obtain ⟨hi, e⟩ := hPt
      obtain ⟨p, k1, k2, ep, _, ev, _⟩ := pf i hi
      refine kg ?_
      clear kg
      rw [ev] at e
      have e1 : va = .str p.1 k1 := by have := congrArg (fun x : Array Value => x[0]?) e; simpa using this
      have e2 : vb = .str p.2 k2 := by have := congrArg (fun x : Array Value => x[1]?) e; simpa using this
      exact helt A' E' i p k1 k2 s₂ m₂ _ _ hA' (kin s₂ h3) ep hn (by (first | (refine rwP (h1) ?_; refine rwP (e1) ?_; try with_reducible rfl) | rw [h1, e1])) (by (first | (refine rwP (h2) ?_; refine rwP (e2) ?_; try with_reducible rfl) | rw [h2, e2]))
  · intro g h₅ tk gs hgs hlt hsz kp W G0
    have S5 : SS C ((I, liP a 0) :: σ) ι { s3 with gens := s3.gens.push gs, toks := tk, heap := h₅ } := (S3.kept kp).os_eq (S3.gens.push hgs)
    refine h _ _ S5.tl fun tk' htk => ?_
    have hl : (passing (fun _ => true) vs.size 0).length = vs.size := by (first | (refine rwP (passing_all) ?_; try with_reducible rfl) | rw [passing_all]); simp
    have W' := W.of_in1.of_in1
    rw [hl] at W'
    refine ⟨_, _, _, _, _, W', ⟨fun i s gs => gs.1.typeIs, .head _⟩, W.frame 0 _ _ _ G0 htk fun _ _ _ e => e, ?_, ?_, ?_⟩
    · intro b hb
      have hlt : s3.heap.objs.size < g := hlt
      have hsz : h₅.objs.size = g + 1 := hsz
      show b < h₅.objs.size
      rcases List.mem_cons.mp hb with e | hb
      · (first | (refine rwP (e) ?_; refine rwP (hsz) ?_; try with_reducible rfl) | rw [e, hsz]); exact Nat.lt_succ_self _
      rcases List.mem_cons.mp hb with e | hb
      · (first | (refine rwP (e) ?_; refine rwP (hsz) ?_; try with_reducible rfl) | rw [e, hsz]); exact Nat.lt_succ_of_lt hlt
      · (first | (refine rwP (hsz) ?_; try with_reducible rfl) | rw [hsz]); exact Nat.lt_succ_of_lt (Nat.lt_trans (List.mem_range.mp hb) hlt)
    · rintro j v ⟨i, hi, hF⟩
      rw [passing_all] at hi
      have : i = j := by
        by_cases hj : j < vs.size
        · rw [List.getElem?_range hj] at hi; exact (Option.some.inj hi).symm
        · rw [List.getElem?_eq_none (by simpa using hj)] at hi; cases hi
      subst this; exact hF
    · intro s' hm
      have hx : Heap.ExtBut I s3.heap s'.heap := fun b o hb e => hm.heap b o (fun hw => by
        rcases List.mem_cons.mp hw with rfl | hw
        · exact absurd (Heap.lt_size e) (Nat.lt_irrefl _)
        · rw [List.mem_singleton] at hw; exact hb hw) (kp _ _ e)
      have := S3.forgetE hx (hm.gens.bare (S3.gens.push hgs))
      show St C σ ι s'.heap s'.gens s'.os
      (first | (refine rwP (hm.os) ?_; try with_reducible rfl) | rw [hm.os]); exact this
end
end Mine
end Part21
section Part22
set_option tactic.hygienic false
open PySem PySem.W PySem.W.X PySem.Calls PyProof.Rows
set_option maxRecDepth 100000
namespace Mine

noncomputable def lenS (ps : List (Str × Str)) : Nat := (ps.map fun p => p.1.length + p.2.length).sum
noncomputable def lenOf (ps : List (Str × Str)) (i : Nat) : Int := match ps[i]? with | some p => ((p.1.length + p.2.length : Nat) : Int) | none => 0
theorem preSum_lenS (ps : List (Str × Str)) : ∀ i, preSum (lenOf ps) i = lenS (ps.take i)
  | 0 => by simp [preSum, lenS]
  | i + 1 => by
    (first | (refine rwP (preSum) ?_; refine rwP (preSum_lenS ps i) ?_; try with_reducible rfl) | rw [preSum, preSum_lenS ps i])
    unfold lenOf lenS
    (first | (refine rwP (List.take_add_one) ?_; try with_reducible rfl) | rw [List.take_add_one])
    cases ps[i]? <;> simp
noncomputable def small (ps : List (Str × Str)) : Prop := ∀ p ∈ ps, p.1.length < 2 ^ 40 ∧ p.2.length < 2 ^ 40

section
variable {C : Cx} {σ σ' : Led} {ι ι' : Imm} {A : Around} {s : Shared} {E : Value → Shared → Prop} {a dx : Addr} {vs : Array Value} {k : Int}
theorem len_code {n : Nat} {ps : List (Str × Str)} {Q : Value → Shared → Prop} (X : CxOk C) (KA : KF C.K) (KT' : KT C.K) (KG' : KG C.K) (KL' : KL C.K) (KK : KB C.K) (R : Room (n + 2) A) (S : SS C σ ι s)
    (ha : (a, accP dx vs) ∈ σ) (hd : (dx, szP k) ∈ σ) (hp : pcs ι vs ps) (hz : small ps)
    (h : ∀ t s', SS C σ ι s' → Q (.int (k + lenS ps) t) s') : codeAny (model prg C.w) A (.call (.ref 68) ⟨[.ref a], []⟩) (fun r s' => match r with | .ok (.ret v) => Q v s' | .ok _ => False | .error e => E e s') s := by
  refine code_fn (binds := [("self", .ref a)]) X KK.fLen R S (fun _ _ _ _ _ => BindsTo.of_eq rfl) fun L s1 S1 R1 => ?_
  refine wpAny_execs_cons (wpAny_Return_some ?_)
  refine Call_ (n_builtin X S1 KK.gSum KK.bSum ?_)
  refine n_callb (sp_cons ?_)
  refine gen_pieces (P := 63) (F := fun i v => ∃ t, v = .int (lenOf ps i) t) X KA KT' KK R1 rfl rfl rfl rfl S1 (n_local S1 (.head _) rfl ⟨rfl, S1⟩) (.tail _ ha) hp (fun A' E' i p ta tb s₂ m₂ L code hA' K hi hn h1 h2 => ?_) (fun g s2 S2 hgen => ?_) (by decide)
  · have hp2 := hz p (List.mem_of_getElem? hi)
    refine wpAny_BinOp ?_
    refine n_len_name (L := L) KK K hn h1 (Nat.lt_trans hp2.1 (by decide)) ?_
    refine n_len_name (s := { s₂ with toks := s₂.toks + 1 + 1 }) (L := L) KK K hn h2 (Nat.lt_trans hp2.2 (by decide)) ?_
    refine P.add_int ?_
    refine ⟨⟨s₂.toks + 1 + 1 + 1 + 1, ?_⟩, _, _, rfl, fun _ _ e => e⟩
    unfold lenOf; (first | (refine rwP (hi) ?_; try with_reducible rfl) | rw [hi])
    simp
  · refine sp_cons (Attribute_Name_ (n_local S2 (.head _) rfl ?_))
    refine acc_size X KA KG' KL' S2 (.tail _ ha) (.tail _ hd) fun t => ?_
    refine sp_nil ?_
    obtain ⟨fp, wr, G, P, St, W, _, h0, hfp, hF, hend⟩ := hgen (s2.toks + 1) (Nat.le_succ _)
    have W := W.of_in1
    refine call_sum2 (W.self 0 _ _ _ h0 ⟨g, fp, wr, G, vs.size, P, St, lenOf ps, rfl, ?_, h0, hfp, hF, fun s' t' hm => ?_⟩)
    · exact W
    · (first | (refine rwP (preSum_lenS) ?_; refine rwQ (hp.1) ?_; refine rwP (List.take_length) ?_; try with_reducible rfl) | rw [preSum_lenS, ← hp.1, List.take_length])
      exact h _ _ (hend s' hm).tl
end
end Mine
end Part22
section Part23
open PySem PySem.W PySem.W.X PySem.Calls PyProof.Rows
set_option maxRecDepth 100000
namespace Mine

structure KStr (K : Frag) : Prop where
  empty : ∃ tk, nsIn K 3 "EMPTYSTRING" = some (some (.str "" tk))
  fStr : Fn K 75 74 "_Accumulator.__str__" (clsS 5) [] .none

noncomputable def glue2 (p : Str × Str) : Str := Txt.join "" [p.1, p.2]
noncomputable def strOf (ps : List (Str × Str)) (i : Nat) : Str := match ps[i]? with | some p => glue2 p | none => ""
noncomputable def strS (ps : List (Str × Str)) : Str := Txt.join "" (ps.map glue2)
theorem glue2_length (p : Str × Str) : (glue2 p).length = p.1.length + p.2.length := by
  show ((p.1.cps ++ (Str.ofString "").cps) ++ p.2.cps).size = p.1.cps.size + p.2.cps.size
  rw [Array.size_append, Array.size_append]
  rfl
theorem mem_lenS {ps : List (Str × Str)} {p : Str × Str} (h : p ∈ ps) : p.1.length + p.2.length ≤ lenS ps := by
  induction ps with
  | nil => cases h
  | cons q r ih =>
    have e : lenS (q :: r) = (q.1.length + q.2.length) + lenS r := by simp [lenS]
    rw [e]
    rcases List.mem_cons.mp h with rfl | h
    · (first | lia | omega)
    · have := ih h; (first | lia | omega)
theorem sum_glue (ps : List (Str × Str)) : ((ps.map glue2).map (·.length)).sum = lenS ps := by
  unfold lenS
  rw [List.map_map]
  congr 1
  exact List.map_congr_left fun p _ => glue2_length p
theorem texts_of {ps : List (Str × Str)} {l : List (Str × Tok)} {n : Nat} (hn : ps.length = n) {P : Nat → Value → Prop} (hl : ItemsOf P (strValues l).toArray n) (hF : ∀ i v, P i v → ∃ t, v = .str (strOf ps i) t) : l.map (·.1) = ps.map glue2 := by
  obtain ⟨h1, h2⟩ := hl
  have hlen : l.length = ps.length := by
    have : (strValues l).length = l.length := by unfold strValues; rw [List.length_map]
    rw [List.size_toArray, this] at h1; (first | lia | omega)
  refine List.ext_getElem? fun i => ?_
  rw [List.getElem?_map, List.getElem?_map]
  cases e : l[i]? with
  | none =>
    have : l.length ≤ i := List.getElem?_eq_none_iff.mp e
    rw [List.getElem?_eq_none (by (first | lia | omega))]; rfl
  | some q =>
    have hi : i < l.length := (List.getElem?_eq_some_iff.mp e).1
    obtain ⟨p, hp⟩ : ∃ p, ps[i]? = some p := ⟨_, List.getElem?_eq_getElem (by (first | lia | omega))⟩
    have := h2 i (.str q.1 q.2) (by rw [List.getElem?_toArray]; unfold strValues; rw [List.getElem?_map, e]; rfl)
    obtain ⟨t, ht⟩ := hF i _ this
    unfold strOf at ht
    rw [hp] at ht
    injection ht with ht
    rw [hp]
    exact congrArg some ht

section
variable {C : Cx} {σ σ' : Led} {ι ι' : Imm} {A : Around} {s : Shared} {E : Value → Shared → Prop} {a dx : Addr} {vs : Array Value} {k : Int}
theorem n_globalK {x : Str} {pos : Pos} {env : Env} {v : Value} {Q : Value → Shared → Prop} (K : C.K.In s.heap) (hv : nsIn C.K 3 x = some (some v)) (h : Q v s)
    (hg : autoParam (env.globals = 3) tacRfl) (hk : autoParam (env.scope.kind = .function) tacRfl) (hl : autoParam (env.kindOf x = some .globalImplicit) tacRfl) (hd : autoParam ((x == ("__debug__" : Str)) = false) tacDec) :
    wpAny (model prg C.w) A (eval (.Name x pos) env) Q E s := by
  refine Name_function_global hk hl ?_ hd
  unfold loadGlobal
  rw [hg]
  exact wpAny_bind ((looks_nsIn K hv).here (wpAny_pure h))

theorem str_code {n : Nat} {ps : List (Str × Str)} {Q : Value → Shared → Prop} (X : CxOk C) (KA : KF C.K) (KT' : KT C.K) (KK : KB C.K) (KS' : KStr C.K) (R : Room (n + 2) A) (S : SS C σ ι s)
    (ha : (a, accP dx vs) ∈ σ) (hp : pcs ι vs ps) (hz : lenS ps + ps.length ≤ 1000000)
    (h : ∀ t s', SS C σ ι s' → Q (.str (strS ps) t) s') : codeAny (model prg C.w) A (.call (.ref 75) ⟨[.ref a], []⟩) (fun r s' => match r with | .ok (.ret v) => Q v s' | .ok _ => False | .error e => E e s') s := by
  obtain ⟨te, hE⟩ := KS'.empty
  refine code_fn (binds := [("self", .ref a)]) X KS'.fStr R S (fun _ _ _ _ _ => BindsTo.of_eq rfl) fun L s1 S1 R1 => ?_
  refine wpAny_execs_cons (wpAny_Return_some ?_)
  refine n_meth (n_globalK (S1.kin X) hE ?_)
  refine GM.join ?_
  refine n_callb (sp_cons ?_)
  refine gen_pieces (P := 70) (F := fun i v => ∃ t, v = .str (strOf ps i) t) X KA KT' KK R1 rfl rfl rfl rfl S1 (n_local S1 (.head _) rfl ⟨rfl, S1⟩) (.tail _ ha) hp (fun A' E' i p ta tb s₂ m₂ L code hA' K hi hn h1 h2 => ?_) (fun g s2 S2 hgen => ?_) (by decide)
  · refine n_meth (n_globalK K hE ?_)
    refine GM.join ?_
    refine n_callb (sp_cons (Tuple_ (sp_cons (wpAny_Name (wpAny_loadName_local rfl rfl hn h1 ?_) (by decide)))))
    refine sp_cons (wpAny_Name (wpAny_loadName_local rfl rfl hn h2 ?_) (by decide))
    refine sp_nil (wpAny_newTuple (sp_nil ?_))
    refine join_tupleW (ys := [p.1, p.2]) ⟨_, Heap.get?_push_size _ rfl, rfl, _, rfl⟩ (.cons _ _ (.cons _ _ .nil)) (by decide) ?_ fun t' k => ?_
    · have := mem_lenS (List.mem_of_getElem? hi)
      show (p.1.length + (p.2.length + 0)) + 2 ≤ _
      (first | lia | omega)
    · refine ⟨⟨t', ?_⟩, _, _, rfl, fun _ _ e => Heap.get?_push_of_some _ e⟩
      unfold strOf; rw [hi]; rfl
  · refine sp_nil ?_
    refine gen_P fun Pg kg => ?_
    obtain ⟨fp, wr, G, P, St, W, ⟨hT, hI⟩, h0, hfp, hF, hend⟩ := hgen s2.toks (Nat.le_refl _)
    refine kg ?_
    clear kg
    refine SC.joinGen W hT h0 hfp hI (fun i v hv => ?_) (fun s' l hm hl => ⟨?_, fun t' k => ?_⟩) ?_
    · obtain ⟨t, rfl⟩ := hF i v hv; exact ⟨_, _, rfl⟩
    · rw [texts_of hp.1 hl hF]
      refine joinOk_of_weight ?_ (by decide)
      rw [sum_glue, List.length_map]; (first | lia | omega)
    · rw [texts_of hp.1 hl hF]
      exact h _ { s' with toks := k } (hend s' hm).tl
    · rw [← hp.1, sizeLine_eq]; (first | lia | omega)
end
end Mine
end Part23
section Part24
set_option tactic.hygienic false
open PySem PySem.W PySem.W.X PySem.Calls PyProof.Rows
set_option maxRecDepth 100000
namespace Mine

structure KD (K : Frag) : Prop where
  len : findIn K (.ref 101) "__len__" = some (some (.ref 68))
  str : findIn K (.ref 101) "__str__" = some (some (.ref 75))
  noBool : findIn K (.ref 101) "__bool__" = some none

section
variable {C : Cx} {σ σ' : Led} {ι ι' : Imm} {A : Around} {s : Shared} {E : Value → Shared → Prop} {a dx : Addr} {vs : Array Value} {k : Int}

theorem acc_type (S : SS C σ ι s) (ha : (a, accP dx vs) ∈ σ) : Looks (model prg C.w) s.heap (typeOf (.ref a)) (.ref 101) := by
  refine gen_P fun Pg kg => ?_
  obtain ⟨o, e, n, sl, rfl⟩ := S.at ha
  refine kg ?_
  clear kg
  exact (Looks.ld e).andThen .now
theorem acc_cs {name : Str} {f : Addr} {Q : Option Value → Shared → Prop} (X : CxOk C) (S : SS C σ ι s) (ha : (a, accP dx vs) ∈ σ)
    (hf : findIn C.K (.ref 101) name = some (some (.ref f))) (ht : typeIn C.K (.ref f) = some (.type "function"))
    (h : codeAny (model prg C.w) A (.call (.ref f) ⟨[.ref a], []⟩) (fun r s' => match r with | .ok (.ret v) => Q (some v) s' | .ok _ => False | .error e => E e s') s) :
    wpAny (model prg C.w) A (callSpecial? (.ref a) name) Q E s := by
  have K := S.kin X
  have ty := acc_type S ha
  unfold callSpecial?
  refine wpAny_bind (wpAny_bind (ty.here ((looks_findIn K hf).here (wpAny_holding (wpAny_bind ((bind_fn K _ ht).here ?_))))))
  exact wpAny_bind (wpAny_call (codeAny_mono h fun r s' z => by
    rcases r with e | (v | _ | _ | _) <;> first | exact z | exact z.elim | exact wpAny_pure z))

theorem len_body {n : Nat} {ps : List (Str × Str)} {Q : Value → Shared → Prop} (X : CxOk C) (KA : KF C.K) (KT' : KT C.K) (KG' : KG C.K) (KL' : KL C.K) (KK : KB C.K) (KD' : KD C.K) (R : Room (n + 2) A) (S : SS C σ ι s)
    (ha : (a, accP dx vs) ∈ σ) (hd : (dx, szP k) ∈ σ) (hp : pcs ι vs ps) (hz : small ps) (h0 : 0 ≤ k) (h1 : k + lenS ps < 2 ^ 62)
    (h : ∀ t s', SS C σ ι s' → Q (.int (k + lenS ps) t) s') : wpAny (model prg C.w) A (Builtin.«len» ⟨[.ref a], []⟩) (fun fin s' => match fin with | .done (.ret v) => Q v s' | _ => False) E s := by
  unfold Builtin.«len»
  refine wpAny_bind (m := oneArg "len" _) (wpAny_pure ?_)
  refine wpAny_bind (acc_cs X S ha KD'.len KK.fLen.type (len_code X KA KT' KG' KL' KK R S ha hd hp hz fun t s1 S1 => ?_))
  refine wpAny_bind (wpAny_holding (wpAny_pure ?_))
  refine wpAny_bind (wpAny_letGo ?_)
  show wpAny _ _ (if (k + lenS ps : Int) < 0 then _ else _) _ _ _
  (first | (refine rwP (if_neg (by (first | lia | omega))) ?_; try with_reducible rfl) | rw [if_neg (by (first | lia | omega))])
  show wpAny _ _ (if (k + lenS ps : Int) ≥ 2 ^ 63 then _ else _) _ _ _
  (first | (refine rwP (if_neg (by (first | lia | omega))) ?_; try with_reducible rfl) | rw [if_neg (by (first | lia | omega))])
  exact wpAny_bind (wpAny_mkInt (wpAny_pure (h _ _ S1)))
theorem call_len {n : Nat} {ps : List (Str × Str)} {Q : Value → Shared → Prop} (X : CxOk C) (KA : KF C.K) (KT' : KT C.K) (KG' : KG C.K) (KL' : KL C.K) (KK : KB C.K) (KD' : KD C.K) (R : Room (n + 3) A) (S : SS C σ ι s)
    (ha : (a, accP dx vs) ∈ σ) (hd : (dx, szP k) ∈ σ) (hp : pcs ι vs ps) (hz : small ps) (h0 : 0 ≤ k) (h1 : k + lenS ps < 2 ^ 62)
    (h : ∀ t s', SS C σ ι s' → Q (.int (k + lenS ps) t) s') : wpAny (model prg C.w) A (call (.builtin "len") [.ref a]) Q E s := by
  refine Calls.call_function_entry kind_len plain_len entry_len (args_len1 _) ?_
  refine wpAny_mono (len_body (Q := Q) X KA KT' KG' KL' KK KD' R.in1 S ha hd hp hz h0 h1 h) (fun fin s' z => ?_) fun _ _ z => z
  rcases fin with (_ | _ | _ | v) | c <;> first | exact ⟨_, rfl, z⟩ | exact z.elim
end
end Mine
end Part24
section Part25
set_option tactic.hygienic false
open PySem PySem.W PySem.W.X PySem.Calls PyProof.Rows
set_option maxRecDepth 100000
namespace Mine

structure KW (K : Frag) : Prop where
  gStr : nsIn K 3 "str" = some none
  bStr : nsIn K 0 "str" = some (some (.type "str"))
  fOnly : Fn K 90 89 "_Accumulator.is_onlyws" (clsS 7) [] .none
  onlyws : findIn K (.ref 101) "is_onlyws" = some (some (.ref 90))

/-- everything asked of the heap -/
structure AllK (K : Frag) : Prop where
  A : KF K
  S : KS K
  P : KP K
  I : KI K
  T : KT K
  G : KG K
  L : KL K
  R : KR K
  B : KB K
  Str : KStr K
  D : KD K
  W : KW K

section
variable {C : Cx} {σ σ' : Led} {ι ι' : Imm} {A : Around} {s : Shared} {E : Value → Shared → Prop} {a dx : Addr} {vs : Array Value} {k : Int}

theorem str_of_acc {n : Nat} {ps : List (Str × Str)} {Q : Value → Shared → Prop} (X : CxOk C) (KK : AllK C.K) (R : Room (n + 4) A) (S : SS C σ ι s)
    (ha : (a, accP dx vs) ∈ σ) (hp : pcs ι vs ps) (hz : lenS ps + ps.length ≤ 1000000)
    (h : ∀ t s', SS C σ ι s' → Q (.str (strS ps) t) s') : wpAny (model prg C.w) A (call (.type "str") [.ref a]) Q E s := by
  refine callType_newIn F.called_str (by decide) (F.typeCall_str_1 _) (F.newCall_str_1 _) (fun obj => F.args_object_init_2 obj _) F.entry_str_new
    (S := fun A' R s' => wpAny (model prg C.w) A'.in1 (Builtin.Str.strOf (.ref a)) (fun r s'' => R (.ok (.ret r)) s'') (fun e s'' => R (.error e) s'') s') (.of_wp fun A R s h => ?_) ?_
  · (first | (refine rwP (str_new_tree) ?_; try with_reducible rfl) | rw [str_new_tree])
    refine wpAny_bind (wpAny_pure ?_)
    refine wpAny_bind (wpAny_of_eq isSubtype_str_str ?_)
    exact wpAny_bind (wpAny_mono h (fun r s' h' => wpAny_pure ⟨_, rfl, h'⟩) fun _ _ e => e)
  · unfold Builtin.Str.strOf
    show wpAny _ _ (if Builtin.Str.isExactStr (.ref a) = true then _ else _) _ _ _
    (first | (refine rwP (if_neg (show ¬ (Builtin.Str.isExactStr (.ref a) = true) from Bool.false_ne_true)) ?_; try with_reducible rfl) | rw [if_neg (show ¬ (Builtin.Str.isExactStr (.ref a) = true) from Bool.false_ne_true)])
    refine wpAny_bind (wpAny_cRoomFor R.in1.in1.cl ?_)
    refine wpAny_bind (acc_cs X S ha KK.D.str KK.Str.fStr.type (str_code X KK.A KK.T KK.B KK.Str R.in1.in1 S ha hp hz fun t s1 S1 => ?_))
    exact wpAny_pure ⟨typeIs_str _ _ _, h _ _ S1⟩

theorem acc_truthy {n : Nat} {ps : List (Str × Str)} {Q : Bool → Shared → Prop} (X : CxOk C) (KK : AllK C.K) (R : Room (n + 3) A) (S : SS C σ ι s)
    (ha : (a, accP dx vs) ∈ σ) (hd : (dx, szP k) ∈ σ) (hp : pcs ι vs ps) (hz : small ps) (h0 : 0 ≤ k) (h1 : k + lenS ps < 2 ^ 62)
    (h : ∀ s', SS C σ ι s' → Q ((k + lenS ps : Int) != 0) s') : wpAny (model prg C.w) A (truthy (.ref a)) Q E s := by
  have K := S.kin X
  have ty := acc_type S ha
  unfold truthy callSpecial?
  refine wpAny_bind (wpAny_bind (wpAny_bind (ty.here ((looks_findIn K KK.D.noBool).here (wpAny_pure ?_)))))
  refine wpAny_bind (wpAny_bind (ty.here ((looks_findIn K KK.D.len).here ?_)))
  refine wpAny_bind (wpAny_runValue (codeAny_builtin entry_len ?_))
  (first | (refine rwP (Around.under_plainId plain_len _) ?_; try with_reducible rfl) | rw [Around.under_plainId plain_len _])
  refine wpAny_mono (len_body (Q := fun v s' => ∃ t, v = .int (k + lenS ps) t ∧ SS C σ ι s') X KK.A KK.T KK.G KK.L KK.B KK.D R.in1 S ha hd hp hz h0 h1 fun t s' S' => ⟨t, rfl, S'⟩) (fun fin s' z => ?_) fun _ _ z => z
  rcases fin with (_ | _ | _ | v) | c <;> first | exact z.elim | skip
  obtain ⟨t, rfl, S'⟩ := z
  exact wpAny_pure (h _ S')

noncomputable def onlywsS (k : Int) (ps : List (Str × Str)) : Bool := k == 0 && (lenS ps == 0 || Txt.isspace (strS ps))
theorem onlyws_c {n : Nat} {ps : List (Str × Str)} {Q : Value → Shared → Prop} (X : CxOk C) (KK : AllK C.K) (R : Room (n + 5) A) (S : SS C σ ι s)
    (ha : (a, accP dx vs) ∈ σ) (hd : (dx, szP k) ∈ σ) (hp : pcs ι vs ps) (hz : small ps) (hw : lenS ps + ps.length ≤ 1000000)
    (h : ∀ s', SS C σ ι s' → Q (.bool (onlywsS k ps)) s') : wpAny (model prg C.w) A (call (.ref 90) [.ref a] []) Q E s := by
  refine call_fn (binds := [("self", .ref a)]) X KK.W.fOnly R S (fun _ _ _ _ _ => BindsTo.of_eq rfl) fun L s1 S1 R1 => ?_
  refine wpAny_execs_cons (wpAny_Return_some (BoolOp_and (wpAny_Compare1 ?_)))
  refine Attribute_Name_ (n_local S1 (.head _) rfl ?_)
  refine acc_size X KK.A KK.G KK.L S1 (.tail _ ha) (.tail _ hd) fun t => ?_
  refine wpAny_Constant_int (P.eq_int (wpAny_truthy_bool ?_))
  have S2 : SS C _ _ { s1 with toks := s1.toks + 1 + 1 } := S1
  by_cases hk : k = 0
  · subst hk
    (first | (refine rwP (if_pos (by rfl)) ?_; try with_reducible rfl) | rw [if_pos (by rfl)])
    refine BoolOp_one (BoolOp_or (UnaryOp_ (n_local S2 (.head _) rfl (not_of ?_))))
    refine acc_truthy X KK R1 S2 (.tail _ ha) (.tail _ hd) hp hz (by omega) (by omega) fun s3 S3 => ?_
    refine wpAny_truthy_bool ?_
    by_cases hl : lenS ps = 0
    · have e : (!((0 + (lenS ps : Int)) != 0)) = true := by (first | (refine rwP (hl) ?_; try with_reducible rfl) | rw [hl]); rfl
      (first | (refine rwP (e) ?_; refine rwP (if_pos rfl) ?_; try with_reducible rfl) | rw [e, if_pos rfl])
      have : onlywsS 0 ps = true := by unfold onlywsS; (first | (refine rwP (hl) ?_; try with_reducible rfl) | rw [hl]); rfl
      (first | (refine rwQ (this) ?_; try with_reducible rfl) | rw [← this])
      exact h _ S3.tl
    · have e : (!((0 + (lenS ps : Int)) != 0)) = false := by simp; omega
      (first | (refine rwP (e) ?_; refine rwP (if_neg (by decide)) ?_; try with_reducible rfl) | rw [e, if_neg (by decide)])
      refine BoolOp_one (n_meth (Call_ (n_builtin X S3 KK.W.gStr KK.W.bStr ?_)))
      refine PySem.callWith_type rfl (ea rfl (sp_cons (n_local S3 (.head _) rfl (sp_nil ?_))))
      refine str_of_acc X KK R1 S3 (.tail _ ha) hp hw fun t s4 S4 => ?_
      refine GM.isspace (n_callb (sp_nil (SC.isspace ?_)))
      have : onlywsS 0 ps = Txt.isspace (strS ps) := by unfold onlywsS; simp [hl]
      (first | (refine rwQ (this) ?_; try with_reducible rfl) | rw [← this])
      exact h _ S4.tl
  · have e : (k == 0) = false := by simpa using hk
    (first | (refine rwP (e) ?_; refine rwP (if_neg (by decide)) ?_; try with_reducible rfl) | rw [e, if_neg (by decide)])
    have : onlywsS k ps = false := by unfold onlywsS; (first | (refine rwP (e) ?_; try with_reducible rfl) | rw [e]); rfl
    (first | (refine rwQ (this) ?_; try with_reducible rfl) | rw [← this])
    exact h _ S2.tl
end
end Mine
end Part25
section Part26
set_option tactic.hygienic false
open PySem PySem.W PySem.W.X PySem.Calls PyProof.Rows
set_option maxRecDepth 100000
namespace Mine

noncomputable def ltStr (a b : Str) : Bool := decide (a.cps.toList < b.cps.toList)
noncomputable def ltP (p q : Str × Str) : Bool := if p.1 == q.1 then (if p.2 == q.2 then false else ltStr p.2 q.2) else ltStr p.1 q.1
section
variable {C : Cx} {σ σ' : Led} {ι ι' : Imm} {A : Around} {s : Shared} {E : Value → Shared → Prop}
theorem lt_tree {t u : Addr} {x1 x2 y1 y2 : Str} {k1 k2 k3 k4 : Tok} {W : Fin → Shared → Prop} (ha : s.heap.get? t = some (pieceObj (.str x1 k1) (.str x2 k2))) (hb : s.heap.get? u = some (pieceObj (.str y1 k3) (.str y2 k4)))
    (h : W (.done (.ret (.bool (ltP (x1, x2) (y1, y2))))) s) : wpAny (model prg C.w) A (Builtin.«tuple.__lt__» ⟨[.ref t, .ref u], []⟩) W E s := by
  show wpAny _ _ (isInstance (.ref u) (.type "tuple") >>= _) _ _ s
  refine wpAny_bind (wpAny_isInstance (T := "tuple") ⟨_, hb, rfl⟩ isSubtype_tuple_tuple ?_)
  simp only [Bool.not_true, Bool.false_eq_true, if_false]
  refine wpAny_bind (wpAny_tupleItemsOf ha rfl ?_)
  refine wpAny_bind (wpAny_tupleItemsOf hb rfl ?_)
  simp only [List.zip_cons_cons, List.forIn_cons]
  refine wpAny_bind (wpAny_bind (wpAny_bind (PyProof.Rows.eqBool_str ?_)))
  by_cases e1 : x1 = y1
  · have b1 : (x1 == y1) = true := by simpa using e1
    simp only [b1, Bool.not_true, Bool.false_eq_true, if_false]
    refine wpAny_pure (wpAny_bind (wpAny_bind (PyProof.Rows.eqBool_str ?_)))
    by_cases e2 : x2 = y2
    · have b2 : (x2 == y2) = true := by simpa using e2
      simp only [b2, Bool.not_true, Bool.false_eq_true, if_false]
      refine wpAny_pure (wpAny_pure (wpAny_pure ?_))
      have : ltP (x1, x2) (y1, y2) = false := by subst e1 e2; simp [ltP]
      rw [this] at h
      exact h
    · have b2 : (x2 == y2) = false := by simpa using e2
      simp only [b2, Bool.not_false, if_true]
      refine wpAny_bind (wpAny_rule (wpAny_bind (PySem.P.lt_str (wpAny_bind (wpAny_pure (wpAny_pure (wpAny_pure ?_)))))))
      have : ltP (x1, x2) (y1, y2) = decide (x2.cps.toList < y2.cps.toList) := by subst e1; simp [ltP, e2, ltStr]
      rw [this] at h
      exact wpAny_pure h
  · have b1 : (x1 == y1) = false := by simpa using e1
    simp only [b1, Bool.not_false, if_true]
    refine wpAny_bind (wpAny_rule (wpAny_bind (PySem.P.lt_str (wpAny_bind (wpAny_pure (wpAny_pure (wpAny_pure ?_)))))))
    have : ltP (x1, x2) (y1, y2) = decide (x1.cps.toList < y1.cps.toList) := by simp [ltP, e1, ltStr]
    rw [this] at h
    exact wpAny_pure h
theorem gt_tree {t u : Addr} {x1 x2 y1 y2 : Str} {k1 k2 k3 k4 : Tok} {W : Fin → Shared → Prop} (ha : s.heap.get? t = some (pieceObj (.str x1 k1) (.str x2 k2))) (hb : s.heap.get? u = some (pieceObj (.str y1 k3) (.str y2 k4)))
    (h : W (.done (.ret (.bool (ltP (y1, y2) (x1, x2))))) s) : wpAny (model prg C.w) A (Builtin.«tuple.__gt__» ⟨[.ref t, .ref u], []⟩) W E s := by
  show wpAny _ _ (isInstance (.ref u) (.type "tuple") >>= _) _ _ s
  refine wpAny_bind (wpAny_isInstance (T := "tuple") ⟨_, hb, rfl⟩ isSubtype_tuple_tuple ?_)
  simp only [Bool.not_true, Bool.false_eq_true, if_false]
  refine wpAny_bind (wpAny_tupleItemsOf ha rfl ?_)
  refine wpAny_bind (wpAny_tupleItemsOf hb rfl ?_)
  simp only [List.zip_cons_cons, List.forIn_cons]
  refine wpAny_bind (wpAny_bind (wpAny_bind (PyProof.Rows.eqBool_str ?_)))
  by_cases e1 : x1 = y1
  · have b1 : (x1 == y1) = true := by simpa using e1
    simp only [b1, Bool.not_true, Bool.false_eq_true, if_false]
    refine wpAny_pure (wpAny_bind (wpAny_bind (PyProof.Rows.eqBool_str ?_)))
    by_cases e2 : x2 = y2
    · have b2 : (x2 == y2) = true := by simpa using e2
      simp only [b2, Bool.not_true, Bool.false_eq_true, if_false]
      refine wpAny_pure (wpAny_pure (wpAny_pure ?_))
      have : ltP (y1, y2) (x1, x2) = false := by subst e1 e2; simp [ltP]
      rw [this] at h
      exact h
    · have b2 : (x2 == y2) = false := by simpa using e2
      simp only [b2, Bool.not_false, if_true]
      refine wpAny_bind (wpAny_rule (wpAny_bind (PySem.P.gt_str (wpAny_bind (wpAny_pure (wpAny_pure (wpAny_pure ?_)))))))
      have : ltP (y1, y2) (x1, x2) = decide (y2.cps.toList < x2.cps.toList) := by subst e1; simp [ltP, Ne.symm e2, ltStr]
      rw [this] at h
      exact wpAny_pure h
  · have b1 : (x1 == y1) = false := by simpa using e1
    simp only [b1, Bool.not_false, if_true]
    refine wpAny_bind (wpAny_rule (wpAny_bind (PySem.P.gt_str (wpAny_bind (wpAny_pure (wpAny_pure (wpAny_pure ?_)))))))
    have : ltP (y1, y2) (x1, x2) = decide (y1.cps.toList < x1.cps.toList) := by simp [ltP, Ne.symm e1, ltStr]
    rw [this] at h
    exact wpAny_pure h

theorem cmp_lt {v u : Value} {p q : Str × Str} {Q : Value → Shared → Prop} (S : SS C σ ι s) (hv : IsPiece ι v p) (hu : IsPiece ι u q) (hr : A.units < cLine) (h : Q (.bool (ltP p q)) s) : wpAny (model prg C.w) A (compareOp .Lt v u) Q E s := by
  obtain ⟨t, k1, k2, rfl, m1⟩ := hv
  obtain ⟨t', k3, k4, rfl, m2⟩ := hu
  have e1 := S.tup m1
  have e2 := S.tup m2
  exact wpAny_richCompare_same_room (op := .Lt) (T := "tuple") ⟨_, e1, rfl⟩ ⟨_, e2, rfl⟩ F.slot_tuple_lt
    (wpAny_call_entry F.slot_tuple_lt (T := "tuple") ⟨_, e1, rfl⟩ F.entry_tuple_lt (lt_tree e1 e2 ⟨_, rfl, (fun e => nomatch e), h⟩) (F.args_tuple_lt_2 _ _)) hr
theorem cmp_gt {v u : Value} {p q : Str × Str} {Q : Value → Shared → Prop} (S : SS C σ ι s) (hv : IsPiece ι v p) (hu : IsPiece ι u q) (hr : A.units < cLine) (h : Q (.bool (ltP q p)) s) : wpAny (model prg C.w) A (compareOp .Gt v u) Q E s := by
  obtain ⟨t, k1, k2, rfl, m1⟩ := hv
  obtain ⟨t', k3, k4, rfl, m2⟩ := hu
  have e1 := S.tup m1
  have e2 := S.tup m2
  exact wpAny_richCompare_same_room (op := .Gt) (T := "tuple") ⟨_, e1, rfl⟩ ⟨_, e2, rfl⟩ F.slot_tuple_gt
    (wpAny_call_entry F.slot_tuple_gt (T := "tuple") ⟨_, e1, rfl⟩ F.entry_tuple_gt (gt_tree e1 e2 ⟨_, rfl, (fun e => nomatch e), h⟩) (F.args_tuple_gt_2 _ _)) hr

noncomputable def pieceD (p : Str × Str) : PyData := .tuple [.str p.1, .str p.2]
theorem IsPiece.reads {v : Value} {p : Str × Str} (S : SS C σ ι s) (hv : IsPiece ι v p) : Reads s.heap v (pieceD p) [] := by
  obtain ⟨t, k1, k2, rfl, m1⟩ := hv
  exact .tuple (S.tup m1) rfl rfl (.cons (as := []) (.str _ _) (.cons (as := []) (.str _ _) .nil))
theorem piece_eqv (p q : Str × Str) : PyData.eqv (pieceD p) (pieceD q) = (p == q) := by
  simp [pieceD, PyData.eqv, PyData.eqvAll]
  rfl
noncomputable def goodP (p : Str × Str) : Prop := PyData.strOk p.1 = true ∧ PyData.strOk p.2 = true
theorem piece_shaped {p : Str × Str} (h : goodP p) : PySem.SeqAt.shaped (pieceD p) = true := by
  simp [pieceD, PySem.SeqAt.shaped, PyData.canLay0, PyData.canLayAll0, PyData.depth, PyData.depthAll, h.1, h.2]
theorem cmp_eq {v u : Value} {p q : Str × Str} {Q : Value → Shared → Prop} (S : SS C σ ι s) (hv : IsPiece ι v p) (hu : IsPiece ι u q) (hp : goodP p) (hq : goodP q) (hr : A.units + 64 < cLine) (h : Q (.bool (p == q)) s) : wpAny (model prg C.w) A (compareOp .Eq v u) Q E s :=
  PySem.SeqAt.compareEq_shaped (hv.reads S) (hu.reads S) (piece_shaped hp) (piece_shaped hq) hr (by (first | (refine rwP (piece_eqv) ?_; try with_reducible rfl) | rw [piece_eqv]); exact h)
end
end Mine
end Part26
section Part27
set_option tactic.hygienic false
open PySem PySem.W PySem.W.X PySem.Calls PyProof.Rows
set_option maxRecDepth 100000
namespace Mine

/-! ## range -/
noncomputable def riP (x n : Int) (i : Nat) : OP := fun o => o = { cls := .type "range_iterator", dict := none, data := .fields #[rawInt (x + i), rawInt (n - i), rawInt 1], slots := #[] }
theorem riP_not {x n : Int} {i : Nat} {o : Obj} (h : riP x n i o) : ¬ isTup o := by
  rintro ⟨e, _⟩; rw [show o = _ from h] at e; injection e with e; exact absurd e (by decide)
section
variable {C : Cx} {σ σ' : Led} {ι ι' : Imm} {A : Around} {s : Shared} {E : Value → Shared → Prop}
theorem rangeSize_nat (x : Int) (n : Nat) : Builtin.Range.rangeSize x (x + n) 1 = n := by
  unfold Builtin.Range.rangeSize
  (first | (refine rwP (if_pos (by (first | lia | omega))) ?_; try with_reducible rfl) | rw [if_pos (by (first | lia | omega))])
  by_cases h : x < x + (n : Int)
  · (first | (refine rwP (if_pos h) ?_; refine rwP (Int.ediv_one) ?_; try with_reducible rfl) | rw [if_pos h, Int.ediv_one]); (first | lia | omega)
  · (first | (refine rwP (if_neg h) ?_; try with_reducible rfl) | rw [if_neg h]); (first | lia | omega)
theorem small_nat {x : Int} {n : Nat} (h0 : -(2 ^ 60) ≤ x) (h1 : x + n < 2 ^ 60) : Builtin.Range.small x (x + n) 1 = true := by
  unfold Builtin.Range.small
  (first | (refine rwP (rangeSize_nat) ?_; try with_reducible rfl) | rw [rangeSize_nat])
  unfold Builtin.Range.rangeFitsLong
  simp
  omega

theorem ri_walker {it : Addr} {x : Int} {n : Nat} : Walker C it (riP x n) n (fun i v _ => ∃ t, v = .int (x + i) t) (fun _ => True) := by
  refine ⟨fun {A E σ ι s Q i} S q => ?_, fun {A E σ ι s i Q} hi S _ q => ?_, fun {A E σ ι s Q} hh S _ q => ?_⟩
  · obtain ⟨o, e, p⟩ := S.at (.head _)
    rw [show o = _ from p] at e
    have hT : s.TypeIs (.ref it) "range_iterator" := ⟨_, e, rfl⟩
    refine wpAny_pyIter_slot hT F.slot_range_iterator_iter (wpAny_call_entry F.slot_range_iterator_iter hT F.entry_range_iterator_iter ?_ (F.args_range_iterator_iter_1 _))
    show wpAny _ _ (ret (.ref it)) _ _ s
    exact wpAny_pure ⟨_, rfl, "range_iterator", _, hT, F.slot_range_iterator_next.lookup, q⟩
  · obtain ⟨o, e, p⟩ := S.at (.head _)
    rw [show o = _ from p] at e
    refine wpAny_pyNext_range_item e (by (first | lia | omega)) fun h' hit hs => ?_
    refine q _ ι _ (fun _ h => h) ⟨_, rfl⟩ ?_
    have e2 : riP x n (i + 1) { cls := .type "range_iterator", dict := none, data := .fields #[rawInt (x + i + 1), rawInt (n - i - 1), rawInt 1], slots := #[] } := by
      have q1 : x + (i : Int) + 1 = x + ((i + 1 : Nat) : Int) := by (first | lia | omega)
      have q2 : (n : Int) - i - 1 = n - ((i + 1 : Nat) : Int) := by (first | lia | omega)
      unfold riP; (first | (refine rwP (q1) ?_; refine rwP (q2) ?_; try with_reducible rfl) | rw [q1, q2])
    exact S.same .head hs hit e2 (riP_not e2)
  · obtain ⟨o, e, p⟩ := S.at (.head _)
    rw [show o = _ from p] at e
    exact wpAny_pyNext_range_end hh e (by (first | lia | omega)) fun h' hx => q _ (S.forgetE hx S.gens)

theorem iter_range {r : Addr} {x : Int} {n : Nat} {t u v : Tok} {Q : Value → Shared → Prop} (S : SS C σ ι s) (hr : IsRange s.heap r x (x + n) 1 t u v) (h0 : -(2 ^ 60) ≤ x) (h1 : x + n < 2 ^ 60)
    (h : ∀ it s', SS C ((it, riP x n 0) :: σ) ι s' → Q (.ref it) s') : wpAny (model prg C.w) A (pyIter (.ref r)) Q E s := by
  refine wpAny_pyIter_range hr (small_nat h0 h1) (h _ _ ?_)
  have e2 : riP x n 0 { cls := .type "range_iterator", dict := none, data := .fields #[rawInt x, rawInt (Builtin.Range.rangeSize x (x + n) 1), rawInt 1], slots := #[] } := by
    unfold riP; (first | (refine rwP (rangeSize_nat) ?_; try with_reducible rfl) | rw [rangeSize_nat]); simp
  exact S.alloc e2 rfl (riP_not e2)
theorem make_range1 {n : Nat} {t : Tok} {Q : Value → Shared → Prop} (S : SS C σ ι s) (h : ∀ r t u v s', SS C σ ι s' → IsRange s'.heap r 0 (0 + n) 1 t u v → Q (.ref r) s') : wpAny (model prg C.w) A (call (.type "range") [.int n t]) Q E s := by
  refine call_range_1 (h _ s.toks t (s.toks + 1) _ (S.push _) ?_)
  (first | (refine rwP (Int.zero_add) ?_; try with_reducible rfl) | rw [Int.zero_add]); exact Heap.get?_push_size _ rfl
theorem make_range2 {x y : Int} {t u : Tok} {Q : Value → Shared → Prop} (S : SS C σ ι s) (h : ∀ r t u v s', SS C σ ι s' → IsRange s'.heap r x y 1 t u v → Q (.ref r) s') : wpAny (model prg C.w) A (call (.type "range") [.int x t, .int y u]) Q E s :=
  call_range_2 (h _ t u s.toks _ (S.push _) (Heap.get?_push_size _ rfl))
end
end Mine
end Part27
section Part28
set_option tactic.hygienic false
open PySem PySem.W PySem.W.X PySem.Calls PyProof.Rows
set_option maxRecDepth 100000
namespace Mine

noncomputable def rep (c : Nat) (k : Nat) : Str := ⟨Array.replicate k c⟩
theorem fold_rep (c : Nat) : ∀ (k : Nat) (acc : Array Nat), (List.replicate k #[c]).foldl (· ++ ·) acc = acc ++ Array.replicate k c
  | 0, acc => by simp
  | k + 1, acc => by
    (first | (refine rwP (List.replicate_succ) ?_; refine rwP (List.foldl_cons) ?_; refine rwP (fold_rep c k) ?_; try with_reducible rfl) | rw [List.replicate_succ, List.foldl_cons, fold_rep c k])
    apply Array.toList_inj.mp
    simp [List.replicate_succ]
section
variable {C : Cx} {σ σ' : Led} {ι ι' : Imm} {A : Around} {s : Shared} {E : Value → Shared → Prop}
theorem mul_rep {c k : Nat} {t u : Tok} {Q : Value → Shared → Prop} (hk : k ≤ 1000000) (h : ∀ t' n, Q (.str (rep c k) t') { s with toks := n }) :
    wpAny (model prg C.w) A (binaryOp .Mult (.str ⟨#[c]⟩ t) (.int k u)) Q E s := by
  refine P.mul_str ?_ ?_ ?_ ?_
  · simp; (first | lia | omega)
  · intro h1 h2
    have hk1 : 1 ≤ k := by (first | lia | omega)
    show ¬ ((1 : Int) > (2 ^ 63 - 1) / (k : Int))
    have : (1 : Int) ≤ (2 ^ 63 - 1) / (k : Int) := Int.le_ediv_of_mul_le (by (first | lia | omega)) (by (first | lia | omega))
    (first | lia | omega)
  · intro h1 h2
    show decide (1 * (k : Int).toNat > sizeLine) = false
    (first | (refine rwP (sizeLine_eq) ?_; refine rwP (Int.toNat_natCast) ?_; try with_reducible rfl) | rw [sizeLine_eq, Int.toNat_natCast])
    exact decide_eq_false (by (first | lia | omega))
  · by_cases h0 : k = 0
    · subst h0
      (first | (refine rwP (if_pos (by decide)) ?_; try with_reducible rfl) | rw [if_pos (by decide)])
      exact ⟨by decide, h _ _⟩
    · (first | (refine rwP (if_neg (by (first | lia | omega))) ?_; try with_reducible rfl) | rw [if_neg (by (first | lia | omega))])
      by_cases h1 : k = 1
      · subst h1
        (first | (refine rwP (if_pos (by rfl)) ?_; try with_reducible rfl) | rw [if_pos (by rfl)])
        exact h _ s.toks
      · rw [if_neg (by
          have e1 : ((k : Int) == 1) = false := by simp; (first | lia | omega)
          have e2 : ((⟨#[c]⟩ : Str).length == 0) = false := rfl
          rw [e1, e2]; decide)]
        refine ⟨?_, ?_⟩
        · (first | (refine rwP (Int.toNat_natCast) ?_; refine rwP (fold_rep) ?_; refine rwP (sizeLine_eq) ?_; try with_reducible rfl) | rw [Int.toNat_natCast, fold_rep, sizeLine_eq])
          show (#[] ++ Array.replicate k c).size ≤ _
          simp; (first | lia | omega)
        · have : (⟨(List.replicate ((k : Int)).toNat #[c]).foldl (· ++ ·) #[]⟩ : Str) = rep c k := by
            (first | (refine rwP (fold_rep) ?_; try with_reducible rfl) | rw [fold_rep]); unfold rep; simp
          (first | (refine rwP (this) ?_; try with_reducible rfl) | rw [this])
          exact h _ _

noncomputable def pieceS (n : Nat) : Str × Str := (rep 32 (n / 2), rep 120 (n - n / 2))
structure KLaw (K : Frag) : Prop where
  fPiece : Fn K 112 111 "_law_piece" (topS 6) [] .none

theorem piece_c {n k : Nat} {t : Tok} {Q : Value → Shared → Prop} (X : CxOk C) (KK : KLaw C.K) (R : Room (n + 1) A) (S : SS C σ ι s) (hk : k ≤ 1000000)
    (h : ∀ v ι' s', ι ⊆ ι' → IsPiece ι' v (pieceS k) → SS C σ ι' s' → Q v s') : wpAny (model prg C.w) A (call (.ref 112) [.int k t] []) Q E s := by
  refine call_fn (binds := [("size", .int k t)]) X KK.fPiece R S (fun _ _ _ _ _ => BindsTo.of_eq rfl) fun L s1 S1 R1 => ?_
  refine wpAny_execs_cons (wpAny_Return_some (Tuple_ (sp_cons (wpAny_BinOp (Constant_str (wpAny_BinOp ?_))))))
  have S2 : SS C _ _ { s1 with toks := s1.toks + 1 } := S1
  refine n_local S2 (.head _) rfl (wpAny_Constant_int ?_)
  refine floordiv_int (by decide) ?_ (.inl (PyProof.noPylong_small (by decide)))
  have e : (k : Int).fdiv 2 = ((k / 2 : Nat) : Int) := by (first | (refine rwP (Int.fdiv_eq_ediv_of_nonneg _ (by decide)) ?_; try with_reducible rfl) | rw [Int.fdiv_eq_ediv_of_nonneg _ (by decide)]); rfl
  (first | (refine rwP (e) ?_; try with_reducible rfl) | rw [e])
  refine mul_rep (by (first | lia | omega)) fun t2 n2 => ?_
  refine sp_cons (wpAny_BinOp (Constant_str (wpAny_BinOp ?_)))
  have S3 : SS C _ _ { s1 with toks := n2 + 1 } := S1
  refine n_local S3 (.head _) rfl (wpAny_BinOp (n_local S3 (.head _) rfl (wpAny_Constant_int ?_)))
  refine floordiv_int (by decide) ?_ (.inl (PyProof.noPylong_small (by decide)))
  (first | (refine rwP (e) ?_; try with_reducible rfl) | rw [e])
  refine P.sub_int ?_
  have e2 : (k : Int) - ((k / 2 : Nat) : Int) = ((k - k / 2 : Nat) : Int) := by (first | lia | omega)
  (first | (refine rwP (e2) ?_; try with_reducible rfl) | rw [e2])
  refine mul_rep (by (first | lia | omega)) fun t3 n3 => ?_
  refine sp_nil (wpAny_newTuple ?_)
  have S4 : SS C _ _ { s1 with toks := n3 } := S1
  have S5 := S4.allocT (o := pieceObj (.str (rep 32 (k / 2)) t2) (.str (rep 120 (k - k / 2)) t3)) rfl (pieceObj_tup _ _)
  exact h _ _ _ (fun _ h => .tail _ h) ⟨_, _, _, rfl, .head _⟩ S5.tl
end
end Mine
end Part28
section Part29
set_option tactic.hygienic false
open PySem PySem.W PySem.W.X PySem.Calls PyProof.Rows
set_option maxRecDepth 100000
namespace Mine

structure KAll (K : Frag) : Prop where
  gAcc : nsIn K 3 "_Accumulator" = some (some (.ref 101))
  gRange : nsIn K 3 "range" = some none
  bRange : nsIn K 0 "range" = some (some (.type "range"))
  keep : keepIn K (.ref 101) = true
  fAll : Fn K 131 130 "_law_all" (topS 9) [] .none

theorem pcs.app_snoc {ι : Imm} {vs : Array Value} {ps : List (Str × Str)} {v : Value} {p : Str × Str} {i : Nat} (x : pcs ι vs (ps ++ List.replicate i p)) (y : IsPiece ι v p) : pcs ι (vs.push v) (ps ++ List.replicate (i + 1) p) := by
  have := x.push y
  rw [List.append_assoc, ← List.replicate_succ'] at this
  exact this

section
variable {C : Cx} {σ σ' : Led} {ι ι' : Imm} {A : Around} {s : Shared} {E : Value → Shared → Prop} {a dx : Addr} {vs : Array Value} {k : Int}

theorem n_range {e : Expr} {p0 pos : Pos} {env : Env} {Q : Value → Shared → Prop} (X : CxOk C) (KK : KAll C.K) (S : SS C σ ι s)
    (h : wpAny (model prg C.w) A (eval e env) (fun v s₁ => wpAny (model prg C.w) A (call (.type "range") [v]) Q E s₁) E s)
    (hg : autoParam (env.globals = 3) tacRfl) (hgb : autoParam (env.builtins = 0) tacRfl) (hk : autoParam (env.scope.kind = .function) tacRfl) (hl : autoParam (env.kindOf "range" = some .globalImplicit) tacRfl)
    (he : autoParam (starEach [e] env = [(false, eval e env)]) tacRfl) (hp : autoParam ((backTo pos (starEach [e] env)).any (·.1) = false) tacRfl) : wpAny (model prg C.w) A (eval (.Call (.Name "range" p0) [e] [] pos) env) Q E s := by
  refine Call_ (n_builtin X S KK.gRange KK.bRange ?_ hg hgb hk hl)
  refine PySem.callWith_type hp (ea hp (sp_cons (wpAny_mono h (fun v s1 h1 => sp_nil ?_) fun _ _ x => x) he))
  exact h1

noncomputable abbrev allEnv (L : Addr) : Env := envX "_law_all" (scopeOf (topS 9)) L 131 (.ref 130) []
theorem all_inner {n : Nat} {L row dr : Addr} {m : Str → Option Value} {vr : Array Value} {pr : List (Str × Str)} {p : Str × Str} {v : Value} {k : Nat} {t : Tok} {p1 p2 p3 p4 p5 p6 p7 p8 p9 p10 p11 p12 p13 : Pos} {Q : Flow → Shared → Prop}
    (X : CxOk C) (KK : AllK C.K) (KQ : KAll C.K) (R : Room (n + 1) A) (S : SS C ((row, accP dr vr) :: (dr, szP 0) :: (L, nsP m) :: σ) ι s)
    (hk : m "k" = some (.int k t)) (hv : m "piece" = some v) (hpv : IsPiece ι v p) (hr : m "row" = some (.ref row)) (hpr : pcs ι vr pr) (hz : pr.length + (k + 1) ≤ 1000000)
    (h : ∀ m' vr' ι' s', ι ⊆ ι' → SS C ((row, accP dr vr') :: (dr, szP 0) :: (L, nsP m') :: σ) ι' s' → pcs ι' vr' (pr ++ List.replicate (k + 1) p) → (∀ x, (x == ("_" : Str)) = false → m' x = m x) → Q .next s') :
    wpAny (model prg C.w) A (exec (.For (.Name "_" p1) (.Call (.Name "range" p2) [.BinOp (.Name "k" p3) .Add (.Constant (.int 1) 0 p4) p5] [] p6) [.Expr (.Call (.Attribute (.Name "row" p7) "push" p8) [.Starred (.Name "piece" p9) p10] [] p11) p12] [] p13) (allEnv L)) Q E s := by
  refine wpAny_For ?_
  refine n_range X KQ S (wpAny_BinOp (n_local S (.tail _ (.tail _ (.head _))) hk (wpAny_Constant_int (P.add_int ?_))))
  have e : (k : Int) + 1 = ((k + 1 : Nat) : Int) := by (first | lia | omega)
  (first | (refine rwP (e) ?_; try with_reducible rfl) | rw [e])
  have S1 : SS C _ _ { s with toks := s.toks + 1 + 1 } := S
  refine make_range1 S1 fun r t u w s2 S2 hr2 => ?_
  refine iter_range S2 hr2 (by decide) (by (first | lia | omega)) fun it s3 S3 => ?_
  refine for_w ri_walker (fun i σ' ι' => i ≤ k + 1 ∧ Ex2 fun m' vr' => And4 (σ' = (row, accP dr vr') :: (dr, szP 0) :: (L, nsP m') :: σ) (ι ⊆ ι') (pcs ι' vr' (pr ++ List.replicate i p)) (∀ x, (x == ("_" : Str)) = false → m' x = m x))
    (fun _ _ _ _ => trivial) (fun i σ' ι1 ι2 w s hi hI hι hw S => ?_) (fun σ' ι1 s hI S => ?_) R.h S3 ⟨Nat.zero_le _, m, vr, rfl, fun _ h => h, by simpa using hpr, fun _ _ => rfl⟩
  · refine gen_P fun Pg kg => ?_
    obtain ⟨hi1, m', vr', rfl, hιι, hp', hm'⟩ := hI
    obtain ⟨tw, rfl⟩ := hw
    refine kg ?_
    clear kg
    refine wpAny_assign_Name (n_store S (.tail (.tail (.tail .head))) fun s4 S4 => ?_)
    refine wpAny_execs_cons (wpAny_Expr_any ?_)
    have hlen : vr'.size ≤ sizeLine := by (first | (refine rwQ (hp'.1) ?_; refine rwP (List.length_append) ?_; refine rwP (List.length_replicate) ?_; refine rwP (sizeLine_eq) ?_; try with_reducible rfl) | rw [← hp'.1, List.length_append, List.length_replicate, sizeLine_eq]); (first | lia | omega)
    refine star_push X KK.A KK.G R S4 (.tail _ (.tail _ (.tail _ (.head _)))) (by (first | (refine rwP (put_ne (by decide)) ?_; refine rwP (hm' _ (by decide)) ?_; try with_reducible rfl) | rw [put_ne (by decide), hm' _ (by decide)]); exact hr) (by (first | (refine rwP (put_ne (by decide)) ?_; refine rwP (hm' _ (by decide)) ?_; try with_reducible rfl) | rw [put_ne (by decide), hm' _ (by decide)]); exact hv)
      (.tail _ (.tail _ (.head _))) (fun v => .tail .head) (hpv.mono fun _ h => hι (hιι h)) hlen fun v' ι3 s5 h3 hv' S5 => ?_
    refine wpAny_execs_nil ?_
    refine ⟨_, _, S5, by (first | lia | omega), _, _, rfl, fun _ h => h3 (hι (hιι h)), pcs.app_snoc (hp'.mono fun _ h => h3 (hι h)) hv', fun x hx => ?_⟩
    (first | (refine rwP (put_ne hx) ?_; try with_reducible rfl) | rw [put_ne hx]); exact hm' x hx
  · refine gen_P fun Pg kg => ?_
    obtain ⟨_, m', vr', rfl, hιι, hp', hm'⟩ := hI
    refine kg ?_
    clear kg
    exact wpAny_execs_nil (h _ _ _ _ hιι S hp' hm')
end
end Mine
end Part29
section Part30
set_option tactic.hygienic false
open PySem PySem.W PySem.W.X PySem.Calls PyProof.Rows
set_option maxRecDepth 100000
namespace Mine

noncomputable def rowOf (k : Nat) (ps : List (Str × Str)) : List (Str × Str) := ps.flatMap fun p => List.replicate (k + 1) p
theorem rowOf_snoc (k : Nat) (ps : List (Str × Str)) (p : Str × Str) : rowOf k (ps ++ [p]) = rowOf k ps ++ List.replicate (k + 1) p := by simp [rowOf]
theorem rowOf_length (k : Nat) (ps : List (Str × Str)) : (rowOf k ps).length = ps.length * (k + 1) := by
  induction ps with
  | nil => simp [rowOf]
  | cons p r ih =>
    have : rowOf k (p :: r) = List.replicate (k + 1) p ++ rowOf k r := by simp [rowOf]
    (first | (refine rwP (this) ?_; refine rwP (List.length_append) ?_; refine rwP (ih) ?_; refine rwP (List.length_replicate) ?_; refine rwP (List.length_cons) ?_; refine rwP (Nat.add_mul) ?_; try with_reducible rfl) | rw [this, List.length_append, ih, List.length_replicate, List.length_cons, Nat.add_mul]); (first | lia | omega)

section
variable {C : Cx} {σ σ' : Led} {ι ι' : Imm} {A : Around} {s : Shared} {E : Value → Shared → Prop} {a dx : Addr} {vs : Array Value} {k : Int}

theorem all_middle {n : Nat} {L row dr lb : Addr} {m : Str → Option Value} {vr bv : Array Value} {pr ps : List (Str × Str)} {k : Nat} {t : Tok} {q0 q1 q2 q3 p1 p2 p3 p4 p5 p6 p7 p8 p9 p10 p11 p12 p13 q4 : Pos} {Q : Flow → Shared → Prop}
    (X : CxOk C) (KK : AllK C.K) (KQ : KAll C.K) (R : Room (n + 1) A) (S : SS C ((row, accP dr vr) :: (dr, szP 0) :: (L, nsP m) :: σ) ι s)
    (hb : m "blocks" = some (.ref lb)) (hlb : (lb, lstP bv) ∈ σ) (hbk : bv[k]? = some (.ref a)) (ha : (a, accP dx vs) ∈ σ) (hps : pcs ι vs ps)
    (hk : m "k" = some (.int k t)) (hr : m "row" = some (.ref row)) (hpr : pcs ι vr pr) (hz : pr.length + ps.length * (k + 1) ≤ 1000000) (hk0 : k ≤ 1000)
    (h : ∀ m' vr' ι' s', ι ⊆ ι' → SS C ((row, accP dr vr') :: (dr, szP 0) :: (L, nsP m') :: σ) ι' s' → pcs ι' vr' (pr ++ rowOf k ps) → (∀ x, (x == ("_" : Str)) = false → (x == ("piece" : Str)) = false → m' x = m x) → Q .next s') :
    wpAny (model prg C.w) A (exec (.For (.Name "piece" q0) (.Subscript (.Name "blocks" q1) (.Name "k" q2) q3)
      [.For (.Name "_" p1) (.Call (.Name "range" p2) [.BinOp (.Name "k" p3) .Add (.Constant (.int 1) 0 p4) p5] [] p6) [.Expr (.Call (.Attribute (.Name "row" p7) "push" p8) [.Starred (.Name "piece" p9) p10] [] p11) p12] [] p13] [] q4) (allEnv L)) Q E s := by
  refine wpAny_For ?_
  refine Subscript_ (n_local S (.tail _ (.tail _ (.head _))) hb ?_)
  refine n_local S (.tail _ (.tail _ (.head _))) hk ?_
  have L1 := lst_like S (.tail _ (.tail _ (.tail _ hlb)))
  refine like_tail L1 (like_int L1 (by (first | lia | omega)) (by (first | lia | omega)) (by (first | (refine rwP (Int.toNat_natCast) ?_; try with_reducible rfl) | rw [Int.toNat_natCast]); exact hbk) ?_) (fun q => wpAny_operating q)
  refine iter_acc X KK.A KK.T S (.tail _ (.tail _ (.tail _ ha))) fun it s3 S3 => ?_
  refine for_w (li_walker (l := a) (vs := vs)) (fun i σ' ι' => i ≤ vs.size ∧ Ex2 fun m' vr' => And4 (σ' = (row, accP dr vr') :: (dr, szP 0) :: (L, nsP m') :: σ) (ι ⊆ ι') (pcs ι' vr' (pr ++ rowOf k (ps.take i))) (∀ x, (x == ("_" : Str)) = false → (x == ("piece" : Str)) = false → m' x = m x))
    (fun i σ' ι' hI => ?_) (fun i σ' ι1 ι2 w s hi hI hι hw S => ?_) (fun σ' ι1 s hI S => ?_) R.h S3 ⟨Nat.zero_le _, m, vr, rfl, fun _ h => h, by simpa [rowOf] using hpr, fun _ _ _ => rfl⟩
  · refine gen_P fun Pg kg => ?_
    obtain ⟨_, m', vr', rfl, _⟩ := hI
    refine kg ?_
    clear kg
    exact ⟨_, .tail _ (.tail _ (.tail _ ha)), fun o => accP_seq⟩
  · refine gen_P fun Pg kg => ?_
    obtain ⟨hi1, m', vr', rfl, hιι, hp', hm'⟩ := hI
    refine kg ?_
    clear kg
    obtain ⟨p, hp⟩ : ∃ p, ps[i]? = some p := ⟨_, List.getElem?_eq_getElem (by (first | (refine rwP (hps.1) ?_; try with_reducible rfl) | rw [hps.1]); exact hi)⟩
    obtain ⟨w', hw', hpw⟩ := hps.2 i p hp
    have : w' = w := Option.some.inj (hw'.symm.trans hw)
    subst this
    refine wpAny_assign_Name (n_store S (.tail (.tail (.tail .head))) fun s4 S4 => ?_)
    have S5 : SS C ((row, accP dr vr') :: (dr, szP 0) :: (L, nsP (put m' "piece" w')) :: (it, liP a (i + 1)) :: σ) ι2 s4 := by
      refine S4.perm ?_
      exact ((List.Perm.swap _ _ _).trans (((List.Perm.swap _ _ _).trans ((List.Perm.swap _ _ _).cons _)).cons _))
    have hlen : (ps.take i).length ≤ ps.length := by (first | (refine rwP (List.length_take) ?_; try with_reducible rfl) | rw [List.length_take]); (first | lia | omega)
    have hil : i < ps.length := by (first | (refine rwP (hps.1) ?_; try with_reducible rfl) | rw [hps.1]); exact hi
    refine wpAny_execs_cons (all_inner X KK KQ R S5 (by (first | (refine rwP (put_ne (by decide)) ?_; refine rwP (hm' _ (by decide) (by decide)) ?_; try with_reducible rfl) | rw [put_ne (by decide), hm' _ (by decide) (by decide)]); exact hk) put_same (hpw.mono fun _ h => hι (hιι h)) (by (first | (refine rwP (put_ne (by decide)) ?_; refine rwP (hm' _ (by decide) (by decide)) ?_; try with_reducible rfl) | rw [put_ne (by decide), hm' _ (by decide) (by decide)]); exact hr)
      (hp'.mono hι) ?_ fun m2 vr2 ι3 s5 h3 S6 hp6 hm6 => ?_)
    · (first | (refine rwP (List.length_append) ?_; refine rwP (rowOf_length) ?_; refine rwP (List.length_take) ?_; refine rwP (Nat.min_eq_left (by (first | lia | omega))) ?_; try with_reducible rfl) | rw [List.length_append, rowOf_length, List.length_take, Nat.min_eq_left (by (first | lia | omega))])
      have : (i + 1) * (k + 1) ≤ ps.length * (k + 1) := Nat.mul_le_mul_right _ hil
      rw [Nat.add_mul] at this
      (first | lia | omega)
    · refine wpAny_execs_nil ?_
      refine ⟨(row, accP dr vr2) :: (dr, szP 0) :: (L, nsP m2) :: σ, ι3, S6.perm ?_, by (first | lia | omega), m2, vr2, rfl, fun _ h => h3 (hι (hιι h)), ?_, fun x h1 h2 => ?_⟩
      · exact (((List.Perm.swap _ _ _).cons _).cons _).trans (((List.Perm.swap _ _ _).cons _).trans (List.Perm.swap _ _ _))
      · (first | (refine rwP (List.take_add_one) ?_; refine rwP (hp) ?_; refine rwP (Option.toList_some) ?_; refine rwP (rowOf_snoc) ?_; refine rwQ (List.append_assoc) ?_; try with_reducible rfl) | rw [List.take_add_one, hp, Option.toList_some, rowOf_snoc, ← List.append_assoc]); exact hp6
      · (first | (refine rwP (hm6 x h1) ?_; refine rwP (put_ne h2) ?_; try with_reducible rfl) | rw [hm6 x h1, put_ne h2]); exact hm' x h1 h2
  · refine gen_P fun Pg kg => ?_
    obtain ⟨_, m', vr', rfl, hιι, hp', hm'⟩ := hI
    refine kg ?_
    clear kg
    rw [← hps.1, List.take_length] at hp'
    exact wpAny_execs_nil (h _ _ _ _ hιι S hp' hm')
end
end Mine
end Part30
section Part31
set_option tactic.hygienic false
open PySem PySem.W PySem.W.X PySem.Calls PyProof.Rows
set_option maxRecDepth 100000
namespace Mine

noncomputable def allS (pss : Nat → List (Str × Str)) (n : Nat) : List (Str × Str) := (List.range n).flatMap fun j => rowOf j (pss j)
theorem allS_succ (pss : Nat → List (Str × Str)) (n : Nat) : allS pss (n + 1) = allS pss n ++ rowOf n (pss n) := by simp [allS, List.range_succ]
theorem allS_mono (pss : Nat → List (Str × Str)) {i n : Nat} (h : i ≤ n) : (allS pss i).length ≤ (allS pss n).length := by
  induction n with
  | zero => (first | (refine rwP (Nat.le_zero.mp h) ?_; try with_reducible rfl) | rw [Nat.le_zero.mp h]); exact Nat.le_refl _
  | succ n ih =>
    rcases Nat.lt_or_ge i (n + 1) with h1 | h1
    · (first | (refine rwP (allS_succ) ?_; refine rwP (List.length_append) ?_; try with_reducible rfl) | rw [allS_succ, List.length_append]); have := ih (by (first | lia | omega)); (first | lia | omega)
    · (first | (refine rwP (show i = n + 1 by (first | lia | omega)) ?_; try with_reducible rfl) | rw [show i = n + 1 by (first | lia | omega)]); exact Nat.le_refl _

section
variable {C : Cx} {σ σ' : Led} {ι ι' : Imm} {A : Around} {s : Shared} {E : Value → Shared → Prop} {a dx : Addr} {vs : Array Value} {k : Int}

theorem all_c {n : Nat} {lb : Addr} {bv : Array Value} {pss : Nat → List (Str × Str)} {Q : Value → Shared → Prop} (X : CxOk C) (KK : AllK C.K) (KQ : KAll C.K) (R : Room (n + 3) A) (S : SS C σ ι s)
    (hlb : (lb, lstP bv) ∈ σ) (hbs : ∀ i, i < 4 → ∃ a dx vs, bv[i]? = some (.ref a) ∧ (a, accP dx vs) ∈ σ ∧ pcs ι vs (pss i)) (hz : (allS pss 4).length ≤ 1000000)
    (h : ∀ row dr vr ι' s', ι ⊆ ι' → SS C ((row, accP dr vr) :: (dr, szP 0) :: σ) ι' s' → pcs ι' vr (allS pss 4) → Q (.ref row) s') :
    wpAny (model prg C.w) A (call (.ref 131) [.ref lb] []) Q E s := by
  refine call_fn (binds := [("blocks", .ref lb)]) X KQ.fAll R S (fun _ _ _ _ _ => BindsTo.of_eq rfl) fun L s1 S1 R1 => ?_
  refine wpAny_execs_cons (wpAny_Assign_Name ?_)
  refine Call_ (n_global X S1 KQ.gAcc ?_)
  refine callWith_K0 (S1.kin X) KQ.keep (make0_c X KK.A KK.S KK.I R1 S1 fun row dr s2 S2 => ?_)
  refine n_store S2 (.tail (.tail .head)) fun s3 S3 => ?_
  refine wpAny_execs_cons (wpAny_For ?_)
  refine n_range X KQ S3 (wpAny_Constant_int ?_)
  have S4 : SS C _ _ { s3 with toks := s3.toks + 1 } := S3
  refine make_range1 (n := 4) S4 fun r t u w s5 S5 hr => ?_
  refine iter_range S5 hr (by decide) (by decide) fun it s6 S6 => ?_
  refine for_w ri_walker (fun i σ' ι' => i ≤ 4 ∧ Ex2 fun m' vr' => And5 (σ' = (row, accP dr vr') :: (dr, szP 0) :: (L, nsP m') :: σ) (ι ⊆ ι') (pcs ι' vr' (allS pss i)) (m' "blocks" = some (.ref lb)) (m' "row" = some (.ref row)))
    (fun _ _ _ _ => trivial) (fun i σ' ι1 ι2 w s hi hI hι hw S => ?_) (fun σ' ι1 s hI S => ?_) R1.h S6 ⟨Nat.zero_le _, _, #[], rfl, fun _ h => h, pcs.nil, rfl, rfl⟩
  · refine gen_P fun Pg kg => ?_
    obtain ⟨_, m', vr', rfl, hιι, hp', hb, hrow⟩ := hI
    obtain ⟨tw, rfl⟩ := hw
    obtain ⟨a, dx, vs, hbk, ha, hps⟩ := hbs i hi
    refine kg ?_
    clear kg
    refine wpAny_assign_Name (n_store S (.tail (.tail (.tail .head))) fun s4 S4 => ?_)
    have S5 : SS C ((row, accP dr vr') :: (dr, szP 0) :: (L, nsP (put m' "k" (.int (0 + i) tw))) :: (it, riP 0 4 (i + 1)) :: σ) ι2 s4 := by
      refine S4.perm ?_
      exact ((List.Perm.swap _ _ _).trans (((List.Perm.swap _ _ _).trans ((List.Perm.swap _ _ _).cons _)).cons _))
    have hm1 := allS_mono pss (show i + 1 ≤ 4 by (first | lia | omega))
    rw [allS_succ, List.length_append, rowOf_length] at hm1
    refine wpAny_execs_cons (all_middle X KK KQ R1 S5 hb (.tail _ hlb) hbk (.tail _ ha) (hps.mono fun _ h => hι (hιι h)) (by (first | (refine rwP (put_same) ?_; refine rwP (Int.zero_add) ?_; try with_reducible rfl) | rw [put_same, Int.zero_add])) hrow
      (hp'.mono hι) (by (first | lia | omega)) (by (first | lia | omega)) fun m2 vr2 ι3 s5 h3 S6 hp6 hm6 => ?_)
    refine wpAny_execs_nil ?_
    refine ⟨(row, accP dr vr2) :: (dr, szP 0) :: (L, nsP m2) :: σ, ι3, S6.perm ?_, by (first | lia | omega), m2, vr2, rfl, fun _ h => h3 (hι (hιι h)), by (first | (refine rwP (allS_succ) ?_; try with_reducible rfl) | rw [allS_succ]); exact hp6, ?_, ?_⟩
    · exact (((List.Perm.swap _ _ _).cons _).cons _).trans (((List.Perm.swap _ _ _).cons _).trans (List.Perm.swap _ _ _))
    · (first | (refine rwP (hm6 _ (by decide) (by decide)) ?_; refine rwP (put_ne (by decide)) ?_; try with_reducible rfl) | rw [hm6 _ (by decide) (by decide), put_ne (by decide)]); exact hb
    · (first | (refine rwP (hm6 _ (by decide) (by decide)) ?_; refine rwP (put_ne (by decide)) ?_; try with_reducible rfl) | rw [hm6 _ (by decide) (by decide), put_ne (by decide)]); exact hrow
  · refine gen_P fun Pg kg => ?_
    obtain ⟨_, m', vr', rfl, hιι, hp', hb, hrow⟩ := hI
    refine kg ?_
    clear kg
    refine wpAny_execs_nil (wpAny_execs_cons (wpAny_Return_some (n_local S (.tail _ (.tail _ (.head _))) hrow ?_)))
    refine h row dr vr' ι1 s hιι (S.sub (σ' := (row, accP dr vr') :: (dr, szP 0) :: σ) ?_) hp'
    exact .cons_cons _ (.cons_cons _ (.cons _ (List.Sublist.refl _)))
end
end Mine
end Part31
section Part32
set_option tactic.hygienic false
open PySem PySem.W PySem.W.X PySem.Calls PyProof.Rows
set_option maxRecDepth 100000
namespace Mine

/-! ## slices -/
theorem filterMap_range (l : List Value) : ∀ (a n : Nat), ((List.range n).map (a + ·)).filterMap (fun i => l[i]?) = (l.drop a).take n
  | a, 0 => by simp
  | a, n + 1 => by
    (first | (refine rwP (List.range_succ) ?_; refine rwP (List.map_append) ?_; refine rwP (List.filterMap_append) ?_; refine rwP (filterMap_range l a n) ?_; refine rwP (List.take_add_one) ?_; refine rwP (List.getElem?_drop) ?_; try with_reducible rfl) | rw [List.range_succ, List.map_append, List.filterMap_append, filterMap_range l a n, List.take_add_one, List.getElem?_drop])
    cases e : l[a + n]? with
    | none => simp [e]
    | some v => simp [e]
theorem pick_between (vs : Array Value) (a b : Nat) (lo hi : Option Int) (h : sliceBounds lo hi none vs.size = ((a : Int), (b : Int), 1)) : slicePick vs lo hi none = ((vs.toList.drop a).take (b - a)).toArray := by
  unfold slicePick
  (first | (refine rwP (h) ?_; try with_reducible rfl) | rw [h])
  dsimp only
  (first | (refine rwP (sliceRange_one) ?_; try with_reducible rfl) | rw [sliceRange_one])
  congr 1
  have := filterMap_range vs.toList a (b - a)
  simpa using this
theorem clip_nat (c n : Nat) : max (0 : Int) (min (if (c : Int) < 0 then (c : Int) + n else c) n) = ((min c n : Nat) : Int) := by
  (first | (refine rwP (if_neg (Int.not_lt.mpr (Int.natCast_nonneg c))) ?_; try with_reducible rfl) | rw [if_neg (Int.not_lt.mpr (Int.natCast_nonneg c))])
  (first | lia | omega)
theorem pick_take (vs : Array Value) (c : Nat) : slicePick vs none (some (c : Int)) none = (vs.toList.take c).toArray := by
  (first | (refine rwP (pick_between vs 0 (min c vs.size) none (some c)) ?_; try with_reducible rfl) | rw [pick_between vs 0 (min c vs.size) none (some c)])
  · congr 1
    (first | (refine rwP (List.drop_zero) ?_; refine rwP (Nat.sub_zero) ?_; try with_reducible rfl) | rw [List.drop_zero, Nat.sub_zero])
    rcases Nat.le_total c vs.size with h | h
    · (first | (refine rwP (Nat.min_eq_left h) ?_; try with_reducible rfl) | rw [Nat.min_eq_left h])
    · (first | (refine rwP (Nat.min_eq_right h) ?_; refine rwP (List.take_of_length_le (by simp)) ?_; refine rwP (List.take_of_length_le (by simpa using h)) ?_; try with_reducible rfl) | rw [Nat.min_eq_right h, List.take_of_length_le (by simp), List.take_of_length_le (by simpa using h)])
  · show ((0 : Int), max (0 : Int) (min (if (c : Int) < 0 then (c : Int) + vs.size else c) vs.size), (1 : Int)) = _
    (first | (refine rwP (clip_nat) ?_; try with_reducible rfl) | rw [clip_nat]); rfl
theorem pick_drop (vs : Array Value) (c : Nat) : slicePick vs (some (c : Int)) none none = (vs.toList.drop c).toArray := by
  (first | (refine rwP (pick_between vs (min c vs.size) vs.size (some c) none) ?_; try with_reducible rfl) | rw [pick_between vs (min c vs.size) vs.size (some c) none])
  · congr 1
    rcases Nat.le_total c vs.size with h | h
    · (first | (refine rwP (Nat.min_eq_left h) ?_; refine rwP (List.take_of_length_le (by simp)) ?_; try with_reducible rfl) | rw [Nat.min_eq_left h, List.take_of_length_le (by simp)])
    · (first | (refine rwP (Nat.min_eq_right h) ?_; refine rwP (List.drop_of_length_le (by simp)) ?_; refine rwP (List.drop_of_length_le (by simpa using h)) ?_; refine rwP (List.take_nil) ?_; try with_reducible rfl) | rw [Nat.min_eq_right h, List.drop_of_length_le (by simp), List.drop_of_length_le (by simpa using h), List.take_nil])
  · show (max (0 : Int) (min (if (c : Int) < 0 then (c : Int) + vs.size else c) vs.size), (vs.size : Int), (1 : Int)) = _
    (first | (refine rwP (clip_nat) ?_; try with_reducible rfl) | rw [clip_nat])
theorem pcs.take {ι : Imm} {vs : Array Value} {ps : List (Str × Str)} (x : pcs ι vs ps) (c : Nat) : pcs ι (vs.toList.take c).toArray (ps.take c) := by
  refine ⟨by (first | (refine rwP (List.size_toArray) ?_; refine rwP (List.length_take) ?_; refine rwP (List.length_take) ?_; refine rwP (x.1) ?_; refine rwP (Array.length_toList) ?_; try with_reducible rfl) | rw [List.size_toArray, List.length_take, List.length_take, x.1, Array.length_toList]), fun i p e => ?_⟩
  rw [List.getElem?_take] at e
  split at e
  · rename_i h
    obtain ⟨v, a, b⟩ := x.2 i p e
    exact ⟨v, by (first | (refine rwP (List.getElem?_toArray) ?_; refine rwP (List.getElem?_take) ?_; refine rwP (if_pos h) ?_; refine rwP (Array.getElem?_toList) ?_; try with_reducible rfl) | rw [List.getElem?_toArray, List.getElem?_take, if_pos h, Array.getElem?_toList]); exact a, b⟩
  · cases e
theorem pcs.drop {ι : Imm} {vs : Array Value} {ps : List (Str × Str)} (x : pcs ι vs ps) (c : Nat) : pcs ι (vs.toList.drop c).toArray (ps.drop c) := by
  refine ⟨by (first | (refine rwP (List.size_toArray) ?_; refine rwP (List.length_drop) ?_; refine rwP (List.length_drop) ?_; refine rwP (x.1) ?_; refine rwP (Array.length_toList) ?_; try with_reducible rfl) | rw [List.size_toArray, List.length_drop, List.length_drop, x.1, Array.length_toList]), fun i p e => ?_⟩
  rw [List.getElem?_drop] at e
  obtain ⟨v, a, b⟩ := x.2 (c + i) p e
  exact ⟨v, by (first | (refine rwP (List.getElem?_toArray) ?_; refine rwP (List.getElem?_drop) ?_; refine rwP (Array.getElem?_toList) ?_; try with_reducible rfl) | rw [List.getElem?_toArray, List.getElem?_drop, Array.getElem?_toList]); exact a, b⟩

section
variable {C : Cx} {σ σ' : Led} {ι ι' : Imm} {A : Around} {s : Shared} {E : Value → Shared → Prop} {a dx : Addr} {vs : Array Value} {k : Int}
theorem n_slice2 {upper : Option Expr} {p : Pos} {env : Env} {vu : Value} {Q : Value → Shared → Prop} 
    (h : wpAny (model prg C.w) A (evalPart upper env) (fun v s₁ => v = vu ∧ ∃ σ ι, SS C σ ι s₁ ∧ ∀ sl s₂, SS C σ ι s₂ → s₂.heap.IsSliceOf sl .none vu .none → Q (.ref sl) s₂) E s) : wpAny (model prg C.w) A (eval (.Slice none upper none p) env) Q E s := by
  refine wpAny_Slice ?_
  (first | (refine rwP (evalPart_none) ?_; try with_reducible rfl) | rw [evalPart_none])
  refine wpAny_pure (wpAny_mono h (fun v s1 h1 => ?_) fun _ _ x => x)
  refine gen_P fun Pg kg => ?_
  obtain ⟨rfl, σ, ι, S1, h1⟩ := h1
  refine kg ?_
  clear kg
  exact wpAny_pure (h1 _ _ (S1.push _) ⟨_, Heap.get?_push_size _ rfl, rfl, rfl⟩)
end
end Mine
end Part32
section Part33
set_option tactic.hygienic false
open PySem PySem.W PySem.W.X PySem.Calls PyProof.Rows
set_option maxRecDepth 100000
namespace Mine

noncomputable def szOf (p : Str × Str) : Nat := p.1.length + p.2.length
noncomputable def sumsS (k : Nat) : List (Str × Str) → List (Str × Str)
  | [] => []
  | p :: r => pieceS (k + szOf p) :: sumsS (k + szOf p) r
theorem lenS_cons (p : Str × Str) (r : List (Str × Str)) : lenS (p :: r) = szOf p + lenS r := by simp [lenS, szOf]
theorem lenS_append (a b : List (Str × Str)) : lenS (a ++ b) = lenS a + lenS b := by simp [lenS]
theorem sumsS_snoc (p : Str × Str) : ∀ (k : Nat) (xs : List (Str × Str)), sumsS k (xs ++ [p]) = sumsS k xs ++ [pieceS (k + lenS xs + szOf p)]
  | k, [] => by simp [sumsS, lenS]
  | k, x :: r => by
    (first | (refine rwP (List.cons_append) ?_; refine rwP (sumsS) ?_; refine rwP (sumsS_snoc p (k + szOf x) r) ?_; refine rwP (sumsS) ?_; refine rwP (List.cons_append) ?_; refine rwP (lenS_cons) ?_; try with_reducible rfl) | rw [List.cons_append, sumsS, sumsS_snoc p (k + szOf x) r, sumsS, List.cons_append, lenS_cons])
    congr 3
    congr 1
    (first | lia | omega)
theorem sumsS_length : ∀ (k : Nat) (xs : List (Str × Str)), (sumsS k xs).length = xs.length
  | _, [] => rfl
  | k, x :: r => by (first | (refine rwP (sumsS) ?_; refine rwP (List.length_cons) ?_; refine rwP (sumsS_length) ?_; refine rwP (List.length_cons) ?_; try with_reducible rfl) | rw [sumsS, List.length_cons, sumsS_length, List.length_cons])

theorem lenS_take_le (ps : List (Str × Str)) (i : Nat) : lenS (ps.take i) ≤ lenS ps := by
  have := lenS_append (ps.take i) (ps.drop i)
  rw [List.take_append_drop] at this
  (first | lia | omega)
structure KAdd (K : Frag) : Prop where
  gPiece : nsIn K 3 "_law_piece" = some (some (.ref 112))
  fAdd : Fn K 124 123 "_law_added" (topS 8) [] .none

section
variable {C : Cx} {σ σ' : Led} {ι ι' : Imm} {A : Around} {s : Shared} {E : Value → Shared → Prop} {a dx : Addr} {vs : Array Value} {k : Int}

theorem n_append {x : Str} {p1 apos pos : Pos} {elt : Expr} {env : Env} {m : Str → Option Value} {l : Addr} {Q : Value → Shared → Prop} (S : SS C σ ι s) (hm : (env.locals, nsP m) ∈ σ) (hx : m x = some (.ref l)) (hl : (l, lstP vs) ∈ σ)
    (h : wpAny (model prg C.w) A (eval elt env) (fun y s₂ => Ex3 fun σ σ' ι => And4 (SS C σ ι s₂) (Upd l (lstP vs) (lstP (vs.push y)) σ σ') (vs.size ≤ sizeLine) (∀ s₃, SS C σ' ι s₃ → Q .none s₃)) E s)
    (hk : autoParam (env.scope.kind = .function) tacRfl) (hlx : autoParam (env.kindOf x = some .local) tacRfl) (hd : autoParam ((x == ("__debug__" : Str)) = false) tacDec)
    (hline : autoParam ((apos.endLine == pos.line) = true) tacRfl) (he : autoParam (starEach [elt] env = [(false, eval elt env)]) tacRfl) :
    wpAny (model prg C.w) A (eval (.Call (.Attribute (.Name x p1) "append" apos) [elt] [] pos) env) Q E s := by
  refine wpAny_Call_append rfl (by (first | (refine rwP (he) ?_; try with_reducible rfl) | rw [he]); rfl) hline (by (first | (refine rwP (he) ?_; try with_reducible rfl) | rw [he]); rfl) (n_local S hm hx ?_ hk hlx hd)
  refine gen_P fun Pg kg => ?_
  obtain ⟨o, e, ⟨q1, q2⟩, n, q3⟩ := S.at hl
  refine kg ?_
  clear kg
  refine ⟨l, vs, rfl, ⟨o, n, e, q1, q2, q3⟩, wpAny_mono h (fun y s2 h2 => ?_) fun _ _ x => x⟩
  refine gen_P fun Pg kg => ?_
  obtain ⟨σ1, σ2, ι1, S1, u, hz, h3⟩ := h2
  refine kg ?_
  clear kg
  exact list_push S1 u hz h3

noncomputable abbrev addEnv (L : Addr) : Env := envX "_law_added" (scopeOf (topS 8)) L 124 (.ref 123) []
theorem n_len_acc {n : Nat} {x : Str} {p0 p1 pos : Pos} {env : Env} {m : Str → Option Value} {ps : List (Str × Str)} {Q : Value → Shared → Prop} (X : CxOk C) (KK : AllK C.K) (R : Room (n + 3) A) (S : SS C σ ι s) (hm : (env.locals, nsP m) ∈ σ) (hx : m x = some (.ref a))
    (ha : (a, accP dx vs) ∈ σ) (hd : (dx, szP k) ∈ σ) (hp : pcs ι vs ps) (hz : small ps) (h0 : 0 ≤ k) (h1 : k + lenS ps < 2 ^ 62) (h : ∀ t s', SS C σ ι s' → Q (.int (k + lenS ps) t) s')
    (hg : autoParam (env.globals = 3) tacRfl) (hgb : autoParam (env.builtins = 0) tacRfl) (hk : autoParam (env.scope.kind = .function) tacRfl) (hl : autoParam (env.kindOf "len" = some .globalImplicit) tacRfl)
    (hlx : autoParam (env.kindOf x = some .local) tacRfl) (hdx : autoParam ((x == ("__debug__" : Str)) = false) tacDec) :
    wpAny (model prg C.w) A (eval (.Call (.Name "len" p0) [.Name x p1] [] pos) env) Q E s := by
  refine Call_ (n_builtin X S KK.B.gLen KK.B.bLen ?_ hg hgb hk hl)
  refine n_callb (sp_cons (n_local S hm hx (sp_nil ?_) hk hlx hdx))
  exact call_len X KK.A KK.T KK.G KK.L KK.B KK.D R S ha hd hp hz h0 h1 h

theorem added_inner {n : Nat} {L sums block db lp : Addr} {m : Str → Option Value} {pv : Array Value} {pps : List (Str × Str)} {c k : Nat} {tc : Tok} {q0 q1 q2 q3 q4 q5 p1 p2 p3 p4 p5 p6 p7 p8 p9 p10 p11 p12 p13 p14 p15 : Pos} {Q : Flow → Shared → Prop}
    (X : CxOk C) (KK : AllK C.K) (KL' : KLaw C.K) (KQ : KAdd C.K) (R : Room (n + 3) A) (S : SS C ((sums, lstP #[]) :: (block, accP db #[]) :: (db, szP k) :: (L, nsP m) :: σ) ι s)
    (hb : m "block" = some (.ref block)) (hs : m "sums" = some (.ref sums)) (hc : m "count" = some (.int c tc)) (hpc : m "pieces" = some (.ref lp)) (hlp : (lp, lstP pv) ∈ σ) (hpp : pcs ι pv pps)
    (hsm : small pps) (hz : k + lenS pps ≤ 1000000) (hn : pps.length ≤ 1000000)
    (h : ∀ m' vb vsum lh hv ι' s', ι ⊆ ι' → SS C ((sums, lstP vsum) :: (block, accP db vb) :: (db, szP k) :: (L, nsP m') :: (lh, lstP hv) :: σ) ι' s' → pcs ι' vb (pps.take c) → pcs ι' vsum (sumsS k (pps.take c)) → (∀ x, (x == ("piece" : Str)) = false → m' x = m x) → Q .next s') (hline : autoParam ((p8.endLine == p14.line) = true) tacRfl) :
    wpAny (model prg C.w) A (exec (.For (.Name "piece" q0) (.Subscript (.Name "pieces" q1) (.Slice none (some (.Name "count" q2)) none q3) q4)
      [.Expr (.Call (.Attribute (.Name "block" p1) "push" p2) [.Starred (.Name "piece" p3) p4] [] p5) p6,
       .Expr (.Call (.Attribute (.Name "sums" p7) "append" p8) [.Call (.Name "_law_piece" p9) [.Call (.Name "len" p10) [.Name "block" p11] [] p12] [] p13] [] p14) q5] [] p15) (addEnv L)) Q E s := by
  refine wpAny_For ?_
  refine Subscript_ (n_local S (.tail _ (.tail _ (.tail _ (.head _)))) hpc ?_)
  refine n_slice2 (vu := .int c tc) (evalPart_some_step (n_local S (.tail _ (.tail _ (.tail _ (.head _)))) hc ⟨rfl, _, _, S, fun sl s2 S2 hsl => ?_⟩))
  have L1 := lst_like S2 (.tail _ (.tail _ (.tail _ (.tail _ hlp))))
  refine like_tail L1 (like_slice L1 hsl .none (.int c tc) .none (by simp) ?_ (by (first | (refine rwQ (hpp.1) ?_; refine rwP (sizeLine_eq) ?_; try with_reducible rfl) | rw [← hpp.1, sizeLine_eq]); (first | lia | omega))) (fun q => wpAny_operating q)
  (first | (refine rwP (pick_take) ?_; try with_reducible rfl) | rw [pick_take])
  have hh := hpp.take c
  generalize (pv.toList.take c).toArray = hv at hh ⊢
  generalize e0 : pps.take c = ph at hh ⊢
  have hph : lenS ph ≤ lenS pps := by (first | (refine rwQ (e0) ?_; try with_reducible rfl) | rw [← e0]); exact lenS_take_le _ _
  have hpl : ph.length ≤ pps.length := by (first | (refine rwQ (e0) ?_; refine rwP (List.length_take) ?_; try with_reducible rfl) | rw [← e0, List.length_take]); (first | lia | omega)
  have hps : small ph := fun p hp => hsm p (by rw [← e0] at hp; exact List.mem_of_mem_take hp)
  have e1 : lstP hv { cls := .type "list", data := .seq hv } := ⟨⟨rfl, rfl⟩, _, rfl⟩
  have S3 := S2.alloc e1 rfl (lstP_not e1)
  generalize s2.heap.objs.size = l at S3 ⊢
  refine iter_list S3 (.head _) fun it s4 S4 => ?_
  refine for_w (li_walker (l := l) (vs := hv)) (fun i σ' ι' => i ≤ hv.size ∧ Ex3 fun m' vb vsum => And5 (σ' = (l, lstP hv) :: (sums, lstP vsum) :: (block, accP db vb) :: (db, szP k) :: (L, nsP m') :: σ) (ι ⊆ ι') (pcs ι' vb (ph.take i)) (pcs ι' vsum (sumsS k (ph.take i))) (∀ x, (x == ("piece" : Str)) = false → m' x = m x))
    (fun i σ' ι' hI => ?_) (fun i σ' ι1 ι2 w s hi hI hι hw S => ?_) (fun σ' ι1 s hI S => ?_) R.h S4 ⟨Nat.zero_le _, m, #[], #[], rfl, fun _ h => h, pcs.nil, pcs.nil, fun _ _ => rfl⟩
  · refine gen_P fun Pg kg => ?_
    obtain ⟨_, m', vb, vsum, rfl, _⟩ := hI
    refine kg ?_
    clear kg
    exact ⟨_, .head _, fun o => lstP_seq⟩
  · refine gen_P fun Pg kg => ?_
    obtain ⟨hi1, m', vb, vsum, rfl, hιι, hb', hs', hm'⟩ := hI
    refine kg ?_
    clear kg
    obtain ⟨p, hp⟩ : ∃ p, ph[i]? = some p := ⟨_, List.getElem?_eq_getElem (by (first | (refine rwP (hh.1) ?_; try with_reducible rfl) | rw [hh.1]); exact hi)⟩
    obtain ⟨w', hw', hpw⟩ := hh.2 i p hp
    have : w' = w := Option.some.inj (hw'.symm.trans hw)
    subst this
    have hil : i < ph.length := by (first | (refine rwP (hh.1) ?_; try with_reducible rfl) | rw [hh.1]); exact hi
    have htk : (ph.take i).length = i := by (first | (refine rwP (List.length_take) ?_; try with_reducible rfl) | rw [List.length_take]); (first | lia | omega)
    have htake : ph.take (i + 1) = ph.take i ++ [p] := by (first | (refine rwP (List.take_add_one) ?_; refine rwP (hp) ?_; refine rwP (Option.toList_some) ?_; try with_reducible rfl) | rw [List.take_add_one, hp, Option.toList_some])
    have hlen : lenS (ph.take i) + szOf p ≤ lenS pps := by
      have h1 := lenS_take_le ph (i + 1)
      rw [htake, lenS_append] at h1
      have h2 : lenS [p] = szOf p := by (first | (refine rwP (lenS_cons) ?_; try with_reducible rfl) | rw [lenS_cons]); simp [lenS]
      (first | lia | omega)
    refine wpAny_assign_Name (n_store S (.tail (.tail (.tail (.tail (.tail .head))))) fun s5 S5 => ?_)
    refine wpAny_execs_cons (wpAny_Expr_any ?_)
    refine star_push X KK.A KK.G R S5 (.tail _ (.tail _ (.tail _ (.tail _ (.tail _ (.head _)))))) (by (first | (refine rwP (put_ne (by decide)) ?_; refine rwP (hm' _ (by decide)) ?_; try with_reducible rfl) | rw [put_ne (by decide), hm' _ (by decide)]); exact hb) put_same (.tail _ (.tail _ (.tail _ (.tail _ (.head _)))))
      (fun v => .tail (.tail (.tail .head))) (hpw.mono fun _ h => hι (hιι h)) (by (first | (refine rwQ (hb'.1) ?_; refine rwP (htk) ?_; refine rwP (sizeLine_eq) ?_; try with_reducible rfl) | rw [← hb'.1, htk, sizeLine_eq]); (first | lia | omega)) fun v' ι3 s6 h3 hv' S6 => ?_
    have hb2 : pcs ι3 (vb.push v') (ph.take i ++ [p]) := (hb'.mono fun _ h => h3 (hι h)).push hv'
    refine wpAny_execs_cons (wpAny_Expr_any ?_)
    refine n_append S6 (.tail _ (.tail _ (.tail _ (.tail _ (.tail _ (.head _)))))) (by (first | (refine rwP (put_ne (by decide)) ?_; refine rwP (hm' _ (by decide)) ?_; try with_reducible rfl) | rw [put_ne (by decide), hm' _ (by decide)]); exact hs) (.tail _ (.tail _ (.head _))) ?_ (hline := hline)
    refine Call_ (n_global X S6 KQ.gPiece ?_)
    refine n_callF X KL'.fPiece (sp_cons ?_)
    have hl2 : lenS (ph.take i ++ [p]) = lenS (ph.take i) + szOf p := by (first | (refine rwP (lenS_append) ?_; refine rwP (lenS_cons) ?_; try with_reducible rfl) | rw [lenS_append, lenS_cons]); simp [lenS]
    refine n_len_acc X KK R S6 (.tail _ (.tail _ (.tail _ (.tail _ (.tail _ (.head _)))))) (by (first | (refine rwP (put_ne (by decide)) ?_; refine rwP (hm' _ (by decide)) ?_; try with_reducible rfl) | rw [put_ne (by decide), hm' _ (by decide)]); exact hb) (.tail _ (.tail _ (.tail _ (.head _)))) (.tail _ (.tail _ (.tail _ (.tail _ (.head _))))) hb2
      (fun q hq => ?_) (by (first | lia | omega)) (by (first | (refine rwP (hl2) ?_; try with_reducible rfl) | rw [hl2]); (first | lia | omega)) fun t7 s7 S7 => ?_
    · rcases List.mem_append.mp hq with hq | hq
      · exact hps q (List.mem_of_mem_take hq)
      · (first | (refine rwP (List.mem_singleton.mp hq) ?_; try with_reducible rfl) | rw [List.mem_singleton.mp hq]); exact hps p (List.mem_of_getElem? hp)
    · refine sp_nil ⟨⟨_, _, S7⟩, ?_⟩
      (first | (refine rwP (show (k : Int) + (lenS (ph.take i ++ [p]) : Nat) = ((k + lenS (ph.take i) + szOf p : Nat) : Int) by rw [hl2]; (first | lia | omega)) ?_; try with_reducible rfl) | rw [show (k : Int) + (lenS (ph.take i ++ [p]) : Nat) = ((k + lenS (ph.take i) + szOf p : Nat) : Int) by rw [hl2]; (first | lia | omega)])
      refine piece_c X KL' R S7 (by (first | lia | omega)) fun v8 ι4 s8 h4 hv8 S8 => ?_
      refine ⟨_, _, _, S8, .tail (.tail .head), by (first | (refine rwQ (hs'.1) ?_; refine rwP (sumsS_length) ?_; refine rwP (htk) ?_; refine rwP (sizeLine_eq) ?_; try with_reducible rfl) | rw [← hs'.1, sumsS_length, htk, sizeLine_eq]); (first | lia | omega), fun s9 S9 => ?_⟩
      refine wpAny_execs_nil ⟨_, _, S9, by (first | lia | omega), _, _, _, rfl, fun _ h => h4 (h3 (hι (hιι h))), ?_, ?_, fun x hx => ?_⟩
      · (first | (refine rwP (htake) ?_; try with_reducible rfl) | rw [htake]); exact hb2.mono h4
      · (first | (refine rwP (htake) ?_; refine rwP (sumsS_snoc) ?_; try with_reducible rfl) | rw [htake, sumsS_snoc])
        exact (hs'.mono fun _ h => h4 (h3 (hι h))).push hv8
      · (first | (refine rwP (put_ne hx) ?_; try with_reducible rfl) | rw [put_ne hx]); exact hm' x hx
  · refine gen_P fun Pg kg => ?_
    obtain ⟨_, m', vb, vsum, rfl, hιι, hb', hs', hm'⟩ := hI
    refine kg ?_
    clear kg
    rw [← hh.1, List.take_length] at hb' hs'
    refine wpAny_execs_nil (h m' vb vsum l hv _ _ hιι (S.perm ?_) (e0 ▸ hb') (e0 ▸ hs') hm')
    exact (List.Perm.swap _ _ _).trans (((List.Perm.swap _ _ _).trans (((List.Perm.swap _ _ _).trans ((List.Perm.swap _ _ _).cons _)).cons _)).cons _)
end
end Mine
end Part33
section Part34
set_option tactic.hygienic false
open PySem PySem.W PySem.W.X PySem.Calls PyProof.Rows
set_option maxRecDepth 100000
namespace Mine

structure KM (K : Frag) : Prop where
  pop : findIn K (.ref 101) "pop" = some (some (.ref 61))
  popFrom : findIn K (.ref 101) "pop_from" = some (some (.ref 53))
  reset : findIn K (.ref 101) "reset" = some (some (.ref 83))

noncomputable def addLoop : List Stmt := bodyOf ((bodyOf (topS 8)).getD 1 (.Pass default))
noncomputable def spacePiece : Str × Str := (" ", "")
noncomputable def emptyPiece : Str × Str := ("", "")

section
variable {C : Cx} {σ σ' : Led} {ι ι' : Imm} {A : Around} {s : Shared} {E : Value → Shared → Prop} {a dx : Addr} {vs : Array Value} {k : Int}

theorem n_accm {x name : Str} {f c : Addr} {qual : Str} {D : Stmt} {cl : List (Str × Addr)} {dV : Value} {p1 apos pos : Pos} {args : List Expr} {env : Env} {m : Str → Option Value} {Q : Value → Shared → Prop} (X : CxOk C) (KK : AllK C.K)
    (hf : findIn C.K (.ref 101) name = some (some (.ref f))) (F : Fn C.K f c qual D cl dV) (S : SS C σ ι s) (hm : (env.locals, nsP m) ∈ σ) (hx : m x = some (.ref a)) (ha : (a, accP dx vs) ∈ σ) (hd : (dx, szP k) ∈ σ)
    (h : wpAny (model prg C.w) A (spliced (backTo pos (starEach args env))) (fun vs s₁ => (∃ σ ι, SS C σ ι s₁) ∧ wpAny (model prg C.w) A (call (.ref f) ([.ref a] ++ vs) []) Q E s₁) E s)
    (hn : autoParam ((name == ("_initial_size" : Str)) = false) tacDec) (hk : autoParam (env.scope.kind = .function) tacRfl) (hlx : autoParam (env.kindOf x = some .local) tacRfl) (hdx : autoParam ((x == ("__debug__" : Str)) = false) tacDec)
    (hform : autoParam (methodCallForm (args.length + ([] : List Keyword).length) (backTo pos (starEach args env)) (backToKw pos (keywordEach [] env)) = true) tacRfl)
    (hline : autoParam ((apos.endLine == pos.line) = true) tacRfl) (hp : autoParam ((backTo pos (starEach args env)).any (·.1) = false) tacRfl) :
    wpAny (model prg C.w) A (eval (.Call (.Attribute (.Name x p1) name apos) args [] pos) env) Q E s := by
  refine n_meth (n_local S hm hx ?_ hk hlx hdx) rfl hform hline
  exact acc_fmeth X KK.A S ha hd hf F.type hn (n_callF X F h hp)

theorem onlyws_nil (k : Nat) : onlywsS k [] = (k == 0) := by
  unfold onlywsS
  cases k <;> rfl
theorem onlyws_space (k : Nat) : onlywsS k [spacePiece] = (k == 0) := by
  unfold onlywsS
  have : (lenS [spacePiece] == 0 || Txt.isspace (strS [spacePiece])) = true := by decide +kernel
  (first | (refine rwP (this) ?_; try with_reducible rfl) | rw [this])
  cases k <;> rfl

noncomputable def toldD (b : Bool) : PyData := .list [.bool b, .none, .bool b, pieceD spacePiece, pieceD emptyPiece]
theorem told_eqv (b : Bool) : PyData.eqv (toldD b) (toldD b) = true := by cases b <;> decide +kernel
theorem told_shaped (b : Bool) : PySem.SeqAt.shaped (toldD b) = true := by cases b <;> decide +kernel
theorem told_reads {l : Addr} {v1 v2 : Value} {b : Bool} (S : SS C σ ι s) (hl : (l, lstP #[.bool b, .none, .bool b, v1, v2]) ∈ σ) (h1 : IsPiece ι v1 spacePiece) (h2 : IsPiece ι v2 emptyPiece) : Reads s.heap (.ref l) (toldD b) [l] := by
  refine gen_P fun Pg kg => ?_
  obtain ⟨o, e, ⟨q1, q2⟩, n, q3⟩ := S.at hl
  refine kg ?_
  clear kg
  exact .list e q1 q3 (.cons (as := []) (.bool _) (.cons (as := []) .none (.cons (as := []) (.bool _) (.cons (as := []) (h1.reads S) (.cons (as := []) (h2.reads S) .nil)))))

noncomputable def lenD (k : Nat) : PyData := .list [.int k, .str "", .int 0]
theorem lenD_eqv (k : Nat) : PyData.eqv (lenD k) (lenD k) = true := by simp [lenD, PyData.eqv, PyData.eqvAll]
theorem lenD_shaped (k : Nat) : PySem.SeqAt.shaped (lenD k) = true := by
  have : PyData.strOk "" = true := by decide +kernel
  simp [lenD, PySem.SeqAt.shaped, PyData.canLay0, PyData.canLayAll0, PyData.depth, PyData.depthAll, this]
theorem lenD_reads {l : Addr} {k : Nat} {t1 t2 t3 : Tok} (S : SS C σ ι s) (hl : (l, lstP #[.int k t1, .str "" t2, .int 0 t3]) ∈ σ) : Reads s.heap (.ref l) (lenD k) [l] := by
  refine gen_P fun Pg kg => ?_
  obtain ⟨o, e, ⟨q1, q2⟩, n, q3⟩ := S.at hl
  refine kg ?_
  clear kg
  exact .list e q1 q3 (.cons (as := []) (.int _ _) (.cons (as := []) (.str _ _) (.cons (as := []) (.int _ _) .nil)))
theorem n_piece {x y : Str} {k1 k2 kt : Nat} {p1 p2 p : Pos} {env : Env} {Q : Value → Shared → Prop} (S : SS C σ ι s) (h : ∀ v ι' s', ι ⊆ ι' → IsPiece ι' v (x, y) → SS C σ ι' s' → Q v s') :
    wpAny (model prg C.w) A (eval (.Tuple [.Constant (.str x) k1 p1, .Constant (.str y) k2 p2] kt p) env) Q E s := by
  refine Tuple_ (sp_cons (Constant_str (sp_cons (Constant_str (sp_nil (wpAny_newTuple ?_))))))
  have S1 : SS C _ _ { s with toks := s.toks + 1 + 1 } := S
  have S2 := S1.allocT (o := pieceObj (.str x s.toks) (.str y (s.toks + 1))) rfl (pieceObj_tup _ _)
  exact h _ _ _ (fun _ h => .tail _ h) ⟨_, _, _, rfl, .head _⟩ S2

theorem added_turn {n : Nat} {σ' : Value → Led} {L lb lp : Addr} {m : Str → Option Value} {pv bv : Array Value} {pps : List (Str × Str)} {c k : Nat} {tc tk : Tok} {Q : Flow → Shared → Prop}
    (X : CxOk C) (KK : AllK C.K) (KL' : KLaw C.K) (KQ : KAdd C.K) (KA' : KAll C.K) (KM' : KM C.K) (R : Room (n + 5) A) (S : SS C ((L, nsP m) :: σ) ι s)
    (hca : m "carried" = some (.int k tk)) (hc : m "count" = some (.int c tc)) (hpc : m "pieces" = some (.ref lp)) (hlb : m "blocks" = some (.ref lb)) (hlp : (lp, lstP pv) ∈ σ) (hpp : pcs ι pv pps)
    (u : ∀ v, Upd lb (lstP bv) (lstP (bv.push v)) σ (σ' v)) (hbz : bv.size ≤ 1000)
    (hsm : small pps) (hz : k + lenS pps ≤ 1000000) (hn : pps.length ≤ 1000000)
    (h : ∀ block db vsum lp' m' rest t ι' s', ι ⊆ ι' → SS C ((block, accP db vsum) :: (db, szP 0) :: (L, nsP m') :: (lp', lstP (pv.toList.drop c).toArray) :: rest :: σ' (.ref block)) ι' s' → pcs ι' vsum (sumsS k (pps.take c)) →
      m' "carried" = some (.int (k + lenS (pps.take c) : Nat) t) → m' "pieces" = some (.ref lp') → m' "blocks" = some (.ref lb) → m' "counts" = m "counts" → Q .next s') :
    wpAny (model prg C.w) A (execs addLoop (addEnv L)) Q E s := by
  refine wpAny_execs_cons (wpAny_Assign_Name (Call_ (n_global X S KA'.gAcc ?_)))
  refine callWith_K (S.kin X) KA'.keep (sp_cons (n_local S (.head _) hca (sp_nil ⟨S.kin X, ?_⟩)))
  refine make_c X KK.A KK.S KK.I R S fun block db s1 S1 => ?_
  refine n_store S1 (.tail (.tail .head)) fun s2 S2 => ?_
  refine wpAny_execs_cons (wpAny_Assign_Name (List_ ?_))
  refine sp_cons (n_accm X KK KK.W.onlyws KK.W.fOnly S2 (.tail _ (.tail _ (.head _))) put_same (.head _) (.tail _ (.head _)) (sp_nil ⟨⟨_, _, S2⟩, ?_⟩))
  refine onlyws_c X KK R S2 (.head _) (.tail _ (.head _)) pcs.nil (fun p hp => by cases hp) (by decide) fun s3 S3 => ?_
  (first | (refine rwP (onlyws_nil) ?_; try with_reducible rfl) | rw [onlyws_nil])
  refine sp_cons (n_accm X KK KK.G.push KK.A.push S3 (.tail _ (.tail _ (.head _))) put_same (.head _) (.tail _ (.head _)) (sp_cons (Constant_str (sp_cons (Constant_str (sp_nil ⟨⟨_, _, S3⟩, ?_⟩))))))
  have S3' : SS C _ _ { s3 with toks := s3.toks + 1 + 1 } := S3
  refine push_c X KK.A R S3' (.tail _ (.head _)) (fun v => .head) (by decide) fun t4 s4 S4 => ?_
  have hb4 := (pcs.nil (ι := (t4, pieceObj (.str " " s3.toks) (.str "" (s3.toks + 1))) :: ι)).push (p := spacePiece) ⟨t4, _, _, rfl, .head _⟩
  refine sp_cons (n_accm X KK KK.W.onlyws KK.W.fOnly S4 (.tail _ (.tail _ (.head _))) put_same (.head _) (.tail _ (.head _)) (sp_nil ⟨⟨_, _, S4⟩, ?_⟩))
  refine onlyws_c X KK R S4 (.head _) (.tail _ (.head _)) hb4 (fun p hp => by rw [List.nil_append, List.mem_singleton] at hp; subst hp; decide) (by decide) fun s5 S5 => ?_
  (first | (refine rwP (List.nil_append) ?_; refine rwP (onlyws_space) ?_; try with_reducible rfl) | rw [List.nil_append, onlyws_space])
  refine sp_cons (n_accm X KK KM'.pop KK.S.fPop S5 (.tail _ (.tail _ (.head _))) put_same (.head _) (.tail _ (.head _)) (sp_nil ⟨⟨_, _, S5⟩, ?_⟩))
  refine pop_some X KK.A KK.S KK.P R S5 (.tail _ (.head _)) .head (by decide) fun s6 S6 => ?_
  refine sp_cons (n_accm X KK KM'.pop KK.S.fPop S6 (.tail _ (.tail _ (.head _))) put_same (.head _) (.tail _ (.head _)) (sp_nil ⟨⟨_, _, S6⟩, ?_⟩))
  refine pop_none X KK.A KK.S KK.P R S6 (.head _) (.tail _ (.head _)) fun t7 k1 k2 s7 S7 => ?_
  refine sp_nil (n_newList S7 fun l8 s8 S8 => ?_)
  refine n_store S8 (.tail (.tail (.tail .head))) fun s9 S9 => ?_
  refine wpAny_execs_cons (wpAny_If (wpAny_isTrue_Compare1 ?_))
  refine n_local S9 (.tail _ (.tail _ (.tail _ (.head _)))) put_same ?_
  refine List_ (sp_cons (wpAny_Compare1 (n_local S9 (.tail _ (.tail _ (.tail _ (.head _)))) hca (wpAny_Constant_int (P.eq_int ?_)))))
  refine sp_cons (wpAny_Constant_none ?_)
  have S9' : SS C _ _ { s9 with toks := s9.toks + 1 } := S9
  refine sp_cons (wpAny_Compare1 (n_local S9' (.tail _ (.tail _ (.tail _ (.head _)))) hca (wpAny_Constant_int (P.eq_int ?_))))
  have S9c : SS C _ _ { s9 with toks := s9.toks + 1 + 1 } := S9
  refine sp_cons (n_piece S9c fun v10 ι10 s10 h10 hv10 S10 => ?_)
  refine sp_cons (n_piece S10 fun v11 ι11 s11 h11 hv11 S11 => ?_)
  refine sp_nil (n_newList S11 fun l12 s12 S12 => ?_)
  have eb : ((k : Int) == 0) = (k == 0) := by cases k <;> rfl
  rw [eb] at S12
  refine PySem.SeqAt.compareNe_shaped (told_reads (b := k == 0) S12 (.tail _ (.head _)) ?_ ?_) (told_reads (b := k == 0) S12 (.head _) (hv10.mono h11) hv11) (told_shaped _) (told_shaped _) ?_ ?_
  · exact ⟨t4, s3.toks, s3.toks + 1, rfl, h11 (h10 (.tail _ (.head _)))⟩
  · exact ⟨t7, k1, k2, rfl, h11 (h10 (.head _))⟩
  · have := R.u; unfold cLine; (first | lia | omega)
  (first | (refine rwP (told_eqv) ?_; try with_reducible rfl) | rw [told_eqv])
  refine wpAny_truthy_bool ?_
  refine wpAny_execs_nil ?_
  refine wpAny_execs_cons (wpAny_If (wpAny_isTrue_Compare1 ?_))
  refine List_ (sp_cons (n_len_acc X KK R S12 (.tail _ (.tail _ (.tail _ (.tail _ (.head _))))) rfl (.tail _ (.tail _ (.head _))) (.tail _ (.tail _ (.tail _ (.head _)))) pcs.nil
    (fun p hp => by cases hp) (by (first | lia | omega)) (by show (k : Int) + 0 < _; (first | lia | omega)) fun t13 s13 S13 => ?_))
  refine sp_cons (Call_ (n_builtin X S13 KK.W.gStr KK.W.bStr ?_))
  refine PySem.callWith_type rfl (ea rfl (sp_cons (n_local S13 (.tail _ (.tail _ (.tail _ (.tail _ (.head _))))) rfl (sp_nil ?_))))
  refine str_of_acc X KK R S13 (.tail _ (.tail _ (.head _))) pcs.nil (by decide) fun t14 s14 S14 => ?_
  refine sp_cons (n_accm X KK KK.P.fnCount KK.S.fCount S14 (.tail _ (.tail _ (.tail _ (.tail _ (.head _))))) rfl (.tail _ (.tail _ (.head _))) (.tail _ (.tail _ (.tail _ (.head _)))) (sp_nil ⟨⟨_, _, S14⟩, ?_⟩))
  refine count_c X KK.A KK.S R S14 (.tail _ (.tail _ (.head _))) fun t15 s15 S15 => ?_
  refine sp_nil (n_newList S15 fun l16 s16 S16 => ?_)
  refine List_ (sp_cons (n_local S16 (.tail _ (.tail _ (.tail _ (.tail _ (.tail _ (.head _)))))) hca ?_))
  refine sp_cons (Constant_str (sp_cons (wpAny_Constant_int ?_)))
  have S16' : SS C _ _ { s16 with toks := s16.toks + 1 + 1 } := S16
  refine sp_nil (n_newList S16' fun l17 s17 S17 => ?_)
  have e13 : ((k : Int) + ((lenS [] : Nat) : Int)) = k := by show (k : Int) + 0 = k; (first | lia | omega)
  have e14 : strS [] = "" := rfl
  rw [e13, e14] at S17
  refine PySem.SeqAt.compareNe_shaped (lenD_reads S17 (.tail _ (.head _))) (lenD_reads S17 (.head _)) (lenD_shaped _) (lenD_shaped _) ?_ ?_
  · have := R.u; unfold cLine; (first | lia | omega)
  (first | (refine rwP (lenD_eqv) ?_; try with_reducible rfl) | rw [lenD_eqv])
  refine wpAny_truthy_bool (wpAny_execs_nil ?_)
  have S18 := S17.tl.tl.tl.tl
  refine wpAny_execs_cons (wpAny_Assign_Name (List_ (sp_nil (n_newList S18 fun ls s19 S19 => ?_))))
  refine n_store S19 (.tail (.tail (.tail .head))) fun s20 S20 => ?_
  refine wpAny_execs_cons (added_inner X KK KL' KQ R S20 rfl put_same hc
    hpc hlp (hpp.mono fun _ h => h11 (h10 (.tail _ (.tail _ h)))) hsm hz hn fun m' vb vsum lh hv ι21 s21 h21 S21 hvb hvs hm' => ?_)
  refine wpAny_execs_cons (wpAny_Assign_Name ?_)
  have f1 : ∀ x, (x == ("piece" : Str)) = false → (x == ("sums" : Str)) = false → (x == ("told" : Str)) = false → (x == ("block" : Str)) = false → m' x = m x := fun x a b c d => by
    (first | (refine rwP (hm' x a) ?_; refine rwP (put_ne b) ?_; refine rwP (put_ne c) ?_; refine rwP (put_ne d) ?_; try with_reducible rfl) | rw [hm' x a, put_ne b, put_ne c, put_ne d])
  refine Subscript_ (n_local S21 (.tail _ (.tail _ (.tail _ (.head _)))) (by (first | (refine rwP (f1 _ (by decide) (by decide) (by decide) (by decide)) ?_; try with_reducible rfl) | rw [f1 _ (by decide) (by decide) (by decide) (by decide)]); exact hpc) ?_)
  refine n_slice (vl := .int c tc) (evalPart_some_step (n_local S21 (.tail _ (.tail _ (.tail _ (.head _)))) (by (first | (refine rwP (f1 _ (by decide) (by decide) (by decide) (by decide)) ?_; try with_reducible rfl) | rw [f1 _ (by decide) (by decide) (by decide) (by decide)]); exact hc) ⟨rfl, _, _, S21, fun sl s22 S22 hsl => ?_⟩))
  have L22 := lst_like S22 (.tail _ (.tail _ (.tail _ (.tail _ (.tail _ hlp)))))
  refine like_tail L22 (like_slice L22 hsl (.int c tc) .none .none (by simp) ?_ (by (first | (refine rwQ (hpp.1) ?_; refine rwP (sizeLine_eq) ?_; try with_reducible rfl) | rw [← hpp.1, sizeLine_eq]); (first | lia | omega))) (fun q => wpAny_operating q)
  (first | (refine rwP (pick_drop) ?_; try with_reducible rfl) | rw [pick_drop])
  have e23 : lstP (pv.toList.drop c).toArray { cls := .type "list", data := .seq (pv.toList.drop c).toArray } := ⟨⟨rfl, rfl⟩, _, rfl⟩
  have S23 := S22.alloc e23 rfl (lstP_not e23)
  generalize s22.heap.objs.size = lp' at S23 ⊢
  refine n_store S23 (.tail (.tail (.tail (.tail .head)))) fun s24 S24 => ?_
  refine wpAny_execs_cons (wpAny_Assign_Name ?_)
  have hz2 : lenS (pps.take c) ≤ lenS pps := lenS_take_le _ _
  refine n_len_acc X KK R S24 (.tail _ (.tail _ (.tail _ (.tail _ (.head _))))) (by (first | (refine rwP (put_ne (by decide)) ?_; refine rwP (hm' _ (by decide)) ?_; refine rwP (put_ne (by decide)) ?_; refine rwP (put_ne (by decide)) ?_; try with_reducible rfl) | rw [put_ne (by decide), hm' _ (by decide), put_ne (by decide), put_ne (by decide)]); exact put_same) (.tail _ (.tail _ (.head _))) (.tail _ (.tail _ (.tail _ (.head _)))) hvb
    (fun p hp => hsm p (List.mem_of_mem_take hp)) (by (first | lia | omega)) (by (first | lia | omega)) fun t25 s25 S25 => ?_
  refine n_store S25 (.tail (.tail (.tail (.tail .head)))) fun s26 S26 => ?_
  refine wpAny_execs_cons (wpAny_If (wpAny_isTrue_Compare1 ?_))
  refine n_accm X KK KM'.reset KK.R.fReset S26 (.tail _ (.tail _ (.tail _ (.tail _ (.head _))))) (by (first | (refine rwP (put_ne (by decide)) ?_; refine rwP (put_ne (by decide)) ?_; refine rwP (hm' _ (by decide)) ?_; refine rwP (put_ne (by decide)) ?_; refine rwP (put_ne (by decide)) ?_; try with_reducible rfl) | rw [put_ne (by decide), put_ne (by decide), hm' _ (by decide), put_ne (by decide), put_ne (by decide)]); exact put_same) (.tail _ (.tail _ (.head _))) (.tail _ (.tail _ (.tail _ (.head _))))
    (sp_cons (n_local S26 (.tail _ (.tail _ (.tail _ (.tail _ (.head _))))) (by (first | (refine rwP (put_ne (by decide)) ?_; refine rwP (put_ne (by decide)) ?_; refine rwP (hm' _ (by decide)) ?_; try with_reducible rfl) | rw [put_ne (by decide), put_ne (by decide), hm' _ (by decide)]); exact put_same) (sp_nil ⟨⟨_, _, S26⟩, ?_⟩)))
  refine reset_c X KK.A KK.L KK.I KK.R R S26 (.tail (.tail .head)) (.tail (.tail (.tail .head))) (.tail _ (.head _)) ?_ fun s27 S27 => ?_
  · (first | (refine rwQ (hvb.1) ?_; refine rwQ (hvs.1) ?_; refine rwP (sumsS_length) ?_; refine rwP (List.length_take) ?_; refine rwP (sizeLine_eq) ?_; try with_reducible rfl) | rw [← hvb.1, ← hvs.1, sumsS_length, List.length_take, sizeLine_eq]); (first | lia | omega)
  refine wpAny_Constant_none (isNot_none (wpAny_truthy_bool ?_))
  refine wpAny_execs_nil (wpAny_execs_cons (wpAny_Expr_any ?_))
  have fb : put (put m' "pieces" (.ref lp')) "carried" (.int (k + lenS (pps.take c)) t25) "blocks" = some (.ref lb) := by
    (first | (refine rwP (put_ne (by decide)) ?_; refine rwP (put_ne (by decide)) ?_; refine rwP (f1 _ (by decide) (by decide) (by decide) (by decide)) ?_; try with_reducible rfl) | rw [put_ne (by decide), put_ne (by decide), f1 _ (by decide) (by decide) (by decide) (by decide)]); exact hlb
  refine n_append (vs := bv) S27 (.tail _ (.tail _ (.tail _ (.tail _ (.head _))))) fb (.tail _ (.tail _ (.tail _ (.tail _ (.tail _ (.tail _ (u .none).mem)))))) ?_
  refine n_local S27 (.tail _ (.tail _ (.tail _ (.tail _ (.head _))))) (by (first | (refine rwP (put_ne (by decide)) ?_; refine rwP (put_ne (by decide)) ?_; refine rwP (hm' _ (by decide)) ?_; refine rwP (put_ne (by decide)) ?_; refine rwP (put_ne (by decide)) ?_; try with_reducible rfl) | rw [put_ne (by decide), put_ne (by decide), hm' _ (by decide), put_ne (by decide), put_ne (by decide)]); exact put_same) ?_
  refine ⟨_, _, _, S27, .tail (.tail (.tail (.tail (.tail (.tail (u (.ref block))))))), by (first | (refine rwP (sizeLine_eq) ?_; try with_reducible rfl) | rw [sizeLine_eq]); (first | lia | omega), fun s28 S28 => ?_⟩
  refine wpAny_execs_nil ?_
  have S29 := S28.sub (σ' := (lp', lstP (pv.toList.drop c).toArray) :: (block, accP db vsum) :: (db, szP 0) :: (L, nsP (put (put m' "pieces" (.ref lp')) "carried" (.int (k + lenS (pps.take c)) t25))) :: (lh, lstP hv) :: σ' (.ref block)) (.cons_cons _ (.cons _ (List.Sublist.refl _)))
  refine h block db vsum lp' (put (put m' "pieces" (.ref lp')) "carried" (.int (k + lenS (pps.take c)) t25)) (lh, lstP hv) t25 _ _ (fun _ h => h21 (h11 (h10 (.tail _ (.tail _ h))))) (S29.perm ?_) hvs ?_ ?_ fb ?_
  · exact (List.Perm.swap _ _ _).trans (((List.Perm.swap _ _ _).trans ((List.Perm.swap _ _ _).cons _)).cons _)
  · (first | (refine rwP (put_same) ?_; try with_reducible rfl) | rw [put_same]); rfl
  · (first | (refine rwP (put_ne (by decide)) ?_; refine rwP (put_same) ?_; try with_reducible rfl) | rw [put_ne (by decide), put_same])
  · (first | (refine rwP (put_ne (by decide)) ?_; refine rwP (put_ne (by decide)) ?_; refine rwP (f1 _ (by decide) (by decide) (by decide) (by decide)) ?_; try with_reducible rfl) | rw [put_ne (by decide), put_ne (by decide), f1 _ (by decide) (by decide) (by decide) (by decide)])
end
end Mine
end Part34
section Part35
set_option tactic.hygienic false
open PySem PySem.W PySem.W.X PySem.Calls PyProof.Rows
set_option maxRecDepth 100000
namespace Mine

noncomputable def addedS : List (Str × Str) → List Nat → Nat → List (List (Str × Str))
  | _, [], _ => []
  | ps, c :: cs, k => sumsS k (ps.take c) :: addedS (ps.drop c) cs (k + lenS (ps.take c))
/-- blocks in the ledger -/
noncomputable def blkLed : List (Addr × Addr × Array Value) → Led
  | [] => []
  | b :: r => (b.1, accP b.2.1 b.2.2) :: (b.2.1, szP 0) :: blkLed r
noncomputable def blkVals (l : List (Addr × Addr × Array Value)) : List Value := l.map fun b => .ref b.1
/-- what the blocks hold -/
inductive BlkOk (ι : Imm) : List (Addr × Addr × Array Value) → List (List (Str × Str)) → Prop
  | nil : BlkOk ι [] []
  | cons {b bl ps pss} : pcs ι b.2.2 ps → BlkOk ι bl pss → BlkOk ι (b :: bl) (ps :: pss)
theorem BlkOk.mono {ι ι' : Imm} (h : ι ⊆ ι') : ∀ {bl pss}, BlkOk ι bl pss → BlkOk ι' bl pss
  | _, _, .nil => .nil
  | _, _, .cons a b => .cons (a.mono h) (b.mono h)
theorem BlkOk.snoc {ι : Imm} {b : Addr × Addr × Array Value} {ps : List (Str × Str)} (hb : pcs ι b.2.2 ps) : ∀ {bl pss}, BlkOk ι bl pss → BlkOk ι (bl ++ [b]) (pss ++ [ps])
  | _, _, .nil => .cons hb .nil
  | _, _, .cons a r => .cons a (BlkOk.snoc hb r)
theorem blkLed_snoc (b : Addr × Addr × Array Value) : ∀ l, blkLed (l ++ [b]) = blkLed l ++ [(b.1, accP b.2.1 b.2.2), (b.2.1, szP 0)]
  | [] => rfl
  | c :: r => by (first | (refine rwP (List.cons_append) ?_; refine rwP (blkLed) ?_; refine rwP (blkLed_snoc b r) ?_; refine rwP (blkLed) ?_; try with_reducible rfl) | rw [List.cons_append, blkLed, blkLed_snoc b r, blkLed]); rfl
theorem BlkOk.get {ι : Imm} : ∀ {bl pss} (_ : BlkOk ι bl pss) (i : Nat) (b : Addr × Addr × Array Value), bl[i]? = some b → ∃ ps, pss[i]? = some ps ∧ pcs ι b.2.2 ps ∧ (b.1, accP b.2.1 b.2.2) ∈ blkLed bl ∧ (b.2.1, szP 0) ∈ blkLed bl
  | _, _, .nil, i, b, e => by simp at e
  | _, _, .cons (b := c) (ps := ps) h r, 0, b, e => by
    simp at e; subst e
    exact ⟨ps, rfl, h, .head _, .tail _ (.head _)⟩
  | _, _, .cons h r, i + 1, b, e => by
    obtain ⟨ps, a1, a2, a3, a4⟩ := r.get i b (by simpa using e)
    exact ⟨ps, by simpa using a1, a2, .tail _ (.tail _ a3), .tail _ (.tail _ a4)⟩
end Mine
end Part35
section Part36
set_option tactic.hygienic false
open PySem PySem.W PySem.W.X PySem.Calls PyProof.Rows
set_option maxRecDepth 100000
namespace Mine
theorem perm_turn {α : Type} (b d L p r i t : α) (ex blk rest : List α) : (b :: d :: L :: p :: r :: i :: (ex ++ (blk ++ t :: rest))).Perm (i :: (L :: (p :: r :: ex) ++ ((blk ++ [b, d]) ++ t :: rest))) := by
  have h1 : (([b, d] ++ (L :: p :: r :: i :: (ex ++ blk))) ++ t :: rest).Perm (((L :: p :: r :: i :: (ex ++ blk)) ++ [b, d]) ++ t :: rest) := List.perm_append_comm.append_right _
  have h2 : ([L, p, r] ++ i :: (ex ++ (blk ++ ([b, d] ++ t :: rest)))).Perm (i :: ([L, p, r] ++ (ex ++ (blk ++ ([b, d] ++ t :: rest))))) := List.perm_middle
  refine List.Perm.trans ?_ (List.Perm.trans h1 ?_)
  · simp
  · simpa using h2
section
variable {C : Cx} {σ σ' : Led} {ι ι' : Imm} {A : Around} {s : Shared} {E : Value → Shared → Prop}
theorem added_c {n : Nat} {lp lc : Addr} {pv cv : Array Value} {pps : List (Str × Str)} {counts : List Nat} {k : Nat} {tk : Tok} {Q : Value → Shared → Prop}
    (X : CxOk C) (KK : AllK C.K) (KL' : KLaw C.K) (KQ : KAdd C.K) (KA' : KAll C.K) (KM' : KM C.K) (R : Room (n + 6) A) (S : SS C σ ι s)
    (hlp : (lp, lstP pv) ∈ σ) (hlc : (lc, lstP cv) ∈ σ) (hcs : counts.length = cv.size) (hcv : ∀ (i c : Nat), counts[i]? = some c → ∃ t, cv[i]? = some (.int c t)) (hpp : pcs ι pv pps)
    (hsm : small pps) (hz : k + lenS pps ≤ 1000000) (hn : pps.length ≤ 1000000) (hcz : counts.length ≤ 1000)
    (h : ∀ lb bl ι' s', ι ⊆ ι' → SS C (blkLed bl ++ (lb, lstP (blkVals bl).toArray) :: σ) ι' s' → BlkOk ι' bl (addedS pps counts k) → Q (.ref lb) s') :
    wpAny (model prg C.w) A (call (.ref 124) [.ref lp, .ref lc, .int k tk] []) Q E s := by
  refine call_fn (binds := [("pieces", .ref lp), ("counts", .ref lc), ("carried", .int k tk)]) X KQ.fAdd R S (fun _ _ _ _ _ => BindsTo.of_eq rfl) fun L s1 S1 R1 => ?_
  refine wpAny_execs_cons (wpAny_Assign_Name (List_ (sp_nil (n_newList S1 fun lb s2 S2 => ?_))))
  refine n_store S2 (.tail .head) fun s3 S3 => ?_
  refine wpAny_execs_cons (wpAny_For ?_)
  refine n_local S3 (.tail _ (.head _)) rfl ?_
  refine iter_list S3 (.tail _ (.tail _ hlc)) fun it s4 S4 => ?_
  have S5 : SS C ((it, liP lc 0) :: (L, nsP _) :: (blkLed [] ++ (lb, lstP (blkVals []).toArray) :: σ)) ι s4 := S4.perm ((List.Perm.swap _ _ _).cons _)
  refine for_w (li_walker (l := lc) (vs := cv)) (fun i σ' ι' => i ≤ cv.size ∧ Ex8 fun m bl pps' k' lp' pv' t' don => And12 ((∃ ex, σ' = (L, nsP m) :: ex ++ (blkLed bl ++ (lb, lstP (blkVals bl).toArray) :: σ) ∧ (lp', lstP pv') ∈ ex ++ σ)) (ι ⊆ ι') (pcs ι' pv' pps') (small pps') (k' + lenS pps' = k + lenS pps) (pps'.length ≤ pps.length) (BlkOk ι' bl don) (don ++ addedS pps' (counts.drop i) k' = addedS pps counts k) (bl.length = i) (m "carried" = some (.int k' t')) (m "pieces" = some (.ref lp')) (m "blocks" = some (.ref lb)))
    (fun i σ' ι' hI => ?_) (fun i σ' ι1 ι2 w s hi hI hι hw S => ?_) (fun σ' ι1 s hI S => ?_) R1.h S5 ⟨Nat.zero_le _, _, [], pps, k, lp, pv, tk, [], ⟨[], rfl, hlp⟩, fun _ h => h, hpp, hsm, rfl, Nat.le_refl _, .nil, rfl, rfl, rfl, rfl, rfl⟩
  · refine gen_P fun Pg kg => ?_
    obtain ⟨_, m, bl, pps', k', lp', pv', t', don, ⟨ex, rfl, _⟩, _⟩ := hI
    refine kg ?_
    clear kg
    exact ⟨_, by simp [hlc], fun o => lstP_seq⟩
  · refine gen_P fun Pg kg => ?_
    obtain ⟨_, m, bl, pps', k', lp', pv', t', don, ⟨ex, rfl, hlp'⟩, hιι, hpp', hsm', hk', hpl, hbk, hdon, hbl, hm1, hm2, hm3⟩ := hI
    refine kg ?_
    clear kg
    obtain ⟨c, hc⟩ : ∃ c, counts[i]? = some c := ⟨_, List.getElem?_eq_getElem (by (first | lia | omega))⟩
    obtain ⟨tc, htc⟩ := hcv i c hc
    have ew : w = .int c tc := Option.some.inj (hw.symm.trans htc)
    subst ew
    refine wpAny_assign_Name (n_store S (.tail .head) fun s6 S6 => ?_)
    refine added_turn (σ' := fun v => (it, liP lc (i + 1)) :: (ex ++ (blkLed bl ++ (lb, lstP ((blkVals bl).toArray.push v)) :: σ))) X KK KL' KQ KA' KM' R1 (S6.perm (.swap _ _ _)) hm1 put_same hm2 hm3
      (.tail _ ?_) (hpp'.mono hι) (fun v => .tail (Upd.app (Upd.app .head))) (by simp [blkVals]; (first | lia | omega)) hsm' (by (first | lia | omega)) (by (first | lia | omega)) fun block db vsum lp2 m2 rest t2 ι2' s7 h7 S7 hvs f1 f2 f3 _ => ?_
    · rcases List.mem_append.mp hlp' with q | q
      · exact List.mem_append_left _ q
      · exact List.mem_append_right _ (List.mem_append_right _ (.tail _ q))
    · have ed : counts.drop i = c :: counts.drop (i + 1) := by
        (first | (refine rwP (List.drop_eq_getElem_cons (by (first | lia | omega))) ?_; try with_reducible rfl) | rw [List.drop_eq_getElem_cons (by (first | lia | omega))])
        rw [List.getElem?_eq_getElem (by (first | lia | omega))] at hc
        (first | (refine rwP (Option.some.inj hc) ?_; try with_reducible rfl) | rw [Option.some.inj hc])
      rw [ed, addedS] at hdon
      have hl2 := lenS_append (pps'.take c) (pps'.drop c)
      rw [List.take_append_drop] at hl2
      refine ⟨(L, nsP m2) :: ((lp2, lstP (pv'.toList.drop c).toArray) :: rest :: ex) ++ (blkLed (bl ++ [(block, db, vsum)]) ++ (lb, lstP (blkVals (bl ++ [(block, db, vsum)])).toArray) :: σ), ι2', S7.perm ?_, by (first | lia | omega), m2, bl ++ [(block, db, vsum)], pps'.drop c, k' + lenS (pps'.take c), lp2, _, t2, don ++ [sumsS k' (pps'.take c)],
        ⟨_, rfl, .head _⟩, fun _ h => h7 (hι (hιι h)), (hpp'.mono fun _ h => h7 (hι h)).drop c, fun p hp => hsm' p (List.mem_of_mem_drop hp), by (first | lia | omega), by (first | (refine rwP (List.length_drop) ?_; try with_reducible rfl) | rw [List.length_drop]); (first | lia | omega),
        (hbk.mono fun _ h => h7 (hι h)).snoc hvs, by (first | (refine rwP (List.append_assoc) ?_; try with_reducible rfl) | rw [List.append_assoc]); exact hdon, by (first | (refine rwP (List.length_append) ?_; refine rwP (hbl) ?_; try with_reducible rfl) | rw [List.length_append, hbl]); rfl, f1, f2, f3⟩
      have ev : ((blkVals (bl ++ [(block, db, vsum)])).toArray : Array Value) = (blkVals bl).toArray.push (.ref block) := by simp [blkVals]
      (first | (refine rwP (ev) ?_; refine rwP (blkLed_snoc) ?_; try with_reducible rfl) | rw [ev, blkLed_snoc])
      exact perm_turn _ _ _ _ _ _ _ _ _ _
  · refine gen_P fun Pg kg => ?_
    obtain ⟨_, m, bl, pps', k', lp', pv', t', don, ⟨ex, rfl, _⟩, hιι, _, _, _, _, hbk, hdon, _, _, _, hmb⟩ := hI
    refine kg ?_
    clear kg
    rw [List.drop_of_length_le (by (first | lia | omega))] at hdon
    refine wpAny_execs_nil (wpAny_execs_cons (wpAny_Return_some (n_local S (.head _) hmb ?_)))
    have hd2 : don = addedS pps counts k := by (first | (refine rwQ (hdon) ?_; try with_reducible rfl) | rw [← hdon]); cases pps' <;> simp [addedS]
    refine h lb bl ι1 s hιι (S.sub ?_) (hd2 ▸ hbk)
    exact .cons _ (List.sublist_append_right _ _)
end
end Mine
end Part36
section Part37
set_option tactic.hygienic false
open PySem PySem.W PySem.W.X PySem.Calls PyProof.Rows
set_option maxRecDepth 100000
namespace Mine

/-! ## exceptions over the ledger -/
theorem led_uniq : ∀ {σ : Led}, (σ.map (·.1)).Nodup → ∀ {a : Addr} {P P' : OP}, (a, P) ∈ σ → (a, P') ∈ σ → P = P'
  | [], _, _, _, _, h, _ => by cases h
  | (b, R) :: r, nd, a, P, P', h, h' => by
    rw [List.map_cons, List.nodup_cons] at nd
    rcases List.mem_cons.mp h with e | h <;> rcases List.mem_cons.mp h' with e' | h'
    · injection e with e1 e2; injection e' with e3 e4; (first | (refine rwP (e2) ?_; refine rwP (e4) ?_; try with_reducible rfl) | rw [e2, e4])
    · injection e with e1 e2
      exact absurd (by (first | (refine rwQ (e1) ?_; try with_reducible rfl) | rw [← e1]); exact List.mem_map_of_mem (f := (·.1)) h') nd.1
    · injection e' with e1 e2
      exact absurd (by (first | (refine rwQ (e1) ?_; try with_reducible rfl) | rw [← e1]); exact List.mem_map_of_mem (f := (·.1)) h) nd.1
    · exact led_uniq nd.2 h h'
section
variable {C : Cx} {σ σ' : Led} {ι ι' : Imm} {h h' : Heap} {g : Array GenState} {os : OsState}
theorem St.slots (S : St C σ ι h g os) {F : List Addr} (hF : ∀ b ∈ F, ∃ m, (b, nsP m) ∈ σ) (k : Heap.SlotsOnly F h h') : St C σ ι h' g os := by
  have nb : ∀ b ∈ F, C.base.get? b = none := fun b hb => by
    refine gen_P fun Pg kg => ?_
    obtain ⟨m, hm⟩ := hF b hb
    obtain ⟨_, _, _, _, n⟩ := S.own _ hm
    refine kg ?_
    clear kg
    exact n
  have inb : ∀ b o, C.base.get? b = some o → h'.get? b = h.get? b := fun b o e => k.2.1 b fun hb => by rw [nb b hb] at e; cases e
  refine ⟨S.nd, fun p hp => ?_, fun p hp => ?_, fun b o e n => (inb b o e).trans (S.old b o e n), fun P hP => ?_, by (first | (refine rwP (k.1) ?_; try with_reducible rfl) | rw [k.1]); exact S.big, S.gens, S.os⟩
  · refine gen_P fun Pg kg => ?_
    obtain ⟨o, e, po, nt, n⟩ := S.own p hp
    refine kg ?_
    clear kg
    by_cases hb : p.1 ∈ F
    · obtain ⟨m, hm⟩ := hF _ hb
      have ep : p.2 = nsP m := led_uniq (P := p.2) S.nd hp hm
      obtain ⟨sl, e'⟩ := k.2.2 _ _ e
      refine ⟨_, e', ?_, fun q => nt q, n⟩
      rw [ep] at po ⊢
      exact po
    · exact ⟨o, (k.2.1 _ hb).trans e, po, nt, n⟩
  · obtain ⟨e, t, n⟩ := S.imm p hp
    refine ⟨(k.2.1 _ fun hb => ?_).trans e, t, n⟩
    refine gen_P fun Pg kg => ?_
    obtain ⟨m, hm⟩ := hF _ hb
    obtain ⟨o, e', po, nt, _⟩ := S.own _ hm
    refine kg ?_
    clear kg
    have e' : h.get? p.1 = some o := e'
    rw [e] at e'
    injection e' with e'
    exact nt (e' ▸ t)
  · refine gen_P fun Pg kg => ?_
    obtain ⟨c, ps, mr, hc, ic, ⟨⟨oc, vc, ec, r⟩, et⟩, ⟨⟨oc', vc', ec', r'⟩, et'⟩⟩ := (S.tab P hP).more
    refine kg ?_
    clear kg
    have hc1 := inb c _ ec
    have hP1 := inb P _ et
    exact ⟨c, ps, mr, hc, ic.at2 (fun _ e => hc1.trans e) (fun _ e => hP1.trans e), ⟨⟨oc, vc, ec, r⟩, et⟩, ⟨⟨oc', vc', hc1.trans ec', r'⟩, hP1.trans et'⟩⟩
end

noncomputable def exP (tb cx : Value) : OP := fun o => o.cls = .type "IndexError" ∧ ∃ vs, o.data = .fields vs ∧ vs[1]? = some tb ∧ vs[2]? = some cx
noncomputable def tbP (fl : Value) : OP := fun o => o.cls = .type "traceback" ∧ ∃ ts, o.data = .fields ts ∧ ts[3]? = some fl
theorem exP_not {tb cx : Value} {o : Obj} (h : exP tb cx o) : ¬ isTup o := by
  rintro ⟨e, _⟩; rw [h.1] at e; injection e with e; exact absurd e (by decide)
theorem tbP_not {fl : Value} {o : Obj} (h : tbP fl o) : ¬ isTup o := by
  rintro ⟨e, _⟩; rw [h.1] at e; injection e with e; exact absurd e (by decide)

/-- the frames' namespaces stand in the ledger -/
noncomputable def FrIn (A : Around) (σ : Led) : Prop := ∃ fs, A.frames = some fs ∧ ∀ env ∈ fs, env.scope.kind ≠ .module ∧ ∃ L m, env.frame = some L ∧ (L, nsP m) ∈ σ
theorem FrIn.mono {A : Around} {σ σ' : Led} (x : FrIn A σ) (h : ∀ L m, (L, nsP m) ∈ σ → ∃ m', (L, nsP m') ∈ σ') : FrIn A σ' := by
  obtain ⟨fs, e, r⟩ := x
  refine ⟨fs, e, fun env he => ?_⟩
  refine gen_P fun Pg kg => ?_
  obtain ⟨k, L, m, f, hm⟩ := r env he
  obtain ⟨m', hm'⟩ := h L m hm
  refine kg ?_
  clear kg
  exact ⟨k, L, m', f, hm'⟩
theorem FrIn.more {A : Around} {σ σ' : Led} (x : FrIn A σ) (h : σ ⊆ σ') : FrIn A σ' := x.mono fun L m hm => ⟨m, h hm⟩
theorem FrIn.deeper {A : Around} {σ : Led} {env : Env} {L : Addr} {m : Str → Option Value} (x : FrIn A σ) (hk : env.scope.kind ≠ .module) (hf : env.frame = some L) : FrIn (A.deeper env) ((L, nsP m) :: σ) := by
  obtain ⟨fs, e, r⟩ := x
  refine ⟨env :: fs, Around.frames_deeper e, fun env' he => ?_⟩
  rcases List.mem_cons.mp he with rfl | he
  · exact ⟨hk, L, m, hf, .head _⟩
  · refine gen_P fun Pg kg => ?_
    obtain ⟨k, L', m', f, hm⟩ := r env' he
    refine kg ?_
    clear kg
    exact ⟨k, L', m', f, .tail _ hm⟩
theorem FrIn.fun {A : Around} {σ : Led} {C : Cx} {ι : Imm} {s : Shared} {fs : List Env} (x : FrIn A σ) (e : A.frames = some fs) (S : SS C σ ι s) : s.heap.FunFrames {} fs ∧ ∀ b ∈ fs.filterMap (·.frame), ∃ m, (b, nsP m) ∈ σ := by
  refine gen_P fun Pg kg => ?_
  obtain ⟨fs', e', r⟩ := x
  refine kg ?_
  clear kg
  rw [e] at e'
  injection e' with e'
  subst e'
  clear e
  induction fs with
  | nil => exact ⟨trivial, fun b hb => by simp at hb⟩
  | cons env fs ih =>
    refine gen_P fun Pg kg => ?_
    obtain ⟨i1, i2⟩ := ih fun env' he => r env' (.tail _ he)
    obtain ⟨k, L, m, f, hm⟩ := r env (.head _)
    obtain ⟨o, eo, po⟩ := S.at hm
    refine kg ?_
    clear kg
    refine ⟨⟨k, ⟨L, o, f, Heap.get?_none_of_le (Nat.zero_le _), eo, fun vs q => ?_⟩, i1⟩, fun b hb => ?_⟩
    · refine gen_P fun Pg kg => ?_
      obtain ⟨es, ep, d, _⟩ := po
      refine kg ?_
      clear kg
      rw [d] at q; cases q
    · rw [List.filterMap_cons, f] at hb
      rcases List.mem_cons.mp hb with rfl | hb
      · exact ⟨m, hm⟩
      · exact i2 b hb

section
variable {C : Cx} {σ σ' : Led} {ι ι' : Imm} {A : Around} {s : Shared} {E : Value → Shared → Prop}

theorem exP_set {tb cx tb' : Value} {o : Obj} (h : exP tb cx o) : exP tb' cx (Obj.mapFields (·.setIfInBounds 1 tb') o) ∧ (Obj.mapFields (·.setIfInBounds 1 tb') o).isFreed = false := by
  refine gen_P fun Pg kg => ?_
  obtain ⟨c, vs, d, h1, h2⟩ := h
  refine kg ?_
  clear kg
  have e := Obj.data_mapFields d (·.setIfInBounds 1 tb')
  refine ⟨⟨(Obj.cls_mapFields ..).trans c, _, e, ?_, ?_⟩, Obj.isFreed_of_fields e⟩
  · have := (Array.getElem?_eq_some_iff.mp h1).1
    simp [this]
  · (first | (refine rwP (Array.getElem?_setIfInBounds_ne (by decide)) ?_; try with_reducible rfl) | rw [Array.getElem?_setIfInBounds_ne (by decide)]); exact h2
theorem exP_ctx {tb cx cx' : Value} {o : Obj} (h : exP tb cx o) : exP tb cx' (Obj.mapFields (·.setIfInBounds 2 cx') o) ∧ (Obj.mapFields (·.setIfInBounds 2 cx') o).isFreed = false := by
  refine gen_P fun Pg kg => ?_
  obtain ⟨c, vs, d, h1, h2⟩ := h
  refine kg ?_
  clear kg
  have e := Obj.data_mapFields d (·.setIfInBounds 2 cx')
  refine ⟨⟨(Obj.cls_mapFields ..).trans c, _, e, ?_, ?_⟩, Obj.isFreed_of_fields e⟩
  · (first | (refine rwP (Array.getElem?_setIfInBounds_ne (by decide)) ?_; try with_reducible rfl) | rw [Array.getElem?_setIfInBounds_ne (by decide)]); exact h1
  · have := (Array.getElem?_eq_some_iff.mp h2).1
    simp [this]
theorem tbP_set {fl fl' : Value} {o : Obj} (h : tbP fl o) : tbP fl' (Obj.mapFields (·.setIfInBounds 3 fl') o) ∧ (Obj.mapFields (·.setIfInBounds 3 fl') o).isFreed = false := by
  refine gen_P fun Pg kg => ?_
  obtain ⟨c, vs, d, h1⟩ := h
  refine kg ?_
  clear kg
  have e := Obj.data_mapFields d (·.setIfInBounds 3 fl')
  refine ⟨⟨(Obj.cls_mapFields ..).trans c, _, e, ?_⟩, Obj.isFreed_of_fields e⟩
  have := (Array.getElem?_eq_some_iff.mp h1).1
  simp [this]

/-- an entry is set ahead of the exception's own -/
theorem entry_new {env : Env} {outer : List Env} {L e : Addr} {tb cx head : Value} {hadNext : Bool} {Q : Unit → Shared → Prop} (S : SS C ((e, exP tb cx) :: σ) ι s) (hfr : A.frames = some (env :: outer)) (hin : FrIn A ((e, exP tb cx) :: σ)) (hf : env.frame = some L)
    (h : ∀ T s', SS C ((T, tbP (rawInt L)) :: (e, exP (.ref T) cx) :: σ) ι s' → Q () s') :
    wpAny (model prg C.w) A (do let a ← frameOf env; let pl ← entryPlaceOf L hadNext; let b ← EntryCells.newEntry head a .none (rawInt L) .none pl; setField (.ref e) 1 b) Q E s := by
  obtain ⟨f1, f2⟩ := hin.fun hfr S
  refine wpAny_bind (wpAny_frameOf_fun hfr f1 hf fun h₁ hs₁ => ?_)
  have S1 := S.slots f2 hs₁
  refine wpAny_bind (wpAny_entryPlaceOf fun pl hpl => ?_)
  unfold EntryCells.newEntry newFields
  refine wpAny_bind (wpAny_newObj_type ?_ (hpl.sizeOk5 _ _ _ _ _))
  have S2 := S1.alloc (o := { cls := .type "traceback", dict := none, data := .fields ([head, .ref L, .none, rawInt L, .none] ++ (if pl.isEmpty then List.replicate 6 Value.none else pl)).toArray }) (P := tbP (rawInt L))
    ⟨rfl, _, rfl, by first | (simp; done) | (rcases hpl with rfl | ⟨_, _, _, _, _, _, _, rfl⟩ <;> simp)⟩ rfl (by rintro ⟨q, _⟩; injection q with q; exact absurd q (by decide))
  generalize h₁.objs.size = T at S2 ⊢
  refine gen_P fun Pg kg => ?_
  obtain ⟨o, eo, po⟩ := S2.at (.tail _ (.head _))
  obtain ⟨c, vs, d, h1, h2⟩ := id po
  refine kg ?_
  clear kg
  refine wpAny_setField eo d (Array.getElem?_eq_some_iff.mp h1).1 (h T _ ?_)
  exact S2.upd (.tail .head) fun o p => ⟨(exP_set p).1, (exP_set p).2, exP_not (exP_set p).1⟩

theorem note_new {env : Env} {outer : List Env} {L e : Addr} {cx : Value} {Q : Unit → Shared → Prop} (S : SS C ((e, exP .none cx) :: σ) ι s) (hfr : A.frames = some (env :: outer)) (hin : FrIn A σ) (hf : env.frame = some L)
    (h : ∀ T s', SS C ((T, tbP (rawInt L)) :: (e, exP (.ref T) cx) :: σ) ι s' → Q () s') :
    wpAny (model prg C.w) A (noteFrame (.ref e) env) Q E s := by
  refine gen_P fun Pg kg => ?_
  obtain ⟨o, eo, po⟩ := S.at (.head _)
  obtain ⟨c, vs, d, h1, h2⟩ := id po
  refine kg ?_
  clear kg
  unfold noteFrame
  simp only [hf]
  refine wpAny_bind (wpAny_field eo d h1 ?_)
  (first | (refine rwP (if_neg (by decide)) ?_; try with_reducible rfl) | rw [if_neg (by decide)])
  exact entry_new S hfr (hin.more fun _ x => .tail _ x) hf h
theorem note_old {env : Env} {outer : List Env} {L e T : Addr} {cx fl : Value} {Q : Unit → Shared → Prop} (S : SS C ((T, tbP fl) :: (e, exP (.ref T) cx) :: σ) ι s) (hfr : A.frames = some (env :: outer)) (hin : FrIn A σ) (hf : env.frame = some L)
    (h : ∀ T s', SS C ((T, tbP (rawInt L)) :: (e, exP (.ref T) cx) :: σ) ι s' → Q () s') :
    wpAny (model prg C.w) A (noteFrame (.ref e) env) Q E s := by
  refine gen_P fun Pg kg => ?_
  obtain ⟨o, eo, po⟩ := S.at (.tail _ (.head _))
  obtain ⟨c, vs, d, h1, h2⟩ := id po
  obtain ⟨oT, eT, cT, ts, dT, h3⟩ := S.at (.head _)
  refine kg ?_
  clear kg
  unfold noteFrame
  simp only [hf]
  refine wpAny_bind (wpAny_field eo d h1 ?_)
  (first | (refine rwP (if_pos (show (Value.ref T != Value.none) = true from by simp)) ?_; try with_reducible rfl) | rw [if_pos (show (Value.ref T != Value.none) = true from by simp)])
  refine wpAny_bind (wpAny_field eT dT h3 ?_)
  by_cases q : fl = rawInt L
  · subst q
    (first | (refine rwP (if_pos (show (rawInt L == rawInt L) = true from by simp)) ?_; try with_reducible rfl) | rw [if_pos (show (rawInt L == rawInt L) = true from by simp)])
    exact wpAny_pure (h T _ S)
  · (first | (refine rwP (if_neg (by simpa using q)) ?_; try with_reducible rfl) | rw [if_neg (by simpa using q)])
    refine wpAny_bind (wpAny_setField eT dT (Array.getElem?_eq_some_iff.mp h3).1 ?_)
    have S1 := S.upd (f := Obj.mapFields (·.setIfInBounds 3 .none)) .head fun o p => ⟨(tbP_set (fl' := .none) p).1, (tbP_set (fl' := .none) p).2, tbP_not (tbP_set (fl' := .none) p).1⟩
    exact entry_new S1.tl hfr (hin.more fun _ x => .tail _ x) hf h
theorem flight {e T : Addr} {cx fl : Value} {f : Option Addr} {Q : Unit → Shared → Prop} (S : SS C ((T, tbP fl) :: (e, exP (.ref T) cx) :: σ) ι s)
    (h : ∀ s', SS C ((T, tbP (f.elim .none fun f => rawInt f)) :: (e, exP (.ref T) cx) :: σ) ι s' → Q () s') :
    wpAny (model prg C.w) A (setFlight (.ref e) f) Q E s := by
  refine gen_P fun Pg kg => ?_
  obtain ⟨o, eo, po⟩ := S.at (.tail _ (.head _))
  obtain ⟨c, vs, d, h1, h2⟩ := id po
  obtain ⟨oT, eT, cT, ts, dT, h3⟩ := S.at (.head _)
  refine kg ?_
  clear kg
  unfold setFlight
  refine wpAny_bind (wpAny_field eo d h1 ?_)
  (first | (refine rwP (if_pos (show (Value.ref T != Value.none) = true from by simp)) ?_; try with_reducible rfl) | rw [if_pos (show (Value.ref T != Value.none) = true from by simp)])
  refine wpAny_setField eT dT (Array.getElem?_eq_some_iff.mp h3).1 (h _ ?_)
  exact S.upd .head fun o p => ⟨(tbP_set p).1, (tbP_set p).2, tbP_not (tbP_set p).1⟩

/-! an exception in flight: bare (Ex0), noted (Ex1), or either -/
noncomputable def Ex0 (C : Cx) (cx : Value) (σ : Led) (ι : Imm) (x : Value) (s : Shared) : Prop := ∃ e, x = .ref e ∧ SS C ((e, exP .none cx) :: σ) ι s
noncomputable def Ex1 (C : Cx) (cx : Value) (σ : Led) (ι : Imm) (x : Value) (s : Shared) : Prop := ∃ e T fl, x = .ref e ∧ SS C ((T, tbP fl) :: (e, exP (.ref T) cx) :: σ) ι s
noncomputable def Ex (C : Cx) (cx : Value) (σ : Led) (ι : Imm) (x : Value) (s : Shared) : Prop := Ex0 C cx σ ι x s ∨ Ex1 C cx σ ι x s

theorem x_note {env : Env} {outer : List Env} {L : Addr} {x cx : Value} {Q : Unit → Shared → Prop} (X : Ex C cx σ ι x s) (hfr : A.frames = some (env :: outer)) (hin : FrIn A σ) (hf : env.frame = some L)
    (h : ∀ s', Ex1 C cx σ ι x s' → Q () s') : wpAny (model prg C.w) A (noteFrame x env) Q E s := by
  rcases X with ⟨e, rfl, S⟩ | ⟨e, T, fl, rfl, S⟩
  · exact note_new S hfr hin hf fun T s' S' => h s' ⟨e, T, _, rfl, S'⟩
  · exact note_old S hfr hin hf fun T s' S' => h s' ⟨e, T, _, rfl, S'⟩
theorem x_flight {x cx : Value} {f : Option Addr} {Q : Unit → Shared → Prop} (X : Ex1 C cx σ ι x s) (h : ∀ s', Ex1 C cx σ ι x s' → Q () s') : wpAny (model prg C.w) A (setFlight x f) Q E s := by
  refine gen_P fun Pg kg => ?_
  obtain ⟨e, T, fl, rfl, S⟩ := X
  refine kg ?_
  clear kg
  exact flight S fun s' S' => h s' ⟨e, T, _, rfl, S'⟩
theorem x_came {env : Env} {x cx : Value} (X : Ex1 C cx σ ι x s) (h : ∀ s', Ex1 C cx σ ι x s' → E x s') : cameBackBy (model prg C.w) A env E x s := by
  refine gen_P fun Pg kg => ?_
  obtain ⟨e, T, fl, rfl, S⟩ := X
  obtain ⟨o, eo, c, vs, d, h1, h2⟩ := S.at (.tail _ (.head _))
  refine kg ?_
  clear kg
  unfold cameBackBy
  refine wpAny_bind (wpAny_field eo d h1 ?_)
  (first | (refine rwP (if_neg (by simp)) ?_; try with_reducible rfl) | rw [if_neg (by simp)])
  first
    | exact wpAny_bind (wpAny_pure (x_flight ⟨e, T, fl, rfl, S⟩ h))
    | exact x_flight ⟨e, T, fl, rfl, S⟩ h
theorem x_noted {A' : Around} {env : Env} {outer : List Env} {L : Addr} {x cx : Value} (X : Ex C cx σ ι x s) (hfr : A'.frames = some (env :: outer)) (hin : FrIn A' σ) (hf : env.frame = some L)
    (h : ∀ s', Ex1 C cx σ ι x s' → E x s') : notedBy (model prg C.w) A' env (cameBackBy (model prg C.w) A env E) x s :=
  x_note X hfr hin hf fun s' X' => x_came X' h
theorem x_passOn {α : Type} {what : String} {env : Env} {x cx : Value} {Q : α → Shared → Prop} (X : Ex1 C cx σ ι x s) (h : ∀ s', Ex1 C cx σ ι x s' → E x s') : wpAny (model prg C.w) A (PySem.passOn what x env) Q E s := by
  refine gen_P fun Pg kg => ?_
  obtain ⟨e, T, fl, rfl, S⟩ := X
  obtain ⟨o, eo, c, vs, d, h1, h2⟩ := S.at (.tail _ (.head _))
  refine kg ?_
  clear kg
  unfold PySem.passOn
  refine wpAny_bind (wpAny_field eo d h1 ?_)
  (first | (refine rwP (if_neg (by simp)) ?_; try with_reducible rfl) | rw [if_neg (by simp)])
  have fin : wpAny (model prg C.w) A (do setFlight (.ref e) env.frame; throw (.ref e)) Q E s := wpAny_bind (x_flight ⟨e, T, fl, rfl, S⟩ fun s' X' => wpAny_throw (h s' X'))
  first
    | exact wpAny_bind (wpAny_pure fin)
    | exact fin
end
end Mine
end Part37
section Part38
set_option tactic.hygienic false
open PySem PySem.W PySem.W.X PySem.Calls PyProof.Rows
set_option maxRecDepth 100000
namespace Mine
theorem entry_unchain : entryFor table "proto.unchain" = some Builtin.«proto.unchain» := entryFor_of_tree (by kernel_rfl)

theorem run_b {id : String} {args : Args} {b : Builtin} {w : World} {A : Around} {R : Result → Shared → Prop} {s : Shared} (hb : entryFor table id = some b)
    (h : wpAny (model prg w) (A.under (.builtin id args)) (b args) (fun fin s' => match fin with | .done f => R (.ok f) s' | .again c' => c'.quiet = true ∧ codeAny (model prg w) A c' R s') (fun e s' => R (.error e) s') s) :
    codeAny (model prg w) A (.builtin id args) R s := by
  refine codeAny_of_tree ?_
  show wpAny _ _ (match entryFor table id with | some b => b args | none => unsupported ((withoutEnding? id "#data").getD id)) _ _ s
  (first | (refine rwP (hb) ?_; try with_reducible rfl) | rw [hb])
  exact h

section
variable {C : Cx} {σ σ' : Led} {ι ι' : Imm} {A : Around} {s : Shared} {E : Value → Shared → Prop} {a dx l : Addr} {vs items : Array Value} {k : Int}

/-- what is handled: nothing, or an exception of the ledger that has no context -/
noncomputable def HOk (A : Around) (cx : Value) (σ : Led) : Prop := (A.handled = none ∧ cx = .none) ∨ ∃ e1 tb, cx = .ref e1 ∧ A.handled = some (.ref e1) ∧ (e1, exP tb .none) ∈ σ

theorem raise_new {α : Type} {e : Addr} {cx : Value} {Q : α → Shared → Prop} (S : SS C ((e, exP .none .none) :: σ) ι s) (hH : HOk A cx σ)
    (hE : ∀ s', SS C ((e, exP .none cx) :: σ) ι s' → E (.ref e) s') : wpAny (model prg C.w) A (raiseNew (.ref e) : Sem α) Q E s := by
  rcases hH with ⟨hA, rfl⟩ | ⟨e1, tb, rfl, hA, hm⟩
  · exact wpAny_raiseNew_none hA (hE s S)
  · have ne : e1 ≠ e := by
      have := S.nd
      rw [List.map_cons, List.nodup_cons] at this
      exact fun q => this.1 (by (first | (refine rwQ (q) ?_; try with_reducible rfl) | rw [← q]); exact List.mem_map_of_mem (f := (·.1)) hm)
    refine gen_P fun Pg kg => ?_
    obtain ⟨o1, eo1, c1, vs1, d1, _, h12⟩ := S.at (.tail _ hm)
    refine kg ?_
    clear kg
    unfold raiseNew
    refine wpAny_bind (wpAny_handled ?_)
    (first | (refine rwP (hA) ?_; try with_reducible rfl) | rw [hA])
    dsimp only
    have fin : ∀ s₂, SS C ((e, exP .none .none) :: σ) ι s₂ → wpAny (model prg C.w) A (do updateField e 2 (.ref e1); (throw (.ref e) : Sem α)) Q E s₂ := fun s₂ S₂ => by
      refine gen_P fun Pg kg => ?_
      obtain ⟨o, eo, po⟩ := S₂.at (.head _)
      obtain ⟨c, vs, d, h1, h2⟩ := id po
      refine kg ?_
      clear kg
      refine wpAny_bind (m := updateField e 2 (.ref e1)) (wpAny_setField (a := e) (i := 2) (x := .ref e1) eo d (Array.getElem?_eq_some_iff.mp h2).1 (wpAny_throw (hE _ ?_)))
      exact S₂.upd .head fun o p => ⟨(exP_ctx p).1, (exP_ctx p).2, exP_not (exP_ctx p).1⟩
    have un : ∀ {Q : Value → Shared → Prop}, Q .none s → wpAny (model prg C.w) A (runValue (.builtin "proto.unchain" ⟨[.ref e, .ref e1, .ref e1, .bool false], []⟩)) Q E s := fun {Q} q => by
      refine wpAny_runValue (run_b entry_unchain ?_)
      show wpAny _ _ (field (.ref e1) 2 >>= _) _ _ s
      refine wpAny_bind (wpAny_field eo1 d1 h12 ?_)
      (first | (refine rwP (if_pos (by simp)) ?_; try with_reducible rfl) | rw [if_pos (by simp)])
      first
        | exact wpAny_bind (wpAny_pure (wpAny_pure q))
        | exact wpAny_bind (wpAny_pure q)
        | exact wpAny_pure q
        | exact wpAny_bind (wpAny_bind (wpAny_pure (wpAny_pure q)))
    have cond : (Value.ref e1 != Value.ref e) = true := by simpa using ne
    simp only [cond, if_true]
    first
      | exact wpAny_bind (wpAny_holding (un (fin s S)))
      | exact wpAny_bind (wpAny_bind (wpAny_holding (un (fin s S))))
      | skip

theorem raise_index {α : Type} {msg : String} {cx : Value} {Q : α → Shared → Prop} (S : SS C σ ι s) (hH : HOk A cx σ)
    (hE : ∀ e s', SS C ((e, exP .none cx) :: σ) ι s' → E (.ref e) s') : wpAny (model prg C.w) A (raiseErrorWords "IndexError" msg : Sem α) Q E s := by
  unfold raiseErrorWords
  refine wpAny_bind (wpAny_mkText (wpAny_bind ?_))
  unfold newExc newTuple
  refine wpAny_bind (wpAny_newObj_type ?_)
  refine wpAny_bind (m := firstArgMember _ _) (wpAny_of_eq (a := Value.none) (by simp only [firstArgMember, plainExc_IndexError.first]; rfl) ?_)
  (first | (refine rwP (plainExc_IndexError.own) ?_; try with_reducible rfl) | rw [plainExc_IndexError.own])
  refine wpAny_newObj_type ?_
  have S1 : SS C σ ι { s with toks := s.toks + 1 } := S
  generalize s.toks + 1 = tk at S1 ⊢
  have S2 := S1.push { cls := .type "tuple", data := .seq #[.str (Str.ofString msg) s.toks] }
  have e1 : exP .none .none { cls := .type "IndexError", data := .fields #[.ref s.heap.objs.size, .none, .none, .none, .bool false, .none] } := ⟨rfl, _, rfl, rfl, rfl⟩
  have S3 := S2.alloc e1 rfl (exP_not e1)
  exact raise_new S3 hH (hE _)

section
variable (L : SeqLike C.w s.heap l items)
include L
theorem like_outX {k : Int} {t : Tok} {cx : Value} {Q : Value → Shared → Prop} (S : SS C σ ι s) (hH : HOk A cx σ) (h0 : 0 ≤ k) (hfit : k < 2 ^ 63) (hout : items.size ≤ k.toNat)
    (hE : ∀ e s', SS C ((e, exP .none cx) :: σ) ι s' → E (.ref e) s') : wpAny (model prg C.w) A (getItem (.ref l) (.int k t)) Q E s := by
  refine gen_P fun Pg kg => ?_
  obtain ⟨o, n, ho, hd⟩ := L.obj
  refine kg ?_
  clear kg
  refine like_enter L ?_
  show wpAny _ _ (Builtin.List.listSubscript? (.int k t) >>= _) _ _ s
  refine wpAny_bind (wpAny_listSubscript_int (fitsIndex_of h0 hfit) ?_)
  clear hfit
  obtain ⟨j, rfl⟩ := Int.eq_ofNat_of_zero_le h0
  have hx : items[j]? = none := Array.getElem?_eq_none hout
  show wpAny _ _ ((seqItemAt l j >>= fun r => pure (r.map (j, ·))) >>= _) _ _ s
  refine wpAny_bind (wpAny_bind (wpAny_seqItemAt ho hd (wpAny_pure ?_)))
  (first | (refine rwP (hx) ?_; try with_reducible rfl) | rw [hx])
  have hH' : HOk A.in1 cx σ := hH
  first
    | exact wpAny_bind (wpAny_rule (raise_index S hH' hE))
    | exact wpAny_bind (wpAny_rule (wpAny_bind (raise_index S hH' hE)))
    | exact wpAny_bind (wpAny_bind (wpAny_rule (raise_index S hH' hE)))
    | exact wpAny_rule (raise_index S hH' hE)
end

theorem list_extendL {l2 : Addr} {vs2 : Array Value} {Q : Value → Shared → Prop} (S : SS C σ ι s) (u : Upd l (lstP vs) (lstP (vs ++ vs2)) σ σ') (hl2 : (l2, lstP vs2) ∈ σ) (hz : vs.size + vs2.size ≤ sizeLine) (h : ∀ s', SS C σ' ι s' → Q .none s') :
    wpAny (model prg C.w) A (call (.builtin "list.extend") [.ref l, .ref l2]) Q E s := by
  refine gen_P fun Pg kg => ?_
  obtain ⟨o, e, ⟨p1, p2⟩, n, p3⟩ := S.at u.mem
  obtain ⟨o2, e2, ⟨q1, q2⟩, n2, q3⟩ := S.at hl2
  refine kg ?_
  clear kg
  refine wpAny_call_entry F.slot_list_extend (T := "list") ⟨_, e, p1⟩ F.entry_list_extend ?_ (F.args_list_extend_2 _ _)
  show wpAny _ _ (typeOf (.ref l2) >>= _) _ _ s
  refine wpAny_bind (wpAny_typeOf (T := "list") ⟨_, e2, q1⟩ ?_)
  (first | (refine rwP (if_pos (by simp)) ?_; try with_reducible rfl) | rw [if_pos (by simp)])
  refine wpAny_bind ?_
  unfold Builtin.List.listItems
  refine wpAny_bind (wpAny_seqItems e2 q3 (wpAny_pure ?_))
  refine wpAny_bind (wpAny_bind (wpAny_seqItems e p3 (wpAny_pure ?_)))
  (first | (refine rwP (if_neg (extend_door hz)) ?_; try with_reducible rfl) | rw [if_neg (extend_door hz)])
  have hz' : (vs ++ vs2).size ≤ sizeLine + 1 := by (first | (refine rwP (Array.size_append) ?_; try with_reducible rfl) | rw [Array.size_append]); (first | lia | omega)
  have fin : ∀ {W : Fin → Shared → Prop}, W (.done (.ret .none)) { s with heap := s.heap.update l (Obj.mapSeq fun x => x ++ vs2) } → wpAny (model prg C.w) A.in1 (do Builtin.List.listUpdate (.ref l) (· ++ vs2); ret .none) W E s := fun q =>
    wpAny_bind (wpAny_updateSeq e p3 (wpAny_pure q) (hz := by (first | lia | omega)) (_hz' := hz'))
  refine wpAny_mono (fin (W := fun fin s' => fin = .done (.ret .none) ∧ s' = { s with heap := s.heap.update l (Obj.mapSeq fun x => x ++ vs2) }) ⟨rfl, rfl⟩) ?_ fun _ _ x => x
  rintro _ _ ⟨rfl, rfl⟩
  refine ⟨_, rfl, h _ ?_⟩
  refine S.upd u fun o' p' => ?_
  refine gen_P fun Pg kg => ?_
  obtain ⟨⟨r1, r2⟩, n', r3⟩ := p'
  obtain ⟨n'', hd'⟩ := Obj.data_mapSeq r3 (fun x => x ++ vs2)
  refine kg ?_
  clear kg
  have e3 : lstP (vs ++ vs2) (Obj.mapSeq (fun x => x ++ vs2) o') := ⟨⟨(Obj.cls_mapSeq ..).trans r1, by obtain ⟨c, d, dt, sl⟩ := o'; subst r3; exact r2⟩, n'', hd'⟩
  exact ⟨e3, Obj.isFreed_of_seq hd', lstP_not e3⟩
end
end Mine
end Part38
section Part39
set_option tactic.hygienic false
open PySem PySem.W PySem.W.X PySem.Calls PyProof.Rows
set_option maxRecDepth 100000
namespace Mine

section
variable {C : Cx} {σ σ' τ : Led} {ι ι' : Imm} {A : Around} {s : Shared} {E : Value → Shared → Prop} {a dx l : Addr} {vs items : Array Value}

/-- a row that stands wherever τ stands -/
noncomputable def RowIn (C : Cx) (τ : Led) (row : Addr) (items : Array Value) : Prop := ∀ {σ : Led} {ι : Imm} {s : Shared}, τ ⊆ σ → SS C σ ι s → SeqLike C.w s.heap row items
theorem RowIn.more {row : Addr} (x : RowIn C τ row items) (h : τ ⊆ σ) : RowIn C σ row items := fun {_ _ _} hs S => x (fun _ m => hs (h m)) S
theorem RowIn.lst {row : Addr} (h : (row, lstP items) ∈ τ) : RowIn C τ row items := fun {_ _ _} hs S => lst_like S (hs h)
theorem RowIn.acc {row : Addr} (X : CxOk C) (KA : KF C.K) (KK : KL C.K) (h : (row, accP dx items) ∈ τ) : RowIn C τ row items := fun {_ _ _} hs S => acc_like X KA KK S (hs h)

theorem aug1 {x : Str} {p1 p2 p3 : Pos} {env : Env} {L : Addr} {m : Str → Option Value} {k : Nat} {t : Tok} {Q : Flow → Shared → Prop} (S : SS C ((L, nsP m) :: τ) ι s) (hL : env.locals = L) (hx : m x = some (.int k t))
    (h : ∀ t' s', SS C ((L, nsP (put m x (.int (k + 1 : Nat) t'))) :: τ) ι s' → Q .next s')
    (hk : autoParam (env.scope.kind = .function) tacRfl) (hl : autoParam (env.kindOf x = some .local) tacRfl)
    (hp : autoParam ((env.scope.kind == .class || (env.scope.kind == .module && env.locals != env.globals)) = false) tacRfl) :
    wpAny (model prg C.w) A (exec (.AugAssign (.Name x p1) .Add (.Constant (.int 1) 0 p2) p3) env) Q E s := by
  subst hL
  refine wpAny_AugAssign_Name (wpAny_loadName_local hk hl (SS.ns S (.head _)) hx ?_)
  refine wpAny_Constant_int (P.iadd_int ?_)
  have S' : SS C _ _ { s with toks := s.toks + 1 + 1 } := S
  have e : ((k : Int) + 1) = ((k + 1 : Nat) : Int) := by (first | lia | omega)
  (first | (refine rwP (e) ?_; try with_reducible rfl) | rw [e])
  exact n_store S' .head (fun s2 S2 => h _ _ S2) hl hp

theorem pcs.at {ps : List (Str × Str)} (x : pcs ι vs ps) {i : Nat} (h : i < ps.length) : ∃ v, vs[i]? = some v ∧ IsPiece ι v ps[i] := x.2 i _ (List.getElem?_eq_getElem h)

/-- x[i], in sight -/
theorem row_at {L row : Addr} {env : Env} {xs is : Str} {p1 p2 p3 : Pos} {m : Str → Option Value} {k : Nat} {t : Tok} {v : Value} {Q : Value → Shared → Prop} (hrow : RowIn C τ row items) (S : SS C ((L, nsP m) :: τ) ι s) (hL : env.locals = L)
    (hx : m xs = some (.ref row)) (hi : m is = some (.int k t)) (hk2 : k ≤ 1000000) (hv : items[k]? = some v) (h : Q v s)
    (hk : autoParam (env.scope.kind = .function) tacRfl) (hl : autoParam (env.kindOf xs = some .local) tacRfl) (hl2 : autoParam (env.kindOf is = some .local) tacRfl)
    (hd : autoParam ((xs == ("__debug__" : Str)) = false) tacDec) (hd2 : autoParam ((is == ("__debug__" : Str)) = false) tacDec) :
    wpAny (model prg C.w) A (eval (.Subscript (.Name xs p1) (.Name is p2) p3) env) Q E s := by
  subst hL
  refine Subscript_ (n_local S (.head _) hx (n_local S (.head _) hi ?_ hk hl2 hd2) hk hl hd)
  have L1 := hrow (fun _ h => .tail _ h) S
  exact like_tail L1 (like_int L1 (by (first | lia | omega)) (by (first | lia | omega)) (by simpa using hv) h) (fun q => wpAny_operating q)
theorem row_out {L row : Addr} {env : Env} {xs is : Str} {p1 p2 p3 : Pos} {m : Str → Option Value} {k : Nat} {t : Tok} {cx : Value} {Q : Value → Shared → Prop} (hrow : RowIn C τ row items) (S : SS C ((L, nsP m) :: τ) ι s) (hL : env.locals = L)
    (hx : m xs = some (.ref row)) (hi : m is = some (.int k t)) (hk2 : k ≤ 1000000) (hv : items.size ≤ k) (hH : HOk A cx τ) (h : ∀ x s', Ex0 C cx ((L, nsP m) :: τ) ι x s' → E x s')
    (hk : autoParam (env.scope.kind = .function) tacRfl) (hl : autoParam (env.kindOf xs = some .local) tacRfl) (hl2 : autoParam (env.kindOf is = some .local) tacRfl)
    (hd : autoParam ((xs == ("__debug__" : Str)) = false) tacDec) (hd2 : autoParam ((is == ("__debug__" : Str)) = false) tacDec) :
    wpAny (model prg C.w) A (eval (.Subscript (.Name xs p1) (.Name is p2) p3) env) Q E s := by
  subst hL
  refine Subscript_ (n_local S (.head _) hx (n_local S (.head _) hi ?_ hk hl2 hd2) hk hl hd)
  have L1 := hrow (fun _ h => .tail _ h) S
  have hH' : HOk A cx ((env.locals, nsP m) :: τ) := by
    rcases hH with h | ⟨e1, tb, a, b, c⟩
    · exact .inl h
    · exact .inr ⟨e1, tb, a, b, .tail _ c⟩
  exact like_tail L1 (like_outX L1 S hH' (by (first | lia | omega)) (by (first | lia | omega)) (by simpa using hv) fun e s' S' => h _ _ ⟨e, rfl, S'⟩) (fun q => wpAny_operating q)

theorem FrIn.head {L : Addr} {m m' : Str → Option Value} (h : FrIn A ((L, nsP m) :: τ)) : FrIn A ((L, nsP m') :: τ) := h.mono fun L' m2 hm => by
  rcases List.mem_cons.mp hm with e | hm
  · injection e with e1 e2
    exact ⟨m', e1 ▸ .head _⟩
  · exact ⟨m2, .tail _ hm⟩

theorem skip_w {L row : Addr} {env : Env} {outer : List Env} {xs is es : Str} {p1 p2 p3 p4 p5 p6 p7 p8 p9 : Pos} {m : Str → Option Value} {k : Nat} {t : Tok} {v cx : Value} {p : Str × Str} {ps : List (Str × Str)} {Q : Flow → Shared → Prop}
    (hrow : RowIn C τ row items) (hpp : pcs ι items ps) (hgood : ∀ p ∈ ps, goodP p) (hsz : ps.length ≤ 1000000) (hv : IsPiece ι v p) (hp : goodP p) (hu : A.units + 64 < cLine)
    (hfr : A.frames = some (env :: outer)) (hin : FrIn A ((L, nsP m) :: τ)) (hf : env.frame = some L) (hH : HOk A cx τ) (S : SS C ((L, nsP m) :: τ) ι s) (hL : env.locals = L)
    (hx : m xs = some (.ref row)) (hi : m is = some (.int k t)) (he : m es = some v) (hkl : k ≤ ps.length)
    (hQ : ∀ k' t' m' s', SS C ((L, nsP m') :: τ) ι s' → (∀ y, (y == is) = false → m' y = m y) → m' is = some (.int (k' : Nat) t') → ps.drop k' = (ps.drop k).dropWhile (· == p) → k' < ps.length → Q .next s')
    (hE : ∀ k' t' m' x s', Ex1 C cx ((L, nsP m') :: τ) ι x s' → (∀ y, (y == is) = false → m' y = m y) → m' is = some (.int (k' : Nat) t') → (ps.drop k).dropWhile (· == p) = [] → ps.length ≤ k' → k' ≤ 1000000 → E x s')
    (hk : autoParam (env.scope.kind = .function) tacRfl) (hl : autoParam (env.kindOf xs = some .local) tacRfl) (hl2 : autoParam (env.kindOf is = some .local) tacRfl) (hl3 : autoParam (env.kindOf es = some .local) tacRfl)
    (hd : autoParam ((xs == ("__debug__" : Str)) = false) tacDec) (hd2 : autoParam ((is == ("__debug__" : Str)) = false) tacDec) (hd3 : autoParam ((es == ("__debug__" : Str)) = false) tacDec)
    (n1 : autoParam ((xs == is) = false) tacDec) (n2 : autoParam ((es == is) = false) tacDec)
    (hps : autoParam ((env.scope.kind == .class || (env.scope.kind == .module && env.locals != env.globals)) = false) tacRfl) :
    wpAny (model prg C.w) A (exec (.While (.Compare (.Subscript (.Name xs p1) (.Name is p2) p3) [.Eq] [.Name es p4] p5) [.AugAssign (.Name is p6) .Add (.Constant (.int 1) 0 p7) p8] [] p9) env) Q E s := by
  refine wpAny_While (codeAny_whileLoop (fun n s => Ex3 fun k' t' m' => And5 (n + k' = ps.length) (SS C ((L, nsP m') :: τ) ι s) ((∀ y, (y == is) = false → m' y = m y)) (m' is = some (.int (k' : Nat) t')) ((ps.drop k').dropWhile (· == p) = (ps.drop k).dropWhile (· == p)))
    (fun n s hI => ?_) (ps.length - k) ⟨k, t, m, by (first | lia | omega), S, fun _ _ => rfl, hi, rfl⟩)
  refine gen_P fun Pg kg => ?_
  obtain ⟨k', t', m', hn, S, hm, hi', hdw⟩ := hI
  refine kg ?_
  clear kg
  have hx' := (hm xs n1).trans hx
  have he' := (hm es n2).trans he
  refine wpAny_isTrue_Compare1 ?_
  by_cases hlt : k' < ps.length
  · refine gen_P fun Pg kg => ?_
    obtain ⟨v', ev, hv'⟩ := hpp.at hlt
    refine kg ?_
    clear kg
    refine row_at hrow S hL hx' hi' (by (first | lia | omega)) ev ?_ hk hl hl2 hd hd2
    subst hL
    refine n_local S (.head _) he' ?_ hk hl3 hd3
    refine cmp_eq S hv' hv (hgood _ (List.getElem_mem hlt)) hp hu ?_
    refine wpAny_truthy_bool ?_
    have ed : ps.drop k' = ps[k'] :: ps.drop (k' + 1) := List.drop_eq_getElem_cons hlt
    cases q : (ps[k'] == p) with
    | true =>
      (first | refine wpIf1 ?_ | simp only [if_true])
      refine wpAny_execs_cons (aug1 S rfl hi' (fun t2 s2 S2 => wpAny_execs_nil ?_) hk hl2 hps)
      refine ⟨n - 1, by (first | lia | omega), k' + 1, t2, _, by (first | lia | omega), S2, fun y hy => (put_ne hy).trans (hm y hy), put_same, ?_⟩
      (first | (refine rwQ (hdw) ?_; refine rwP (ed) ?_; refine rwP (List.dropWhile_cons) ?_; refine rwP (q) ?_; refine rwP (if_pos rfl) ?_; try with_reducible rfl) | rw [← hdw, ed, List.dropWhile_cons, q, if_pos rfl])
    | false =>
      (first | refine wpIf0 ?_ | simp only [Bool.false_eq_true, if_false])
      refine wpAny_execs_nil (hQ k' t' m' _ S hm hi' ?_ hlt)
      (first | (refine rwQ (hdw) ?_; refine rwP (ed) ?_; refine rwP (List.dropWhile_cons) ?_; refine rwP (q) ?_; refine rwP (if_neg (by simp)) ?_; try with_reducible rfl) | rw [← hdw, ed, List.dropWhile_cons, q, if_neg (by simp)])
  · refine row_out hrow S hL hx' hi' (by (first | lia | omega)) (by have := hpp.1; (first | lia | omega)) hH (fun x s' X => ?_) hk hl hl2 hd hd2
    refine x_noted (.inl X) hfr hin.head hf fun s'' X' => ?_
    refine hE k' t' m' x s'' X' hm hi' ?_ (by (first | lia | omega)) (by (first | lia | omega))
    (first | (refine rwQ (hdw) ?_; refine rwP (List.drop_of_length_le (by (first | lia | omega))) ?_; try with_reducible rfl) | rw [← hdw, List.drop_of_length_le (by (first | lia | omega))])
    rfl
end
end Mine
end Part39
section Part40
set_option tactic.hygienic false
open PySem PySem.W PySem.W.X PySem.Calls PyProof.Rows
set_option maxRecDepth 100000
namespace Mine
theorem type_list_extend : typeOf (.builtin "list.extend") = pure (.type "method_descriptor") := by kernel_rfl

structure KSld (K : Frag) : Prop where
  gIx : nsIn K 3 "IndexError" = some none
  bIx : nsIn K 0 "IndexError" = some (some (.type "IndexError"))
  fSld : Fn K 21 20 "sorted_list_difference" (topS 1) [] .none

theorem ix_exc : isSubtype (.type "IndexError") (.type "BaseException") = pure true := by (first | (refine rwP (isSubtype_type) ?_; try with_reducible rfl) | rw [isSubtype_type]); kernel_rfl
theorem ix_ix : isSubtype (.type "IndexError") (.type "IndexError") = pure true := by (first | (refine rwP (isSubtype_type) ?_; try with_reducible rfl) | rw [isSubtype_type]); kernel_rfl
theorem ix_nt : isSubtype (.type ((Manifest.find? "IndexError").elim "type" fun x => x.metatype)) (.type "tuple") = pure false := by
  have : ((Manifest.find? "IndexError").elim "type" fun x => x.metatype) = "type" := by kernel_rfl
  (first | (refine rwP (this) ?_; refine rwP (isSubtype_type) ?_; try with_reducible rfl) | rw [this, isSubtype_type]); kernel_rfl

noncomputable def sldTry : List ExceptHandler := hsOf ((bodyOf ((bodyOf (topS 1)).getD 3 (.Pass default))).getD 0 (.Pass default))
noncomputable def sldBody : List Stmt := bodyOf ((bodyOf ((bodyOf (topS 1)).getD 3 (.Pass default))).getD 0 (.Pass default))
noncomputable abbrev sldEnv (L : Addr) : Env := envX "sorted_list_difference" (scopeOf (topS 1)) L 21 (.ref 20) []

section
variable {C : Cx} {σ σ' τ : Led} {ι ι' : Imm} {A : Around} {s : Shared} {E : Value → Shared → Prop} {a dx l : Addr} {vs items : Array Value}

theorem n_extend {x : Str} {p1 apos pos : Pos} {elt : Expr} {env : Env} {m : Str → Option Value} {l : Addr} {Q : Value → Shared → Prop} (S : SS C σ ι s) (hm : (env.locals, nsP m) ∈ σ) (hx : m x = some (.ref l)) (hl : (l, lstP vs) ∈ σ)
    (h : wpAny (model prg C.w) A (eval elt env) (fun y s₂ => Ex5 fun l2 vs2 σ σ' ι => And6 (y = .ref l2) (SS C σ ι s₂) (Upd l (lstP vs) (lstP (vs ++ vs2)) σ σ') ((l2, lstP vs2) ∈ σ) (vs.size + vs2.size ≤ sizeLine) (∀ s₃, SS C σ' ι s₃ → Q .none s₃)) E s)
    (hk : autoParam (env.scope.kind = .function) tacRfl) (hlx : autoParam (env.kindOf x = some .local) tacRfl) (hd : autoParam ((x == ("__debug__" : Str)) = false) tacDec)
    (hform : autoParam (methodCallForm (([elt] : List Expr).length + ([] : List Keyword).length) (backTo pos (starEach [elt] env)) (backToKw pos (keywordEach [] env)) = true) tacRfl)
    (hline : autoParam ((apos.endLine == pos.line) = true) tacRfl) (hp : autoParam ((backTo pos (starEach [elt] env)).any (·.1) = false) tacRfl) (he : autoParam (starEach [elt] env = (false, eval elt env) :: starEach [] env) tacRfl) :
    wpAny (model prg C.w) A (eval (.Call (.Attribute (.Name x p1) "extend" apos) [elt] [] pos) env) Q E s := by
  refine n_meth (n_local S hm hx ?_ hk hlx hd) rfl hform hline
  refine gen_P fun Pg kg => ?_
  obtain ⟨o, e, ⟨q1, q2⟩, n, q3⟩ := S.at hl
  refine kg ?_
  clear kg
  refine getMethod_list_of F.slot_list_extend type_list_extend (items := vs) ⟨o, e, q1, n, q3⟩ ⟨o, e, q2⟩ ?_
  refine n_callb (first := [.ref l]) (sp_cons (wpAny_mono h (fun y s2 h2 => sp_nil ?_) fun _ _ x => x) he) hp
  refine gen_P fun Pg kg => ?_
  obtain ⟨l2, vs2, σ1, σ2, ι1, rfl, S1, u, hl2, hz, h3⟩ := h2
  refine kg ?_
  clear kg
  exact list_extendL S1 u hl2 hz h3

/-- row[i:] -/
theorem row_from {row : Addr} {env : Env} {xs is : Str} {p1 p2 p3 p4 : Pos} {m : Str → Option Value} {k : Nat} {t : Tok} {Q : Value → Shared → Prop} (hrow : RowIn C τ row items) (hτ : τ ⊆ σ) (S : SS C σ ι s) (hm : (env.locals, nsP m) ∈ σ)
    (hx : m xs = some (.ref row)) (hi : m is = some (.int k t)) (hz : items.size ≤ sizeLine) (h : ∀ l s', SS C ((l, lstP (items.toList.drop k).toArray) :: σ) ι s' → Q (.ref l) s')
    (hk : autoParam (env.scope.kind = .function) tacRfl) (hl : autoParam (env.kindOf xs = some .local) tacRfl) (hl2 : autoParam (env.kindOf is = some .local) tacRfl)
    (hd : autoParam ((xs == ("__debug__" : Str)) = false) tacDec) (hd2 : autoParam ((is == ("__debug__" : Str)) = false) tacDec) :
    wpAny (model prg C.w) A (eval (.Subscript (.Name xs p1) (.Slice (some (.Name is p2)) none none p3) p4) env) Q E s := by
  refine Subscript_ (n_local S hm hx ?_ hk hl hd)
  refine n_slice (vl := .int k t) (evalPart_some_step (n_local S hm hi ⟨rfl, _, _, S, fun sl s2 S2 hsl => ?_⟩ hk hl2 hd2))
  have L1 := hrow hτ S2
  refine like_tail L1 (like_slice L1 hsl (.int k t) .none .none (by simp) ?_ hz) (fun q => wpAny_operating q)
  (first | (refine rwP (pick_drop) ?_; try with_reducible rfl) | rw [pick_drop])
  have e1 : lstP (items.toList.drop k).toArray { cls := .type "list", data := .seq (items.toList.drop k).toArray } := ⟨⟨rfl, rfl⟩, _, rfl⟩
  exact h _ _ (S2.alloc e1 rfl (lstP_not e1))

theorem handled_x {L er ar lm lu : Addr} {ei ai mv uv : Array Value} {m : Str → Option Value} {i j : Nat} {ti tj : Tok} {x cx : Value} {Q : Flow → Shared → Prop} (X : CxOk C) (KL' : KSld C.K)
    (hre : RowIn C σ er ei) (hra : RowIn C σ ar ai) (hez : ei.size ≤ 1000000) (haz : ai.size ≤ 1000000) (hmz : mv.size ≤ 1000000) (huz : uv.size ≤ 1000000)
    (hx : Ex1 C cx ((L, nsP m) :: (lu, lstP uv) :: (lm, lstP mv) :: σ) ι x s)
    (m1 : m "expected" = some (.ref er)) (m2 : m "actual" = some (.ref ar)) (m3 : m "i" = some (.int i ti)) (m4 : m "j" = some (.int j tj)) (m5 : m "missing" = some (.ref lm)) (m6 : m "unexpected" = some (.ref lu))
    (h : ∀ s', SS C ((L, nsP m) :: (lu, lstP (uv ++ (ai.toList.drop j).toArray)) :: (lm, lstP (mv ++ (ei.toList.drop i).toArray)) :: σ) ι s' → Q .brk s') :
    wpAny (model prg C.w) A (handleBy x (sldEnv L) sldTry) Q E s := by
  refine gen_P fun Pg kg => ?_
  obtain ⟨e, T, fl, rfl, S⟩ := hx
  obtain ⟨o, eo, po⟩ := S.at (.tail _ (.head _))
  refine kg ?_
  clear kg
  refine wpAny_handleBy_builtin (X := "IndexError") (T := "IndexError") (b := true) ix_exc ix_nt ix_ix ?_
  refine n_builtin X S KL'.gIx KL'.bIx ⟨rfl, ⟨o, eo, po.1⟩, ?_⟩
  (first | (refine rwP (if_pos rfl) ?_; try with_reducible rfl) | rw [if_pos rfl])
  refine flight S fun s1 S1 => ?_
  have hz : sizeLine = 1000000 ∨ 2000000 ≤ sizeLine := by (first | (refine rwP (sizeLine_eq) ?_; try with_reducible rfl) | rw [sizeLine_eq]); (first | lia | omega)
  have hz : 2000000 ≤ sizeLine := by (first | (refine rwP (sizeLine_eq) ?_; try with_reducible rfl) | rw [sizeLine_eq]); (first | lia | omega)
  refine wpAny_execs_cons (wpAny_Expr_any ?_)
  have hτ : σ ⊆ (T, tbP Value.none) :: (e, exP (.ref T) cx) :: (L, nsP m) :: (lu, lstP uv) :: (lm, lstP mv) :: σ := fun _ h => .tail _ (.tail _ (.tail _ (.tail _ (.tail _ h))))
  refine n_extend S1 (.tail _ (.tail _ (.head _))) m5 (.tail _ (.tail _ (.tail _ (.tail _ (.head _))))) ?_
  refine row_from hre hτ S1 (.tail _ (.tail _ (.head _))) m1 m3 (by (first | lia | omega)) fun l2 s2 S2 => ?_
  refine ⟨_, _, _, _, _, rfl, S2, .tail (.tail (.tail (.tail (.tail .head)))), .head _, by simp; (first | lia | omega), fun s3 S3 => ?_⟩
  refine wpAny_execs_cons (wpAny_Expr_any ?_)
  refine n_extend S3 (.tail _ (.tail _ (.tail _ (.head _)))) m6 (.tail _ (.tail _ (.tail _ (.tail _ (.head _))))) ?_
  refine row_from hra (fun _ h => .tail _ (.tail _ (.tail _ (.tail _ (.tail _ (.tail _ h)))))) S3 (.tail _ (.tail _ (.tail _ (.head _)))) m2 m4 (by (first | lia | omega)) fun l4 s4 S4 => ?_
  refine ⟨_, _, _, _, _, rfl, S4, .tail (.tail (.tail (.tail (.tail .head)))), .head _, by simp; (first | lia | omega), fun s5 S5 => ?_⟩
  refine wpAny_execs_cons ?_
  first
    | exact wpAny_Break (h _ S5.tl.tl.tl.tl)
    | skip
end
end Mine
end Part40
section Part41
set_option tactic.hygienic false
open PySem PySem.W PySem.W.X PySem.Calls PyProof.Rows
set_option maxRecDepth 100000
namespace Mine

/-! ## what sorted_list_difference tells -/
noncomputable def sldGo : Nat → List (Str × Str) → List (Str × Str) → List (Str × Str) × List (Str × Str)
  | 0, es, as => (es, as)
  | _ + 1, [], as => ([], as)
  | _ + 1, e :: es, [] => (e :: es, [])
  | n + 1, e :: es, a :: as =>
    if ltP e a then (e :: (sldGo n (es.dropWhile (· == e)) (a :: as)).1, (sldGo n (es.dropWhile (· == e)) (a :: as)).2)
    else if ltP a e then ((sldGo n (e :: es) (as.dropWhile (· == a))).1, a :: (sldGo n (e :: es) (as.dropWhile (· == a))).2)
    else sldGo n (es.dropWhile (· == e)) (as.dropWhile (· == a))
noncomputable def sldS (es as : List (Str × Str)) : List (Str × Str) × List (Str × Str) := sldGo (es.length + as.length) es as
theorem sldGo_nil1 (f : Nat) (as : List (Str × Str)) : sldGo f [] as = ([], as) := by cases f <;> rfl
theorem sldGo_nil2 (f : Nat) (es : List (Str × Str)) : sldGo f es [] = (es, []) := by cases f <;> cases es <;> rfl
theorem sldGo_le : ∀ (f : Nat) (es as : List (Str × Str)), (sldGo f es as).1.length ≤ es.length ∧ (sldGo f es as).2.length ≤ as.length
  | 0, es, as => ⟨Nat.le_refl _, Nat.le_refl _⟩
  | n + 1, [], as => ⟨Nat.le_refl _, Nat.le_refl _⟩
  | n + 1, e :: es, [] => ⟨Nat.le_refl _, Nat.le_refl _⟩
  | n + 1, e :: es, a :: as => by
    have d1 : (es.dropWhile (· == e)).length ≤ es.length := (List.dropWhile_sublist _).length_le
    have d2 : (as.dropWhile (· == a)).length ≤ as.length := (List.dropWhile_sublist _).length_le
    unfold sldGo
    split
    · have := sldGo_le n (es.dropWhile (· == e)) (a :: as)
      simp only [List.length_cons] at this ⊢
      omega
    · split
      · have := sldGo_le n (e :: es) (as.dropWhile (· == a))
        simp only [List.length_cons] at this ⊢
        omega
      · have := sldGo_le n (es.dropWhile (· == e)) (as.dropWhile (· == a))
        simp only [List.length_cons] at this ⊢
        omega

structure LocOk (m : Str → Option Value) (er ar lm lu : Addr) (i j : Nat) : Prop where
  m1 : m "expected" = some (.ref er)
  m2 : m "actual" = some (.ref ar)
  m3 : ∃ t, m "i" = some (.int i t)
  m4 : ∃ t, m "j" = some (.int j t)
  m5 : m "missing" = some (.ref lm)
  m6 : m "unexpected" = some (.ref lu)

section
variable {C : Cx} {σ σ' τ : Led} {ι ι' : Imm} {A : Around} {s : Shared} {E : Value → Shared → Prop} {a dx l : Addr} {vs items : Array Value}
theorem Ex1.sub {x cx : Value} (X : Ex1 C cx σ ι x s) (h : σ'.Sublist σ) : Ex1 C cx σ' ι x s := by
  refine gen_P fun Pg kg => ?_
  obtain ⟨e, T, fl, r, S⟩ := X
  refine kg ?_
  clear kg
  exact ⟨e, T, fl, r, S.sub ((h.cons₂ _).cons₂ _)⟩
/-- in flight out of the body: what is still to come is what is left of both rows -/
noncomputable def Flown (C : Cx) (σ : Led) (ι : Imm) (L er ar lm lu : Addr) (es as : List (Str × Str)) (R : List (Str × Str) × List (Str × Str)) (x : Value) (s : Shared) : Prop :=
  Ex8 fun cx m mv uv M U i j => And6 (Ex C cx ((L, nsP m) :: (lu, lstP uv) :: (lm, lstP mv) :: σ) ι x s) (LocOk m er ar lm lu i j) (pcs ι mv M) (pcs ι uv U) (M ++ es.drop i = R.1) (U ++ as.drop j = R.2)

/-- a turn's end -/
noncomputable def Turned (C : Cx) (σ : Led) (ι : Imm) (L er ar lm lu : Addr) (es as : List (Str × Str)) (R : List (Str × Str) × List (Str × Str)) (n : Nat) (s : Shared) : Prop :=
  Ex8 fun m mv uv M U i j f => And10 (n = (es.length - i) + (as.length - j)) (n ≤ f) (i ≤ es.length) (j ≤ as.length) (SS C ((L, nsP m) :: (lu, lstP uv) :: (lm, lstP mv) :: σ) ι s) (LocOk m er ar lm lu i j) (pcs ι mv M) (pcs ι uv U) (M ++ (sldGo f (es.drop i) (as.drop j)).1 = R.1) (U ++ (sldGo f (es.drop i) (as.drop j)).2 = R.2)

theorem drop_skip {ps : List (Str × Str)} {p : Str × Str} {k k' : Nat} (h : ps.drop k' = (ps.drop k).dropWhile (· == p)) (hk : k ≤ ps.length) (hk' : k' ≤ ps.length) : k ≤ k' := by
  have e := congrArg List.length h
  have d : ((ps.drop k).dropWhile (· == p)).length ≤ (ps.drop k).length := (List.dropWhile_sublist _).length_le
  rw [List.length_drop] at e d
  omega

/-- the third branch: both rows skip one's like -/
theorem sld_both {er ar lm lu L : Addr} {ei ai mv uv : Array Value} {es as M U : List (Str × Str)} {R : List (Str × Str) × List (Str × Str)} {env : Env} {outer : List Env} {m : Str → Option Value} {i j f : Nat} {ve va : Value} {e a : Str × Str} {es' as' : List (Str × Str)}
    {q1 q2 q3 q4 q5 q6 q7 q8 q9 p1 p2 p3 p4 p5 p6 p7 p8 p9 r1 r2 r3 r4 : Pos} {Q : Flow → Shared → Prop}
    (hre : RowIn C σ er ei) (hra : RowIn C σ ar ai) (hpe : pcs ι ei es) (hpa : pcs ι ai as) (hge : ∀ p ∈ es, goodP p) (hga : ∀ p ∈ as, goodP p) (hze : es.length ≤ 1000000) (hza : as.length ≤ 1000000)
    (hu : A.units + 64 < cLine) (hfr : A.frames = some (env :: outer)) (hin : FrIn A ((L, nsP m) :: (lu, lstP uv) :: (lm, lstP mv) :: σ)) (hA : A.handled = none) (henv : env = sldEnv L)
    (S : SS C ((L, nsP m) :: (lu, lstP uv) :: (lm, lstP mv) :: σ) ι s) (hm : LocOk m er ar lm lu (i + 1) j) (me : m "e" = some ve) (ma : m "a" = some va) (he : IsPiece ι ve e) (ha : IsPiece ι va a)
    (hi : es.drop i = e :: es') (hj : as.drop j = a :: as') (hM : pcs ι mv M) (hU : pcs ι uv U)
    (hR1 : M ++ (sldGo f (es'.dropWhile (· == e)) (as'.dropWhile (· == a))).1 = R.1) (hR2 : U ++ (sldGo f (es'.dropWhile (· == e)) (as'.dropWhile (· == a))).2 = R.2) (hf : (es.length - i) + (as.length - j) ≤ f + 1)
    (hQ : ∀ n s', n < (es.length - i) + (as.length - j) → Turned C σ ι L er ar lm lu es as R n s' → Q .next s')
    (hE : ∀ x s', Flown C σ ι L er ar lm lu es as R x s' → E x s') :
    wpAny (model prg C.w) A (exec (.Try [.While (.Compare (.Subscript (.Name "expected" p1) (.Name "i" p2) p3) [.Eq] [.Name "e" p4] p5) [.AugAssign (.Name "i" p6) .Add (.Constant (.int 1) 0 p7) p8] [] p9] [] []
      [.AugAssign (.Name "j" r1) .Add (.Constant (.int 1) 0 r2) r3, .While (.Compare (.Subscript (.Name "actual" q1) (.Name "j" q2) q3) [.Eq] [.Name "a" q4] q5) [.AugAssign (.Name "j" q6) .Add (.Constant (.int 1) 0 q7) q8] [] q9] r4) env) Q E s := by
  have hil : i < es.length := by
    have := congrArg List.length hi
    simp only [List.length_drop, List.length_cons] at this
    (first | lia | omega)
  have hjl : j < as.length := by
    have := congrArg List.length hj
    simp only [List.length_drop, List.length_cons] at this
    (first | lia | omega)
  have hi' : es.drop (i + 1) = es' := by
    rw [List.drop_eq_getElem_cons hil] at hi
    exact (List.cons.inj hi).2
  have hj' : as.drop (j + 1) = as' := by
    rw [List.drop_eq_getElem_cons hjl] at hj
    exact (List.cons.inj hj).2
  have gE : goodP e := hge e (List.mem_of_mem_drop (i := i) (by (first | (refine rwP (hi) ?_; try with_reducible rfl) | rw [hi]); exact .head _))
  have gA : goodP a := hga a (List.mem_of_mem_drop (i := j) (by (first | (refine rwP (hj) ?_; try with_reducible rfl) | rw [hj]); exact .head _))
  have hff : env.frame = some L := by (first | (refine rwP (henv) ?_; try with_reducible rfl) | rw [henv])
  have hll : env.locals = L := by (first | (refine rwP (henv) ?_; try with_reducible rfl) | rw [henv])
  -- the suite behind, at whatever state; τ2 stands between
  have final : ∀ {A' : Around} {m' : Str → Option Value} {k' : Nat} {cx : Value} {τ2 : Led} {s' : Shared} {Q' : Flow → Shared → Prop} {E' : Value → Shared → Prop}, A'.units = A.units → A'.frames = A.frames → HOk A' cx (τ2 ++ ((lu, lstP uv) :: (lm, lstP mv) :: σ)) →
      SS C ((L, nsP m') :: (τ2 ++ ((lu, lstP uv) :: (lm, lstP mv) :: σ))) ι s' → LocOk m' er ar lm lu k' j → m' "e" = some ve → m' "a" = some va →
      (∀ m2 k2 s2, SS C ((L, nsP m2) :: (τ2 ++ ((lu, lstP uv) :: (lm, lstP mv) :: σ))) ι s2 → LocOk m2 er ar lm lu k' k2 → as.drop k2 = as'.dropWhile (· == a) → j + 1 ≤ k2 → k2 < as.length → Q' .next s2) →
      (∀ m2 k2 x s2, Ex1 C cx ((L, nsP m2) :: ((lu, lstP uv) :: (lm, lstP mv) :: σ)) ι x s2 → LocOk m2 er ar lm lu k' k2 → as.drop k2 = as'.dropWhile (· == a) → as'.dropWhile (· == a) = [] → E' x s2) →
      wpAny (model prg C.w) A' (execs [.AugAssign (.Name "j" r1) .Add (.Constant (.int 1) 0 r2) r3, .While (.Compare (.Subscript (.Name "actual" q1) (.Name "j" q2) q3) [.Eq] [.Name "a" q4] q5) [.AugAssign (.Name "j" q6) .Add (.Constant (.int 1) 0 q7) q8] [] q9] env) Q' E' s' := by
    intro A' m' k' cx τ2 s' Q' E' hAu hAf hH S' hm' me' ma' hq he'
    obtain ⟨tj, hmj⟩ := hm'.m4
    obtain ⟨ti, hmi⟩ := hm'.m3
    subst henv
    refine wpAny_execs_cons (aug1 S' rfl hmj fun t2 s2 S2 => ?_)
    have hin' : FrIn A' ((L, nsP (put m' "j" (.int (j + 1 : Nat) t2))) :: (τ2 ++ ((lu, lstP uv) :: (lm, lstP mv) :: σ))) := by
      obtain ⟨fs, e1, e2⟩ := hin
      refine FrIn.mono (σ := (L, nsP m) :: (lu, lstP uv) :: (lm, lstP mv) :: σ) ⟨fs, hAf.trans e1, e2⟩ fun L' mm h => ?_
      rcases List.mem_cons.mp h with q | h
      · injection q with qa qb
        refine ⟨(put m' "j" (.int (j + 1 : Nat) t2)), ?_⟩
        (first | (refine rwP (qa) ?_; try with_reducible rfl) | rw [qa])
        exact List.Mem.head _
      · exact ⟨mm, .tail _ (List.mem_append_right _ h)⟩
    refine wpAny_execs_cons (skip_w (ps := as) (p := a) (v := va) (hra.more fun _ h => List.mem_append_right _ (.tail _ (.tail _ h))) hpa hga hza ha gA (by (first | (refine rwP (hAu) ?_; try with_reducible rfl) | rw [hAu]); exact hu) (hAf.trans hfr) hin' rfl hH S2 rfl
      ((put_ne (by decide)).trans hm'.m2) put_same ((put_ne (by decide)).trans ma') (by (first | lia | omega)) (fun k2 t3 m2 s3 S3 f1 f2 f3 f4 => ?_) fun k2 t3 m2 x s3 X3 f1 f2 f3 f4 f5 => ?_)
    · refine wpAny_execs_nil (hq m2 k2 s3 S3 ⟨?_, ?_, ⟨ti, ?_⟩, ⟨t3, f2⟩, ?_, ?_⟩ (by (first | (refine rwP (f3) ?_; refine rwP (hj') ?_; try with_reducible rfl) | rw [f3, hj'])) (drop_skip f3 (by (first | lia | omega)) (by (first | lia | omega))) f4)
      · (first | (refine rwP (f1 _ (by decide)) ?_; refine rwP (put_ne (by decide)) ?_; try with_reducible rfl) | rw [f1 _ (by decide), put_ne (by decide)]); exact hm'.m1
      · (first | (refine rwP (f1 _ (by decide)) ?_; refine rwP (put_ne (by decide)) ?_; try with_reducible rfl) | rw [f1 _ (by decide), put_ne (by decide)]); exact hm'.m2
      · (first | (refine rwP (f1 _ (by decide)) ?_; refine rwP (put_ne (by decide)) ?_; try with_reducible rfl) | rw [f1 _ (by decide), put_ne (by decide)]); exact hmi
      · (first | (refine rwP (f1 _ (by decide)) ?_; refine rwP (put_ne (by decide)) ?_; try with_reducible rfl) | rw [f1 _ (by decide), put_ne (by decide)]); exact hm'.m5
      · (first | (refine rwP (f1 _ (by decide)) ?_; refine rwP (put_ne (by decide)) ?_; try with_reducible rfl) | rw [f1 _ (by decide), put_ne (by decide)]); exact hm'.m6
    · rw [hj'] at f3
      refine he' m2 k2 x s3 (X3.sub ((List.sublist_append_right _ _).cons₂ _)) ⟨?_, ?_, ⟨ti, ?_⟩, ⟨t3, f2⟩, ?_, ?_⟩ (by (first | (refine rwP (f3) ?_; refine rwP (List.drop_of_length_le f4) ?_; try with_reducible rfl) | rw [f3, List.drop_of_length_le f4])) f3
      · (first | (refine rwP (f1 _ (by decide)) ?_; refine rwP (put_ne (by decide)) ?_; try with_reducible rfl) | rw [f1 _ (by decide), put_ne (by decide)]); exact hm'.m1
      · (first | (refine rwP (f1 _ (by decide)) ?_; refine rwP (put_ne (by decide)) ?_; try with_reducible rfl) | rw [f1 _ (by decide), put_ne (by decide)]); exact hm'.m2
      · (first | (refine rwP (f1 _ (by decide)) ?_; refine rwP (put_ne (by decide)) ?_; try with_reducible rfl) | rw [f1 _ (by decide), put_ne (by decide)]); exact hmi
      · (first | (refine rwP (f1 _ (by decide)) ?_; refine rwP (put_ne (by decide)) ?_; try with_reducible rfl) | rw [f1 _ (by decide), put_ne (by decide)]); exact hm'.m5
      · (first | (refine rwP (f1 _ (by decide)) ?_; refine rwP (put_ne (by decide)) ?_; try with_reducible rfl) | rw [f1 _ (by decide), put_ne (by decide)]); exact hm'.m6
  obtain ⟨ti, hmi⟩ := hm.m3
  obtain ⟨tj, hmj⟩ := hm.m4
  refine wpAny_Try_finally (wpAny_execs_cons ?_)
  subst henv
  refine skip_w (cx := .none) (ps := es) (p := e) (v := ve) (hre.more fun _ h => .tail _ (.tail _ h)) hpe hge hze he gE hu hfr hin rfl (.inl ⟨hA, rfl⟩) S rfl hm.m1 hmi me hil (fun k' t' m' s' S' f1 f2 f3 f4 => ?_) fun k' t' m' x s' X' f1 f2 f3 f4 f5 => ?_
  · refine wpAny_execs_nil (wpAny_execs_nil ?_)
    have hloc : LocOk m' er ar lm lu k' j := ⟨(f1 _ (by decide)).trans hm.m1, (f1 _ (by decide)).trans hm.m2, ⟨_, f2⟩, ⟨tj, (f1 _ (by decide)).trans hmj⟩, (f1 _ (by decide)).trans hm.m5, (f1 _ (by decide)).trans hm.m6⟩
    refine final (cx := .none) (τ2 := []) (k' := k') rfl rfl (.inl ⟨hA, rfl⟩) S' hloc ((f1 _ (by decide)).trans me) ((f1 _ (by decide)).trans ma) (fun m2 k2 s2 S2 g1 g2 g3 g4 => ?_) fun m2 k2 x s2 X2 g1 g2 g3 => ?_
    · have := drop_skip f3 (by (first | lia | omega)) (by (first | lia | omega))
      refine hQ ((es.length - k') + (as.length - k2)) s2 (by (first | lia | omega)) ⟨m2, mv, uv, M, U, k', k2, f, rfl, by (first | lia | omega), by (first | lia | omega), by (first | lia | omega), S2, g1, hM, hU, ?_, ?_⟩
      · (first | (refine rwP (f3) ?_; refine rwP (hi') ?_; refine rwP (g2) ?_; try with_reducible rfl) | rw [f3, hi', g2]); exact hR1
      · (first | (refine rwP (f3) ?_; refine rwP (hi') ?_; refine rwP (g2) ?_; try with_reducible rfl) | rw [f3, hi', g2]); exact hR2
    · refine x_noted (.inr X2) hfr hin.head rfl fun s3 X3 => ?_
      refine hE x s3 ⟨.none, m2, mv, uv, M, U, k', k2, .inr X3, g1, hM, hU, ?_, ?_⟩
      · (first | (refine rwQ (hR1) ?_; refine rwP (f3) ?_; refine rwP (hi') ?_; refine rwP (g3) ?_; refine rwP (sldGo_nil2) ?_; try with_reducible rfl) | rw [← hR1, f3, hi', g3, sldGo_nil2])
      · (first | (refine rwQ (hR2) ?_; refine rwP (g2) ?_; refine rwP (g3) ?_; refine rwP (sldGo_nil2) ?_; try with_reducible rfl) | rw [← hR2, g2, g3, sldGo_nil2])
  · obtain ⟨e1, T, fl, rfl, S1⟩ := X'
    rw [hi'] at f3
    have hloc : LocOk m' er ar lm lu k' j := ⟨(f1 _ (by decide)).trans hm.m1, (f1 _ (by decide)).trans hm.m2, ⟨_, f2⟩, ⟨tj, (f1 _ (by decide)).trans hmj⟩, (f1 _ (by decide)).trans hm.m5, (f1 _ (by decide)).trans hm.m6⟩
    refine note_old S1 hfr hin.head rfl fun T2 s2 S2 => ⟨ref_ne_byPass _, ?_⟩
    refine note_old S2 hfr hin.head rfl fun T3 s3 S3 => ?_
    refine flight S3 fun s4 S4 => ?_
    have S4' : SS C ((L, nsP m') :: ([(T3, tbP .none), (e1, exP (.ref T3) .none)] ++ ((lu, lstP uv) :: (lm, lstP mv) :: σ))) ι s4 := S4.perm (List.perm_middle (l₁ := [(T3, tbP .none), (e1, exP (.ref T3) .none)]))
    refine final (A' := A.mark (some (.ref e1))) (cx := .ref e1) (k' := k') rfl rfl (.inr ⟨e1, _, rfl, rfl, .tail _ (.head _)⟩) S4' hloc ((f1 _ (by decide)).trans me) ((f1 _ (by decide)).trans ma) (fun m2 k2 s5 S5 g1 g2 g3 g4 => ?_) fun m2 k2 x s5 X5 g1 g2 g3 => ?_
    · have S5' : SS C ((T3, tbP .none) :: (e1, exP (.ref T3) .none) :: (L, nsP m2) :: (lu, lstP uv) :: (lm, lstP mv) :: σ) ι s5 := S5.perm (List.perm_middle (l₁ := [(T3, tbP .none), (e1, exP (.ref T3) .none)])).symm
      refine x_passOn ⟨e1, T3, _, rfl, S5'⟩ fun s6 X6 => ?_
      refine hE _ s6 ⟨.none, m2, mv, uv, M, U, k', k2, .inr X6, g1, hM, hU, ?_, ?_⟩
      · (first | (refine rwQ (hR1) ?_; refine rwP (f3) ?_; refine rwP (sldGo_nil1) ?_; refine rwP (List.drop_of_length_le f4) ?_; try with_reducible rfl) | rw [← hR1, f3, sldGo_nil1, List.drop_of_length_le f4])
      · (first | (refine rwQ (hR2) ?_; refine rwP (f3) ?_; refine rwP (sldGo_nil1) ?_; refine rwP (g2) ?_; try with_reducible rfl) | rw [← hR2, f3, sldGo_nil1, g2])
    · refine x_noted (.inr X5) hfr hin.head rfl fun s6 X6 => ?_
      refine hE _ s6 ⟨.ref e1, m2, mv, uv, M, U, k', k2, .inr X6, g1, hM, hU, ?_, ?_⟩
      · (first | (refine rwQ (hR1) ?_; refine rwP (f3) ?_; refine rwP (sldGo_nil1) ?_; refine rwP (List.drop_of_length_le f4) ?_; try with_reducible rfl) | rw [← hR1, f3, sldGo_nil1, List.drop_of_length_le f4])
      · (first | (refine rwQ (hR2) ?_; refine rwP (f3) ?_; refine rwP (sldGo_nil1) ?_; refine rwP (g2) ?_; try with_reducible rfl) | rw [← hR2, f3, sldGo_nil1, g2])
end
end Mine
end Part41
section Part42
set_option tactic.hygienic false
open PySem PySem.W PySem.W.X PySem.Calls PyProof.Rows
set_option maxRecDepth 100000
namespace Mine

section
variable {C : Cx} {σ σ' τ : Led} {ι ι' : Imm} {A : Around} {s : Shared} {E : Value → Shared → Prop} {a dx l : Addr} {vs items : Array Value}

theorem LocOk.of {m m' : Str → Option Value} {er ar lm lu : Addr} {i j i' j' : Nat} (h : LocOk m er ar lm lu i j) (f : ∀ y, (y == ("i" : Str)) = false → (y == ("j" : Str)) = false → (y == ("e" : Str)) = false → (y == ("a" : Str)) = false → m' y = m y)
    (hi : ∃ t, m' "i" = some (.int (i' : Nat) t)) (hj : ∃ t, m' "j" = some (.int (j' : Nat) t)) : LocOk m' er ar lm lu i' j' :=
  ⟨(f _ (by decide) (by decide) (by decide) (by decide)).trans h.m1, (f _ (by decide) (by decide) (by decide) (by decide)).trans h.m2, hi, hj, (f _ (by decide) (by decide) (by decide) (by decide)).trans h.m5, (f _ (by decide) (by decide) (by decide) (by decide)).trans h.m6⟩

theorem sld_turn {er ar lm lu L : Addr} {ei ai mv uv : Array Value} {es as M U : List (Str × Str)} {R : List (Str × Str) × List (Str × Str)} {outer : List Env} {m : Str → Option Value} {i j f : Nat} {Q : Flow → Shared → Prop}
    (hre : RowIn C σ er ei) (hra : RowIn C σ ar ai) (hpe : pcs ι ei es) (hpa : pcs ι ai as) (hge : ∀ p ∈ es, goodP p) (hga : ∀ p ∈ as, goodP p) (hze : es.length ≤ 1000000) (hza : as.length ≤ 1000000) (hr1 : R.1.length ≤ 1000000) (hr2 : R.2.length ≤ 1000000)
    (hu : A.units + 64 < cLine) (hfr : A.frames = some (sldEnv L :: outer)) (hin : FrIn A ((L, nsP m) :: σ)) (hA : A.handled = none)
    (S : SS C ((L, nsP m) :: (lu, lstP uv) :: (lm, lstP mv) :: σ) ι s) (hm : LocOk m er ar lm lu i j) (hil : i ≤ es.length) (hjl : j ≤ as.length) (hM : pcs ι mv M) (hU : pcs ι uv U)
    (hR1 : M ++ (sldGo f (es.drop i) (as.drop j)).1 = R.1) (hR2 : U ++ (sldGo f (es.drop i) (as.drop j)).2 = R.2) (hf : (es.length - i) + (as.length - j) ≤ f)
    (hQ : ∀ n s', n < (es.length - i) + (as.length - j) → Turned C σ ι L er ar lm lu es as R n s' → Q .next s')
    (hE : ∀ x s', Flown C σ ι L er ar lm lu es as R x s' → E x s') :
    wpAny (model prg C.w) A (execs sldBody (sldEnv L)) Q E s := by
  obtain ⟨ti, hmi⟩ := hm.m3
  obtain ⟨tj, hmj⟩ := hm.m4
  have hH : HOk A .none ((lu, lstP uv) :: (lm, lstP mv) :: σ) := .inl ⟨hA, rfl⟩
  have hre2 : RowIn C ((lu, lstP uv) :: (lm, lstP mv) :: σ) er ei := hre.more fun _ h => .tail _ (.tail _ h)
  have hra2 : RowIn C ((lu, lstP uv) :: (lm, lstP mv) :: σ) ar ai := hra.more fun _ h => .tail _ (.tail _ h)
  have hz : 2000000 ≤ sizeLine := by (first | (refine rwP (sizeLine_eq) ?_; try with_reducible rfl) | rw [sizeLine_eq]); (first | lia | omega)
  have hMl : mv.size ≤ 1000000 := by
    have := hM.1
    have e := congrArg List.length hR1
    rw [List.length_append] at e
    (first | lia | omega)
  have hUl : uv.size ≤ 1000000 := by
    have := hU.1
    have e := congrArg List.length hR2
    rw [List.length_append] at e
    (first | lia | omega)
  refine wpAny_execs_cons (wpAny_Assign_Name ?_)
  by_cases hi : i < es.length
  case neg =>
    refine row_out hre2 S rfl hm.m1 hmi (by (first | lia | omega)) (by have := hpe.1; (first | lia | omega)) hH fun x s' X => ?_
    refine hE x s' ⟨.none, m, mv, uv, M, U, i, j, .inl X, hm, hM, hU, ?_, ?_⟩
    · (first | (refine rwQ (hR1) ?_; refine rwP (List.drop_of_length_le (by (first | lia | omega) : es.length ≤ i)) ?_; refine rwP (sldGo_nil1) ?_; try with_reducible rfl) | rw [← hR1, List.drop_of_length_le (by (first | lia | omega) : es.length ≤ i), sldGo_nil1])
    · (first | (refine rwQ (hR2) ?_; refine rwP (List.drop_of_length_le (by (first | lia | omega) : es.length ≤ i)) ?_; refine rwP (sldGo_nil1) ?_; try with_reducible rfl) | rw [← hR2, List.drop_of_length_le (by (first | lia | omega) : es.length ≤ i), sldGo_nil1])
  obtain ⟨ve, eve, hve⟩ := hpe.at hi
  refine row_at hre2 S rfl hm.m1 hmi (by (first | lia | omega)) eve ?_
  refine n_store S .head fun s1 S1 => ?_
  have hm1 : LocOk (put m "e" ve) er ar lm lu i j := hm.of (fun y _ _ h _ => put_ne h) ⟨ti, (put_ne (by decide)).trans hmi⟩ ⟨tj, (put_ne (by decide)).trans hmj⟩
  refine wpAny_execs_cons (wpAny_Assign_Name ?_)
  have ed : es.drop i = es[i] :: es.drop (i + 1) := List.drop_eq_getElem_cons hi
  by_cases hj : j < as.length
  case neg =>
    refine row_out hra2 S1 rfl hm1.m2 ((put_ne (by decide)).trans hmj) (by (first | lia | omega)) (by have := hpa.1; (first | lia | omega)) hH fun x s' X => ?_
    refine hE x s' ⟨.none, _, mv, uv, M, U, i, j, .inl X, hm1, hM, hU, ?_, ?_⟩
    · (first | (refine rwQ (hR1) ?_; refine rwP (List.drop_of_length_le (by (first | lia | omega) : as.length ≤ j)) ?_; refine rwP (sldGo_nil2) ?_; try with_reducible rfl) | rw [← hR1, List.drop_of_length_le (by (first | lia | omega) : as.length ≤ j), sldGo_nil2])
    · (first | (refine rwQ (hR2) ?_; refine rwP (List.drop_of_length_le (by (first | lia | omega) : as.length ≤ j)) ?_; refine rwP (sldGo_nil2) ?_; try with_reducible rfl) | rw [← hR2, List.drop_of_length_le (by (first | lia | omega) : as.length ≤ j), sldGo_nil2])
  obtain ⟨va, eva, hva⟩ := hpa.at hj
  have ad : as.drop j = as[j] :: as.drop (j + 1) := List.drop_eq_getElem_cons hj
  refine row_at hra2 S1 rfl hm1.m2 ((put_ne (by decide)).trans hmj) (by (first | lia | omega)) eva ?_
  refine n_store S1 .head fun s2 S2 => ?_
  have me2 : put (put m "e" ve) "a" va "e" = some ve := (put_ne (by decide)).trans put_same
  have ma2 : put (put m "e" ve) "a" va "a" = some va := put_same
  have hm2 : LocOk (put (put m "e" ve) "a" va) er ar lm lu i j := hm1.of (fun y _ _ _ h => put_ne h) ⟨ti, by (first | (refine rwP (put_ne (by decide)) ?_; refine rwP (put_ne (by decide)) ?_; try with_reducible rfl) | rw [put_ne (by decide), put_ne (by decide)]); exact hmi⟩ ⟨tj, by (first | (refine rwP (put_ne (by decide)) ?_; refine rwP (put_ne (by decide)) ?_; try with_reducible rfl) | rw [put_ne (by decide), put_ne (by decide)]); exact hmj⟩
  generalize put (put m "e" ve) "a" va = m2 at S2 me2 ma2 hm2
  have hin2 : ∀ mm P1 P2, FrIn A ((L, nsP mm) :: (lu, P1) :: (lm, P2) :: σ) := fun mm P1 P2 => (hin.head (m' := mm)).more fun x h => by
    rcases List.mem_cons.mp h with q | h
    · exact q ▸ .head _
    · exact .tail _ (.tail _ (.tail _ h))
  have gE : goodP es[i] := hge _ (List.getElem_mem hi)
  have gA : goodP as[j] := hga _ (List.getElem_mem hj)
  have hu' : A.units < cLine := by (first | lia | omega)
  obtain ⟨f, rfl⟩ : ∃ f', f = f' + 1 := ⟨f - 1, by (first | lia | omega)⟩
  rw [ed, ad] at hR1 hR2
  unfold sldGo at hR1 hR2
  obtain ⟨ti2, hmi2⟩ := hm2.m3
  obtain ⟨tj2, hmj2⟩ := hm2.m4
  refine wpAny_execs_cons (wpAny_If (wpAny_isTrue_Compare1 ?_))
  refine n_local S2 (.head _) me2 (n_local S2 (.head _) ma2 (cmp_lt S2 hve hva hu' (wpAny_truthy_bool ?_)))
  cases q1 : ltP es[i] as[j] with
  | true =>
    (first | refine wpIf1 ?_ | simp only [if_true])
    simp only [q1, if_true] at hR1 hR2
    refine wpAny_execs_cons (wpAny_Expr_any ?_)
    refine n_append S2 (.head _) hm2.m5 (.tail _ (.tail _ (.head _))) (n_local S2 (.head _) me2 ⟨_, _, _, S2, .tail (.tail .head), by (first | lia | omega), fun s3 S3 => ?_⟩)
    have hM3 := hM.push hve
    refine wpAny_execs_cons (aug1 S3 rfl hmi2 fun t4 s4 S4 => ?_)
    have hm4 : LocOk (put m2 "i" (.int (i + 1 : Nat) t4)) er ar lm lu (i + 1) j := hm2.of (fun y h _ _ _ => put_ne h) ⟨_, put_same⟩ ⟨tj2, (put_ne (by decide)).trans hmj2⟩
    have me4 : put m2 "i" (.int (i + 1 : Nat) t4) "e" = some ve := (put_ne (by decide)).trans me2
    refine wpAny_execs_cons (skip_w (cx := .none) (ps := es) (p := es[i]) (v := ve) (hre.more fun _ h => .tail _ (.tail _ h)) hpe hge hze hve gE hu hfr (hin2 _ _ _) rfl (.inl ⟨hA, rfl⟩) S4 rfl hm4.m1 put_same me4 hi (fun k' t' m' s' S' f1 f2 f3 f4 => ?_) fun k' t' m' x s' X' f1 f2 f3 f4 f5 => ?_)
    · refine wpAny_execs_nil (wpAny_execs_nil ?_)
      have := drop_skip f3 (by (first | lia | omega)) (by (first | lia | omega))
      refine hQ ((es.length - k') + (as.length - j)) s' (by (first | lia | omega)) ⟨m', _, uv, _, U, k', j, f, rfl, by (first | lia | omega), by (first | lia | omega), by (first | lia | omega), S', hm4.of (fun y h _ _ _ => f1 y h) ⟨_, f2⟩ ⟨tj2, ?_⟩, hM3, hU, ?_, ?_⟩
      · (first | (refine rwP (f1 _ (by decide)) ?_; refine rwP (put_ne (by decide)) ?_; try with_reducible rfl) | rw [f1 _ (by decide), put_ne (by decide)]); exact hmj2
      · (first | (refine rwP (f3) ?_; refine rwP (ad) ?_; refine rwP (List.append_assoc) ?_; try with_reducible rfl) | rw [f3, ad, List.append_assoc]); exact hR1
      · (first | (refine rwP (f3) ?_; refine rwP (ad) ?_; try with_reducible rfl) | rw [f3, ad]); exact hR2
    · refine hE x s' ⟨.none, m', _, uv, _, U, k', j, .inr X', hm4.of (fun y h _ _ _ => f1 y h) ⟨_, f2⟩ ⟨tj2, ?_⟩, hM3, hU, ?_, ?_⟩
      · (first | (refine rwP (f1 _ (by decide)) ?_; refine rwP (put_ne (by decide)) ?_; try with_reducible rfl) | rw [f1 _ (by decide), put_ne (by decide)]); exact hmj2
      · rw [f3, sldGo_nil1] at hR1
        (first | (refine rwQ (hR1) ?_; refine rwP (List.drop_of_length_le f4) ?_; refine rwP (List.append_assoc) ?_; try with_reducible rfl) | rw [← hR1, List.drop_of_length_le f4, List.append_assoc]); rfl
      · rw [f3, sldGo_nil1] at hR2
        (first | (refine rwQ (hR2) ?_; refine rwP (ad) ?_; try with_reducible rfl) | rw [← hR2, ad])
  | false =>
    (first | refine wpIf0 ?_ | simp only [Bool.false_eq_true, if_false])
    simp only [q1, Bool.false_eq_true, if_false] at hR1 hR2
    refine wpAny_execs_cons (wpAny_If (wpAny_isTrue_Compare1 ?_))
    refine n_local S2 (.head _) me2 (n_local S2 (.head _) ma2 (cmp_gt S2 hve hva hu' (wpAny_truthy_bool ?_)))
    cases q2 : ltP as[j] es[i] with
    | true =>
      (first | refine wpIf1 ?_ | simp only [if_true])
      simp only [q2, if_true] at hR1 hR2
      refine wpAny_execs_cons (wpAny_Expr_any ?_)
      refine n_append S2 (.head _) hm2.m6 (.tail _ (.head _)) (n_local S2 (.head _) ma2 ⟨_, _, _, S2, .tail .head, by (first | lia | omega), fun s3 S3 => ?_⟩)
      have hU3 := hU.push hva
      refine wpAny_execs_cons (aug1 S3 rfl hmj2 fun t4 s4 S4 => ?_)
      have hm4 : LocOk (put m2 "j" (.int (j + 1 : Nat) t4)) er ar lm lu i (j + 1) := hm2.of (fun y _ h _ _ => put_ne h) ⟨ti2, (put_ne (by decide)).trans hmi2⟩ ⟨_, put_same⟩
      have ma4 : put m2 "j" (.int (j + 1 : Nat) t4) "a" = some va := (put_ne (by decide)).trans ma2
      refine wpAny_execs_cons (skip_w (cx := .none) (ps := as) (p := as[j]) (v := va) (hra.more fun _ h => .tail _ (.tail _ h)) hpa hga hza hva gA hu hfr (hin2 _ _ _) rfl (.inl ⟨hA, rfl⟩) S4 rfl hm4.m2 put_same ma4 hj (fun k' t' m' s' S' f1 f2 f3 f4 => ?_) fun k' t' m' x s' X' f1 f2 f3 f4 f5 => ?_)
      · refine wpAny_execs_nil (wpAny_execs_nil (wpAny_execs_nil ?_))
        have := drop_skip f3 (by (first | lia | omega)) (by (first | lia | omega))
        refine hQ ((es.length - i) + (as.length - k')) s' (by (first | lia | omega)) ⟨m', mv, _, M, _, i, k', f, rfl, by (first | lia | omega), by (first | lia | omega), by (first | lia | omega), S', hm4.of (fun y _ h _ _ => f1 y h) ⟨ti2, ?_⟩ ⟨_, f2⟩, hM, hU3, ?_, ?_⟩
        · (first | (refine rwP (f1 _ (by decide)) ?_; refine rwP (put_ne (by decide)) ?_; try with_reducible rfl) | rw [f1 _ (by decide), put_ne (by decide)]); exact hmi2
        · (first | (refine rwP (f3) ?_; refine rwP (ed) ?_; try with_reducible rfl) | rw [f3, ed]); exact hR1
        · (first | (refine rwP (f3) ?_; refine rwP (ed) ?_; refine rwP (List.append_assoc) ?_; try with_reducible rfl) | rw [f3, ed, List.append_assoc]); exact hR2
      · refine hE x s' ⟨.none, m', mv, _, M, _, i, k', .inr X', hm4.of (fun y _ h _ _ => f1 y h) ⟨ti2, ?_⟩ ⟨_, f2⟩, hM, hU3, ?_, ?_⟩
        · (first | (refine rwP (f1 _ (by decide)) ?_; refine rwP (put_ne (by decide)) ?_; try with_reducible rfl) | rw [f1 _ (by decide), put_ne (by decide)]); exact hmi2
        · rw [f3, sldGo_nil2] at hR1
          (first | (refine rwQ (hR1) ?_; refine rwP (ed) ?_; try with_reducible rfl) | rw [← hR1, ed])
        · rw [f3, sldGo_nil2] at hR2
          (first | (refine rwQ (hR2) ?_; refine rwP (List.drop_of_length_le f4) ?_; refine rwP (List.append_assoc) ?_; try with_reducible rfl) | rw [← hR2, List.drop_of_length_le f4, List.append_assoc]); rfl
    | false =>
      (first | refine wpIf0 ?_ | simp only [Bool.false_eq_true, if_false])
      simp only [q2, Bool.false_eq_true, if_false] at hR1 hR2
      refine wpAny_execs_cons (aug1 S2 rfl hmi2 fun t4 s4 S4 => ?_)
      have hm4 : LocOk (put m2 "i" (.int (i + 1 : Nat) t4)) er ar lm lu (i + 1) j := hm2.of (fun y h _ _ _ => put_ne h) ⟨_, put_same⟩ ⟨tj2, (put_ne (by decide)).trans hmj2⟩
      have me4 : put m2 "i" (.int (i + 1 : Nat) t4) "e" = some ve := (put_ne (by decide)).trans me2
      have ma4 : put m2 "i" (.int (i + 1 : Nat) t4) "a" = some va := (put_ne (by decide)).trans ma2
      refine wpAny_execs_cons (sld_both hre hra hpe hpa hge hga hze hza hu hfr (hin2 _ _ _) hA rfl S4 hm4 me4 ma4 hve hva ed ad hM hU hR1 hR2 hf (fun n s' hn ht => ?_) hE)
      exact wpAny_execs_nil (wpAny_execs_nil (wpAny_execs_nil (hQ n s' hn ht)))
end
end Mine
end Part42
section Part43
set_option tactic.hygienic false
open PySem PySem.W PySem.W.X PySem.Calls PyProof.Rows
set_option maxRecDepth 100000
namespace Mine

section
variable {C : Cx} {σ σ' τ : Led} {ι ι' : Imm} {A : Around} {s : Shared} {E : Value → Shared → Prop} {a dx l : Addr} {vs items : Array Value}
theorem pcs.app {vs us : Array Value} {ps qs : List (Str × Str)} (x : pcs ι vs ps) (y : pcs ι us qs) : pcs ι (vs ++ us) (ps ++ qs) := by
  refine ⟨by (first | (refine rwP (List.length_append) ?_; refine rwP (Array.size_append) ?_; refine rwP (x.1) ?_; refine rwP (y.1) ?_; try with_reducible rfl) | rw [List.length_append, Array.size_append, x.1, y.1]), fun i p e => ?_⟩
  by_cases h : i < ps.length
  · rw [List.getElem?_append_left h] at e
    obtain ⟨v, a, b⟩ := x.2 i p e
    exact ⟨v, by (first | (refine rwP (Array.getElem?_append_left (by rw [← x.1]; exact h)) ?_; try with_reducible rfl) | rw [Array.getElem?_append_left (by rw [← x.1]; exact h)]); exact a, b⟩
  · rw [List.getElem?_append_right (by (first | lia | omega))] at e
    obtain ⟨v, a, b⟩ := y.2 _ p e
    exact ⟨v, by (first | (refine rwP (Array.getElem?_append_right (by have := x.1; (first | lia | omega))) ?_; refine rwQ (x.1) ?_; try with_reducible rfl) | rw [Array.getElem?_append_right (by have := x.1; (first | lia | omega)), ← x.1]); exact a, b⟩
theorem sld_c {n : Nat} {er ar : Addr} {ei ai : Array Value} {es as : List (Str × Str)} {Q : Value → Shared → Prop} (X : CxOk C) (KL' : KSld C.K) (R : Room (n + 1) A) (hn : 4 ≤ n) (hin : FrIn A σ) (S : SS C σ ι s)
    (hre : RowIn C σ er ei) (hra : RowIn C σ ar ai) (hpe : pcs ι ei es) (hpa : pcs ι ai as) (hge : ∀ p ∈ es, goodP p) (hga : ∀ p ∈ as, goodP p) (hze : es.length ≤ 1000000) (hza : as.length ≤ 1000000)
    (h : ∀ lm lu t mv uv ι' s', ι ⊆ ι' → (t, pieceObj (.ref lm) (.ref lu)) ∈ ι' → SS C ((lu, lstP uv) :: (lm, lstP mv) :: σ) ι' s' → pcs ι' mv (sldS es as).1 → pcs ι' uv (sldS es as).2 → Q (.ref t) s') :
    wpAny (model prg C.w) A (call (.ref 21) [.ref er, .ref ar] []) Q E s := by
  refine call_fn (binds := [("expected", .ref er), ("actual", .ref ar)]) X KL'.fSld R S (fun _ _ _ _ _ => BindsTo.of_eq rfl) fun L s1 S1 R1 => ?_
  have hin1 : ∀ m, FrIn (A.deeper (sldEnv L)) ((L, nsP m) :: σ) := fun m => hin.deeper (by intro q; cases q) rfl
  obtain ⟨outer, hfr⟩ := R.f
  have hfr1 : (A.deeper (sldEnv L)).frames = some (sldEnv L :: outer) := Around.frames_deeper hfr
  show wpAny (model prg C.w) (A.deeper (sldEnv L)) (execs (bodyOf (topS 1)) (sldEnv L)) _ _ s1
  have R1 : Room n (A.deeper (sldEnv L)) := R1
  have hA1 := R1.h
  generalize A.deeper (sldEnv L) = A1 at hin1 hfr1 hA1 R1 ⊢
  have hu1 : A1.units + 64 < cLine := by have := R1.u; unfold cLine; (first | lia | omega)
  have hsl := sldGo_le (es.length + as.length) es as
  refine wpAny_execs_cons (wpAny_Assign_two (wpAny_Constant_int ?_))
  have S1' : SS C _ _ { s1 with toks := s1.toks + 1 } := S1
  refine wpAny_assign_Name (n_store S1' .head fun s2 S2 => wpAny_assign_Name (n_store S2 .head fun s3 S3 => ?_))
  refine wpAny_execs_cons (wpAny_Assign_Name (List_ (sp_nil (n_newList S3 fun lm s4 S4 => ?_))))
  refine n_store S4 (.tail .head) fun s5 S5 => ?_
  refine wpAny_execs_cons (wpAny_Assign_Name (List_ (sp_nil (n_newList S5 fun lu s6 S6 => ?_))))
  refine n_store S6 (.tail (.tail .head)) fun s7 S7 => ?_
  have S8 := S7.perm (List.perm_middle (l₁ := [(lu, lstP #[]), (lm, lstP #[])]))
  have hloc : LocOk (put (put (put (put (fun x => List.lookup x [("actual", Value.ref ar), ("expected", Value.ref er)]) "i" (.int 0 s1.toks)) "j" (.int 0 s1.toks)) "missing" (.ref lm)) "unexpected" (.ref lu)) er ar lm lu 0 0 :=
    ⟨rfl, rfl, ⟨s1.toks, rfl⟩, ⟨s1.toks, rfl⟩, rfl, rfl⟩
  refine wpAny_execs_cons (wpAny_While (codeAny_whileLoop (fun n s => Turned C σ ι L er ar lm lu es as (sldS es as) n s) (fun k s hI => ?_) (es.length + as.length)
    ⟨_, #[], #[], [], [], 0, 0, es.length + as.length, by (first | lia | omega), Nat.le_refl _, Nat.zero_le _, Nat.zero_le _, S8, hloc, pcs.nil, pcs.nil, rfl, rfl⟩))
  refine gen_P fun Pg kg => ?_
  obtain ⟨m, mv, uv, M, U, i, j, f, rfl, hf, hi, hj, S, hm, hM, hU, hR1, hR2⟩ := hI
  refine kg ?_
  clear kg
  refine isTrue_plain (Constant_bool (wpAny_truthy_bool ?_))
  (first | (refine rwP (if_pos rfl) ?_; try with_reducible rfl) | rw [if_pos rfl])
  refine wpAny_execs_cons (wpAny_Try_except ?_)
  refine sld_turn hre hra hpe hpa hge hga hze hza (by have := hsl.1; show (sldGo _ _ _).1.length ≤ _; (first | lia | omega)) (by have := hsl.2; show (sldGo _ _ _).2.length ≤ _; (first | lia | omega)) hu1 hfr1 (hin1 m) hA1 S hm hi hj hM hU hR1 hR2 hf (fun n s' hn ht => ?_) fun x s' hx => ?_
  · exact wpAny_execs_nil (wpAny_execs_nil ⟨n, hn, ht⟩)
  · refine gen_P fun Pg kg => ?_
    obtain ⟨cx, m', mv', uv', M', U', i', j', hX, hm', hM', hU', e1, e2⟩ := hx
    refine kg ?_
    clear kg
    have hin2 : FrIn A1 ((L, nsP m') :: (lu, lstP uv') :: (lm, lstP mv') :: σ) := (hin1 m').more fun x h => by
      rcases List.mem_cons.mp h with q | h
      · exact q ▸ .head _
      · exact .tail _ (.tail _ (.tail _ h))
    refine x_note hX hfr1 hin2 rfl fun s2 X2 => x_flight X2 fun s3 X3 => ?_
    refine gen_P fun Pg kg => ?_
    obtain ⟨ti, hmi⟩ := hm'.m3
    obtain ⟨tj, hmj⟩ := hm'.m4
    refine kg ?_
    clear kg
    have l1 := congrArg List.length e1
    have l2 := congrArg List.length e2
    rw [List.length_append] at l1 l2
    have hs1 : (sldS es as).1.length ≤ es.length := hsl.1
    have hs2 : (sldS es as).2.length ≤ as.length := hsl.2
    refine handled_x X KL' hre hra (by have := hpe.1; (first | lia | omega)) (by have := hpa.1; (first | lia | omega)) (by have := hM'.1; (first | lia | omega)) (by have := hU'.1; (first | lia | omega)) X3 hm'.m1 hm'.m2 hmi hmj hm'.m5 hm'.m6 fun s4 S4 => ?_
    refine wpAny_execs_cons (wpAny_Return_some (Tuple_ (sp_cons (n_local S4 (.head _) hm'.m5 (sp_cons (n_local S4 (.head _) hm'.m6 (sp_nil (wpAny_newTuple ?_))))))))
    have S5 := S4.allocT (o := pieceObj (.ref lm) (.ref lu)) rfl (pieceObj_tup _ _)
    refine h lm lu _ _ _ _ _ (fun _ h => .tail _ h) (.head _) S5.tl ?_ ?_
    · (first | (refine rwQ (e1) ?_; try with_reducible rfl) | rw [← e1]); exact (hM'.app (hpe.drop i')).mono fun _ h => .tail _ h
    · (first | (refine rwQ (e2) ?_; try with_reducible rfl) | rw [← e2]); exact (hU'.app (hpa.drop j')).mono fun _ h => .tail _ h
end
end Mine
end Part43
section Part44
set_option tactic.hygienic false
open PySem PySem.W PySem.W.X PySem.Calls PyProof.Rows
set_option maxRecDepth 100000
namespace Mine

/-! ## data read deeply -/
noncomputable def okD (n : Nat) (d : PyData) : Prop := d.canLay0 = true ∧ d.depth ≤ n
theorem okD_all {n : Nat} : ∀ {ds : List PyData}, (∀ d ∈ ds, okD n d) → PyData.canLayAll0 ds = true ∧ PyData.depthAll ds ≤ n
  | [], _ => by simp [PyData.canLayAll0, PyData.depthAll]
  | d :: ds, h => by
    obtain ⟨a, b⟩ := okD_all fun e he => h e (.tail _ he)
    obtain ⟨c, e⟩ := h d (.head _)
    refine ⟨by simp [PyData.canLayAll0, a, c], ?_⟩
    simp only [PyData.depthAll]
    (first | lia | omega)
theorem okD_list {n : Nat} {ds : List PyData} (h : ∀ d ∈ ds, okD n d) : okD (n + 1) (.list ds) := by
  obtain ⟨a, b⟩ := okD_all h
  refine ⟨by simpa [PyData.canLay0] using a, ?_⟩
  simp only [PyData.depth]
  (first | lia | omega)
theorem okD_tuple {n : Nat} {ds : List PyData} (h : ∀ d ∈ ds, okD n d) : okD (n + 1) (.tuple ds) := by
  obtain ⟨a, b⟩ := okD_all h
  refine ⟨by simpa [PyData.canLay0] using a, ?_⟩
  simp only [PyData.depth]
  (first | lia | omega)
theorem okD_int {i : Int} : okD 1 (.int i) := ⟨by simp [PyData.canLay0], by simp [PyData.depth]⟩
theorem okD_bool {b : Bool} : okD 1 (.bool b) := ⟨by simp [PyData.canLay0], by simp [PyData.depth]⟩
theorem okD_str {x : Str} (h : PyData.strOk x = true) : okD 1 (.str x) := ⟨by simpa [PyData.canLay0] using h, by simp [PyData.depth]⟩
theorem okD_piece {p : Str × Str} (h : goodP p) : okD 2 (pieceD p) := okD_tuple fun d hd => by
  rcases List.mem_cons.mp hd with rfl | hd
  · exact okD_str h.1
  · (first | (refine rwP (List.mem_singleton.mp hd) ?_; try with_reducible rfl) | rw [List.mem_singleton.mp hd]); exact okD_str h.2
theorem okD.shaped {n : Nat} {d : PyData} (h : okD n d) (hn : n ≤ 64) : PySem.SeqAt.shaped d = true := by
  unfold PySem.SeqAt.shaped
  (first | (refine rwP (h.1) ?_; refine rwP (Bool.true_and) ?_; refine rwP (decide_eq_true_eq) ?_; try with_reducible rfl) | rw [h.1, Bool.true_and, decide_eq_true_eq])
  exact Nat.le_trans h.2 hn
theorem okD.refl {n : Nat} {d : PyData} (h : okD n d) : PyData.eqv d d = true := by
  first | exact PySem.P3.eqv_refl d h.1 | exact PySem.SeqAt.eqv_refl d h.1 | exact PySem.PyData.eqv_refl d h.1

theorem reads_all {h : Heap} : ∀ {vs : List Value} {ds : List PyData}, vs.length = ds.length → (∀ (i : Nat) v d, vs[i]? = some v → ds[i]? = some d → ∃ as, Reads h v d as) → ∃ as, ReadsAll h vs ds as
  | [], [], _, _ => ⟨_, .nil⟩
  | [], _ :: _, hl, _ => by simp at hl
  | _ :: _, [], hl, _ => by simp at hl
  | v :: vs, d :: ds, hl, r => by
    obtain ⟨as, ha⟩ := reads_all (vs := vs) (ds := ds) (by simpa using hl) fun i w e hw he => r (i + 1) w e (by simpa using hw) (by simpa using he)
    obtain ⟨bs, hb⟩ := r 0 v d rfl rfl
    exact ⟨_, .cons hb ha⟩

section
variable {C : Cx} {σ σ' τ : Led} {ι ι' : Imm} {A : Around} {s : Shared} {E : Value → Shared → Prop} {a dx l : Addr} {vs items : Array Value}

theorem reads_list {ds : List PyData} (S : SS C σ ι s) (hl : (l, lstP vs) ∈ σ) (hz : vs.size = ds.length) (r : ∀ (i : Nat) v d, vs[i]? = some v → ds[i]? = some d → ∃ as, Reads s.heap v d as) : ∃ as, Reads s.heap (.ref l) (.list ds) as := by
  refine gen_P fun Pg kg => ?_
  obtain ⟨o, e, ⟨q1, q2⟩, n, q3⟩ := S.at hl
  obtain ⟨as, h⟩ := reads_all (h := s.heap) (vs := vs.toList) (ds := ds) (by simpa using hz) fun i v d hv hd => r i v d (by simpa using hv) hd
  refine kg ?_
  clear kg
  exact ⟨_, .list e q1 q3 h⟩
theorem reads_pieces {ps : List (Str × Str)} (S : SS C σ ι s) (hl : (l, lstP vs) ∈ σ) (hp : pcs ι vs ps) : ∃ as, Reads s.heap (.ref l) (.list (ps.map pieceD)) as := by
  refine reads_list S hl (by (first | (refine rwP (List.length_map) ?_; try with_reducible rfl) | rw [List.length_map]); exact hp.1.symm) fun i v d hv hd => ?_
  rw [List.getElem?_map] at hd
  cases e : ps[i]? with
  | none => rw [e] at hd; cases hd
  | some p =>
    rw [e] at hd
    obtain ⟨w, hw, hpw⟩ := hp.2 i p e
    have ew := Option.some.inj (hw.symm.trans hv)
    subst ew
    exact ⟨_, (Option.some.inj hd) ▸ hpw.reads S⟩
theorem okD_pieces {ps : List (Str × Str)} (h : ∀ p ∈ ps, goodP p) : okD 3 (.list (ps.map pieceD)) := okD_list fun d hd => by
  obtain ⟨p, hp, rfl⟩ := List.mem_map.mp hd
  exact okD_piece (h p hp)

/-! ## a row: a list, or an accumulator -/
structure RowK (C : Cx) (σ : Led) (row : Addr) (items : Array Value) : Prop where
  mem : ∃ P, (row, P) ∈ σ ∧ ∀ o, P o → seqP items o
  like : RowIn C σ row items
  iter : ∀ {A : Around} {E : Value → Shared → Prop} {s : Shared} {ι : Imm} {Q : Value → Shared → Prop} {σ' : Led}, σ ⊆ σ' → SS C σ' ι s → (∀ it s', SS C ((it, liP row 0) :: σ') ι s' → Q (.ref it) s') → wpAny (model prg C.w) A (pyIter (.ref row)) Q E s
theorem RowK.more {row : Addr} (x : RowK C σ row items) (h : σ ⊆ σ') : RowK C σ' row items :=
  ⟨let ⟨P, a, b⟩ := x.mem; ⟨P, h a, b⟩, RowIn.more x.like h, fun hs S q => x.iter (fun _ m => hs (h m)) S q⟩
theorem RowK.lst (h : (l, lstP items) ∈ σ) : RowK C σ l items := ⟨⟨_, h, fun _ => lstP_seq⟩, RowIn.lst h, fun hs S q => iter_list S (hs h) q⟩
theorem RowK.acc (X : CxOk C) (KK : AllK C.K) (h : (l, accP dx items) ∈ σ) : RowK C σ l items := ⟨⟨_, h, fun _ => accP_seq⟩, RowIn.acc X KK.A KK.L h, fun hs S q => iter_acc X KK.A KK.T S (hs h) q⟩

theorem take_snoc {i : Nat} {v : Value} (h : items[i]? = some v) : (items.toList.take (i + 1)).toArray = (items.toList.take i).toArray.push v := by
  (first | (refine rwP (List.take_add_one) ?_; refine rwP (Array.getElem?_toList) ?_; refine rwP (h) ?_; try with_reducible rfl) | rw [List.take_add_one, Array.getElem?_toList, h]); simp

/-- [piece for piece in x] -/
theorem comp_copy {x y : Str} {row : Addr} {env : Env} {scope : Scope} {m : Str → Option Value} {p1 p2 p3 pos : Pos} {Q : Value → Shared → Prop} (S : SS C σ ι s) (hm : (env.locals, nsP m) ∈ σ) (hx : m x = some (.ref row)) (hr : RowK C σ row items) (hA : A.handled = none)
    (hz : items.size ≤ sizeLine) (h : ∀ l s', SS C ((l, lstP items) :: σ) ι s' → Q (.ref l) s')
    (hk : autoParam (env.scope.kind = .function) tacRfl) (hl : autoParam (env.kindOf x = some .local) tacRfl) (hd : autoParam ((x == ("__debug__" : Str)) = false) tacDec) (hd2 : autoParam ((y == ("__debug__" : Str)) = false) tacDec)
    (hsc : scope = { kind := .function, names := [(".0", .local), (y, .local)], isGenerator := false, isCoroutine := false, more := [] } := by rfl)
    (hclos : autoParam (closureFor scope env = pure []) tacRfl) (hnm : autoParam (∀ z ∈ scope.names, z.2 = .local → scope.names.lookup z.1 = some .local) tacDec) (hcell : autoParam (∀ z ∈ scope.names, z.2 ≠ .cell) tacDec)
    (hkl : autoParam (∀ D, (compEnvC scope [] D env).kindOf y = some .local) tacRfl1)
    (hs : autoParam (∀ v, foldedSetIterable (.Name x p3) env v = pure v) tacRfl1) :
    wpAny (model prg C.w) A (eval (.ListComp (.Name y p1) [⟨.Name y p2, .Name x p3, [], 0⟩] scope pos) env) Q E s := by
  refine comp_eval (cl := []) (n_local S hm hx (hr.iter (fun _ h => h) S fun it s2 S2 => ?_) hk hl hd) hA hclos (fun _ _ => rfl) hcell (by (first | (refine rwP (hsc) ?_; try with_reducible rfl) | rw [hsc])) hnm hs
  refine ⟨it, liP row, items.size, _, _, fun i out σ' ι' => σ' = σ ∧ ι ⊆ ι' ∧ out = (items.toList.take i).toArray, σ, ι, rfl, S2, ⟨rfl, fun _ h => h, by simp⟩, li_walker, fun i out m' D acc σ' ι' hI => ?_, fun i out σ' ι' hi hI => ?_, fun i out m' D acc σ' ι1 ι2 v s' E' hi hI hι hv S3 => ?_, fun out acc σ' ι' s' hI S3 => ?_⟩
  · obtain ⟨rfl, _⟩ := hI
    obtain ⟨P, hP, hs⟩ := hr.mem
    exact ⟨P, .tail _ (.tail _ hP), hs⟩
  · obtain ⟨_, _, rfl⟩ := hI
    simp; (first | lia | omega)
  · obtain ⟨rfl, hιι, rfl⟩ := hI
    refine wpAny_assign_Name (n_store S3 (.tail .head) (fun s4 S4 => ?_) (hkl D) (by (first | (refine rwP (hsc) ?_; try with_reducible rfl) | rw [hsc]); rfl))
    refine n_local S4 (.tail _ (.head _)) put_same ?_ (by (first | (refine rwP (hsc) ?_; try with_reducible rfl) | rw [hsc]); rfl) (hkl D) hd2
    exact ⟨_, _, _, S4, rfl, fun _ h => hι (hιι h), (take_snoc hv).symm⟩
  · obtain ⟨rfl, hιι, rfl⟩ := hI
    rw [List.take_of_length_le (by simp)] at S3
    exact h acc s' (S3.less hιι)

/-- (x, y)[::-1] -/
theorem tup_rev {t sl : Addr} {v1 v2 : Value} {u : Tok} {Q : Value → Shared → Prop} (ht : IsTup s.heap t #[v1, v2]) (hs : s.heap.IsSliceOf sl .none .none (.int (-1) u))
    (h : Q (.ref s.heap.objs.size) { s with heap := s.heap.push (pieceObj v2 v1) }) : wpAny (model prg C.w) A (getItem (.ref t) (.ref sl)) Q E s := by
  refine gen_P fun Pg kg => ?_
  obtain ⟨os, hos, hcs, hds⟩ := id hs
  refine kg ?_
  clear kg
  have hTs : s.TypeIs (.ref sl) "slice" := ⟨os, hos, hcs⟩
  unfold getItem
  try with_reducible refine wpAny_holding ?_
  first | refine wpAny_bind (wpAny_pure ?_) | skip
  refine wpAny_bind (wpAny_sequenceKey (T := "tuple") (by obtain ⟨o, a, b, _⟩ := ht; exact ⟨o, a, b⟩) (by decide) ?_)
  refine wpAny_bind (wpAny_callSpecial?_slot (name := Str.ofString "__getitem__") (T := "tuple") (by obtain ⟨o, a, b, _⟩ := ht; exact ⟨o, a, b⟩) slot_tuple_getitem
    (wpAny_call_entry slot_tuple_getitem (by obtain ⟨o, a, b, _⟩ := ht; exact ⟨o, a, b⟩) entry_tuple_getitem ?_ (args_tuple_getitem _ _)))
  show wpAny _ _ (Builtin.Tuple.tupleItemsOf (.ref t) >>= _) _ _ s
  refine wpAny_bind (tupleItemsOf_ ht ?_)
  refine wpAny_bind (wpAny_typeOf hTs ?_)
  (first | (refine rwP (if_pos (by decide)) ?_; try with_reducible rfl) | rw [if_pos (by decide)])
  refine wpAny_bind ?_
  have ap : ∀ {Q : Int × Int × Nat → Shared → Prop}, Q (1, -1, 2) s → wpAny (model prg C.w) A.in1 (Builtin.Slice.sliceApplied (.ref sl) (pure (2 : Int))) Q E s := fun {Q} q => by
    unfold Builtin.Slice.sliceApplied Builtin.Slice.sliceFields
    refine wpAny_bind (wpAny_bind (wpAny_field hos hds (x := .none) rfl (wpAny_bind (wpAny_field hos hds (x := .none) rfl (wpAny_bind (wpAny_field hos hds (x := .int (-1) u) rfl (wpAny_pure ?_)))))))
    refine wpAny_bind (slicePart_int ?_)
    show wpAny _ _ (if ((-1 : Int) == 0) = true then _ else _) _ _ s
    (first | (refine rwP (if_neg (by decide)) ?_; try with_reducible rfl) | rw [if_neg (by decide)])
    refine wpAny_bind (slicePart_none (wpAny_bind (slicePart_none (wpAny_bind (wpAny_pure ?_)))))
    exact wpAny_pure q
  refine ap ?_
  show wpAny _ _ (if ((1 : Int) == 0 && (-1 : Int) == 1 && (2 == 2)) = true then _ else (Builtin.Tuple.tupleExact #[v2, v1] >>= _)) _ _ s
  (first | (refine rwP (if_neg (by decide)) ?_; try with_reducible rfl) | rw [if_neg (by decide)])
  first
    | exact wpAny_bind (m := Builtin.Tuple.tupleExact _) (wpAny_newObj_type (wpAny_pure ⟨_, rfl, wpAny_pure h⟩) (by size_fits))
    | exact wpAny_bind (m := Builtin.Tuple.tupleExact _) (wpAny_newObj_type (wpAny_bind (wpAny_pure (wpAny_pure ⟨_, rfl, wpAny_pure h⟩))) (by size_fits))
    | exact wpAny_bind (wpAny_bind (m := Builtin.Tuple.tupleExact _) (wpAny_newObj_type (wpAny_pure (wpAny_pure ⟨_, rfl, wpAny_pure h⟩)) (by size_fits)))
    | exact wpAny_bind (wpAny_bind (m := Builtin.Tuple.tupleExact _) (wpAny_newObj_type (wpAny_pure ⟨_, rfl, wpAny_pure h⟩) (by size_fits)))
    | skip
end
end Mine
end Part44
section Part45
set_option tactic.hygienic false
open PySem PySem.W PySem.W.X PySem.Calls PyProof.Rows
set_option maxRecDepth 100000
namespace Mine

structure KPart (K : Frag) : Prop where
  gSld : nsIn K 3 "sorted_list_difference" = some (some (.ref 21))
  fPart : Fn K 136 135 "_law_parted" (topS 10) [] .none

noncomputable def partedS (turn : Nat) (rs ts : List (Str × Str)) : List (Str × Str) × List (Str × Str) := if turn % 2 = 1 then sldS rs ts else ((sldS ts rs).2, (sldS ts rs).1)

section
variable {C : Cx} {σ σ' τ : Led} {ι ι' : Imm} {A : Around} {s : Shared} {E : Value → Shared → Prop} {a dx l : Addr} {vs items : Array Value}

theorem reads_two {c1 c2 : Addr} {v1 v2 : Array Value} {p1 p2 : List (Str × Str)} (S : SS C σ ι s) (hl : (l, lstP #[.ref c1, .ref c2]) ∈ σ) (h1 : (c1, lstP v1) ∈ σ) (h2 : (c2, lstP v2) ∈ σ) (x1 : pcs ι v1 p1) (x2 : pcs ι v2 p2) :
    ∃ as, Reads s.heap (.ref l) (.list [.list (p1.map pieceD), .list (p2.map pieceD)]) as := by
  refine reads_list S hl rfl fun i v d hv hd => ?_
  match i with
  | 0 => cases hv; cases hd; exact reads_pieces S h1 x1
  | 1 => cases hv; cases hd; exact reads_pieces S h2 x2
  | i + 2 => simp at hv

theorem fmod_nat (a b : Nat) : (a : Int).fmod b = ((a % b : Nat) : Int) := by
  (first | (refine rwP (Int.fmod_eq_emod_of_nonneg _ (by (first | lia | omega))) ?_; try with_reducible rfl) | rw [Int.fmod_eq_emod_of_nonneg _ (by (first | lia | omega))]); rfl
theorem parted_c {n : Nat} {er ar : Addr} {ei ai : Array Value} {es as : List (Str × Str)} {turn : Nat} {tt : Tok} {Q : Value → Shared → Prop} (X : CxOk C) (KS' : KSld C.K) (KP' : KPart C.K) (R : Room (n + 2) A) (hn : 4 ≤ n) (hin : FrIn A σ) (S : SS C σ ι s)
    (hre : RowK C σ er ei) (hra : RowK C σ ar ai) (hpe : pcs ι ei es) (hpa : pcs ι ai as) (hge : ∀ p ∈ es, goodP p) (hga : ∀ p ∈ as, goodP p) (hze : es.length ≤ 1000000) (hza : as.length ≤ 1000000)
    (h : ∀ l1 l2 t v1 v2 ι' s', ι ⊆ ι' → (t, pieceObj (.ref l1) (.ref l2)) ∈ ι' → SS C ((l1, lstP v1) :: (l2, lstP v2) :: σ) ι' s' → pcs ι' v1 (partedS turn es as).1 → pcs ι' v2 (partedS turn es as).2 → Q (.ref t) s') :
    wpAny (model prg C.w) A (call (.ref 136) [.ref er, .ref ar, .int turn tt] []) Q E s := by
  refine call_fn (binds := [("row", .ref er), ("twice", .ref ar), ("turn", .int turn tt)]) X KP'.fPart R S (fun _ _ _ _ _ => BindsTo.of_eq rfl) fun L s1 S1 R1 => ?_
  have hin1 : ∀ m, FrIn (A.deeper (envX "_law_parted" (scopeOf (topS 10)) L 136 (.ref 135) [])) ((L, nsP m) :: σ) := fun m => hin.deeper (by intro q; cases q) rfl
  have hze' : ei.size ≤ sizeLine := by (first | (refine rwQ (hpe.1) ?_; refine rwP (sizeLine_eq) ?_; try with_reducible rfl) | rw [← hpe.1, sizeLine_eq]); (first | lia | omega)
  have hza' : ai.size ≤ sizeLine := by (first | (refine rwQ (hpa.1) ?_; refine rwP (sizeLine_eq) ?_; try with_reducible rfl) | rw [← hpa.1, sizeLine_eq]); (first | lia | omega)
  generalize e0 : A.deeper (envX "_law_parted" (scopeOf (topS 10)) L 136 (.ref 135) []) = A1 at hin1 R1
  have hA1 := R1.h
  refine wpAny_execs_cons (wpAny_Assign_Name (List_ ?_))
  refine sp_cons (comp_copy S1 (.head _) rfl (hre.more fun _ h => .tail _ h) hA1 hze' fun c1 s2 S2 => ?_)
  refine sp_cons (comp_copy S2 (.tail _ (.head _)) rfl (hra.more fun _ h => .tail _ (.tail _ h)) hA1 hza' fun c2 s3 S3 => ?_)
  refine sp_nil (n_newList S3 fun ll s4 S4 => ?_)
  refine n_store S4 (.tail (.tail (.tail .head))) fun s5 S5 => ?_
  have hsub : σ ⊆ (ll, lstP #[Value.ref c1, Value.ref c2]) :: (c2, lstP ai) :: (c1, lstP ei) :: (L, nsP (put (fun x => List.lookup x [("turn", Value.int turn tt), ("twice", Value.ref ar), ("row", Value.ref er)]) "lists" (.ref ll))) :: σ := fun _ h => .tail _ (.tail _ (.tail _ (.tail _ h)))
  have hin5 : FrIn A1 ((ll, lstP #[Value.ref c1, Value.ref c2]) :: (c2, lstP ai) :: (c1, lstP ei) :: (L, nsP (put (fun x => List.lookup x [("turn", Value.int turn tt), ("twice", Value.ref ar), ("row", Value.ref er)]) "lists" (.ref ll))) :: σ) := (hin1 _).more fun _ h => .tail _ (.tail _ (.tail _ h))
  -- the return
  have tail : ∀ {l1 l2 t : Addr} {v1 v2 : Array Value} {ι' : Imm} {s' : Shared} {m : Str → Option Value}, ι ⊆ ι' → (t, pieceObj (.ref l1) (.ref l2)) ∈ ι' → pcs ι' v1 (partedS turn es as).1 → pcs ι' v2 (partedS turn es as).2 →
      SS C ((l1, lstP v1) :: (l2, lstP v2) :: (ll, lstP #[Value.ref c1, Value.ref c2]) :: (c2, lstP ai) :: (c1, lstP ei) :: (L, nsP m) :: σ) ι' s' → m "row" = some (.ref er) → m "twice" = some (.ref ar) → m "lists" = some (.ref ll) → m "answer" = some (.ref t) →
      wpAny (model prg C.w) A1 (execs ((bodyOf (topS 10)).drop 2) (envX "_law_parted" (scopeOf (topS 10)) L 136 (.ref 135) [])) (fun fl s'' => Q (match fl with | .ret v => v | _ => .none) s'') (fun _ _ => False) s' := by
    intro l1 l2 t v1 v2 ι' s' m hι ht x1 x2 S mr mt ml ma
    have sub : σ ⊆ (l1, lstP v1) :: (l2, lstP v2) :: (ll, lstP #[Value.ref c1, Value.ref c2]) :: (c2, lstP ai) :: (c1, lstP ei) :: (L, nsP m) :: σ := fun _ h => .tail _ (.tail _ (.tail _ (.tail _ (.tail _ (.tail _ h)))))
    refine wpAny_execs_cons (wpAny_Return_some (wpAny_IfExp (wpAny_isTrue_Compare1 (List_ ?_))))
    refine sp_cons (comp_copy S (.tail _ (.tail _ (.tail _ (.tail _ (.tail _ (.head _)))))) mr (hre.more sub) hA1 hze' fun d1 s6 S6 => ?_)
    refine sp_cons (comp_copy S6 (.tail _ (.tail _ (.tail _ (.tail _ (.tail _ (.tail _ (.head _))))))) mt (hra.more fun _ h => .tail _ (sub h)) hA1 hza' fun d2 s7 S7 => ?_)
    refine sp_nil (n_newList S7 fun ld s8 S8 => ?_)
    refine n_local S8 (.tail _ (.tail _ (.tail _ (.tail _ (.tail _ (.tail _ (.tail _ (.tail _ (.head _))))))))) ml ?_
    have ge := hpe.mono hι
    have ga := hpa.mono hι
    obtain ⟨as1, r1⟩ := reads_two S8 (.head _) (.tail _ (.tail _ (.head _))) (.tail _ (.head _)) ge ga
    obtain ⟨as2, r2⟩ := reads_two S8 (l := ll) (c1 := c1) (c2 := c2) (.tail _ (.tail _ (.tail _ (.tail _ (.tail _ (.head _)))))) (.tail _ (.tail _ (.tail _ (.tail _ (.tail _ (.tail _ (.tail _ (.head _)))))))) (.tail _ (.tail _ (.tail _ (.tail _ (.tail _ (.tail _ (.head _))))))) ge ga
    have ok : okD 4 (.list [.list (es.map pieceD), .list (as.map pieceD)]) := okD_list fun d hd => by
      rcases List.mem_cons.mp hd with rfl | hd
      · exact okD_pieces hge
      · (first | (refine rwP (List.mem_singleton.mp hd) ?_; try with_reducible rfl) | rw [List.mem_singleton.mp hd]); exact okD_pieces hga
    refine PySem.SeqAt.compareEq_shaped r1 r2 (ok.shaped (by decide)) (ok.shaped (by decide)) (by have := R1.u; unfold cLine; (first | lia | omega)) ?_
    (first | (refine rwP (ok.refl) ?_; try with_reducible rfl) | rw [ok.refl])
    refine wpAny_truthy_bool ?_
    (first | (refine rwP (if_pos rfl) ?_; try with_reducible rfl) | rw [if_pos rfl])
    refine n_local S8 (.tail _ (.tail _ (.tail _ (.tail _ (.tail _ (.tail _ (.tail _ (.tail _ (.head _))))))))) ma ?_
    refine h l1 l2 t v1 v2 ι' s8 hι ht (S8.sub ?_) x1 x2
    exact .cons _ (.cons _ (.cons _ (.cons₂ _ (.cons₂ _ (.cons _ (.cons _ (.cons _ (.cons _ (List.Sublist.refl _)))))))))
  refine wpAny_execs_cons (wpAny_If (wpAny_isTrue_Compare1 (wpAny_BinOp (n_local S5 (.tail _ (.tail _ (.tail _ (.head _)))) rfl (wpAny_Constant_int (mod_int' (by decide) (wpAny_Constant_int (P.eq_int (wpAny_truthy_bool ?_)))))))))
  have S6 : SS C _ _ { s5 with toks := s5.toks + 1 + 1 + 1 } := S5
  have em : (Int.fmod (turn : Int) 2 == 1) = decide (turn % 2 = 1) := by
    have e2 : Int.fmod (turn : Int) 2 = ((turn % 2 : Nat) : Int) := fmod_nat turn 2
    (first | (refine rwP (e2) ?_; refine rwP (Bool.eq_iff_iff) ?_; refine rwP (beq_iff_eq) ?_; refine rwP (decide_eq_true_iff) ?_; try with_reducible rfl) | rw [e2, Bool.eq_iff_iff, beq_iff_eq, decide_eq_true_iff])
    (first | lia | omega)
  (first | (refine rwP (em) ?_; try with_reducible rfl) | rw [em])
  by_cases q : turn % 2 = 1
  · (first | (refine rwP (decide_eq_true q) ?_; try with_reducible rfl) | rw [decide_eq_true q])
    (first | refine wpIf1 ?_ | simp only [if_true])
    have ep : partedS turn es as = sldS es as := by unfold partedS; (first | (refine rwP (if_pos q) ?_; try with_reducible rfl) | rw [if_pos q])
    rw [ep] at tail
    refine wpAny_execs_cons (wpAny_Assign_Name (Call_ (n_global X S6 KP'.gSld ?_)))
    refine n_callF X KS'.fSld (sp_cons (n_local S6 (.tail _ (.tail _ (.tail _ (.head _)))) rfl (sp_cons (n_local S6 (.tail _ (.tail _ (.tail _ (.head _)))) rfl (sp_nil ⟨⟨_, _, S6⟩, ?_⟩)))))
    refine sld_c X KS' R1 hn hin5 S6 (RowIn.more hre.like hsub) (RowIn.more hra.like hsub) hpe hpa hge hga hze hza fun lm lu t mv uv ι' s7 hι ht S7 x1 x2 => ?_
    refine n_store S7 (.tail (.tail (.tail (.tail (.tail .head))))) fun s8 S8 => wpAny_execs_nil ?_
    exact tail hι ht x1 x2 S8.swap rfl rfl rfl rfl
  · (first | (refine rwP (decide_eq_false q) ?_; try with_reducible rfl) | rw [decide_eq_false q])
    (first | refine wpIf0 ?_ | simp only [Bool.false_eq_true, if_false])
    have ep : partedS turn es as = ((sldS as es).2, (sldS as es).1) := by unfold partedS; (first | (refine rwP (if_neg q) ?_; try with_reducible rfl) | rw [if_neg q])
    rw [ep] at tail
    refine wpAny_execs_cons (wpAny_Assign_Name (Subscript_ (Call_ (n_global X S6 KP'.gSld ?_))))
    refine n_callF X KS'.fSld (sp_cons (n_local S6 (.tail _ (.tail _ (.tail _ (.head _)))) rfl (sp_cons (n_local S6 (.tail _ (.tail _ (.tail _ (.head _)))) rfl (sp_nil ⟨⟨_, _, S6⟩, ?_⟩)))))
    refine sld_c X KS' R1 hn hin5 S6 (RowIn.more hra.like hsub) (RowIn.more hre.like hsub) hpa hpe hga hge hza hze fun lm lu t mv uv ι' s7 hι ht S7 x1 x2 => ?_
    refine wpAny_Slice ?_
    (first | (refine rwP (evalPart_none) ?_; try with_reducible rfl) | rw [evalPart_none])
    refine wpAny_pure (wpAny_pure (evalPart_some_step (UnaryOp_ (wpAny_Constant_int (P.neg_int ?_)))))
    have S8 : SS C _ _ { s7 with toks := s7.toks + 1 + 1 } := S7
    have S9 := S8.push { cls := .type "slice", data := .fields #[.none, .none, .int (-1) (s7.toks + 1)] }
    refine tail_any (T := "tuple") ⟨_, S9.tup ht, rfl⟩ slot_tuple_getitem.lookup (tup_rev (u := s7.toks + 1) ⟨_, S9.tup ht, rfl, _, rfl⟩ (Heap.IsSliceOf.new ..) ?_) (by with_unfolding_all rfl)
    have S10 := S9.allocT (o := pieceObj (.ref lu) (.ref lm)) rfl (pieceObj_tup _ _)
    refine n_store S10 (.tail (.tail (.tail (.tail (.tail .head))))) fun s8 S8 => wpAny_execs_nil ?_
    exact tail (fun _ h => .tail _ (hι h)) (.head _) (x2.mono fun _ h => .tail _ h) (x1.mono fun _ h => .tail _ h) S8 rfl rfl rfl rfl
end
end Mine
end Part45
section Part46
set_option tactic.hygienic false
open PySem PySem.W PySem.W.X PySem.Calls PyProof.Rows
set_option maxRecDepth 100000
namespace Mine

section
variable {C : Cx} {σ σ' τ : Led} {ι ι' : Imm} {h h' : Heap} {g : Array GenState} {os : OsState}
/-- several new objects -/
theorem St.many (S : St C σ ι h g os) {news : Led} (hnd : (news.map (·.1)).Nodup) (k : ∀ b o, h.get? b = some o → h'.get? b = some o)
    (hn : ∀ p ∈ news, h.objs.size ≤ p.1 ∧ ∃ o, h'.get? p.1 = some o ∧ p.2 o ∧ ¬ isTup o) : St C (news ++ σ) ι h' g os := by
  have S' := S.kept k
  refine ⟨?_, fun p hp => ?_, S'.imm, S'.old, S'.tab, S'.big, S'.gens, S'.os⟩
  · (first | (refine rwP (List.map_append) ?_; refine rwP (List.nodup_append) ?_; try with_reducible rfl) | rw [List.map_append, List.nodup_append])
    refine ⟨hnd, S.nd, fun x hx y hy e => ?_⟩
    refine gen_P fun Pg kg => ?_
    obtain ⟨p, hp, rfl⟩ := List.mem_map.mp hx
    obtain ⟨q, hq, rfl⟩ := List.mem_map.mp hy
    refine kg ?_
    clear kg
    have h1 := (hn p hp).1
    have h2 := S.lt hq
    rw [e] at h1
    exact absurd h2 (Nat.not_lt.mpr h1)
  · rcases List.mem_append.mp hp with hp | hp
    · refine gen_P fun Pg kg => ?_
      obtain ⟨h1, o, e, po, nt⟩ := hn p hp
      refine kg ?_
      clear kg
      exact ⟨o, e, po, nt, fresh_base S.big h1⟩
    · exact S'.own p hp
end

noncomputable def cellNames : List (Str × NameKind) → List Str
  | [] => []
  | (n, k) :: r => if k == .cell then n :: cellNames r else cellNames r
theorem cellsFrom_names : ∀ (names : List (Str × NameKind)) (n : Nat) (acc : List (Str × Addr)), (cellsFrom n names acc).map (·.1) = (cellNames names).reverse ++ acc.map (·.1)
  | [], _, _ => rfl
  | (x, k) :: r, n, acc => by
    unfold cellsFrom cellNames
    split
    · (first | (refine rwP (cellsFrom_names r) ?_; refine rwP (List.map_cons) ?_; refine rwP (List.reverse_cons) ?_; refine rwP (List.append_assoc) ?_; try with_reducible rfl) | rw [cellsFrom_names r, List.map_cons, List.reverse_cons, List.append_assoc]); rfl
    · exact cellsFrom_names r n acc
theorem lookup_of_mem {α : Type} : ∀ {l : List (Str × α)} {n : Str} {c : α}, (l.map (·.1)).Nodup → (n, c) ∈ l → l.lookup n = some c
  | (k, v) :: r, n, c, nd, h => by
    rw [List.map_cons, List.nodup_cons] at nd
    (first | (refine rwP (List.lookup_cons) ?_; try with_reducible rfl) | rw [List.lookup_cons])
    rcases List.mem_cons.mp h with e | h
    · injection e with e1 e2
      subst e1 e2
      simp
    · have : (n == k) = false := by
        (first | (refine rwP (beq_eq_false_iff_ne) ?_; try with_reducible rfl) | rw [beq_eq_false_iff_ne])
        intro e
        exact nd.1 (by (first | (refine rwQ (e) ?_; try with_reducible rfl) | rw [← e]); exact List.mem_map_of_mem (f := (·.1)) h)
      (first | (refine rwP (this) ?_; try with_reducible rfl) | rw [this])
      exact lookup_of_mem nd.2 h

/-! ## defs that hold cells -/
noncomputable abbrev cellLed (cm : Str → Option Value) (cs : List (Str × Addr)) : Led := cs.map fun p => (p.2, cellP (cm p.1))
section
variable {C : Cx} {σ σ' τ : Led} {ι ι' : Imm} {A : Around} {s : Shared} {E : Value → Shared → Prop} {a dx l : Addr} {vs items : Array Value}
theorem call_fnC {n : Nat} {f c : Addr} {qual : Str} {D : Stmt} {dV : Value} {args : List Value} {binds : List (Str × Value)} {Q : Value → Shared → Prop}
    (X : CxOk C) (F : Fn C.K f c qual D [] dV) (R : Room (n + 1) A) (S : SS C σ ι s)
    (hb : ∀ name doc pm an ct, bindArgs (fnX name qual (argsOf D) (bodyOf D) (scopeOf D) [] dV .none doc pm an (.ref c) ct) ⟨args, []⟩ = pure binds)
    (h : ∀ L s', SS C ((L, nsP (bindL (fun x => (scopeOf D).names.lookup x) binds fun _ => none)) :: (cellLed (bindC (fun x => (scopeOf D).names.lookup x) binds fun _ => none) (cellsFrom (L + 1) (scopeOf D).names []) ++ σ)) ι s' →
      Room n (A.deeper (envX qual (scopeOf D) L f (.ref c) (cellsFrom (L + 1) (scopeOf D).names []))) →
      wpAny (model prg C.w) (A.deeper (envX qual (scopeOf D) L f (.ref c) (cellsFrom (L + 1) (scopeOf D).names []))) (execs (bodyOf D) (envX qual (scopeOf D) L f (.ref c) (cellsFrom (L + 1) (scopeOf D).names [])))
        (fun fl s'' => Q (match fl with | .ret v => v | _ => .none) s'') (fun _ _ => False) s')
    (hkind : ∀ L : Nat, ∀ x ∈ binds, (scopeOf D).names.lookup x.1 = some .local ∨ ((scopeOf D).names.lookup x.1 = some .cell ∧ ((cellsFrom (L + 1) (scopeOf D).names []).lookup x.1).isSome = true))
    (hnd : autoParam ((cellNames (scopeOf D).names).reverse.Nodup) tacDec)
    (hco : autoParam ((scopeOf D).isCoroutine = false) tacRfl) (hgen : autoParam ((scopeOf D).isGenerator = false) tacRfl) (hk : autoParam ((scopeOf D).kind = .function) tacRfl) :
    wpAny (model prg C.w) A (call (.ref f) args []) Q E s := by
  refine gen_P fun Pg kg => ?_
  obtain ⟨od, osl, name, doc, pm, an, ct, e⟩ := F.look
  refine kg ?_
  clear kg
  have K := S.kin X
  refine wpAny_call (codeAny_call_cells (fd := fnX name qual (argsOf D) (bodyOf D) (scopeOf D) [] dV .none doc pm an (.ref c) ct) (body := bodyOf D) (binds := binds) R.lt (K _ _ e) rfl (S.noLimit X) (codeRec_of K F.code) rfl (hb _ _ _ _ _) rfl (hkind _) (fun s₁ I => ?_) hco hgen hk)
  have hlen : s.heap.objs.size ≤ s.heap.objs.size := Nat.le_refl _
  generalize s.heap.objs.size = L at I hlen
  have I' : InCallC s L (bindL (fun x => (scopeOf D).names.lookup x) binds fun _ => none) (cellsFrom (L + 1) (scopeOf D).names []) (bindC (fun x => (scopeOf D).names.lookup x) binds fun _ => none) s₁ := I
  refine gen_P fun Pg kg => ?_
  obtain ⟨h₁, tk, rfl, kp⟩ := I'.done
  refine kg ?_
  clear kg
  have nmeq : ((cellsFrom (L + 1) (scopeOf D).names []).map (·.1)).Nodup := by (first | (refine rwP (cellsFrom_names) ?_; refine rwP (List.map_nil) ?_; refine rwP (List.append_nil) ?_; try with_reducible rfl) | rw [cellsFrom_names, List.map_nil, List.append_nil]); exact hnd
  have S' : SS C ((L, nsP (bindL (fun x => (scopeOf D).names.lookup x) binds fun _ => none)) :: cellLed (bindC (fun x => (scopeOf D).names.lookup x) binds fun _ => none) (cellsFrom (L + 1) (scopeOf D).names []) ++ σ) ι { s with heap := h₁, toks := tk } := by
    refine St.many (h := s.heap) S ?_ kp fun p hp => ?_
    · (first | (refine rwP (List.map_cons) ?_; refine rwP (List.nodup_cons) ?_; try with_reducible rfl) | rw [List.map_cons, List.nodup_cons])
      refine ⟨fun hm => ?_, ?_⟩
      · rw [List.map_map] at hm
        obtain ⟨q, hq, e⟩ := List.mem_map.mp hm
        have := I'.above q.1 q.2 hq
        have e : q.2 = L := e
        rw [e] at this
        exact Nat.lt_irrefl _ this
      · (first | (refine rwP (List.map_map) ?_; try with_reducible rfl) | rw [List.map_map])
        exact List.pairwise_map.mpr I'.apart
    · rcases List.mem_cons.mp hp with rfl | hp
      · obtain ⟨o, eo, po⟩ := of_ns I'.toInCall.ns
        exact ⟨I'.toInCall.fresh, o, eo, po, nsP_not po⟩
      · refine gen_P fun Pg kg => ?_
        obtain ⟨q, hq, rfl⟩ := List.mem_map.mp hp
        obtain ⟨o, eo, d⟩ := I'.cell q.1 q.2 (lookup_of_mem nmeq hq)
        refine kg ?_
        clear kg
        exact ⟨Nat.le_of_lt (Nat.lt_of_le_of_lt I'.toInCall.fresh (I'.above q.1 q.2 hq)), o, eo, d, cellP_not d⟩
  exact wpAny_mono (h L _ S' R.deeper) (fun _ _ z => z) (fun _ _ z => z.elim)

/-! ## the frame of a comprehension -/
theorem St.cells {g : Array GenState} {os : OsState} : ∀ {names : List (Str × NameKind)} {h : Heap} {acc : List (Str × Addr)}, St C (cellLed (fun _ => none) acc ++ σ) ι h g os →
    St C (cellLed (fun _ => none) (cellsFrom h.objs.size names acc) ++ σ) ι (pushCells h names) g os
  | [], _, _, S => S
  | (x, k) :: r, h, acc, S => by
    unfold cellsFrom pushCells
    split
    · have e : cellP none { cls := .type "cell", data := .cell none } := rfl
      have S' := S.alloc e rfl (cellP_not e)
      have := St.cells (names := r) (acc := (x, h.objs.size) :: acc) S'
      rw [Heap.size_push] at this
      exact this
    · exact St.cells S

theorem cellsFrom_app : ∀ (names : List (Str × NameKind)) (n : Nat) (acc cl : List (Str × Addr)), cellsFrom n names (acc ++ cl) = cellsFrom n names acc ++ cl
  | [], _, _, _ => rfl
  | (x, k) :: r, n, acc, cl => by
    unfold cellsFrom
    split
    · exact cellsFrom_app r (n + 1) ((x, n) :: acc) cl
    · exact cellsFrom_app r n acc cl

theorem nfe_gen {scope : Scope} {env : Env} {cl : List (Str × Addr)} {Q : Env → Shared → Prop} (S : SS C σ ι s)
    (h : ∀ D cenv s', { cenv with scope := relabel scope env } = compEnvC scope (cellsFrom (D + 1) scope.names [] ++ cl) D env → cenv.locals = D → SS C ((D, nsP fun _ => none) :: (cellLed (fun _ => none) (cellsFrom (D + 1) scope.names []) ++ σ)) ι s' → Q cenv s') :
    wpAny (model prg C.w) A (newFunctionEnv scope env.globals cl [] env.qual none .none (some env)) Q E s := by
  simp only [newFunctionEnv, Option.isSome_some, if_true]
  refine wpAny_bind (wpAny_alloc ?_)
  refine wpAny_bind (wpAny_layCells _ (fun name kind cells => by cases hkc : kind == NameKind.cell <;> simp [hkc]) _ _ _ _ ?_)
  (first | (refine rwP (show ({ s with heap := s.heap.push { cls := .type "dict", data := .dict #[] } } : Shared).heap.objs.size = s.heap.objs.size + 1 from Heap.size_push ..) ?_; try with_reducible rfl) | rw [show ({ s with heap := s.heap.push { cls := .type "dict", data := .dict #[] } } : Shared).heap.objs.size = s.heap.objs.size + 1 from Heap.size_push ..])
  simp only [List.forIn_nil]
  refine wpAny_bind (wpAny_pure (wpAny_pure ?_))
  have e : nsP (fun _ => none) { cls := .type "dict", data := .dict #[] } := ⟨#[], _, rfl, (by intro x hx; simp at hx), fun _ => rfl⟩
  have S1 := S.alloc e rfl (nsP_not e)
  have S2 := St.cells (acc := []) (names := scope.names) S1
  rw [Heap.size_push] at S2
  refine h s.heap.objs.size _ _ ?_ rfl (S2.perm ?_)
  · have := cellsFrom_app scope.names (s.heap.objs.size + 1) [] cl
    rw [List.nil_append] at this
    (first | (refine rwP (this) ?_; try with_reducible rfl) | rw [this])
    rfl
  · exact List.perm_middle
end
end Mine
end Part46
section Part47
set_option tactic.hygienic false
open PySem PySem.W PySem.W.X PySem.Calls PyProof.Rows
set_option maxRecDepth 100000
namespace Mine

section
variable {C : Cx} {σ σ' τ : Led} {ι ι' : Imm} {A : Around} {s : Shared} {E : Value → Shared → Prop} {a dx l : Addr} {vs items : Array Value}

/-- the run of a comprehension's loops: what it leaves -/
noncomputable abbrev CRun (C : Cx) (A : Around) (e : Expr) (scope : Scope) (cl : List (Str × Addr)) (env : Env) (itv : Value) (σ : Led) (ι : Imm) (P : Value → Led → Imm → Prop) : Prop :=
  ∀ D acc s₃, SS C ((D, nsP fun _ => none) :: (cellLed (fun _ => none) (cellsFrom (D + 1) scope.names []) ++ (acc, lstP #[]) :: σ)) ι s₃ →
    codeAny (model prg C.w) A (.compStart e 0 itv (.ref acc) (compEnvC scope (cellsFrom (D + 1) scope.names [] ++ cl) D env))
      (fun r s' => Ex4 fun f m σ' ι' => And3 (r = .ok f) (SS C ((D, nsP m) :: σ') ι' s') (P (.ref acc) σ' ι')) s₃

theorem comp_evalG {elt target iter : Expr} {gs : List Comprehension} {scope : Scope} {pos : Pos} {env : Env} {cl : List (Str × Addr)} {Q : Value → Shared → Prop}
    (h : wpAny (model prg C.w) A (eval iter env) (fun x s₁ => wpAny (model prg C.w) A (pyIter x) (fun itv s₂ => Ex2 fun σ ι => SS C σ ι s₂ ∧
      CRun C A (.ListComp elt (⟨target, iter, [], 0⟩ :: gs) scope pos) scope cl env itv σ ι (fun v σ' ι' => ∀ s'', SS C σ' ι' s'' → Q v s'')) E s₁) E s)
    (hclos : closureFor scope env = pure cl) (hnames : ∀ x ∈ scope.names, x.2 = .local → scope.names.lookup x.1 = some .local) (hkind : autoParam (scope.kind = .function) tacRfl)
    (hs : autoParam (∀ x, foldedSetIterable iter env x = pure x) tacRfl1) :
    wpAny (model prg C.w) A (eval (.ListComp elt (⟨target, iter, [], 0⟩ :: gs) scope pos) env) Q E s := by
  (first | (refine rwP (eval_ListComp) ?_; try with_reducible rfl) | rw [eval_ListComp])
  refine wpAny_comprehension_free (g := ⟨target, iter, [], 0⟩) (gs := gs) rfl hs hclos hkind hnames ?_
  refine wpAny_mono h (fun x s1 h1 => wpAny_mono h1 (fun itv s2 h2 => ?_) fun _ _ x => x) fun _ _ x => x
  obtain ⟨σ, ι, S, run⟩ := h2
  refine n_newList S fun acc s3 S3 => ?_
  refine nfe_gen S3 fun D cenv s4 he hD S4 => ?_
  (first | (refine rwP (he) ?_; try with_reducible rfl) | rw [he])
  refine codeAny_mono (run D acc s4 S4) fun r s' hr => ?_
  obtain ⟨f, m, σ', ι', rfl, S5, q⟩ := hr
  show ∃ m, s'.heap.Ns cenv.locals m ∧ _
  (first | (refine rwP (hD) ?_; try with_reducible rfl) | rw [hD])
  exact ⟨m, SS.ns S5 (.head _), fun h'' hs'' => q _ (S5.forget hs'')⟩

theorem comp_assignG {elt target iter : Expr} {gs : List Comprehension} {scope : Scope} {pos spos py : Pos} {y : Str} {env : Env} {cl : List (Str × Addr)} {Q : Flow → Shared → Prop}
    (h : wpAny (model prg C.w) A (eval iter env) (fun x s₁ => wpAny (model prg C.w) A (pyIter x) (fun itv s₂ => Ex2 fun σ ι => SS C σ ι s₂ ∧
      CRun C A (.ListComp elt (⟨target, iter, [], 0⟩ :: gs) scope pos) scope cl env itv σ ι
        (fun v σ' ι' => Ex2 fun m σ'' => Upd env.locals (nsP m) (nsP (put m y v)) σ' σ'' ∧ ∀ s'', SS C σ'' ι' s'' → Q .next s'')) E s₁) E s)
    (hclos : closureFor scope env = pure cl) (hnames : ∀ x ∈ scope.names, x.2 = .local → scope.names.lookup x.1 = some .local) (hkind : autoParam (scope.kind = .function) tacRfl)
    (hs : autoParam (∀ x, foldedSetIterable iter env x = pure x) tacRfl1)
    (hsw : autoParam (swapsWith (.ListComp elt (⟨target, iter, [], 0⟩ :: gs) scope pos) (some (.Name y py)) spos.line env = pure true) tacRfl)
    (hl : autoParam (env.kindOf y = some .local) tacRfl) (hp : autoParam ((env.scope.kind == .class || (env.scope.kind == .module && env.locals != env.globals)) = false) tacRfl) :
    wpAny (model prg C.w) A (exec (.Assign [.Name y py] (.ListComp elt (⟨target, iter, [], 0⟩ :: gs) scope pos) spos) env) Q E s := by
  (first | (refine rwP (exec_Assign_Name_used _ _ _ _ hsw) ?_; try with_reducible rfl) | rw [exec_Assign_Name_used _ _ _ _ hsw])
  refine wpAny_bind (wpAny_standAt (wpAny_bind ?_))
  show wpAny _ A (do let _ ← comprehension (.ListComp elt (⟨target, iter, [], 0⟩ :: gs) scope pos) scope env _ (newList []) false (eval iter env) (some (assign (.Name y py) env))) _ _ s
  refine wpAny_bind (wpAny_mono (wpAny_comprehension_free (g := ⟨target, iter, [], 0⟩) (gs := gs) (cl := cl) (Q := fun _ s' => Q .next s') rfl hs hclos hkind hnames (wpAny_mono h (fun x s1 h1 => wpAny_mono h1 (fun itv s2 h2 => ?_) fun _ _ x => x) fun _ _ x => x))
    (fun _ s' hq => wpAny_pure (wpAny_pure hq)) fun _ _ e => e)
  obtain ⟨σ, ι, S, run⟩ := h2
  refine n_newList S fun acc s3 S3 => ?_
  refine nfe_gen S3 fun D cenv s4 he hD S4 => ?_
  (first | (refine rwP (he) ?_; try with_reducible rfl) | rw [he])
  refine codeAny_mono (run D acc s4 S4) fun r s' hr => ?_
  obtain ⟨f, m, σ', ι', rfl, S5, mm, σ'', u, q⟩ := hr
  show wpAny _ A (assign (.Name y py) env (.ref acc)) _ _ s'
  refine wpAny_assign_Name (n_store S5 (.tail u) (fun s6 S6 => ?_) hl hp)
  (first | (refine rwP (hD) ?_; try with_reducible rfl) | rw [hD])
  exact ⟨m, SS.ns S6 (.head _), fun h'' hs'' => q _ (S6.forget hs'')⟩

/-! ## loops of one clause -/
theorem run1 {it : Addr} {J : Nat → OP} {n : Nat} {is : Nat → Value → Imm → Prop} {need : Led → Prop} {elt target iter : Expr} {scope : Scope} {pos : Pos} {cl : List (Str × Addr)} {env : Env} {P : Value → Led → Imm → Prop}
    (W : Walker C it J n is need) (Inv : Nat → Array Value → Led → Imm → Prop) (hneed : ∀ i out m D acc σ ι, Inv i out σ ι → need ((D, nsP m) :: (acc, lstP out) :: σ))
    (hsz : ∀ i out σ ι, i < n → Inv i out σ ι → out.size ≤ sizeLine)
    (step : ∀ i out m D acc σ ι ι' v s E, i < n → Inv i out σ ι → ι ⊆ ι' → is i v ι' → SS C ((it, J (i + 1)) :: (D, nsP m) :: (acc, lstP out) :: σ) ι' s →
      wpAny (model prg C.w) A (assign target (compEnvC scope cl D env) v) (fun _ s₂ => wpAny (model prg C.w) A (eval elt (compEnvC scope cl D env)) (fun x s₃ =>
        Ex3 fun m' σ' ι' => SS C ((it, J (i + 1)) :: (D, nsP m') :: (acc, lstP out) :: σ') ι' s₃ ∧ Inv (i + 1) (out.push x) σ' ι') E s₂) E s)
    (done : ∀ out acc σ ι, Inv n out σ ι → P (.ref acc) ((acc, lstP out) :: σ) ι)
    (hA : A.handled = none) (h0 : Inv 0 #[] σ ι) (hc : autoParam (∀ D, cellsFrom (D + 1) scope.names [] = []) tacRfl1) (ht : autoParam (∀ v, letOwnedTupleGo target (.ref it) v = pure ()) tacRfl1) :
    CRun C A (.ListComp elt [⟨target, iter, [], 0⟩] scope pos) scope cl env (.ref it) ((it, J 0) :: σ) ι P := by
  intro D acc s3 S3
  rw [hc] at S3 ⊢
  have S5 : SS C ((it, J 0) :: (D, nsP (fun _ => none)) :: (acc, lstP #[]) :: σ) ι s3 := by
    refine S3.perm ?_
    exact ((List.Perm.swap _ _ _).cons _).trans (List.Perm.swap _ _ _)
  refine comp_w W Inv (fun i out m σ ι h => hneed _ _ _ _ _ _ _ h) (fun i out m σ ι ι' v s a b c d e => step i out m _ _ σ ι ι' v s _ a b c d e) hsz (fun out m σ ι s hI S => ?_) hA S5 h0 ht
  exact ⟨_, m, _, _, rfl, S, done _ _ _ _ hI⟩

/-! ## loops of two clauses -/
theorem compTurn_two (elt t1 i1 t2 i2 : Expr) (scope : Scope) (pos : Pos) (it acc : Value) (env : Env) :
    compTurn (.ListComp elt [⟨t1, i1, [], 0⟩, ⟨t2, i2, [], 0⟩] scope pos) 0 it acc env = (standAt i1.pos >>= fun _ => pyNext it >>= fun r => match r with
      | none => pure (.done .next)
      | some v => letOwnedTupleGo t1 it v >>= fun _ => assign t1 env v >>= fun _ =>
        (eval i2 env >>= fun x => standAt i2.pos >>= fun _ => foldedSetIterable i2 env x >>= fun x => holding [x] (pyIter x) >>= fun itv => runOwn (.compStart (.ListComp elt [⟨t1, i1, [], 0⟩, ⟨t2, i2, [], 0⟩] scope pos) 1 itv acc env) env >>= fun _ =>
          again (.compLoop (.ListComp elt [⟨t1, i1, [], 0⟩, ⟨t2, i2, [], 0⟩] scope pos) 0 it acc env))) := by rfl
theorem compTurn_in (elt t1 i1 t2 i2 : Expr) (scope : Scope) (pos : Pos) (it acc : Value) (env : Env) :
    compTurn (.ListComp elt [⟨t1, i1, [], 0⟩, ⟨t2, i2, [], 0⟩] scope pos) 1 it acc env = (standAt i2.pos >>= fun _ => pyNext it >>= fun r => match r with
      | none => pure (.done .next)
      | some v => letOwnedTupleGo t2 it v >>= fun _ => assign t2 env v >>= fun _ =>
        (eval elt env >>= fun x => call (.builtin "list.append") [acc, x] >>= fun _ => pure ()) >>= fun _ =>
          again (.compLoop (.ListComp elt [⟨t1, i1, [], 0⟩, ⟨t2, i2, [], 0⟩] scope pos) 1 it acc env)) := by rfl
end
end Mine
end Part47
section Part48
set_option tactic.hygienic false
open PySem PySem.W PySem.W.X PySem.Calls PyProof.Rows
set_option maxRecDepth 100000
namespace Mine

section
variable {C : Cx} {σ σ' τ : Led} {ι ι' : Imm} {A : Around} {s : Shared} {E : Value → Shared → Prop} {R : Result → Shared → Prop} {a dx l : Addr} {vs items : Array Value}

noncomputable abbrev Two (elt t1 i1 t2 i2 : Expr) (scope : Scope) (pos : Pos) : Expr := .ListComp elt [⟨t1, i1, [], 0⟩, ⟨t2, i2, [], 0⟩] scope pos

theorem start_in {elt t1 i1 t2 i2 : Expr} {scope : Scope} {pos : Pos} {it acc : Value} {env : Env}
    (h0 : codeAny (model prg C.w) A (.compLoop (Two elt t1 i1 t2 i2 scope pos) 1 it acc env) R s)
    (h : wpAny (model prg C.w) A (pyIter it) (fun it' s' => codeAny (model prg C.w) A (.compLoop (Two elt t1 i1 t2 i2 scope pos) 1 it' acc env) R s') (notedBy (model prg C.w) A env fun x s' => R (.error x) s') s) :
    codeAny (model prg C.w) A (.compStart (Two elt t1 i1 t2 i2 scope pos) 1 it acc env) R s := by
  refine codeAny_of_tree ?_
  show wpAny _ _ ((compStart (Two elt t1 i1 t2 i2 scope pos) 1 it acc env).onRaise (fun x => do noteFrame x env; standAt theWindowsPlace)) _ _ s
  refine wpAny_notedAt ?_
  unfold compStart
  show wpAny _ _ (ask >>= _) _ _ s
  refine wpAny_bind (wpAny_askSetting (wpAny_ite ?_))
  split
  · first
      | exact wpAny_bind (wpAny_pure (wpAny_pure (And.intro rfl h0)))
      | exact wpAny_pure (And.intro rfl h0)
  · first
      | exact wpAny_bind (wpAny_rule (wpAny_bind (wpAny_standAt (wpAny_bind (wpAny_mono h (fun it' s' h' => wpAny_pure (And.intro rfl h')) fun _ _ x => x)))))
      | (refine wpAny_bind (wpAny_rule ?_); show wpAny _ _ (standAt i2.pos >>= _) _ _ s; exact wpAny_bind (wpAny_standAt (wpAny_bind (wpAny_mono h (fun it' s' h' => wpAny_pure (And.intro rfl h')) fun _ _ x => x))))

theorem loop_in {elt t1 i1 t2 i2 : Expr} {scope : Scope} {pos : Pos} {it acc : Value} {env : Env} (I : Nat → Shared → Prop)
    (turn : ∀ n s, I n s → wpAny (model prg C.w) A (pyNext it) (fun r s₁ => match r with
      | none => R (.ok .next) s₁
      | some v => wpAny (model prg C.w) A (assign t2 env v) (fun _ s₂ => wpAny (model prg C.w) A (eval elt env) (fun x s₃ =>
          wpAny (model prg C.w) A (call (.builtin "list.append") [acc, x]) (fun _ s₄ => ∃ m, m < n ∧ I m s₄) (notedBy (model prg C.w) A env fun e s' => R (.error e) s') s₃)
          (notedBy (model prg C.w) A env fun e s' => R (.error e) s') s₂) (notedBy (model prg C.w) A env fun e s' => R (.error e) s') s₁) (notedBy (model prg C.w) A env fun e s' => R (.error e) s') s)
    (n : Nat) (h : I n s) (ht : ∀ v, letOwnedTupleGo t2 it v = pure ()) :
    codeAny (model prg C.w) A (.compLoop (Two elt t1 i1 t2 i2 scope pos) 1 it acc env) R s := by
  refine codeAny_loop rfl I (fun n s hI => ?_) n h
  show wpAny _ _ ((compTurn (Two elt t1 i1 t2 i2 scope pos) 1 it acc env).onRaise (fun x => do noteFrame x env; theTreesLotGoes x)) _ _ s
  refine wpAny_noted ?_
  (first | (refine rwP (compTurn_in) ?_; try with_reducible rfl) | rw [compTurn_in])
  refine wpAny_bind (wpAny_standAt (wpAny_bind (wpAny_mono (turn n s hI) (fun r s₁ h₁ => ?_) fun _ _ h' => h')))
  cases r with
  | none => exact wpAny_pure h₁
  | some v =>
    refine wpAny_bind (wpAny_of_eq (ht v) ?_)
    exact wpAny_bind (wpAny_mono h₁ (fun _ s₂ h₂ => wpAny_bind (wpAny_bind (wpAny_mono h₂ (fun x s₃ h₃ => wpAny_bind (wpAny_mono h₃
      (fun _ s₄ h₄ => wpAny_pure (wpAny_pure ⟨rfl, h₄⟩)) fun _ _ h' => h')) fun _ _ h' => h'))) fun _ _ h' => h')

theorem loop_out {elt t1 i1 t2 i2 : Expr} {scope : Scope} {pos : Pos} {it acc : Value} {env : Env} (I : Nat → Shared → Prop)
    (turn : ∀ n s, I n s → wpAny (model prg C.w) A (pyNext it) (fun r s₁ => match r with
      | none => R (.ok .next) s₁
      | some v => wpAny (model prg C.w) A (assign t1 env v) (fun _ s₂ => wpAny (model prg C.w) A (eval i2 env) (fun x s₃ => wpAny (model prg C.w) A (pyIter x) (fun itv s₄ =>
          codeAny (model prg C.w) A (.compStart (Two elt t1 i1 t2 i2 scope pos) 1 itv acc env) (fun r s₅ => (∃ f, r = .ok f) ∧ ∃ m, m < n ∧ I m s₅) s₄) (fun _ _ => False) s₃) (fun _ _ => False) s₂) (fun _ _ => False) s₁) (fun _ _ => False) s)
    (n : Nat) (h : I n s) (ht : ∀ v, letOwnedTupleGo t1 it v = pure ()) (hs : ∀ x, foldedSetIterable i2 env x = pure x) :
    codeAny (model prg C.w) A (.compLoop (Two elt t1 i1 t2 i2 scope pos) 0 it acc env) R s := by
  refine codeAny_loop rfl I (fun n s hI => ?_) n h
  show wpAny _ _ ((compTurn (Two elt t1 i1 t2 i2 scope pos) 0 it acc env).onRaise (fun x => do noteFrame x env; theTreesLotGoes x)) _ _ s
  refine wpAny_noted ?_
  (first | (refine rwP (compTurn_two) ?_; try with_reducible rfl) | rw [compTurn_two])
  refine wpAny_bind (wpAny_standAt (wpAny_bind (wpAny_mono (turn n s hI) (fun r s₁ h₁ => ?_) fun _ _ h' => h'.elim)))
  cases r with
  | none => exact wpAny_pure h₁
  | some v =>
    refine wpAny_bind (wpAny_of_eq (ht v) ?_)
    refine wpAny_bind (wpAny_mono h₁ (fun _ s₂ h₂ => ?_) fun _ _ h' => h'.elim)
    refine wpAny_bind (wpAny_mono h₂ (fun x s₃ h₃ => ?_) fun _ _ h' => h'.elim)
    refine wpAny_bind (wpAny_standAt (wpAny_bind (wpAny_of_eq (hs x) (wpAny_bind (wpAny_holding (wpAny_mono h₃ (fun itv s₄ h₄ => ?_) fun _ _ h' => h'.elim))))))
    refine wpAny_bind (wpAny_runOwn (codeAny_mono h₄ fun r s₅ hr => ?_))
    obtain ⟨⟨f, rfl⟩, hI'⟩ := hr
    exact wpAny_pure ⟨rfl, hI'⟩

/-- the inner loop of a turn -/
structure InOk (C : Cx) (A : Around) (elt t2 : Expr) (cenv : Env) (D acc : Addr) (it2 : Addr) (J2 : Nat → OP) (n2 : Nat) (is2 : Nat → Value → Imm → Prop) (need2 : Led → Prop)
    (Inv2 : Nat → (Str → Option Value) → Array Value → Led → Imm → Prop) (Pq : Array Value → Led → Imm → Prop) : Prop where
  W : Walker C it2 J2 n2 is2 need2
  need : ∀ i m out σ ι, Inv2 i m out σ ι → need2 ((D, nsP m) :: (acc, lstP out) :: σ)
  size : ∀ i m out σ ι, i < n2 → Inv2 i m out σ ι → out.size ≤ sizeLine
  step : ∀ i m out σ ι ι' v s E, i < n2 → Inv2 i m out σ ι → ι ⊆ ι' → is2 i v ι' → SS C ((it2, J2 (i + 1)) :: (D, nsP m) :: (acc, lstP out) :: σ) ι' s →
      wpAny (model prg C.w) A (assign t2 cenv v) (fun _ s₂ => wpAny (model prg C.w) A (eval elt cenv) (fun x s₃ =>
        Ex3 fun m' σ' ι' => SS C ((it2, J2 (i + 1)) :: (D, nsP m') :: (acc, lstP out) :: σ') ι' s₃ ∧ Inv2 (i + 1) m' (out.push x) σ' ι') E s₂) E s
  done : ∀ m out σ ι, Inv2 n2 m out σ ι → Pq out σ ι

theorem run_in {elt t1 i1 t2 i2 : Expr} {scope : Scope} {pos : Pos} {cenv : Env} {D acc it2 : Addr} {J2 : Nat → OP} {n2 : Nat} {is2 : Nat → Value → Imm → Prop} {need2 : Led → Prop} {m : Str → Option Value} {out : Array Value}
    {Inv2 : Nat → (Str → Option Value) → Array Value → Led → Imm → Prop} {Pq : Array Value → Led → Imm → Prop} (K : InOk C A elt t2 cenv D acc it2 J2 n2 is2 need2 Inv2 Pq)
    (S : SS C ((it2, J2 0) :: (D, nsP m) :: (acc, lstP out) :: σ) ι s) (h0 : Inv2 0 m out σ ι) (hA : A.handled = none) (ht : ∀ v, letOwnedTupleGo t2 (.ref it2) v = pure ())
    (hR : ∀ m' out' σ' ι' s', SS C ((D, nsP m') :: (acc, lstP out') :: σ') ι' s' → Pq out' σ' ι' → R (.ok .next) s') :
    codeAny (model prg C.w) A (.compStart (Two elt t1 i1 t2 i2 scope pos) 1 (.ref it2) (.ref acc) cenv) R s := by
  have loop : codeAny (model prg C.w) A (.compLoop (Two elt t1 i1 t2 i2 scope pos) 1 (.ref it2) (.ref acc) cenv) R s := by
    refine loop_in (fun k s => Ex5 fun i m out σ ι => And3 (i + k = n2) (SS C ((it2, J2 i) :: (D, nsP m) :: (acc, lstP out) :: σ) ι s) (Inv2 i m out σ ι)) (fun k s hk => ?_) n2 ⟨0, m, out, σ, ι, Nat.zero_add _, S, h0⟩ ht
    obtain ⟨i, m, out, σ, ι, e, S, hI⟩ := hk
    by_cases hi : i < n2
    · refine K.W.next hi S (K.need _ _ _ _ _ hI) fun v ι' s' hι hv S' => ?_
      refine wpAny_mono (K.step i m out σ ι ι' v s' _ hi hI hι hv S') (fun _ s2 h2 => wpAny_mono h2 (fun x s3 h3 => ?_) fun _ _ x => x) fun _ _ x => x
      obtain ⟨m', σ', ι'', S3, h⟩ := h3
      exact list_push S3 (.tail (.tail .head)) (K.size _ _ _ _ _ hi hI) fun s4 S4 => ⟨k - 1, by (first | lia | omega), i + 1, m', out.push x, σ', ι'', by (first | lia | omega), S4, h⟩
    · have : i = n2 := by (first | lia | omega)
      subst this
      exact K.W.stop hA S (K.need _ _ _ _ _ hI) fun s' S' => hR m out σ ι s' S' (K.done _ _ _ _ hI)
  exact start_in loop (K.W.again S loop)

theorem run2 {it : Addr} {J : Nat → OP} {n : Nat} {is : Nat → Value → Imm → Prop} {need : Led → Prop} {elt t1 i1 t2 i2 : Expr} {scope : Scope} {pos : Pos} {cl : List (Str × Addr)} {env : Env} {P : Value → Led → Imm → Prop}
    (W : Walker C it J n is need) (Inv : Nat → (Str → Option Value) → Array Value → Led → Imm → Prop) (hneed : ∀ i m out D acc σ ι, Inv i m out σ ι → need ((D, nsP m) :: (acc, lstP out) :: σ))
    (turn : ∀ i m out D acc σ ι ι' v s, i < n → Inv i m out σ ι → ι ⊆ ι' → is i v ι' → SS C ((it, J (i + 1)) :: (D, nsP m) :: (acc, lstP out) :: σ) ι' s →
      wpAny (model prg C.w) A (assign t1 (compEnvC scope cl D env) v) (fun _ s₂ => wpAny (model prg C.w) A (eval i2 (compEnvC scope cl D env)) (fun x s₃ => wpAny (model prg C.w) A (pyIter x) (fun itv s₄ =>
        Ex9 fun it2 J2 n2 is2 need2 Inv2 σ2 ι2 m2 => And4 (itv = .ref it2) (SS C ((it2, J2 0) :: (D, nsP m2) :: (acc, lstP out) :: (it, J (i + 1)) :: σ2) ι2 s₄) (Inv2 0 m2 out ((it, J (i + 1)) :: σ2) ι2) (InOk C A elt t2 (compEnvC scope cl D env) D acc it2 J2 n2 is2 need2 Inv2 (fun out' σ' ι' => ∃ σ'', σ' = (it, J (i + 1)) :: σ'' ∧ ∀ m', Inv (i + 1) m' out' σ'' ι')))
        (fun _ _ => False) s₃) (fun _ _ => False) s₂) (fun _ _ => False) s)
    (done : ∀ m out acc σ ι, Inv n m out σ ι → P (.ref acc) ((acc, lstP out) :: σ) ι)
    (hA : A.handled = none) (h0 : Inv 0 (fun _ => none) #[] σ ι) (hc : autoParam (∀ D, cellsFrom (D + 1) scope.names [] = []) tacRfl1)
    (ht : autoParam (∀ v, letOwnedTupleGo t1 (.ref it) v = pure ()) tacRfl1) (ht2 : autoParam (∀ it v, letOwnedTupleGo t2 (.ref it) v = pure ()) tacRfl2) (hs : autoParam (∀ env x, foldedSetIterable i2 env x = pure x) tacRfl2) :
    CRun C A (Two elt t1 i1 t2 i2 scope pos) scope cl env (.ref it) ((it, J 0) :: σ) ι P := by
  intro D acc s3 S3
  rw [hc] at S3 ⊢
  have S5 : SS C ((it, J 0) :: (D, nsP (fun _ => none)) :: (acc, lstP #[]) :: σ) ι s3 := by
    refine S3.perm ?_
    exact ((List.Perm.swap _ _ _).cons _).trans (List.Perm.swap _ _ _)
  have loop : codeAny (model prg C.w) A (.compLoop (Two elt t1 i1 t2 i2 scope pos) 0 (.ref it) (.ref acc) (compEnvC scope cl D env)) (fun r s' => Ex4 fun f m σ' ι' => And3 (r = .ok f) (SS C ((D, nsP m) :: σ') ι' s') (P (.ref acc) σ' ι')) s3 := by
    refine loop_out (fun k s => Ex5 fun i m out σ ι => And3 (i + k = n) (SS C ((it, J i) :: (D, nsP m) :: (acc, lstP out) :: σ) ι s) (Inv i m out σ ι)) (fun k s hk => ?_) n ⟨0, _, #[], σ, ι, Nat.zero_add _, S5, h0⟩ ht (hs _)
    refine gen_P fun Pg kg => ?_
    obtain ⟨i, m, out, σ, ι, e, S, hI⟩ := hk
    refine kg ?_
    clear kg
    by_cases hi : i < n
    · refine W.next hi S (hneed _ _ _ _ _ _ _ hI) fun v ι' s' hι hv S' => ?_
      refine wpAny_mono (turn i m out D acc σ ι ι' v s' hi hI hι hv S') (fun _ s2 h2 => wpAny_mono h2 (fun x s3 h3 => wpAny_mono h3 (fun itv s4 h4 => ?_) fun _ _ x => x) fun _ _ x => x) fun _ _ x => x
      refine gen_P fun Pg kg => ?_
      obtain ⟨it2, J2, n2, is2, need2, Inv2, σ2, ι2, m2, rfl, S4, h02, K⟩ := h4
      refine kg ?_
      clear kg
      refine run_in K S4 h02 hA (ht2 it2) fun m' out' σ' ι' s5 S5 hP => ?_
      refine gen_P fun Pg kg => ?_
      obtain ⟨σ'', rfl, hI'⟩ := hP
      refine kg ?_
      clear kg
      refine ⟨⟨_, rfl⟩, k - 1, by (first | lia | omega), i + 1, m', out', σ'', ι', by (first | lia | omega), S5.perm ?_, hI' m'⟩
      exact ((List.Perm.swap _ _ _).cons _).trans (List.Perm.swap _ _ _)
    · have : i = n := by (first | lia | omega)
      subst this
      refine W.stop hA S (hneed _ _ _ _ _ _ _ hI) fun s' S' => ?_
      exact ⟨_, m, _, _, rfl, S', done _ _ _ _ _ hI⟩
  exact codeAny_compStart_list loop (W.again S5 loop)
end
end Mine
end Part48
section Part49
set_option tactic.hygienic false
open PySem PySem.W PySem.W.X PySem.Calls PyProof.Rows
set_option maxRecDepth 100000
namespace Mine

section
variable {C : Cx} {σ σ' τ : Led} {ι ι' : Imm} {A : Around} {s : Shared} {E : Value → Shared → Prop} {a dx l b : Addr} {vs us items : Array Value}

theorem newL {xs : Array Value} (S : SS C σ ι s) : SS C ((s.heap.objs.size, lstP xs) :: σ) ι { s with heap := s.heap.push { cls := .type "list", data := .seq xs } } := by
  have e : lstP xs { cls := .type "list", data := .seq xs } := ⟨⟨rfl, rfl⟩, _, rfl⟩
  exact S.alloc e rfl (lstP_not e)

/-- list + list -/
theorem add_L {Q : Value → Shared → Prop} (S : SS C σ ι s) (hl : (l, lstP vs) ∈ σ) (hb : (b, lstP us) ∈ σ) (h : ∀ r s', SS C ((r, lstP (vs ++ us)) :: σ) ι s' → Q (.ref r) s') (hz : vs.size + us.size ≤ sizeLine) :
    wpAny (model prg C.w) A (binaryOp .Add (.ref l) (.ref b)) Q E s := by
  refine gen_P fun Pg kg => ?_
  obtain ⟨⟨cls, dd, data, sl⟩, ho, ⟨hc, _⟩, n, hd⟩ := S.at hl
  obtain ⟨⟨cls2, dd2, data2, sl2⟩, ho2, ⟨hc2, _⟩, n2, hd2⟩ := S.at hb
  refine kg ?_
  clear kg
  simp only at hc hd hc2 hd2
  subst hc hd hc2 hd2
  refine concat_meets ⟨_, ho, rfl⟩ ⟨_, ho2, rfl⟩ noFill_list_add seq_list_add PySem.F.slot_list_add PySem.F.entry_list_add (PySem.F.args_list_add_2 _ _) (list_addW l b vs us n n2 dd dd2 sl sl2 hz) ⟨ho, ho2, ?_⟩
  exact h _ _ (newL S)

theorem mul_raw {x : Int} {u : Tok} {d : Option Addr} {k : Nat} {sl : Array (Option Value)} {Q : Value → Shared → Prop} (ho : s.heap.get? l = some { cls := .type "list", dict := d, data := .seq vs k, slots := sl })
    (hlo : -(2 ^ 63 : Int) ≤ x) (hhi : x < 2 ^ 63) (hsz' : vs.size * x.toNat ≤ 2 ^ 24)
    (h : Q (.ref s.heap.objs.size) { s with heap := s.heap.push { cls := .type "list", data := .seq (List.foldl (fun x1 x2 => x1 ++ x2) #[] (List.replicate (if vs.isEmpty = true then 0 else x.toNat) vs)) } }) :
    wpAny (model prg C.w) A (binaryOp .Mult (.ref l) (.int x u)) Q E s := by
  refine wpAny_binaryOp_repeat_ref (T := "list") (U := "int") (by decide) ⟨_, ho, rfl⟩ (fun s' => typeIs_int s' x u) noFill_list_mul F.fills_int_mul F.slot_int_rmul repeat_list F.slot_int_index.lookup
    (call_meets F.slot_int_rmul (typeIs_int s x u) F.entry_int_rmul (F.args_int_rmul_2 _ _) (lm_int_rmul_list_any x u l vs k d sl)
      ⟨ho, rfl, ⟨_, ho, rfl⟩, call_meets F.slot_list_mul ⟨_, ho, rfl⟩ F.entry_list_mul (F.args_list_mul_2 _ _)
        (lm_list_mul_any l vs k d sl x u (by simp [Builtin.List.listFitsIndex]; omega) (by omega) (by simp [Builtin.List.listTooLong, sizeLine]; omega))
        ⟨ho, ?_⟩⟩)
  exact h
/-- list * int -/
theorem mul_L {x : Nat} {u : Tok} {Q : Value → Shared → Prop} (S : SS C σ ι s) (hl : (l, lstP vs) ∈ σ) (hx : x ≤ 1000000) (hz : vs.size * x ≤ 1000000)
    (h : ∀ r s', SS C ((r, lstP (List.replicate x vs.toList).flatten.toArray) :: σ) ι s' → Q (.ref r) s') : wpAny (model prg C.w) A (binaryOp .Mult (.ref l) (.int x u)) Q E s := by
  refine gen_P fun Pg kg => ?_
  obtain ⟨⟨cls, d, data, sl⟩, ho, ⟨hc, _⟩, k, hd⟩ := S.at hl
  refine kg ?_
  clear kg
  simp only at hc hd
  subst hc hd
  have hzz : vs.size * (x : Int).toNat ≤ 2 ^ 24 := by (first | (refine rwP (Int.toNat_natCast) ?_; try with_reducible rfl) | rw [Int.toNat_natCast]); exact Nat.le_trans hz (by decide)
  refine mul_raw ho (by (first | lia | omega)) (by (first | lia | omega)) hzz ?_
  (first | (refine rwP (listMul_foldl_if) ?_; refine rwP (Int.toNat_natCast) ?_; try with_reducible rfl) | rw [listMul_foldl_if, Int.toNat_natCast])
  exact h _ _ (newL S)

/-- len(list) -/
theorem len_L {Q : Value → Shared → Prop} (S : SS C σ ι s) (hl : (l, lstP vs) ∈ σ) (hz : vs.size ≤ 1000000) (h : ∀ t s', SS C σ ι s' → Q (.int vs.size t) s') : wpAny (model prg C.w) A (call (.builtin "len") [.ref l]) Q E s := by
  refine gen_P fun Pg kg => ?_
  obtain ⟨o, e, ⟨hc, _⟩, n, hd⟩ := S.at hl
  refine kg ?_
  clear kg
  refine call_len_list ⟨o, e, hc, n, hd⟩ (by (first | lia | omega)) (h _ _ ?_)
  exact S

/-- sum(list of ints) -/
theorem sum_L {ns : List Int} {Q : Value → Shared → Prop} (S : SS C σ ι s) (hl : (l, lstP vs) ∈ σ) (hi : IntsAre vs.toList ns) (hA : A.handled = none) (h : ∀ t s', SS C σ ι s' → Q (.int ns.sum t) s') :
    wpAny (model prg C.w) A (call (.builtin "sum") [.ref l]) Q E s := by
  refine gen_P fun Pg kg => ?_
  obtain ⟨o, e, ⟨hc, _⟩, n, hd⟩ := S.at hl
  obtain ⟨xs, hxs⟩ := hi.allInts.items
  refine kg ?_
  clear kg
  have hv : vs = intItems xs := by (first | (refine rwQ (hxs) ?_; try with_reducible rfl) | rw [← hxs])
  have hn := hi.numsOf
  refine sum_intListG (xs := xs) hA ⟨o, e, hc, n, by (first | (refine rwQ (hv) ?_; try with_reducible rfl) | rw [← hv]); exact hd⟩ fun h' tk t' hk => ?_
  have es : preSum (numAt xs) xs.size = ns.sum := by
    (first | (refine rwP (preSum_eq) ?_; refine rwP (List.take_of_length_le (by simp)) ?_; refine rwQ (hn) ?_; refine rwP (hv) ?_; refine rwP (nums_intItems) ?_; try with_reducible rfl) | rw [preSum_eq, List.take_of_length_le (by simp), ← hn, hv, nums_intItems])
  (first | (refine rwP (es) ?_; try with_reducible rfl) | rw [es])
  exact h _ _ (S.kept hk)
end
end Mine
end Part49
section Part50
set_option tactic.hygienic false
open PySem PySem.W PySem.W.X PySem.Calls PyProof.Rows
set_option maxRecDepth 100000
namespace Mine

section
variable {C : Cx} {σ σ' τ : Led} {ι ι' : Imm} {h h' : Heap} {g : Array GenState} {os : OsState}
theorem St.apart (S : St C σ ι h g os) {p : Addr × OP} {q : Addr × Obj} (hp : p ∈ σ) (hq : q ∈ ι) : p.1 ≠ q.1 := fun e => by
  obtain ⟨o, eo, _, nt, _⟩ := S.own p hp
  obtain ⟨eq, t, _⟩ := S.imm q hq
  rw [e, eq] at eo
  injection eo with eo
  exact nt (eo ▸ t)
theorem St.remake {P P' : Led} {B B' : Imm} {X : List Addr} (S : St C (P ++ σ) (B ++ ι) h g os) (hkeys : P'.map (·.1) = P.map (·.1)) (hP : ∀ p ∈ P', ∃ o, h'.get? p.1 = some o ∧ p.2 o ∧ ¬ isTup o)
    (hB : ∀ p ∈ B', h'.get? p.1 = some p.2 ∧ isTup p.2 ∧ C.base.get? p.1 = none) (kept : ∀ c o, c ∉ X → h.get? c = some o → h'.get? c = some o)
    (hX : ∀ c ∈ X, c ∈ P.map (·.1) ∨ ((∀ p ∈ σ, p.1 ≠ c) ∧ (∀ p ∈ ι, p.1 ≠ c) ∧ C.base.get? c = none)) : St C (P' ++ σ) (B' ++ ι) h' g os := by
  have nd := S.nd
  rw [List.map_append, List.nodup_append] at nd
  have away : ∀ c ∈ X, (∀ p ∈ σ, p.1 ≠ c) ∧ (∀ p ∈ ι, p.1 ≠ c) ∧ C.base.get? c = none := fun c hc => by
    rcases hX c hc with hm | r
    · refine ⟨fun p hp e => nd.2.2 c hm p.1 (List.mem_map_of_mem (f := (·.1)) hp) e.symm, fun p hp e => ?_, ?_⟩
      · obtain ⟨q, hq, rfl⟩ := List.mem_map.mp hm
        exact S.apart (List.mem_append_left _ hq) (List.mem_append_right _ hp) e.symm
      · refine gen_P fun Pg kg => ?_
        obtain ⟨q, hq, rfl⟩ := List.mem_map.mp hm
        obtain ⟨_, _, _, _, b⟩ := S.own q (List.mem_append_left _ hq)
        refine kg ?_
        clear kg
        exact b
    · exact r
  have inb : ∀ b o o', C.base.get? b = some o' → h.get? b = some o → h'.get? b = some o := fun b o o' e eh => kept b o (fun hb => by rw [(away b hb).2.2] at e; cases e) eh
  refine ⟨by (first | (refine rwP (List.map_append) ?_; refine rwP (hkeys) ?_; refine rwQ (List.map_append) ?_; try with_reducible rfl) | rw [List.map_append, hkeys, ← List.map_append]); exact S.nd, fun p hp => ?_, fun p hp => ?_, fun b o e n => inb b o o e (S.old b o e n), fun T hT => ?_, fun a o e => ?_, S.gens, S.os⟩
  · rcases List.mem_append.mp hp with hp | hp
    · obtain ⟨o, eo, po, nt⟩ := hP p hp
      have : p.1 ∈ P.map (·.1) := by (first | (refine rwQ (hkeys) ?_; try with_reducible rfl) | rw [← hkeys]); exact List.mem_map_of_mem (f := (·.1)) hp
      refine gen_P fun Pg kg => ?_
      obtain ⟨q, hq, e⟩ := List.mem_map.mp this
      obtain ⟨_, _, _, _, b⟩ := S.own q (List.mem_append_left _ hq)
      refine kg ?_
      clear kg
      exact ⟨o, eo, po, nt, by (first | (refine rwQ (e) ?_; try with_reducible rfl) | rw [← e]); exact b⟩
    · obtain ⟨o, eo, po, nt, b⟩ := S.own p (List.mem_append_right _ hp)
      exact ⟨o, kept _ _ (fun hx => (away _ hx).1 p hp rfl) eo, po, nt, b⟩
  · rcases List.mem_append.mp hp with hp | hp
    · exact hB p hp
    · obtain ⟨e, t, b⟩ := S.imm p (List.mem_append_right _ hp)
      exact ⟨kept _ _ (fun hx => (away _ hx).2.1 p hp rfl) e, t, b⟩
  · refine gen_P fun Pg kg => ?_
    obtain ⟨c, ps, mr, hc, ic, ⟨⟨oc, vc, ec, r⟩, et⟩, ⟨⟨oc', vc', ec', r'⟩, et'⟩⟩ := (S.tab T hT).more
    refine kg ?_
    clear kg
    refine ⟨c, ps, mr, hc, ?_, ⟨⟨oc, vc, ec, r⟩, et⟩, ⟨⟨oc', vc', inb _ _ _ ec ec', r'⟩, inb _ _ _ et et'⟩⟩
    exact ic.at2 (fun _ e => inb _ _ _ ec e) (fun _ e => inb _ _ _ et e)
  · cases q : isTab a with
    | false => exact Heap.lt_size (inb _ _ _ e (S.old _ _ e q))
    | true =>
      refine gen_P fun Pg kg => ?_
      obtain ⟨c, ps, mr, _, _, ⟨_, _⟩, ⟨_, et⟩⟩ := (S.tab a q).more
      refine kg ?_
      clear kg
      exact Heap.lt_size (inb _ _ _ e et)
end

noncomputable def zipP (TI TO : Addr) (f0 : Value) : OP := fun o => o = { cls := .type "zip", dict := none, data := .fields #[f0, .bool false, .bool false, .ref TI, .ref TO], slots := #[] }
theorem zipP_not {TI TO : Addr} {f0 : Value} {o : Obj} (h : zipP TI TO f0 o) : ¬ isTup o := by
  rintro ⟨e, _⟩; rw [h] at e; injection e with e; exact absurd e (by decide)

section
variable {C : Cx} {σ σ' τ : Led} {ι ι' : Imm} {A : Around} {s : Shared} {E : Value → Shared → Prop} {l1 l2 z TI TO i1 i2 : Addr} {xs ys : Array Value} {k : Nat} {a b : Value}

noncomputable abbrev zipLed (z TI TO i1 i2 l1 l2 : Addr) (k : Nat) (f0 : Value) : Led := [(z, zipP TI TO f0), (i1, liP l1 k), (i2, liP l2 k)]

theorem zip_apart {f0 : Value} (S : SS C (zipLed z TI TO i1 i2 l1 l2 k f0 ++ σ) ((TO, pieceObj a b) :: (TI, pieceObj (.ref i1) (.ref i2)) :: ι) s) (ht : TO ≠ TI) (h1 : (l1, lstP xs) ∈ σ) (h2 : (l2, lstP ys) ∈ σ) : ZipApart z TI TO i1 i2 l1 l2 := by
  have nd := S.nd
  simp only [List.cons_append, List.nil_append, List.map_cons, List.nodup_cons, List.mem_cons, not_or] at nd
  refine gen_P fun Pg kg => ?_
  obtain ⟨⟨a1, a2, a3⟩, ⟨a4, a5⟩, a6, _⟩ := nd
  refine kg ?_
  clear kg
  have m1 : l1 ∈ σ.map (·.1) := List.mem_map_of_mem (f := (·.1)) h1
  have m2 : l2 ∈ σ.map (·.1) := List.mem_map_of_mem (f := (·.1)) h2
  have A1 : ∀ {p : Addr × OP}, p ∈ zipLed z TI TO i1 i2 l1 l2 k f0 ++ σ → p.1 ≠ TO := fun hp => S.apart hp (q := (TO, pieceObj a b)) (.head _)
  have A2 : ∀ {p : Addr × OP}, p ∈ zipLed z TI TO i1 i2 l1 l2 k f0 ++ σ → p.1 ≠ TI := fun hp => S.apart hp (q := (TI, pieceObj (.ref i1) (.ref i2))) (.tail _ (.head _))
  have hz : (z, zipP TI TO f0) ∈ zipLed z TI TO i1 i2 l1 l2 k f0 ++ σ := .head _
  have hi1 : (i1, liP l1 k) ∈ zipLed z TI TO i1 i2 l1 l2 k f0 ++ σ := .tail _ (.head _)
  have hi2 : (i2, liP l2 k) ∈ zipLed z TI TO i1 i2 l1 l2 k f0 ++ σ := .tail _ (.tail _ (.head _))
  refine ⟨fun e => A2 hz e.symm, fun e => A1 hz e.symm, fun e => a1 e.symm, fun e => a2 e.symm, fun e => ht e.symm, fun e => A2 hi1 e.symm, fun e => A2 hi2 e.symm, fun e => A1 hi1 e.symm, fun e => A1 hi2 e.symm, a4, ?_, ?_, ?_, ?_, ?_, ?_, ?_, ?_⟩
  · exact fun e => a3 (e ▸ m1)
  · exact A1 (p := (l1, lstP xs)) (.tail _ (.tail _ (.tail _ h1)))
  · exact fun e => a5 (e ▸ m1)
  · exact fun e => a6 (e ▸ m1)
  · exact fun e => a3 (e ▸ m2)
  · exact A1 (p := (l2, lstP ys)) (.tail _ (.tail _ (.tail _ h2)))
  · exact fun e => a5 (e ▸ m2)
  · exact fun e => a6 (e ▸ m2)

theorem zip_item {x y : Value} {Q : Option Value → Shared → Prop} (S : SS C (zipLed z TI TO i1 i2 l1 l2 k .none ++ σ) ((TO, pieceObj a b) :: (TI, pieceObj (.ref i1) (.ref i2)) :: ι) s) (ht : TO ≠ TI) (hti : ∀ p ∈ ι, p.1 ≠ TO)
    (h1 : (l1, lstP xs) ∈ σ) (h2 : (l2, lstP ys) ∈ σ) (hx : xs[k]? = some x) (hy : ys[k]? = some y)
    (h : ∀ (T : Addr) s', SS C (zipLed z TI TO i1 i2 l1 l2 (k + 1) (rawInt T) ++ σ) ((T, pieceObj x y) :: (TO, pieceObj x y) :: (TI, pieceObj (.ref i1) (.ref i2)) :: ι) s' → Q (some (.ref T)) s') :
    wpAny (model prg C.w) A (pyNext (.ref z)) Q E s := by
  have D := zip_apart S ht h1 h2
  obtain ⟨oz, ez, pz⟩ := S.at (a := z) (.head _)
  subst pz
  refine gen_P fun Pg kg => ?_
  obtain ⟨o1, e1, p1⟩ := S.at (a := i1) (.tail _ (.head _))
  obtain ⟨o2, e2, p2⟩ := S.at (a := i2) (.tail _ (.tail _ (.head _)))
  refine kg ?_
  clear kg
  have eTI := S.tup (a := TI) (.tail _ (.head _))
  have eTO := S.tup (a := TO) (.head _)
  refine gen_P fun Pg kg => ?_
  obtain ⟨ol1, el1, ⟨c1, _⟩, n1, d1⟩ := S.at (a := l1) (.tail _ (.tail _ (.tail _ h1)))
  obtain ⟨ol2, el2, ⟨c2, _⟩, n2, d2⟩ := S.at (a := l2) (.tail _ (.tail _ (.tail _ h2)))
  refine kg ?_
  clear kg
  refine wpAny_pyNext_zip_item D ez eTI eTO ⟨o1, e1, p1.1, p1.2⟩ ⟨o2, e2, p2.1, p2.2⟩ ⟨ol1, el1, c1, n1, d1⟩ ⟨ol2, el2, c2, n2, d2⟩ hx hy fun h' f1 f2 f3 f4 f5 f6 kp => ?_
  refine h s.heap.objs.size _ ?_
  have bTI := (S.imm (TI, pieceObj (.ref i1) (.ref i2)) (.tail _ (.head _))).2
  have bTO := (S.imm (TO, pieceObj a b) (.head _)).2
  refine St.remake (P := zipLed z TI TO i1 i2 l1 l2 k .none) (B := [(TO, pieceObj a b), (TI, pieceObj (.ref i1) (.ref i2))]) (B' := [(s.heap.objs.size, pieceObj x y), (TO, pieceObj x y), (TI, pieceObj (.ref i1) (.ref i2))]) (X := [z, TO, i1, i2]) S rfl (fun p hp => ?_) (fun p hp => ?_)
    (fun c o hc e => ?_) (fun c hc => ?_)
  · rcases List.mem_cons.mp hp with rfl | hp
    · exact ⟨_, f1, rfl, zipP_not rfl⟩
    · rcases List.mem_cons.mp hp with rfl | hp
      · refine gen_P fun Pg kg => ?_
        obtain ⟨o, eo, c, d⟩ := f3
        refine kg ?_
        clear kg
        exact ⟨o, eo, ⟨c, d⟩, liP_not ⟨c, d⟩⟩
      · (first | (refine rwP (List.mem_singleton.mp hp) ?_; try with_reducible rfl) | rw [List.mem_singleton.mp hp])
        refine gen_P fun Pg kg => ?_
        obtain ⟨o, eo, c, d⟩ := f4
        refine kg ?_
        clear kg
        exact ⟨o, eo, ⟨c, d⟩, liP_not ⟨c, d⟩⟩
  · rcases List.mem_cons.mp hp with rfl | hp
    · exact ⟨f5, pieceObj_tup _ _, fresh_base S.big (Nat.le_refl _)⟩
    · rcases List.mem_cons.mp hp with rfl | hp
      · exact ⟨f2, pieceObj_tup _ _, bTO.2⟩
      · (first | (refine rwP (List.mem_singleton.mp hp) ?_; try with_reducible rfl) | rw [List.mem_singleton.mp hp])
        exact ⟨kp TI _ D.TIz D.TITO D.TIi1 D.TIi2 eTI, bTI⟩
  · simp only [List.mem_cons, List.not_mem_nil, or_false, not_or] at hc
    exact kp c o hc.1 hc.2.1 hc.2.2.1 hc.2.2.2 e
  · simp only [List.mem_cons, List.not_mem_nil, or_false] at hc
    rcases hc with rfl | rfl | rfl | rfl
    · exact .inl (by simp)
    · exact .inr ⟨fun p hp => S.apart (p := p) (q := (c, pieceObj a b)) (.tail _ (.tail _ (.tail _ hp))) (.head _), hti, bTO.2⟩
    · exact .inl (by simp)
    · exact .inl (by simp)

theorem zip_end {Q : Option Value → Shared → Prop} (S : SS C (zipLed z TI TO i1 i2 l1 l2 k .none ++ σ) ((TO, pieceObj a b) :: (TI, pieceObj (.ref i1) (.ref i2)) :: ι) s) (ht : TO ≠ TI) (hti : ∀ p ∈ ι, p.1 ≠ TO) (hA : A.handled = none)
    (h1 : (l1, lstP xs) ∈ σ) (h2 : (l2, lstP ys) ∈ σ) (hend : xs[k]? = none ∨ ys[k]? = none) (h : ∀ s', SS C σ ι s' → Q none s') :
    wpAny (model prg C.w) A (pyNext (.ref z)) Q E s := by
  have D := zip_apart S ht h1 h2
  obtain ⟨oz, ez, pz⟩ := S.at (a := z) (.head _)
  subst pz
  refine gen_P fun Pg kg => ?_
  obtain ⟨o1, e1, p1⟩ := S.at (a := i1) (.tail _ (.head _))
  obtain ⟨o2, e2, p2⟩ := S.at (a := i2) (.tail _ (.tail _ (.head _)))
  refine kg ?_
  clear kg
  have eTI := S.tup (a := TI) (.tail _ (.head _))
  have eTO := S.tup (a := TO) (.head _)
  refine gen_P fun Pg kg => ?_
  obtain ⟨ol1, el1, ⟨c1, _⟩, n1, d1⟩ := S.at (a := l1) (.tail _ (.tail _ (.tail _ h1)))
  obtain ⟨ol2, el2, ⟨c2, _⟩, n2, d2⟩ := S.at (a := l2) (.tail _ (.tail _ (.tail _ h2)))
  refine kg ?_
  clear kg
  refine wpAny_pyNext_zip_end hA D ez eTI eTO ⟨o1, e1, p1.1, p1.2⟩ ⟨o2, e2, p2.1, p2.2⟩ ⟨ol1, el1, c1, n1, d1⟩ ⟨ol2, el2, c2, n2, d2⟩ hend fun h' kp => ?_
  refine h _ ?_
  have bTO := (S.imm (TO, pieceObj a b) (.head _)).2
  have nd := S.nd
  rw [List.map_append, List.nodup_append] at nd
  have Sa : SS C σ ι s := (S.sub (List.sublist_append_right _ _)).less fun _ h => .tail _ (.tail _ h)
  refine St.remake (P := []) (P' := []) (B := []) (B' := []) (X := [z, TO, i1, i2]) Sa rfl (fun p hp => by cases hp) (fun p hp => by cases hp) (fun c o hc e => ?_) (fun c hc => .inr ?_)
  · simp only [List.mem_cons, List.not_mem_nil, or_false, not_or] at hc
    exact kp c o hc.1 hc.2.1 hc.2.2.1 hc.2.2.2 e
  · have own : ∀ {p : Addr × OP}, p ∈ zipLed z TI TO i1 i2 l1 l2 k .none → (∀ q ∈ σ, q.1 ≠ p.1) ∧ (∀ q ∈ ι, q.1 ≠ p.1) ∧ C.base.get? p.1 = none := fun {p} hp => by
      refine ⟨fun q hq e => nd.2.2 p.1 (List.mem_map_of_mem (f := (·.1)) hp) q.1 (List.mem_map_of_mem (f := (·.1)) hq) e.symm, fun q hq e => S.apart (List.mem_append_left _ hp) (.tail _ (.tail _ hq)) e.symm, ?_⟩
      refine gen_P fun Pg kg => ?_
      obtain ⟨_, _, _, _, b⟩ := S.own p (List.mem_append_left _ hp)
      refine kg ?_
      clear kg
      exact b
    simp only [List.mem_cons, List.not_mem_nil, or_false] at hc
    rcases hc with rfl | rfl | rfl | rfl
    · exact own (p := (c, zipP TI TO .none)) (.head _)
    · exact ⟨fun p hp => S.apart (p := p) (q := (c, pieceObj a b)) (.tail _ (.tail _ (.tail _ hp))) (.head _), hti, bTO.2⟩
    · exact own (p := (c, liP l1 k)) (.tail _ (.head _))
    · exact own (p := (c, liP l2 k)) (.tail _ (.tail _ (.head _)))

theorem zip_go {elts : List Expr} {n : Nat} {pos : Pos} {T : Addr} {Q : Unit → Shared → Prop} (S : SS C (zipLed z TI TO i1 i2 l1 l2 k (rawInt T) ++ σ) ι s) (h : ∀ s', SS C (zipLed z TI TO i1 i2 l1 l2 k .none ++ σ) ι s' → Q () s') :
    wpAny (model prg C.w) A (letOwnedTupleGo (.Tuple elts n pos) (.ref z) (.ref T)) Q E s := by
  obtain ⟨oz, ez, pz⟩ := S.at (a := z) (.head _)
  subst pz
  refine wpAny_letOwnedTupleGo_zip ez fun h' f1 hs => h _ ?_
  exact S.same .head hs f1 rfl (zipP_not rfl)

/-- zip(l1, l2) -/
theorem zip_new {Q : Value → Shared → Prop} (S : SS C σ ι s) (h1 : (l1, lstP xs) ∈ σ) (h2 : (l2, lstP ys) ∈ σ)
    (h : ∀ z TI TO i1 i2 s', TO ≠ TI → (∀ p ∈ ι, p.1 ≠ TO) → SS C (zipLed z TI TO i1 i2 l1 l2 0 .none ++ σ) ((TO, pieceObj .none .none) :: (TI, pieceObj (.ref i1) (.ref i2)) :: ι) s' → Q (.ref z) s') :
    wpAny (model prg C.w) A (call (.type "zip") [.ref l1, .ref l2]) Q E s := by
  refine gen_P fun Pg kg => ?_
  obtain ⟨ol1, el1, ⟨c1, _⟩, n1, d1⟩ := S.at h1
  obtain ⟨ol2, el2, ⟨c2, _⟩, n2, d2⟩ := S.at h2
  refine kg ?_
  clear kg
  refine call_zip_2 ⟨ol1, el1, c1, n1, d1⟩ ⟨ol2, el2, c2, n2, d2⟩ fun h' f1 f2 f3 f4 f5 f6 kp => ?_
  have fr : ∀ {j}, C.base.get? (s.heap.objs.size + j) = none := fun {j} => fresh_base S.big (Nat.le_add_right _ _)
  have lt : ∀ {p : Addr × Obj}, p ∈ ι → p.1 < s.heap.objs.size := fun hp => Heap.lt_size (S.imm _ hp).1
  refine h (s.heap.objs.size + 4) (s.heap.objs.size + 2) (s.heap.objs.size + 3) s.heap.objs.size (s.heap.objs.size + 1) _ (Nat.ne_of_gt (Nat.lt_succ_self _)) (fun p hp => Nat.ne_of_lt (Nat.lt_of_lt_of_le (lt hp) (Nat.le_add_right _ _))) ?_
  have S1 : St C (zipLed (s.heap.objs.size + 4) (s.heap.objs.size + 2) (s.heap.objs.size + 3) s.heap.objs.size (s.heap.objs.size + 1) l1 l2 0 .none ++ σ) ι h' s.gens s.os := by
    refine St.many S ?_ kp fun p hp => ?_
    · simp
    · rcases List.mem_cons.mp hp with rfl | hp
      · exact ⟨Nat.le_add_right _ _, _, f1, rfl, zipP_not rfl⟩
      · rcases List.mem_cons.mp hp with rfl | hp
        · refine gen_P fun Pg kg => ?_
          obtain ⟨o, eo, c, d⟩ := f4
          refine kg ?_
          clear kg
          exact ⟨Nat.le_refl _, o, eo, ⟨c, d⟩, liP_not ⟨c, d⟩⟩
        · (first | (refine rwP (List.mem_singleton.mp hp) ?_; try with_reducible rfl) | rw [List.mem_singleton.mp hp])
          refine gen_P fun Pg kg => ?_
          obtain ⟨o, eo, c, d⟩ := f5
          refine kg ?_
          clear kg
          exact ⟨Nat.le_add_right _ _, o, eo, ⟨c, d⟩, liP_not ⟨c, d⟩⟩
  refine ⟨S1.nd, S1.own, fun p hp => ?_, S1.old, S1.tab, S1.big, S1.gens, S1.os⟩
  rcases List.mem_cons.mp hp with rfl | hp
  · exact ⟨f3, pieceObj_tup _ _, fr⟩
  · rcases List.mem_cons.mp hp with rfl | hp
    · exact ⟨f2, pieceObj_tup _ _, fr⟩
    · exact S1.imm p hp
theorem zip_iter {f0 : Value} {Q : Value → Shared → Prop} (S : SS C (zipLed z TI TO i1 i2 l1 l2 k f0 ++ σ) ι s) (h : Q (.ref z) s) : wpAny (model prg C.w) A (pyIter (.ref z)) Q E s := by
  obtain ⟨oz, ez, pz⟩ := S.at (a := z) (.head _)
  subst pz
  exact wpAny_pyIter_zip ez h
end
end Mine
end Part50
section Part51
set_option tactic.hygienic false
open PySem PySem.W PySem.W.X PySem.Calls PyProof.Rows
set_option maxRecDepth 100000
namespace Mine

structure KProd (K : Frag) : Prop where
  gZip : nsIn K 3 "zip" = some none
  bZip : nsIn K 0 "zip" = some (some (.type "zip"))
  fProd : Fn K 117 116 "_law_products" (topS 7) [] .none

noncomputable def prodStep (told : List Int) (f : Int) : List Int := (told ++ [0]).zipWith (fun a b => a + f * b) (0 :: told)
noncomputable def prodS (fs : List Int) : List Int := fs.foldl prodStep [1]
theorem prodStep_length (told : List Int) (f : Int) : (prodStep told f).length = told.length + 1 := by simp [prodStep]
theorem prodS_length (fs : List Int) : (prodS fs).length = fs.length + 1 := by
  have : ∀ (fs : List Int) (t : List Int), (fs.foldl prodStep t).length = t.length + fs.length := by
    intro fs
    induction fs with
    | nil => intro t; rfl
    | cons f r ih => intro t; (first | (refine rwP (List.foldl_cons) ?_; refine rwP (ih) ?_; refine rwP (prodStep_length) ?_; refine rwP (List.length_cons) ?_; try with_reducible rfl) | rw [List.foldl_cons, ih, prodStep_length, List.length_cons]); (first | lia | omega)
  (first | (refine rwP (prodS) ?_; refine rwP (this) ?_; try with_reducible rfl) | rw [prodS, this]); simp; (first | lia | omega)

section
variable {C : Cx} {σ σ' τ : Led} {ι ι' : Imm} {A : Around} {s : Shared} {E : Value → Shared → Prop} {a dx l b : Addr} {vs us items : Array Value}

theorem assign_pair {xa xb : Str} {pa pb pt : Pos} {kt : Nat} {env : Env} {m : Str → Option Value} {t : Addr} {x y : Value} {σ1 σ2 : Led} {Q : Unit → Shared → Prop} (S : SS C σ ι s) (hA : A.handled = none) (ht : (t, pieceObj x y) ∈ ι)
    (u1 : Upd env.locals (nsP m) (nsP (put m xa x)) σ σ1) (u2 : Upd env.locals (nsP (put m xa x)) (nsP (put (put m xa x) xb y)) σ1 σ2) (h : ∀ s', SS C σ2 ι s' → Q () s')
    (hl : autoParam (env.kindOf xa = some .local) tacRfl) (hl2 : autoParam (env.kindOf xb = some .local) tacRfl) (hp : autoParam ((env.scope.kind == .class || (env.scope.kind == .module && env.locals != env.globals)) = false) tacRfl) :
    wpAny (model prg C.w) A (assign (.Tuple [.Name xa pa, .Name xb pb] kt pt) env (.ref t)) Q E s := by
  refine assign_Tuple_tuple (items := #[x, y]) hA ⟨_, S.tup ht, rfl, _, rfl⟩ rfl rfl fun h' hk => ?_
  have S1 : SS C σ ι { s with heap := h' } := S.kept fun b o e => hk b o (Nat.ne_of_lt (Heap.lt_size e)) e
  generalize ({ s with heap := h' } : Shared) = s1 at S1 ⊢
  show wpAny _ _ (assignInOrder [assign (.Name xa pa) env, assign (.Name xb pb) env] [x, y]) _ _ _
  unfold assignInOrder
  refine wpAny_bind (wpAny_holding (wpAny_assign_Name (n_store S1 u1 (fun s2 S2 => ?_) hl hp)))
  unfold assignInOrder
  refine wpAny_bind (wpAny_holding (wpAny_assign_Name (n_store S2 u2 (fun s3 S3 => ?_) hl2 hp)))
  unfold assignInOrder
  exact wpAny_pure (h s3 S3)
end
end Mine
end Part51
section Part52
set_option tactic.hygienic false
open PySem PySem.W PySem.W.X PySem.Calls PyProof.Rows
set_option maxRecDepth 100000
namespace Mine

theorem ints_push {vs : Array Value} {ns : List Int} {n : Int} {t : Tok} (h : IntsAre vs.toList ns) : IntsAre (vs.push (.int n t)).toList (ns ++ [n]) := by
  (first | (refine rwP (Array.toList_push) ?_; try with_reducible rfl) | rw [Array.toList_push])
  exact h.append (.cons n t .nil)
theorem ints_at {vs : List Value} {ns : List Int} (h : IntsAre vs ns) {i : Nat} {v : Value} (e : vs[i]? = some v) : ∃ n t, ns[i]? = some n ∧ v = .int n t := by
  induction h generalizing i with
  | nil => simp at e
  | cons n t _ ih =>
    cases i with
    | zero => simp at e; exact ⟨n, t, rfl, e.symm⟩
    | succ i => simp at e; obtain ⟨n', t', a, b⟩ := ih e; exact ⟨n', t', by simpa using a, b⟩
theorem take_snocI {ns : List Int} {i : Nat} {n : Int} (h : ns[i]? = some n) : ns.take (i + 1) = ns.take i ++ [n] := by
  (first | (refine rwP (List.take_add_one) ?_; refine rwP (h) ?_; try with_reducible rfl) | rw [List.take_add_one, h]); rfl

noncomputable abbrev prodEnv (L c : Addr) : Env := envX "_law_products" (scopeOf (topS 7)) L 117 (.ref 116) [("factor", c)]
section
variable {C : Cx} {σ σ' τ : Led} {ι ι' : Imm} {A : Around} {s : Shared} {E : Value → Shared → Prop} {a dx l b : Addr} {vs us items : Array Value}

theorem start_with {elt target iter : Expr} {scope : Scope} {pos : Pos} {it acc : Value} {env : Env} {R : Result → Shared → Prop}
    (h : codeAny (model prg C.w) A (.compLoop (.ListComp elt [⟨target, iter, [], 0⟩] scope pos) 0 it acc env) R s) (hit : ∀ {Q : Value → Shared → Prop} {E : Value → Shared → Prop}, Q it s → wpAny (model prg C.w) A (pyIter it) Q E s) :
    codeAny (model prg C.w) A (.compStart (.ListComp elt [⟨target, iter, [], 0⟩] scope pos) 0 it acc env) R s := codeAny_compStart_list h (hit h)
theorem prod_comp {L c lt : Addr} {m : Str → Option Value} {tv : Array Value} {ts : List Int} {f : Int} {tf : Tok} {Q : Flow → Shared → Prop} (X : CxOk C) (KP : KProd C.K) (hA : A.handled = none)
    (S : SS C ((L, nsP m) :: τ) ι s) (hm : m "told" = some (.ref lt)) (hlt : (lt, lstP tv) ∈ τ) (hc : (c, cellP (some (.int f tf))) ∈ τ) (hi : IntsAre tv.toList ts) (hz : ts.length ≤ 1000) (hf : 0 ≤ f ∧ f ≤ 1000)
    (h : ∀ l' tv' s', SS C ((l', lstP tv') :: (L, nsP (put m "told" (.ref l'))) :: τ) ι s' → IntsAre tv'.toList (prodStep ts f) → Q .next s') :
    wpAny (model prg C.w) A (exec ((bodyOf ((bodyOf (topS 7)).getD 1 (.Pass default))).getD 0 (.Pass default)) (prodEnv L c)) Q E s := by
  have hlen : ts.length = tv.size := by (first | (refine rwQ (Array.length_toList) ?_; refine rwP (hi.length) ?_; try with_reducible rfl) | rw [← Array.length_toList, hi.length])
  have hz2 : 2000 ≤ sizeLine := by (first | (refine rwP (sizeLine_eq) ?_; try with_reducible rfl) | rw [sizeLine_eq]); (first | lia | omega)
  refine comp_assignG (cl := [("factor", c)]) (Call_ (n_builtin X S KP.gZip KP.bZip ?_)) rfl (by decide)
  refine PySem.callWith_type rfl (ea rfl (sp_cons (wpAny_BinOp (n_local S (.head _) hm (List_ (sp_cons (wpAny_Constant_int (sp_nil ?_))))))))
  have S1 : SS C ((L, nsP m) :: τ) ι { s with toks := s.toks + 1 } := S
  refine n_newList S1 fun l0 s2 S2 => ?_
  refine add_L S2 (.tail _ (.tail _ hlt)) (.head _) (fun r1 s3 S3 => ?_) (by simp; (first | lia | omega))
  refine sp_cons (wpAny_BinOp (List_ (sp_cons (wpAny_Constant_int (sp_nil ?_)))))
  have S3' : SS C _ ι { s3 with toks := s3.toks + 1 } := S3
  refine n_newList S3' fun l1 s4 S4 => ?_
  refine n_local S4 (.tail _ (.tail _ (.tail _ (.head _)))) hm ?_
  refine add_L S4 (.head _) (.tail _ (.tail _ (.tail _ (.tail _ hlt)))) (fun r2 s5 S5 => ?_) (by simp; (first | lia | omega))
  refine sp_nil ?_
  refine zip_new S5 (.tail _ (.tail _ (.head _))) (.head _) fun z TI TO i1 i2 s6 n1 n2 S6 => ?_
  refine zip_iter S6 ⟨_, _, S6, fun D acc s7 S7 => ?_⟩
  have ha : IntsAre (tv ++ #[Value.int 0 s.toks]).toList (ts ++ [0]) := by
    have := hi.append (.cons 0 s.toks .nil)
    simpa using this
  have hb : IntsAre (#[Value.int 0 s3.toks] ++ tv).toList (0 :: ts) := by
    have := IntsAre.cons 0 s3.toks hi
    simpa using this
  have hn : (tv ++ #[Value.int 0 s.toks]).size = ts.length + 1 := by simp [hlen]
  have hn2 : (#[Value.int 0 s3.toks] ++ tv).size = ts.length + 1 := by simp [hlen]; (first | lia | omega)
  show codeAny (model prg C.w) A (.compStart _ 0 (.ref z) (.ref acc) (compEnvC _ [("factor", c)] D (prodEnv L c))) _ s7
  have hr1 : (r1, lstP (tv ++ #[Value.int 0 s.toks])) ∈ ((r2, lstP (#[Value.int 0 s3.toks] ++ tv)) :: (l1, lstP #[Value.int 0 s3.toks]) :: (r1, lstP (tv ++ #[Value.int 0 s.toks])) :: (l0, lstP #[Value.int 0 s.toks]) :: (L, nsP m) :: τ) := .tail _ (.tail _ (.head _))
  have hr2 : (r2, lstP (#[Value.int 0 s3.toks] ++ tv)) ∈ ((r2, lstP (#[Value.int 0 s3.toks] ++ tv)) :: (l1, lstP #[Value.int 0 s3.toks]) :: (r1, lstP (tv ++ #[Value.int 0 s.toks])) :: (l0, lstP #[Value.int 0 s.toks]) :: (L, nsP m) :: τ) := .head _
  have hcm : (c, cellP (some (.int f tf))) ∈ ((r2, lstP (#[Value.int 0 s3.toks] ++ tv)) :: (l1, lstP #[Value.int 0 s3.toks]) :: (r1, lstP (tv ++ #[Value.int 0 s.toks])) :: (l0, lstP #[Value.int 0 s.toks]) :: (L, nsP m) :: τ) := .tail _ (.tail _ (.tail _ (.tail _ (.tail _ hc))))
  have fin : ((r2, lstP (#[Value.int 0 s3.toks] ++ tv)) :: (l1, lstP #[Value.int 0 s3.toks]) :: (r1, lstP (tv ++ #[Value.int 0 s.toks])) :: (l0, lstP #[Value.int 0 s.toks]) :: (L, nsP m) :: τ) = [(r2, lstP (#[Value.int 0 s3.toks] ++ tv)), (l1, lstP #[Value.int 0 s3.toks]), (r1, lstP (tv ++ #[Value.int 0 s.toks])), (l0, lstP #[Value.int 0 s.toks])] ++ ((L, nsP m) :: τ) := rfl
  generalize hxs : tv ++ #[Value.int 0 s.toks] = xs at *
  generalize hys : #[Value.int 0 s3.toks] ++ tv = ys at *
  have S8 : SS C (zipLed z TI TO i1 i2 r1 r2 0 .none ++ ((D, nsP (fun _ => none)) :: (acc, lstP #[]) :: ((r2, lstP ys) :: (l1, lstP #[Value.int 0 s3.toks]) :: (r1, lstP xs) :: (l0, lstP #[Value.int 0 s.toks]) :: (L, nsP m) :: τ))) ((TO, pieceObj .none .none) :: (TI, pieceObj (.ref i1) (.ref i2)) :: ι) s7 := by
    refine S7.perm ?_
    show (([(D, nsP fun _ => none), (acc, lstP #[])] ++ (zipLed z TI TO i1 i2 r1 r2 0 .none ++ _))).Perm _
    (first | (refine rwQ (List.append_assoc) ?_; try with_reducible rfl) | rw [← List.append_assoc])
    refine (List.perm_append_comm.append_right _).trans ?_
    (first | (refine rwP (List.append_assoc) ?_; try with_reducible rfl) | rw [List.append_assoc])
    exact List.Perm.refl _
  generalize hσ : ((r2, lstP ys) :: (l1, lstP #[Value.int 0 s3.toks]) :: (r1, lstP xs) :: (l0, lstP #[Value.int 0 s.toks]) :: (L, nsP m) :: τ) = σ0 at S8 hr1 hr2 hcm fin
  refine start_with ?_ (fun q => zip_iter S8 q)
  refine PyProof.Rows.LCp.codeAny_compLoop_pair (fun k s => Ex5 fun i m' out a b => And3 (i + k = ts.length + 1) (SS C (zipLed z TI TO i1 i2 r1 r2 i .none ++ ((D, nsP m') :: (acc, lstP out) :: σ0)) ((TO, pieceObj a b) :: (TI, pieceObj (.ref i1) (.ref i2)) :: ι) s) (IntsAre out.toList ((prodStep ts f).take i))) (fun k sq hk => ?_) (ts.length + 1)
    ⟨0, _, #[], .none, .none, Nat.zero_add _, S8, .nil⟩
  refine gen_P fun Pg kg => ?_
  obtain ⟨i, m', out, a, b, hik, S, hout⟩ := hk
  refine kg ?_
  clear kg
  have hsub : σ0 ⊆ (D, nsP m') :: (acc, lstP out) :: σ0 := fun _ h => .tail _ (.tail _ h)
  by_cases hi' : i < ts.length + 1
  · have ex : xs[i]? = some xs[i] := Array.getElem?_eq_getElem (by (first | lia | omega))
    have ey : ys[i]? = some ys[i] := Array.getElem?_eq_getElem (by (first | lia | omega))
    refine gen_P fun Pg kg => ?_
    obtain ⟨x, tx, hx, hx'⟩ := ints_at ha (i := i) (v := xs[i]) (by (first | (refine rwP (Array.getElem?_toList) ?_; try with_reducible rfl) | rw [Array.getElem?_toList]); exact ex)
    obtain ⟨y, ty, hy, hy'⟩ := ints_at hb (i := i) (v := ys[i]) (by (first | (refine rwP (Array.getElem?_toList) ?_; try with_reducible rfl) | rw [Array.getElem?_toList]); exact ey)
    refine kg ?_
    clear kg
    rw [hx'] at ex
    rw [hy'] at ey
    refine zip_item S n1 n2 (hsub hr1) (hsub hr2) ex ey fun T s9 S9 => ?_
    refine zip_go S9 fun s10 S10 => ?_
    refine assign_pair S10 hA (.head _) (.tail (.tail (.tail .head))) (.tail (.tail (.tail .head))) fun s11 S11 => ?_
    have hD : ((compEnvC { kind := .function, names := [(".0", .local), ("a", .local), ("b", .local), ("factor", .free)], isGenerator := false, isCoroutine := false } [("factor", c)] D (prodEnv L c)).locals, nsP (put (put m' "a" (.int x tx)) "b" (.int y ty))) ∈ zipLed z TI TO i1 i2 r1 r2 (i + 1) .none ++ ((D, nsP (put (put m' "a" (.int x tx)) "b" (.int y ty))) :: (acc, lstP out) :: σ0) := .tail _ (.tail _ (.tail _ (.head _)))
    refine wpAny_BinOp (n_local S11 hD rfl (wpAny_BinOp (n_cell S11 rfl (.tail _ (.tail _ (.tail _ (.tail _ (.tail _ hcm))))) (n_local S11 hD rfl (P.mul_int (P.add_int ?_) (.of_left (intBits_le_64 (by (first | lia | omega)) (by (first | lia | omega)))))))))
    have S12 : SS C _ _ { s11 with toks := s11.toks + 1 + 1 } := S11
    have hoz : out.size ≤ sizeLine := by
      have := hout.length
      rw [List.length_take] at this
      have e : out.size = out.toList.length := Array.length_toList.symm
      (first | lia | omega)
    refine list_push S12 (.tail (.tail (.tail (.tail .head)))) hoz fun s13 S13 => ?_
    refine ⟨k - 1, by (first | lia | omega), i + 1, _, _, _, _, by (first | lia | omega), S13.less (fun _ h => .tail _ h), ?_⟩
    have ep : (prodStep ts f)[i]? = some (x + f * y) := by
      unfold prodStep
      (first | (refine rwP (List.getElem?_zipWith) ?_; refine rwP (hx) ?_; refine rwP (hy) ?_; try with_reducible rfl) | rw [List.getElem?_zipWith, hx, hy])
    (first | (refine rwP (take_snocI ep) ?_; try with_reducible rfl) | rw [take_snocI ep])
    exact ints_push hout
  · have hii : i = ts.length + 1 := by (first | lia | omega)
    subst hii
    refine zip_end S n1 n2 hA (hsub hr1) (hsub hr2) (.inl (Array.getElem?_eq_none (by (first | lia | omega)))) fun s9 S9 => ?_
    refine ⟨_, _, _, _, rfl, S9, m, (acc, lstP out) :: ([(r2, lstP ys), (l1, lstP #[Value.int 0 s3.toks]), (r1, lstP xs), (l0, lstP #[Value.int 0 s.toks])] ++ ((L, nsP (put m "told" (.ref acc))) :: τ)), ?_, fun s10 S10 => ?_⟩
    · (first | (refine rwP (fin) ?_; try with_reducible rfl) | rw [fin])
      exact .tail .mid
    · rw [List.take_of_length_le (by rw [prodStep_length]; (first | lia | omega))] at hout
      refine h acc out s10 (S10.sub (.cons₂ _ (List.sublist_append_right _ _))) hout
end
end Mine
end Part52
section Part53
set_option tactic.hygienic false
open PySem PySem.W PySem.W.X PySem.Calls PyProof.Rows
set_option maxRecDepth 100000
namespace Mine
section
variable {C : Cx} {σ σ' τ : Led} {ι ι' : Imm} {A : Around} {s : Shared} {E : Value → Shared → Prop} {a dx l b : Addr} {vs us items : Array Value}

theorem products_c {n : Nat} {lf : Addr} {fv : Array Value} {fs : List Int} {Q : Value → Shared → Prop} (X : CxOk C) (KP : KProd C.K) (R : Room (n + 1) A) (S : SS C σ ι s) (hlf : (lf, lstP fv) ∈ σ) (hi : IntsAre fv.toList fs) (hz : fs.length ≤ 900)
    (hf : ∀ f ∈ fs, 0 ≤ f ∧ f ≤ 1000) (h : ∀ l tv s', SS C ((l, lstP tv) :: σ) ι s' → IntsAre tv.toList (prodS fs) → Q (.ref l) s') :
    wpAny (model prg C.w) A (call (.ref 117) [.ref lf] []) Q E s := by
  refine call_fnC (binds := [("factors", .ref lf)]) X KP.fProd R S (fun _ _ _ _ _ => rfl) (fun L s1 S1 R1 => ?_) (fun L x hx => by (first | (refine rwP (List.mem_singleton.mp hx) ?_; try with_reducible rfl) | rw [List.mem_singleton.mp hx]); exact .inl rfl)
  have S1 : SS C ((L, nsP (bindL (fun x => (scopeOf (topS 7)).names.lookup x) [("factors", .ref lf)] fun _ => none)) :: (L + 1, cellP none) :: σ) ι s1 := S1
  have hm1 : bindL (fun x => (scopeOf (topS 7)).names.lookup x) [("factors", Value.ref lf)] (fun _ => none) "factors" = some (.ref lf) := rfl
  generalize bindL (fun x => (scopeOf (topS 7)).names.lookup x) [("factors", Value.ref lf)] (fun _ => none) = m at S1 hm1
  show wpAny (model prg C.w) (A.deeper (prodEnv L (L + 1))) (execs (bodyOf (topS 7)) (prodEnv L (L + 1))) _ _ s1
  have R1 : Room n (A.deeper (prodEnv L (L + 1))) := R1
  generalize L + 1 = c at S1 R1 ⊢
  refine wpAny_execs_cons (wpAny_Assign_Name (List_ (sp_cons (wpAny_Constant_int (sp_nil ?_)))))
  have S1' : SS C _ ι { s1 with toks := s1.toks + 1 } := S1
  refine n_newList S1' fun l0 s2 S2 => n_store S2 (.tail .head) fun s3 S3 => ?_
  refine wpAny_execs_cons (wpAny_For ?_)
  refine n_local S3 (.tail _ (.head _)) ((put_ne (by decide)).trans hm1) ?_
  refine iter_list S3 (.tail _ (.tail _ (.tail _ hlf))) fun it s4 S4 => ?_
  have S5 : SS C ((it, liP lf 0) :: (L, nsP (put m "told" (.ref l0))) :: (c, cellP none) :: (l0, lstP #[Value.int 1 s1.toks]) :: σ) ι s4 := S4.perm (by
    refine List.Perm.cons _ ?_
    exact (List.Perm.swap _ _ _).trans ((List.Perm.swap _ _ _).cons _))
  refine for_w (li_walker (l := lf) (vs := fv)) (fun i σ' ι' => ι' = ι ∧ Ex4 fun m' v lt tv => And3 (σ' = (L, nsP m') :: (c, cellP v) :: (lt, lstP tv) :: σ) (m' "told" = some (.ref lt)) (IntsAre tv.toList ((fs.take i).foldl prodStep [1])))
    (fun i σ' ι' hI => ?_) (fun i σ' ι1 ι2 w s hi' hI hι hw S => ?_) (fun σ' ι1 s hI S => ?_) R1.h S5 ⟨rfl, _, none, l0, _, rfl, put_same, .cons 1 _ .nil⟩
  · refine gen_P fun Pg kg => ?_
    obtain ⟨_, m', v, lt, tv, rfl, _⟩ := hI
    refine kg ?_
    clear kg
    exact ⟨_, .tail _ (.tail _ (.tail _ hlf)), fun o => lstP_seq⟩
  · refine gen_P fun Pg kg => ?_
    obtain ⟨rfl, m', v, lt, tv, rfl, hmt, hit⟩ := hI
    obtain ⟨f, tf, hfi, rfl⟩ := ints_at hi (i := i) (v := w) (by (first | (refine rwP (Array.getElem?_toList) ?_; try with_reducible rfl) | rw [Array.getElem?_toList]); exact hw)
    refine kg ?_
    clear kg
    have S := S.less hι
    refine wpAny_assign_Name (n_storeC S rfl (.tail (.tail .head)) fun s6 S6 => ?_)
    have S7 : SS C ((L, nsP m') :: (it, liP lf (i + 1)) :: (c, cellP (some (.int f tf))) :: (lt, lstP tv) :: σ) ι1 s6 := S6.swap
    have hfl : i < fs.length := by
      rcases Nat.lt_or_ge i fs.length with h | h
      · exact h
      · rw [List.getElem?_eq_none h] at hfi; cases hfi
    have htl : ((fs.take i).foldl prodStep [1]).length ≤ 1000 := by
      have := prodS_length (fs.take i)
      unfold prodS at this
      (first | (refine rwP (this) ?_; refine rwP (List.length_take) ?_; try with_reducible rfl) | rw [this, List.length_take]); (first | lia | omega)
    refine wpAny_execs_cons (prod_comp X KP R1.h S7 hmt (.tail _ (.tail _ (.head _))) (.tail _ (.head _)) hit htl (hf f (List.mem_of_getElem? hfi)) fun l' tv' s8 S8 hi8 => ?_)
    refine wpAny_execs_nil ⟨(L, nsP (put m' "told" (.ref l'))) :: (c, cellP (some (.int f tf))) :: (l', lstP tv') :: σ, ι1, ?_, rfl, _, _, l', tv', rfl, put_same, ?_⟩
    · have S9 : SS C ((l', lstP tv') :: (L, nsP (put m' "told" (.ref l'))) :: (it, liP lf (i + 1)) :: (c, cellP (some (.int f tf))) :: σ) ι1 s8 := S8.sub (((((List.Sublist.refl σ).cons _).cons₂ _).cons₂ _).cons₂ _ |>.cons₂ _)
      refine S9.perm ?_
      refine (List.Perm.trans ((List.Perm.swap _ _ _).cons _) (List.Perm.swap _ _ _)).trans (List.Perm.cons _ ?_)
      exact (List.Perm.swap _ _ _).trans ((List.Perm.swap _ _ _).cons _)
    · (first | (refine rwP (take_snocI hfi) ?_; refine rwP (List.foldl_append) ?_; try with_reducible rfl) | rw [take_snocI hfi, List.foldl_append]); exact hi8
  · refine gen_P fun Pg kg => ?_
    obtain ⟨rfl, m', v, lt, tv, rfl, hmt, hit⟩ := hI
    refine kg ?_
    clear kg
    have e : fv.size = fs.length := by (first | (refine rwQ (Array.length_toList) ?_; refine rwP (hi.length) ?_; try with_reducible rfl) | rw [← Array.length_toList, hi.length])
    rw [e, List.take_length] at hit
    refine wpAny_execs_nil (wpAny_execs_cons (wpAny_Return_some (n_local S (.head _) hmt ?_)))
    exact h lt tv s (S.sub (((List.Sublist.refl _).cons _).cons _)) hit
end
end Mine
end Part53
section Part54
set_option tactic.hygienic false
open PySem PySem.W PySem.W.X PySem.Calls PyProof.Rows
set_option maxRecDepth 100000
namespace Mine

/-! ## comprehensions that map -/
section
variable {C : Cx} {σ σ' τ : Led} {ι ι' : Imm} {A : Around} {s : Shared} {E : Value → Shared → Prop} {a dx l b : Addr} {vs us items : Array Value}

theorem CRun.mono {e : Expr} {scope : Scope} {cl : List (Str × Addr)} {env : Env} {itv : Value} {P P' : Value → Led → Imm → Prop} (x : CRun C A e scope cl env itv σ ι P) (h : ∀ v σ' ι', P v σ' ι' → P' v σ' ι') : CRun C A e scope cl env itv σ ι P' :=
  fun D acc s3 S3 => codeAny_mono (x D acc s3 S3) fun _ _ ⟨f, m, σ', ι', r, S, p⟩ => ⟨f, m, σ', ι', r, S, h _ _ _ p⟩

/-- what a mapping comprehension leaves -/
noncomputable def Mapped (ι : Imm) (Λ : Led) (n : Nat) (G : Nat → Value → Imm → Prop) (v : Value) (σ' : Led) (ι' : Imm) : Prop :=
  Ex2 fun acc out => And5 (v = .ref acc) (σ' = (acc, lstP out) :: Λ) (ι ⊆ ι') (out.size = n) (∀ i, i < n → ∃ x, out[i]? = some x ∧ G i x ι')

theorem run_mapW {it : Addr} {J : Nat → OP} {n : Nat} {is : Nat → Value → Imm → Prop} {need : Led → Prop} {elt iter : Expr} {y : Str} {py : Pos} {scope : Scope} {pos : Pos} {cl : List (Str × Addr)} {env : Env}
    (W : Walker C it J n is need) (Λ : Nat → Led) (G : Nat → Value → Imm → Prop) (hneed : ∀ i D m acc out, i ≤ n → need ((D, nsP m) :: (acc, lstP out) :: Λ i)) (hn : n ≤ 1000000) (hG : ∀ i x ι1 ι2, ι1 ⊆ ι2 → G i x ι1 → G i x ι2)
    (step : ∀ i v D m acc out ι' s E, i < n → ι ⊆ ι' → is i v ι' → SS C ((it, J (i + 1)) :: (D, nsP (put m y v)) :: (acc, lstP out) :: Λ i) ι' s → 
      wpAny (model prg C.w) A (eval elt (compEnvC scope cl D env)) (fun x s' => Ex2 fun ι'' m' => And3 (ι' ⊆ ι'') (SS C ((it, J (i + 1)) :: (D, nsP m') :: (acc, lstP out) :: Λ (i + 1)) ι'' s') (G i x ι'')) E s)
    (hA : A.handled = none) (hc : autoParam (∀ D, cellsFrom (D + 1) scope.names [] = []) tacRfl1)
    (hkl : autoParam (∀ D, (compEnvC scope cl D env).kindOf y = some .local) tacRfl1) (hk : autoParam (scope.kind = .function) tacRfl) :
    CRun C A (.ListComp elt [⟨.Name y py, iter, [], 0⟩] scope pos) scope cl env (.ref it) ((it, J 0) :: Λ 0) ι (Mapped ι (Λ n) n G) := by
  refine run1 W (fun i out σ ι' => i ≤ n ∧ σ = Λ i ∧ ι ⊆ ι' ∧ out.size = i ∧ ∀ j, j < i → ∃ x, out[j]? = some x ∧ G j x ι') (fun i out m D acc σ ι' hI => ?_) (fun i out σ ι' hi hI => ?_) (fun i out m D acc σ ι1 ι2 v s E hi hI hι hv S => ?_) (fun out acc σ ι' hI => ?_) hA
    ⟨Nat.zero_le _, rfl, fun _ h => h, rfl, fun j hj => absurd hj (Nat.not_lt_zero _)⟩ hc (fun _ => rfl)
  · obtain ⟨h1, rfl, _⟩ := hI
    exact hneed i D m acc out h1
  · refine gen_P fun Pg kg => ?_
    obtain ⟨_, _, _, h, _⟩ := hI
    refine kg ?_
    clear kg
    have : 2000000 ≤ sizeLine := by (first | (refine rwP (sizeLine_eq) ?_; try with_reducible rfl) | rw [sizeLine_eq]); (first | lia | omega)
    (first | lia | omega)
  · refine gen_P fun Pg kg => ?_
    obtain ⟨h1, rfl, hιι, h2, h3⟩ := hI
    refine kg ?_
    clear kg
    refine wpAny_assign_Name (n_store S (.tail .head) (fun s4 S4 => ?_) (hkl D) (by show (scope.kind == .class || (scope.kind == .module && _)) = false; (first | (refine rwP (hk) ?_; try with_reducible rfl) | rw [hk]); rfl))
    refine wpAny_mono (step i v D m acc out ι2 s4 E hi (fun _ h => hι (hιι h)) hv S4) (fun x s5 h5 => ?_) fun _ _ x => x
    refine gen_P fun Pg kg => ?_
    obtain ⟨ι3, m', h6, S5, g⟩ := h5
    refine kg ?_
    clear kg
    refine ⟨_, _, _, S5, hi, rfl, fun _ h => h6 (hι (hιι h)), by (first | (refine rwP (Array.size_push) ?_; refine rwP (h2) ?_; try with_reducible rfl) | rw [Array.size_push, h2]), fun j hj => ?_⟩
    rcases Nat.lt_or_ge j i with h | h
    · obtain ⟨x', e, g'⟩ := h3 j h
      exact ⟨x', by (first | (refine rwP (Array.getElem?_push) ?_; refine rwP (if_neg (by (first | lia | omega))) ?_; try with_reducible rfl) | rw [Array.getElem?_push, if_neg (by (first | lia | omega))]); exact e, hG _ _ _ _ (fun _ h => h6 (hι h)) g'⟩
    · have : j = i := by (first | lia | omega)
      subst this
      exact ⟨x, by (first | (refine rwP (Array.getElem?_push) ?_; refine rwP (if_pos h2.symm) ?_; try with_reducible rfl) | rw [Array.getElem?_push, if_pos h2.symm]), g⟩
  · refine gen_P fun Pg kg => ?_
    obtain ⟨_, rfl, hιι, h2, h3⟩ := hI
    refine kg ?_
    clear kg
    exact ⟨acc, out, rfl, rfl, hιι, h2, h3⟩

/-- [elt for y in x], x a list -/
theorem comp_map {elt : Expr} {x y : Str} {py p3 pos : Pos} {scope : Scope} {cl : List (Str × Addr)} {env : Env} {m0 : Str → Option Value} {Q : Value → Shared → Prop} (Λ : Nat → Led) (G : Nat → Value → Imm → Prop)
    (S : SS C (Λ 0) ι s) (hm : (env.locals, nsP m0) ∈ Λ 0) (hx : m0 x = some (.ref l)) (hl : ∀ i, i ≤ vs.size → (l, lstP vs) ∈ Λ i) (hn : vs.size ≤ 1000000) (hG : ∀ i x ι1 ι2, ι1 ⊆ ι2 → G i x ι1 → G i x ι2) (hA : A.handled = none)
    (step : ∀ it i v D m acc out ι' s E, i < vs.size → ι ⊆ ι' → vs[i]? = some v → SS C ((it, liP l (i + 1)) :: (D, nsP (put m y v)) :: (acc, lstP out) :: Λ i) ι' s → 
      wpAny (model prg C.w) A (eval elt (compEnvC scope cl D env)) (fun x s' => Ex2 fun ι'' m' => And3 (ι' ⊆ ι'') (SS C ((it, liP l (i + 1)) :: (D, nsP m') :: (acc, lstP out) :: Λ (i + 1)) ι'' s') (G i x ι'')) E s)
    (h : ∀ acc out ι' s', ι ⊆ ι' → SS C ((acc, lstP out) :: Λ vs.size) ι' s' → out.size = vs.size → (∀ i, i < vs.size → ∃ x, out[i]? = some x ∧ G i x ι') → Q (.ref acc) s')
    (hclos : autoParam (closureFor scope env = pure cl) tacRfl) (hnames : autoParam (∀ x ∈ scope.names, x.2 = .local → scope.names.lookup x.1 = some .local) tacDec)
    (hke : autoParam (env.scope.kind = .function) tacRfl) (hlx : autoParam (env.kindOf x = some .local) tacRfl) (hd : autoParam ((x == ("__debug__" : Str)) = false) tacDec)
    (hc : autoParam (∀ D, cellsFrom (D + 1) scope.names [] = []) tacRfl1) (hkl : autoParam (∀ D, (compEnvC scope cl D env).kindOf y = some .local) tacRfl1) (hk : autoParam (scope.kind = .function) tacRfl)
    (hs : autoParam (∀ v, foldedSetIterable (.Name x p3) env v = pure v) tacRfl1) :
    wpAny (model prg C.w) A (eval (.ListComp elt [⟨.Name y py, .Name x p3, [], 0⟩] scope pos) env) Q E s := by
  refine comp_evalG (cl := cl) (n_local S hm hx (iter_list S (hl 0 (Nat.zero_le _)) fun it s2 S2 => ?_) hke hlx hd) hclos hnames hk hs
  refine ⟨_, _, S2, (run_mapW (li_walker (l := l) (vs := vs)) Λ G (fun i D m acc out hi => ⟨_, .tail _ (.tail _ (hl i hi)), fun o => lstP_seq⟩) hn hG (fun i v D m acc out ι' s E a b c d => step it i v D m acc out ι' s E a b c d) hA hc hkl hk).mono fun v σ' ι' hM s'' S'' => ?_⟩
  obtain ⟨acc, out, rfl, rfl, hι, h1, h2⟩ := hM
  exact h acc out ι' s'' hι S'' h1 h2

/-- t = [elt for y in x], x a list -/
theorem comp_mapA {elt : Expr} {x y t : Str} {py p3 pos spos pt : Pos} {scope : Scope} {cl : List (Str × Addr)} {env : Env} {m0 : Str → Option Value} {Q : Flow → Shared → Prop} (Λ : Nat → Led) (G : Nat → Value → Imm → Prop)
    (S : SS C (Λ 0) ι s) (hm : (env.locals, nsP m0) ∈ Λ 0) (hx : m0 x = some (.ref l)) (hl : ∀ i, i ≤ vs.size → (l, lstP vs) ∈ Λ i) (hn : vs.size ≤ 1000000) (hG : ∀ i x ι1 ι2, ι1 ⊆ ι2 → G i x ι1 → G i x ι2) (hA : A.handled = none)
    (step : ∀ it i v D m acc out ι' s E, i < vs.size → ι ⊆ ι' → vs[i]? = some v → SS C ((it, liP l (i + 1)) :: (D, nsP (put m y v)) :: (acc, lstP out) :: Λ i) ι' s → 
      wpAny (model prg C.w) A (eval elt (compEnvC scope cl D env)) (fun x s' => Ex2 fun ι'' m' => And3 (ι' ⊆ ι'') (SS C ((it, liP l (i + 1)) :: (D, nsP m') :: (acc, lstP out) :: Λ (i + 1)) ι'' s') (G i x ι'')) E s)
    {σf : Value → Led} (u : ∀ v, Upd env.locals (nsP m0) (nsP (put m0 t v)) (Λ vs.size) (σf v))
    (h : ∀ acc out ι' s', ι ⊆ ι' → SS C ((acc, lstP out) :: σf (.ref acc)) ι' s' → out.size = vs.size → (∀ i, i < vs.size → ∃ x, out[i]? = some x ∧ G i x ι') → Q .next s')
    (hclos : autoParam (closureFor scope env = pure cl) tacRfl) (hnames : autoParam (∀ x ∈ scope.names, x.2 = .local → scope.names.lookup x.1 = some .local) tacDec)
    (hke : autoParam (env.scope.kind = .function) tacRfl) (hlx : autoParam (env.kindOf x = some .local) tacRfl) (hd : autoParam ((x == ("__debug__" : Str)) = false) tacDec)
    (hc : autoParam (∀ D, cellsFrom (D + 1) scope.names [] = []) tacRfl1) (hkl : autoParam (∀ D, (compEnvC scope cl D env).kindOf y = some .local) tacRfl1) (hk : autoParam (scope.kind = .function) tacRfl)
    (hs : autoParam (∀ v, foldedSetIterable (.Name x p3) env v = pure v) tacRfl1)
    (hsw : autoParam (swapsWith (.ListComp elt [⟨.Name y py, .Name x p3, [], 0⟩] scope pos) (some (.Name t pt)) spos.line env = pure true) tacRfl)
    (hlt : autoParam (env.kindOf t = some .local) tacRfl) (hp : autoParam ((env.scope.kind == .class || (env.scope.kind == .module && env.locals != env.globals)) = false) tacRfl) :
    wpAny (model prg C.w) A (exec (.Assign [.Name t pt] (.ListComp elt [⟨.Name y py, .Name x p3, [], 0⟩] scope pos) spos) env) Q E s := by
  refine comp_assignG (cl := cl) (n_local S hm hx (iter_list S (hl 0 (Nat.zero_le _)) fun it s2 S2 => ?_) hke hlx hd) hclos hnames hk hs hsw hlt hp
  refine ⟨_, _, S2, (run_mapW (li_walker (l := l) (vs := vs)) Λ G (fun i D m acc out hi => ⟨_, .tail _ (.tail _ (hl i hi)), fun o => lstP_seq⟩) hn hG (fun i v D m acc out ι' s E a b c d => step it i v D m acc out ι' s E a b c d) hA hc hkl hk).mono fun v σ' ι' hM => ?_⟩
  obtain ⟨acc, out, rfl, rfl, hι, h1, h2⟩ := hM
  exact ⟨m0, _, .tail (u _), fun s'' S'' => h acc out ι' s'' hι S'' h1 h2⟩
end
end Mine
end Part54
section Part55
set_option tactic.hygienic false
open PySem PySem.W PySem.W.X PySem.Calls PyProof.Rows
set_option maxRecDepth 100000
namespace Mine

section
variable {C : Cx} {σ σ' τ : Led} {ι ι' : Imm} {A : Around} {s : Shared} {E : Value → Shared → Prop} {a dx l b : Addr} {vs us items : Array Value}

/-- range(N), N written -/
theorem range_lit {N : Nat} {p0 p1 p2 : Pos} {env : Env} {Q : Value → Shared → Prop} (X : CxOk C) (KK : KAll C.K) (S : SS C σ ι s) (hN : N ≤ 1000) (h : ∀ it s', SS C ((it, riP 0 N 0) :: σ) ι s' → Q (.ref it) s')
    (hg : autoParam (env.globals = 3) tacRfl) (hgb : autoParam (env.builtins = 0) tacRfl) (hk : autoParam (env.scope.kind = .function) tacRfl) (hl : autoParam (env.kindOf "range" = some .globalImplicit) tacRfl)
    (he : autoParam (starEach [(.Constant (.int N) 0 p1)] env = [(false, eval (.Constant (.int N) 0 p1) env)]) tacRfl) (hp : autoParam ((backTo p2 (starEach [(.Constant (.int N) 0 p1)] env)).any (·.1) = false) tacRfl) :
    wpAny (model prg C.w) A (eval (.Call (.Name "range" p0) [.Constant (.int N) 0 p1] [] p2) env) (fun x s₁ => wpAny (model prg C.w) A (pyIter x) Q E s₁) E s := by
  refine n_range X KK S (wpAny_Constant_int ?_) hg hgb hk hl he hp
  have S1 : SS C σ ι { s with toks := s.toks + 1 } := S
  exact make_range1 S1 fun r t u w s2 S2 hr => iter_range S2 hr (by decide) (by (first | lia | omega)) h

/-- [elt for y in range(N)] -/
theorem comp_range {N : Nat} {elt : Expr} {y : Str} {py p0 p1 p2 pos : Pos} {scope : Scope} {cl : List (Str × Addr)} {env : Env} {Q : Value → Shared → Prop} (X : CxOk C) (KK : KAll C.K) (Λ : Nat → Led) (G : Nat → Value → Imm → Prop)
    (S : SS C (Λ 0) ι s) (hN : N ≤ 1000) (hG : ∀ i x ι1 ι2, ι1 ⊆ ι2 → G i x ι1 → G i x ι2) (hA : A.handled = none)
    (step : ∀ it i t D m acc out ι' s E, i < N → ι ⊆ ι' → SS C ((it, riP 0 N (i + 1)) :: (D, nsP (put m y (.int (i : Nat) t))) :: (acc, lstP out) :: Λ i) ι' s → 
      wpAny (model prg C.w) A (eval elt (compEnvC scope cl D env)) (fun x s' => Ex2 fun ι'' m' => And3 (ι' ⊆ ι'') (SS C ((it, riP 0 N (i + 1)) :: (D, nsP m') :: (acc, lstP out) :: Λ (i + 1)) ι'' s') (G i x ι'')) E s)
    (h : ∀ acc out ι' s', ι ⊆ ι' → SS C ((acc, lstP out) :: Λ N) ι' s' → out.size = N → (∀ i, i < N → ∃ x, out[i]? = some x ∧ G i x ι') → Q (.ref acc) s')
    (hclos : autoParam (closureFor scope env = pure cl) tacRfl) (hnames : autoParam (∀ x ∈ scope.names, x.2 = .local → scope.names.lookup x.1 = some .local) tacDec)
    (hg : autoParam (env.globals = 3) tacRfl) (hgb : autoParam (env.builtins = 0) tacRfl) (hke : autoParam (env.scope.kind = .function) tacRfl) (hl : autoParam (env.kindOf "range" = some .globalImplicit) tacRfl)
    (he : autoParam (starEach [(.Constant (.int N) 0 p1)] env = [(false, eval (.Constant (.int N) 0 p1) env)]) tacRfl) (hp : autoParam ((backTo p2 (starEach [(.Constant (.int N) 0 p1)] env)).any (·.1) = false) tacRfl)
    (hc : autoParam (∀ D, cellsFrom (D + 1) scope.names [] = []) tacRfl1) (hkl : autoParam (∀ D, (compEnvC scope cl D env).kindOf y = some .local) tacRfl1) (hk : autoParam (scope.kind = .function) tacRfl)
    (hs : autoParam (∀ v, foldedSetIterable (.Call (.Name "range" p0) [.Constant (.int N) 0 p1] [] p2) env v = pure v) tacRfl1) :
    wpAny (model prg C.w) A (eval (.ListComp elt [⟨.Name y py, .Call (.Name "range" p0) [.Constant (.int N) 0 p1] [] p2, [], 0⟩] scope pos) env) Q E s := by
  refine comp_evalG (cl := cl) (range_lit X KK S hN (fun it s2 S2 => ?_) hg hgb hke hl he hp) hclos hnames hk hs
  refine ⟨_, _, S2, (run_mapW (ri_walker (x := 0) (n := N)) Λ G (fun i D m acc out hi => trivial) (by (first | lia | omega)) hG (fun i v D m acc out ι' s E a b c d => ?_) hA hc hkl hk).mono fun v σ' ι' hM s'' S'' => ?_⟩
  · refine gen_P fun Pg kg => ?_
    obtain ⟨t, rfl⟩ := c
    refine kg ?_
    clear kg
    rw [Int.zero_add] at d
    exact step it i t D m acc out ι' s E a b d
  · refine gen_P fun Pg kg => ?_
    obtain ⟨acc, out, rfl, rfl, hι, h1, h2⟩ := hM
    refine kg ?_
    clear kg
    exact h acc out ι' s'' hι S'' h1 h2

/-- t = [elt for y in range(N)] -/
theorem comp_rangeA {N : Nat} {elt : Expr} {y t : Str} {py p0 p1 p2 pos spos pt : Pos} {scope : Scope} {cl : List (Str × Addr)} {env : Env} {m0 : Str → Option Value} {Q : Flow → Shared → Prop} (X : CxOk C) (KK : KAll C.K) (Λ : Nat → Led) (G : Nat → Value → Imm → Prop)
    (S : SS C (Λ 0) ι s) (hN : N ≤ 1000) (hG : ∀ i x ι1 ι2, ι1 ⊆ ι2 → G i x ι1 → G i x ι2) (hA : A.handled = none)
    (step : ∀ it i t D m acc out ι' s E, i < N → ι ⊆ ι' → SS C ((it, riP 0 N (i + 1)) :: (D, nsP (put m y (.int (i : Nat) t))) :: (acc, lstP out) :: Λ i) ι' s → 
      wpAny (model prg C.w) A (eval elt (compEnvC scope cl D env)) (fun x s' => Ex2 fun ι'' m' => And3 (ι' ⊆ ι'') (SS C ((it, riP 0 N (i + 1)) :: (D, nsP m') :: (acc, lstP out) :: Λ (i + 1)) ι'' s') (G i x ι'')) E s)
    {σf : Value → Led} (u : ∀ v, Upd env.locals (nsP m0) (nsP (put m0 t v)) (Λ N) (σf v))
    (h : ∀ acc out ι' s', ι ⊆ ι' → SS C ((acc, lstP out) :: σf (.ref acc)) ι' s' → out.size = N → (∀ i, i < N → ∃ x, out[i]? = some x ∧ G i x ι') → Q .next s')
    (hclos : autoParam (closureFor scope env = pure cl) tacRfl) (hnames : autoParam (∀ x ∈ scope.names, x.2 = .local → scope.names.lookup x.1 = some .local) tacDec)
    (hg : autoParam (env.globals = 3) tacRfl) (hgb : autoParam (env.builtins = 0) tacRfl) (hke : autoParam (env.scope.kind = .function) tacRfl) (hl : autoParam (env.kindOf "range" = some .globalImplicit) tacRfl)
    (he : autoParam (starEach [(.Constant (.int N) 0 p1)] env = [(false, eval (.Constant (.int N) 0 p1) env)]) tacRfl) (hp : autoParam ((backTo p2 (starEach [(.Constant (.int N) 0 p1)] env)).any (·.1) = false) tacRfl)
    (hc : autoParam (∀ D, cellsFrom (D + 1) scope.names [] = []) tacRfl1) (hkl : autoParam (∀ D, (compEnvC scope cl D env).kindOf y = some .local) tacRfl1) (hk : autoParam (scope.kind = .function) tacRfl)
    (hs : autoParam (∀ v, foldedSetIterable (.Call (.Name "range" p0) [.Constant (.int N) 0 p1] [] p2) env v = pure v) tacRfl1)
    (hsw : autoParam (swapsWith (.ListComp elt [⟨.Name y py, .Call (.Name "range" p0) [.Constant (.int N) 0 p1] [] p2, [], 0⟩] scope pos) (some (.Name t pt)) spos.line env = pure true) tacRfl)
    (hlt : autoParam (env.kindOf t = some .local) tacRfl) (hp2 : autoParam ((env.scope.kind == .class || (env.scope.kind == .module && env.locals != env.globals)) = false) tacRfl) :
    wpAny (model prg C.w) A (exec (.Assign [.Name t pt] (.ListComp elt [⟨.Name y py, .Call (.Name "range" p0) [.Constant (.int N) 0 p1] [] p2, [], 0⟩] scope pos) spos) env) Q E s := by
  refine comp_assignG (cl := cl) (range_lit X KK S hN (fun it s2 S2 => ?_) hg hgb hke hl he hp) hclos hnames hk hs hsw hlt hp2
  refine ⟨_, _, S2, (run_mapW (ri_walker (x := 0) (n := N)) Λ G (fun i D m acc out hi => trivial) (by (first | lia | omega)) hG (fun i v D m acc out ι' s E a b c d => ?_) hA hc hkl hk).mono fun v σ' ι' hM => ?_⟩
  · obtain ⟨t, rfl⟩ := c
    rw [Int.zero_add] at d
    exact step it i t D m acc out ι' s E a b d
  · obtain ⟨acc, out, rfl, rfl, hι, h1, h2⟩ := hM
    exact ⟨m0, _, .tail (u _), fun s'' S'' => h acc out ι' s'' hι S'' h1 h2⟩
end

/-! ## _law_holds: its frame -/
noncomputable abbrev holdsEnv (L cS cA cM cT cX : Addr) : Env := envX "_law_holds" (scopeOf (topS 11)) L 141 (.ref 140) [("texts", cX), ("turn", cT), ("most", cM), ("ahead", cA), ("steps", cS)]
structure KHolds (K : Frag) : Prop where
  gSum : nsIn K 3 "sum" = some none
  bSum : nsIn K 0 "sum" = some (some (.builtin "sum"))
  gProd : nsIn K 3 "_law_products" = some (some (.ref 117))
  gPiece : nsIn K 3 "_law_piece" = some (some (.ref 112))
  gAdd : nsIn K 3 "_law_added" = some (some (.ref 124))
  gAll : nsIn K 3 "_law_all" = some (some (.ref 131))
  gPart : nsIn K 3 "_law_parted" = some (some (.ref 136))
  fHolds : Fn K 141 140 "_law_holds" (topS 11) [] .none
noncomputable def natsI (ns : List Nat) : List Int := List.map (fun (n : Nat) => (n : Int)) ns
noncomputable def countS (st : List Nat) (k : Nat) : Nat := (st.take (k + 1)).sum
theorem natsI_sum (ns : List Nat) : (natsI ns).sum = (ns.sum : Nat) := by
  induction ns with
  | nil => rfl
  | cons n r ih => simp only [natsI, List.map_cons, List.sum_cons] at ih ⊢; (first | (refine rwP (ih) ?_; try with_reducible rfl) | rw [ih]); (first | lia | omega)
section
variable {C : Cx} {σ σ' τ : Led} {ι ι' : Imm} {A : Around} {s : Shared} {E : Value → Shared → Prop} {a dx l b : Addr} {vs us items : Array Value}
noncomputable def holdsS (i : Nat) : Stmt := (bodyOf (topS 11)).getD i (.Pass default)

theorem holds_counts {L cS cA cM cT cX ls : Addr} {m : Str → Option Value} {sv : Array Value} {st : List Nat} {Q : Flow → Shared → Prop} (X : CxOk C) (KA' : KAll C.K) (KH : KHolds C.K) (hA : A.handled = none)
    (S : SS C ((L, nsP m) :: τ) ι s) (hc : (cS, cellP (some (.ref ls))) ∈ τ) (hls : (ls, lstP sv) ∈ τ) (hi : IntsAre sv.toList (natsI st)) (hz : st.length ≤ 1000)
    (h : ∀ lc cv s', SS C ((lc, lstP cv) :: (L, nsP (put m "counts" (.ref lc))) :: τ) ι s' → cv.size = 4 → (∀ i, i < 4 → ∃ t, cv[i]? = some (.int (countS st i) t)) → Q .next s') :
    wpAny (model prg C.w) A (exec (holdsS 0) (holdsEnv L cS cA cM cT cX)) Q E s := by
  have hzz : sv.size ≤ sizeLine := by
    have := hi.length
    rw [Array.length_toList, natsI, List.length_map] at this
    (first | (refine rwP (sizeLine_eq) ?_; try with_reducible rfl) | rw [sizeLine_eq]); (first | lia | omega)
  refine comp_rangeA (N := 4) (m0 := m) (cl := [("steps", cS)]) X KA' (fun _ => (L, nsP m) :: τ) (fun i x _ => ∃ t, x = .int (countS st i) t) S (by decide) (fun _ _ _ _ _ h => h) hA (fun it i t D m' acc out ι' s E hi' hι S1 => ?_) (σf := fun v => (L, nsP (put m "counts" v)) :: τ) (fun v => .head)
    (fun acc out ι' s' hι S' h1 h2 => h acc out s' (S'.less hι) h1 fun i hi => ?_)
  · refine Call_ (n_builtin X S1 KH.gSum KH.bSum ?_)
    refine n_callb (sp_cons (Subscript_ (n_cell S1 rfl (.tail _ (.tail _ (.tail _ (.tail _ hc)))) ?_)))
    have e1 : (i : Int) + 1 = ((i + 1 : Nat) : Int) := by (first | lia | omega)
    have S1' : SS C _ ι' { s with toks := s.toks + 1 + 1 } := S1
    refine n_slice2 (vu := .int ((i : Int) + 1) (s.toks + 1)) (evalPart_some_step (wpAny_BinOp (n_local S1 (.tail _ (.head _)) put_same (wpAny_Constant_int (P.add_int ⟨rfl, _, _, S1', fun sl s2 S2 hsl => ?_⟩)))))
    have L2 := lst_like S2 (.tail _ (.tail _ (.tail _ (.tail _ hls))))
    refine like_tail L2 (like_slice L2 hsl .none (.int ((i : Int) + 1) (s.toks + 1)) .none (by simp) ?_ hzz) (fun q => wpAny_operating q)
    (first | (refine rwP (e1) ?_; refine rwP (pick_take) ?_; try with_reducible rfl) | rw [e1, pick_take])
    refine sp_nil (sum_L (newL S2) (.head _) (ns := natsI (st.take (i + 1))) ?_ hA fun t3 s3 S3 => ⟨ι', _, fun _ h => h, S3.tl, t3, ?_⟩)
    · have := hi.take (i + 1)
      simpa [natsI, List.map_take] using this
    · (first | (refine rwP (natsI_sum) ?_; try with_reducible rfl) | rw [natsI_sum]); rfl
  · refine gen_P fun Pg kg => ?_
    obtain ⟨x, e, t, rfl⟩ := h2 i hi
    refine kg ?_
    clear kg
    exact ⟨t, e⟩
end
end Mine
end Part55
section Part56
set_option tactic.hygienic false
open PySem PySem.W PySem.W.X PySem.Calls PyProof.Rows
set_option maxRecDepth 100000
namespace Mine

noncomputable def rowsS (st : List Nat) (k i : Nat) : List Nat := (List.range i).flatMap fun j => List.replicate (st.getD j 0) (k + 1 - j)
theorem rowsS_succ (st : List Nat) (k i : Nat) : rowsS st k (i + 1) = rowsS st k i ++ List.replicate (st.getD i 0) (k + 1 - i) := by
  unfold rowsS
  (first | (refine rwP (List.range_succ) ?_; refine rwP (List.flatMap_append) ?_; try with_reducible rfl) | rw [List.range_succ, List.flatMap_append]); simp
noncomputable def factS (st : List Nat) (ahead k : Nat) : List Nat := (rowsS st k (k + 1)).drop 1 ++ [k + 1 + ahead]
theorem rowsS_le (st : List Nat) (k : Nat) (hs : ∀ j, st.getD j 0 ≤ 10) : ∀ i, (rowsS st k i).length ≤ 10 * i
  | 0 => by simp [rowsS]
  | i + 1 => by
    have := rowsS_le st k hs i
    (first | (refine rwP (rowsS_succ) ?_; refine rwP (List.length_append) ?_; refine rwP (List.length_replicate) ?_; try with_reducible rfl) | rw [rowsS_succ, List.length_append, List.length_replicate])
    have := hs i
    (first | lia | omega)
theorem rowsS_mem (st : List Nat) (k i : Nat) : ∀ x ∈ rowsS st k i, x ≤ k + 1 := by
  intro x hx
  obtain ⟨j, _, h⟩ := List.mem_flatMap.mp hx
  (first | (refine rwP (List.eq_of_mem_replicate h) ?_; try with_reducible rfl) | rw [List.eq_of_mem_replicate h])
  omega
theorem natsI_append (a b : List Nat) : natsI (a ++ b) = natsI a ++ natsI b := by simp [natsI]
theorem natsI_length (a : List Nat) : (natsI a).length = a.length := by simp [natsI]
theorem natsI_at {ns : List Nat} {i : Nat} {x : Int} (h : (natsI ns)[i]? = some x) : ∃ n : Nat, ns[i]? = some n ∧ x = n := by
  rw [natsI, List.getElem?_map] at h
  cases e : ns[i]? with
  | none => rw [e] at h; cases h
  | some n => rw [e] at h; exact ⟨n, rfl, (Option.some.inj h).symm⟩

noncomputable def holdsComp (i : Nat) : Expr := valOf (holdsS i)
noncomputable def scopeC (e : Expr) : Scope :=
  @Expr.casesOn (fun _ => Scope) e (fun _ _ _ => default) (fun _ _ _ => default) (fun _ _ _ _ => default) (fun _ _ _ => default) (fun _ _ _ _ => default) (fun _ _ _ _ => default) (fun _ _ _ => default) (fun _ _ _ => default) (fun _ _ scope _ => scope) (fun _ _ _ _ => default) (fun _ _ _ _ _ => default) (fun _ _ _ _ => default) (fun _ _ => default) (fun _ _ => default) (fun _ _ => default) (fun _ _ _ _ => default) (fun _ _ _ _ => default) (fun _ _ _ _ => default) (fun _ _ => default) (fun _ _ _ => default) (fun _ _ _ => default) (fun _ _ _ => default) (fun _ _ => default) (fun _ _ => default) (fun _ _ => default) (fun _ _ _ => default) (fun _ _ _ _ => default)
noncomputable abbrev duesScope : Scope := scopeC (holdsComp 2)
noncomputable abbrev duesEnv (D kc cS cA : Addr) (env : Env) : Env := compEnvC duesScope [("k", kc), ("steps", cS), ("ahead", cA)] D env

section
variable {C : Cx} {σ σ' τ : Led} {ι ι' : Imm} {A : Around} {s : Shared} {E : Value → Shared → Prop} {a dx l b : Addr} {vs us items : Array Value}

theorem factors_comp {L cS cA cM cT cX ls D kc : Addr} {sv : Array Value} {st : List Nat} {k : Nat} {tk : Tok} {sc : Scope} {p1 p2 p3 p4 p5 p6 p7 p8 p9 q1 q2 q3 q4 q5 q6 q7 q8 q9 : Pos} {Q : Value → Shared → Prop} (X : CxOk C) (KA' : KAll C.K) (hA : A.handled = none)
    (S : SS C σ ι s) (hc : (cS, cellP (some (.ref ls))) ∈ σ) (hkc : (kc, cellP (some (.int k tk))) ∈ σ) (hls : (ls, lstP sv) ∈ σ) (hi : IntsAre sv.toList (natsI st)) (hst : st.length = 4) (hk : k < 4) (hs10 : ∀ j, st.getD j 0 ≤ 10)
    (h : ∀ l fv s', SS C ((l, lstP fv) :: σ) ι s' → IntsAre fv.toList (natsI (rowsS st k (k + 1))) → Q (.ref l) s')
    (hsc : sc = { kind := .function, names := [(".0", .local), ("j", .local), ("_", .local), ("range", .globalImplicit), ("k", .free), ("steps", .free)], isGenerator := false, isCoroutine := false, more := [] } := by rfl) :
    wpAny (model prg C.w) A (eval (Two (.BinOp (.BinOp (.Name "k" p1) .Add (.Constant (.int 1) 0 p2) p3) .Sub (.Name "j" p4) p5) (.Name "j" p6) (.Call (.Name "range" p7) [.BinOp (.Name "k" p8) .Add (.Constant (.int 1) 0 p9) q1] [] q2)
      (.Name "_" q3) (.Call (.Name "range" q4) [.Subscript (.Name "steps" q5) (.Name "j" q6) q7] [] q8) sc q9) (duesEnv D kc cS cA (holdsEnv L cS cA cM cT cX))) Q E s := by
  subst hsc
  have e1 : (k : Int) + 1 = ((k + 1 : Nat) : Int) := by (first | lia | omega)
  refine comp_evalG (cl := [("steps", cS), ("k", kc)]) (n_range X KA' S (wpAny_BinOp (n_cell S rfl hkc (wpAny_Constant_int (P.add_int ?_))))) rfl (by decide)
  (first | (refine rwP (e1) ?_; try with_reducible rfl) | rw [e1])
  have S1 : SS C σ ι { s with toks := s.toks + 1 + 1 } := S
  refine make_range1 S1 fun r t u w s2 S2 hr => ?_
  refine iter_range S2 hr (by decide) (by (first | lia | omega)) fun it s3 S3 => ⟨_, _, S3, ?_⟩
  refine run2 (ri_walker (x := 0) (n := k + 1)) (fun i m out σ' ι' => i ≤ k + 1 ∧ σ' = σ ∧ ι ⊆ ι' ∧ IntsAre out.toList (natsI (rowsS st k i))) (fun _ _ _ _ _ _ _ _ => trivial) (fun i m out D2 acc σ' ι1 ι2 v sq hi' hI hι hv Sq => ?_)
    (fun m out acc σ' ι' hI => ?_) hA ⟨Nat.zero_le _, rfl, fun _ h => h, .nil⟩
  · obtain ⟨h1, rfl, hιι, hout⟩ := hI
    obtain ⟨tv, rfl⟩ := hv
    (first | (refine rwP (Int.zero_add) ?_; try with_reducible rfl) | rw [Int.zero_add]) 
    refine wpAny_assign_Name (n_store Sq (.tail .head) fun s4 S4 => ?_)
    have hij : i < st.length := by (first | lia | omega)
    have hsv : sv.size = 4 := by (first | (refine rwQ (Array.length_toList) ?_; refine rwP (hi.length) ?_; refine rwP (natsI_length) ?_; refine rwP (hst) ?_; try with_reducible rfl) | rw [← Array.length_toList, hi.length, natsI_length, hst])
    have esv : sv[i]? = some sv[i] := Array.getElem?_eq_getElem (by (first | lia | omega))
    refine gen_P fun Pg kg => ?_
    obtain ⟨x, tx, hx, hx'⟩ := ints_at hi (i := i) (v := sv[i]) (by (first | (refine rwP (Array.getElem?_toList) ?_; try with_reducible rfl) | rw [Array.getElem?_toList]); exact esv)
    obtain ⟨n, hn, rfl⟩ := natsI_at hx
    refine kg ?_
    clear kg
    rw [hx'] at esv
    have hget : st.getD i 0 = n := by (first | (refine rwP (List.getD_eq_getElem?_getD) ?_; refine rwP (hn) ?_; try with_reducible rfl) | rw [List.getD_eq_getElem?_getD, hn]); rfl
    refine n_range X KA' S4 (Subscript_ (n_cell S4 rfl (.tail _ (.tail _ (.tail _ hc))) (n_local S4 (.tail _ (.head _)) put_same ?_)))
    have L4 := lst_like S4 (.tail _ (.tail _ (.tail _ hls)))
    refine like_tail L4 (like_int L4 (by (first | lia | omega)) (by (first | lia | omega)) (by (first | (refine rwP (Int.toNat_natCast) ?_; try with_reducible rfl) | rw [Int.toNat_natCast]); exact esv) ?_) (fun q => wpAny_operating q)
    refine make_range1 S4 fun r2 t2 u2 w2 s5 S5 hr2 => ?_
    have hn10 := hs10 i
    rw [hget] at hn10
    refine iter_range S5 hr2 (by decide) (by (first | lia | omega)) fun it2 s6 S6 => ?_
    have S7 : SS C ((it2, riP 0 n 0) :: (D2, nsP (put m "j" (.int (i : Nat) tv))) :: (acc, lstP out) :: (it, riP 0 (k + 1 : Nat) (i + 1)) :: σ') ι2 s6 := S6.perm (List.Perm.cons _ ((List.Perm.swap _ _ _).trans ((List.Perm.swap _ _ _).cons _)))
    refine ⟨it2, riP 0 n, n, _, _, fun j m out' σ'' ι' => j ≤ n ∧ σ'' = (it, riP 0 (k + 1 : Nat) (i + 1)) :: σ' ∧ ι ⊆ ι' ∧ (∃ t, m "j" = some (.int (i : Nat) t)) ∧ IntsAre out'.toList (natsI (rowsS st k i ++ List.replicate j (k + 1 - i))), σ', ι2, _, rfl, S7,
      ⟨Nat.zero_le _, rfl, fun _ h => hι (hιι h), ⟨tv, put_same⟩, by simpa using hout⟩, ri_walker, fun _ _ _ _ _ _ => trivial, fun j m' out' σ'' ι' hj hI2 => ?_, fun j m' out' σ'' ι3 ι4 v sr E hj hI2 hι2 hv Sr => ?_, fun m' out' σ'' ι' hI2 => ?_⟩
    · obtain ⟨_, _, _, _, ho⟩ := hI2
      have h5 := ho.length
      rw [natsI_length, List.length_append, List.length_replicate, Array.length_toList] at h5
      have h6 := rowsS_le st k hs10 i
      (first | (refine rwP (sizeLine_eq) ?_; try with_reducible rfl) | rw [sizeLine_eq]); (first | lia | omega)
    · refine gen_P fun Pg kg => ?_
      obtain ⟨h3, rfl, h4, ⟨tj, hmj⟩, ho⟩ := hI2
      obtain ⟨tw, rfl⟩ := hv
      refine kg ?_
      clear kg
      refine wpAny_assign_Name (n_store Sr (.tail .head) fun s7 S8 => ?_)
      refine wpAny_BinOp (wpAny_BinOp (n_cell S8 rfl (.tail _ (.tail _ (.tail _ (.tail _ hkc)))) (wpAny_Constant_int (P.add_int (n_local S8 (.tail _ (.head _)) ((put_ne (by decide)).trans hmj) (P.sub_int ?_))))))
      have e2 : (k : Int) + 1 - (i : Int) = ((k + 1 - i : Nat) : Int) := by (first | lia | omega)
      (first | (refine rwP (e2) ?_; try with_reducible rfl) | rw [e2])
      refine ⟨_, _, _, S8, hj, rfl, fun _ h => hι2 (h4 h), ⟨tj, (put_ne (by decide)).trans hmj⟩, ?_⟩
      have := ints_push (n := ((k + 1 - i : Nat) : Int)) (t := s7.toks + 1 + 1) ho
      (first | (refine rwP (List.replicate_succ') ?_; refine rwQ (List.append_assoc) ?_; refine rwP (natsI_append) ?_; try with_reducible rfl) | rw [List.replicate_succ', ← List.append_assoc, natsI_append])
      exact this
    · obtain ⟨_, rfl, h4, _, ho⟩ := hI2
      refine ⟨σ', rfl, fun m' => ⟨hi', rfl, h4, ?_⟩⟩
      (first | (refine rwP (rowsS_succ) ?_; refine rwP (hget) ?_; try with_reducible rfl) | rw [rowsS_succ, hget]); exact ho
  · obtain ⟨_, rfl, hιι, hout⟩ := hI
    intro s'' S''
    exact h acc out s'' (S''.less hιι) hout
end
end Mine
end Part56
section Part57
set_option tactic.hygienic false
open PySem PySem.W PySem.W.X PySem.Calls PyProof.Rows
set_option maxRecDepth 100000
namespace Mine

noncomputable def stepN (told : List Nat) (f : Nat) : List Nat := (told ++ [0]).zipWith (fun a b => a + f * b) (0 :: told)
noncomputable def prodN (fs : List Nat) : List Nat := fs.foldl stepN [1]
theorem zip_nats (f : Nat) : ∀ (a b : List Nat), (natsI a).zipWith (fun a b => a + (f : Int) * b) (natsI b) = natsI (a.zipWith (fun a b => a + f * b) b)
  | [], _ => by simp [natsI]
  | _ :: _, [] => by simp [natsI]
  | x :: a, y :: b => by
    have := zip_nats f a b
    simp only [natsI, List.map_cons, List.zipWith_cons_cons] at this ⊢
    (first | (refine rwP (this) ?_; try with_reducible rfl) | rw [this])
    congr 1
theorem step_nats (t : List Nat) (f : Nat) : prodStep (natsI t) (f : Int) = natsI (stepN t f) := by
  have := zip_nats f (t ++ [0]) (0 :: t)
  rw [natsI_append] at this
  exact this
theorem prod_nats (fs : List Nat) : prodS (natsI fs) = natsI (prodN fs) := by
  have : ∀ (fs t : List Nat), (natsI fs).foldl prodStep (natsI t) = natsI (fs.foldl stepN t) := by
    intro fs
    induction fs with
    | nil => intro t; rfl
    | cons f r ih => intro t; (first | (refine rwP (show natsI (f :: r) = (f : Int) :: natsI r from rfl) ?_; refine rwP (List.foldl_cons) ?_; refine rwP (List.foldl_cons) ?_; refine rwP (step_nats) ?_; try with_reducible rfl) | rw [show natsI (f :: r) = (f : Int) :: natsI r from rfl, List.foldl_cons, List.foldl_cons, step_nats]); exact ih _
  exact this fs [1]
noncomputable def dueLed (dl : List (Addr × Array Value)) : Led := dl.map fun p => (p.1, lstP p.2)
noncomputable def dueVals (dl : List (Addr × Array Value)) : Array Value := (dl.map fun p => Value.ref p.1).toArray
noncomputable def DuesAre (dl : List (Addr × Array Value)) (ds : List (List Nat)) : Prop := dl.length = ds.length ∧ ∀ (i : Nat) (p : Addr × Array Value) (d : List Nat), dl[i]? = some p → ds[i]? = some d → IntsAre p.2.toList (natsI d)
theorem DuesAre.snoc {dl : List (Addr × Array Value)} {ds : List (List Nat)} {p : Addr × Array Value} {d : List Nat} (x : DuesAre dl ds) (h : IntsAre p.2.toList (natsI d)) : DuesAre (dl ++ [p]) (ds ++ [d]) := by
  refine ⟨by (first | (refine rwP (List.length_append) ?_; refine rwP (List.length_append) ?_; refine rwP (x.1) ?_; try with_reducible rfl) | rw [List.length_append, List.length_append, x.1]); rfl, fun i q e hq he => ?_⟩
  by_cases hi : i < dl.length
  · rw [List.getElem?_append_left hi] at hq
    rw [List.getElem?_append_left (by rw [← x.1]; exact hi)] at he
    exact x.2 i q e hq he
  · rw [List.getElem?_append_right (by (first | lia | omega))] at hq
    rw [List.getElem?_append_right (by rw [← x.1]; (first | lia | omega)), ← x.1] at he
    cases h0 : i - dl.length with
    | zero =>
      rw [h0] at hq he
      cases hq; cases he
      exact h
    | succ n => rw [h0] at hq; simp at hq
theorem dueVals_snoc (dl : List (Addr × Array Value)) (p : Addr × Array Value) : dueVals (dl ++ [p]) = (dueVals dl).push (.ref p.1) := by simp [dueVals]
theorem dueLed_snoc (dl : List (Addr × Array Value)) (p : Addr × Array Value) (r : Led) : ((p.1, lstP p.2) :: (dueLed dl ++ r)).Perm (dueLed (dl ++ [p]) ++ r) := by
  (first | (refine rwP (dueLed) ?_; refine rwP (dueLed) ?_; refine rwP (List.map_append) ?_; refine rwP (List.append_assoc) ?_; try with_reducible rfl) | rw [dueLed, dueLed, List.map_append, List.append_assoc])
  exact List.perm_middle.symm

section
variable {C : Cx} {σ σ' τ : Led} {ι ι' : Imm} {A : Around} {s : Shared} {E : Value → Shared → Prop} {a dx l b : Addr} {vs us items : Array Value}

theorem holds_most {L cS cA cM cT cX lc : Addr} {m : Str → Option Value} {cv : Array Value} {n : Nat} {tn : Tok} {v0 : Option Value} {Q : Flow → Shared → Prop} {τ' : Value → Led}
    (S : SS C ((L, nsP m) :: τ) ι s) (hm : m "counts" = some (.ref lc)) (hlc : (lc, lstP cv) ∈ τ) (hcv : cv[3]? = some (.int n tn)) (u : ∀ v, Upd cM (cellP v0) (cellP (some v)) τ (τ' v))
    (h : ∀ t s', SS C ((L, nsP m) :: τ' (.int (n + 2 : Nat) t)) ι s' → Q .next s') :
    wpAny (model prg C.w) A (exec (holdsS 1) (holdsEnv L cS cA cM cT cX)) Q E s := by
  refine wpAny_Assign_Name (wpAny_BinOp (Subscript_ (n_local S (.head _) hm (wpAny_Constant_int ?_))))
  have S1 : SS C ((L, nsP m) :: τ) ι { s with toks := s.toks + 1 } := S
  have L1 := lst_like S1 (.tail _ hlc)
  refine like_tail L1 (like_int L1 (by decide) (by decide) hcv ?_) (fun q => wpAny_operating q)
  refine wpAny_Constant_int (P.add_int ?_)
  have S2 : SS C ((L, nsP m) :: τ) ι { s with toks := s.toks + 1 + 1 + 1 } := S
  have e : (n : Int) + 2 = ((n + 2 : Nat) : Int) := by (first | lia | omega)
  (first | (refine rwP (e) ?_; try with_reducible rfl) | rw [e])
  exact n_storeC S2 rfl (.tail (u _)) fun s3 S3 => h _ s3 S3

theorem holds_dues1 {n : Nat} {L cS cA cM cT cX ls : Addr} {m : Str → Option Value} {sv : Array Value} {st : List Nat} {ahead : Nat} {ta : Tok} {Q : Flow → Shared → Prop} (X : CxOk C) (KA' : KAll C.K) (KH : KHolds C.K) (KP : KProd C.K) (R : Room (n + 1) A)
    (S : SS C ((L, nsP m) :: τ) ι s) (hcS : (cS, cellP (some (.ref ls))) ∈ τ) (hcA : (cA, cellP (some (.int ahead ta))) ∈ τ) (hls : (ls, lstP sv) ∈ τ) (hi : IntsAre sv.toList (natsI st)) (hst : st.length = 4) (hs10 : ∀ j, st.getD j 0 ≤ 10) (ha : ahead ≤ 10)
    (h : ∀ ld dl s', SS C ((ld, lstP (dueVals dl)) :: (dueLed dl ++ (L, nsP (put m "dues" (.ref ld))) :: τ)) ι s' → DuesAre dl ((List.range 4).map fun k => prodN (factS st ahead k)) → Q .next s') :
    wpAny (model prg C.w) A (exec (holdsS 2) (holdsEnv L cS cA cM cT cX)) Q E s := by
  have hA := R.h
  refine comp_assignG (cl := [("steps", cS), ("ahead", cA)]) (range_lit (N := 4) X KA' S (by decide) fun it s2 S2 => ⟨_, _, S2, fun D acc s3 S3 => ?_⟩) rfl (by decide)
  have S3 : SS C ((D, nsP fun _ => none) :: (D + 1, cellP none) :: (acc, lstP #[]) :: (it, riP 0 4 0) :: (L, nsP m) :: τ) ι s3 := S3
  have S4 : SS C ((it, riP 0 4 0) :: (D, nsP fun _ => none) :: (acc, lstP #[]) :: (D + 1, cellP none) :: (dueLed [] ++ (L, nsP m) :: τ)) ι s3 := by
    refine S3.perm ?_
    refine List.Perm.trans ?_ (List.perm_middle (l₁ := [(D, nsP fun _ => none), (acc, lstP #[]), (D + 1, cellP none)]))
    exact (List.Perm.swap _ _ _).cons _
  show codeAny (model prg C.w) A (.compStart _ 0 (.ref it) (.ref acc) (duesEnv D (D + 1) cS cA (holdsEnv L cS cA cM cT cX))) _ s3
  generalize D + 1 = kc at S4 ⊢
  refine comp_w (ri_walker (x := 0) (n := 4)) (fun i out σ' ι' => Ex2 fun v dl => And5 (i ≤ 4) (σ' = (kc, cellP v) :: (dueLed dl ++ (L, nsP m) :: τ)) (ι ⊆ ι') (out = dueVals dl) (DuesAre dl ((List.range i).map fun k => prodN (factS st ahead k)))) (fun _ _ _ _ _ _ => trivial)
    (fun i out m' σ' ι1 ι2 v sq hi' hI hι hv Sq => ?_) (fun i out σ' ι' hi' hI => ?_) (fun out m' σ' ι' s' hI S' => ?_) hA S4 ⟨none, [], Nat.zero_le _, rfl, fun _ h => h, rfl, rfl, fun i p d h1 => by simp at h1⟩
  · obtain ⟨v0, dl, h1, rfl, hιι, rfl, hd⟩ := hI
    obtain ⟨tv, rfl⟩ := hv
    (first | (refine rwP (Int.zero_add) ?_; try with_reducible rfl) | rw [Int.zero_add])
    refine wpAny_assign_Name (n_storeC Sq rfl (.tail (.tail (.tail .head))) fun s5 S5 => ?_)
    have hτ : ∀ {p : Addr × OP}, p ∈ τ → p ∈ (it, riP 0 4 (i + 1)) :: (D, nsP m') :: (acc, lstP (dueVals dl)) :: (kc, cellP (some (.int (i : Nat) tv))) :: (dueLed dl ++ (L, nsP m) :: τ) := fun hp => .tail _ (.tail _ (.tail _ (.tail _ (List.mem_append_right _ (.tail _ hp)))))
    refine Call_ (n_global X S5 KH.gProd ?_)
    refine n_callF X KP.fProd (sp_cons (wpAny_BinOp (Subscript_ (factors_comp X KA' hA S5 (hτ hcS) (.tail _ (.tail _ (.tail _ (.head _)))) (hτ hls) hi hst hi' hs10 fun l1 fv s6 S6 hfv => ?_))))
    refine n_slice (vl := .int 1 s6.toks) (evalPart_some_step (wpAny_Constant_int ⟨rfl, _, _, (show SS C _ ι2 { s6 with toks := s6.toks + 1 } from S6), fun sl s7 S7 hsl => ?_⟩))
    have L7 := lst_like S7 (.head _)
    obtain ⟨o7, e7, ⟨c7, _⟩, _⟩ := S7.at (a := l1) (.head _)
    have hlen := hfv.length
    rw [natsI_length, Array.length_toList] at hlen
    have hle := rowsS_le st i hs10 (i + 1)
    have hz : 2000000 ≤ sizeLine := by (first | (refine rwP (sizeLine_eq) ?_; try with_reducible rfl) | rw [sizeLine_eq]); (first | lia | omega)
    refine tail_any (T := "list") ⟨o7, e7, c7⟩ slot_list_getitem.lookup (like_slice L7 hsl (.int 1 s6.toks) .none .none (by simp) ?_ (by (first | lia | omega))) (by with_unfolding_all rfl)
    have ep : slicePick fv (some 1) none none = (fv.toList.drop 1).toArray := pick_drop fv 1
    (first | (refine rwP (ep) ?_; try with_reducible rfl) | rw [ep])
    have S8 := newL (xs := (fv.toList.drop 1).toArray) S7
    generalize s7.heap.objs.size = l2 at S8 ⊢
    refine List_ (sp_cons (wpAny_BinOp (wpAny_BinOp (n_cell S8 rfl (.tail _ (.tail _ (.tail _ (.tail _ (.tail _ (.head _)))))) (wpAny_Constant_int (P.add_int (n_cell (show SS C _ ι2 { s7 with heap := s7.heap.push { cls := .type "list", data := .seq (fv.toList.drop 1).toArray }, toks := s7.toks + 1 + 1 } from S8) rfl (.tail _ (.tail _ (hτ hcA))) (P.add_int (sp_nil ?_)))))))))
    have e2 : (i : Int) + 1 + (ahead : Int) = ((i + 1 + ahead : Nat) : Int) := by (first | lia | omega)
    (first | (refine rwP (e2) ?_; try with_reducible rfl) | rw [e2])
    refine n_newList (show SS C _ ι2 { s7 with heap := s7.heap.push { cls := .type "list", data := .seq (fv.toList.drop 1).toArray }, toks := s7.toks + 1 + 1 + 1 } from S8) fun l3 s9 S9 => ?_
    refine add_L S9 (.tail _ (.head _)) (.head _) (fun l4 s10 S10 => ?_) (by simp; (first | lia | omega))
    have hfact : IntsAre ((fv.toList.drop 1).toArray ++ #[Value.int ((i + 1 + ahead : Nat) : Int) (s7.toks + 1 + 1)]).toList (natsI (factS st ahead i)) := by
      have := (hfv.drop 1).append (.cons ((i + 1 + ahead : Nat) : Int) (s7.toks + 1 + 1) .nil)
      unfold factS
      (first | (refine rwP (natsI_append) ?_; try with_reducible rfl) | rw [natsI_append])
      simpa [natsI, List.map_drop] using this
    refine sp_nil ⟨⟨_, _, S10⟩, ?_⟩
    refine products_c (n := n) X KP R S10 (.head _) hfact (by (first | (refine rwP (natsI_length) ?_; refine rwP (factS) ?_; refine rwP (List.length_append) ?_; refine rwP (List.length_drop) ?_; try with_reducible rfl) | rw [natsI_length, factS, List.length_append, List.length_drop]); simp; (first | lia | omega)) (fun f hf => ?_) fun l5 pv s11 S11 hpv => ?_
    · obtain ⟨x, hx, rfl⟩ := List.mem_map.mp hf
      rcases List.mem_append.mp hx with hx | hx
      · have := rowsS_mem st i (i + 1) x (List.mem_of_mem_drop hx)
        (first | lia | omega)
      · (first | (refine rwP (List.mem_singleton.mp hx) ?_; try with_reducible rfl) | rw [List.mem_singleton.mp hx])
        (first | lia | omega)
    · rw [prod_nats] at hpv
      refine ⟨m', (kc, cellP (some (.int (i : Nat) tv))) :: (dueLed (dl ++ [(l5, pv)]) ++ (L, nsP m) :: τ), ι2, ?_, _, dl ++ [(l5, pv)], hi', rfl, fun _ h => hι (hιι h), (dueVals_snoc dl (l5, pv)).symm, ?_⟩
      · have S12 : SS C ((l5, lstP pv) :: (it, riP 0 4 (i + 1)) :: (D, nsP m') :: (acc, lstP (dueVals dl)) :: (kc, cellP (some (.int (i : Nat) tv))) :: (dueLed dl ++ (L, nsP m) :: τ)) ι2 s11 :=
          S11.sub (.cons₂ _ (.cons _ (.cons _ (.cons _ (.cons _ (List.Sublist.refl _))))))
        refine S12.perm ?_
        refine ((List.perm_middle (l₁ := [(it, riP 0 4 (i + 1)), (D, nsP m'), (acc, lstP (dueVals dl)), (kc, cellP (some (.int (i : Nat) tv)))] )).symm).trans ?_
        exact ((((dueLed_snoc dl (l5, pv) _).cons _).cons _).cons _).cons _
      · (first | (refine rwP (List.range_succ) ?_; refine rwP (List.map_append) ?_; try with_reducible rfl) | rw [List.range_succ, List.map_append])
        exact hd.snoc hpv
  · obtain ⟨v0, dl, h1, rfl, hιι, rfl, hd⟩ := hI
    have := hd.1
    rw [List.length_map, List.length_range] at this
    (first | (refine rwP (sizeLine_eq) ?_; try with_reducible rfl) | rw [sizeLine_eq])
    simp [dueVals]; (first | lia | omega)
  · obtain ⟨v0, dl, h1, rfl, hιι, rfl, hd⟩ := hI
    refine ⟨_, m', _, _, rfl, S', m, (acc, lstP (dueVals dl)) :: (kc, cellP v0) :: (dueLed dl ++ (L, nsP (put m "dues" (.ref acc))) :: τ), .tail (.tail .mid), fun s'' S'' => ?_⟩
    exact h acc dl s'' ((S''.less hιι).sub (.cons₂ _ (.cons _ (List.Sublist.refl _)))) hd
end
end Mine
end Part57
section Part58
set_option tactic.hygienic false
open PySem PySem.W PySem.W.X PySem.Calls PyProof.Rows
set_option maxRecDepth 100000
namespace Mine

noncomputable def padS (mo : Nat) (d : List Nat) : List Nat := d ++ List.replicate (mo + 1 - d.length) 0
theorem rep_flat {α : Type} (v : α) : ∀ n : Nat, (List.replicate n [v]).flatten = List.replicate n v
  | 0 => rfl
  | n + 1 => by (first | (refine rwP (List.replicate_succ) ?_; refine rwP (List.flatten_cons) ?_; refine rwP (rep_flat v n) ?_; try with_reducible rfl) | rw [List.replicate_succ, List.flatten_cons, rep_flat v n]); rfl
theorem ints_rep0 (t : Tok) : ∀ n : Nat, IntsAre (List.replicate n (Value.int 0 t)) (natsI (List.replicate n 0))
  | 0 => .nil
  | n + 1 => by
    have := IntsAre.cons 0 t (ints_rep0 t n)
    exact this
theorem pcs_rep {ι : Imm} {v : Value} {p : Str × Str} (h : IsPiece ι v p) (n : Nat) : pcs ι (List.replicate n v).toArray (List.replicate n p) := by
  refine ⟨by simp, fun i q e => ?_⟩
  rw [List.getElem?_replicate] at e
  split at e
  · rename_i hi
    cases e
    exact ⟨v, by simp [hi], h⟩
  · cases e

section
variable {C : Cx} {σ σ' τ : Led} {ι ι' : Imm} {A : Around} {s : Shared} {E : Value → Shared → Prop} {a dx l b : Addr} {vs us items : Array Value}

theorem dueLed_at {dl : List (Addr × Array Value)} {i : Nat} {p : Addr × Array Value} (h : dl[i]? = some p) : (p.1, lstP p.2) ∈ dueLed dl :=
  List.mem_map.mpr ⟨p, List.mem_of_getElem? h, rfl⟩
theorem dueVals_at {dl : List (Addr × Array Value)} {i : Nat} {v : Value} (h : (dueVals dl)[i]? = some v) : ∃ p, dl[i]? = some p ∧ v = .ref p.1 := by
  unfold dueVals at h
  rw [List.getElem?_toArray, List.getElem?_map] at h
  cases e : dl[i]? with
  | none => rw [e] at h; cases h
  | some p => rw [e] at h; exact ⟨p, rfl, (Option.some.inj h).symm⟩

theorem holds_dues2 {L cS cA cM cT cX ld : Addr} {m : Str → Option Value} {dl : List (Addr × Array Value)} {ds : List (List Nat)} {mo : Nat} {tm : Tok} {Q : Flow → Shared → Prop} (X : CxOk C) (KK : AllK C.K) (hA : A.handled = none)
    (S : SS C ((L, nsP m) :: τ) ι s) (hm : m "dues" = some (.ref ld)) (hld : (ld, lstP (dueVals dl)) ∈ τ) (hdl : ∀ p ∈ dueLed dl, p ∈ τ) (hcM : (cM, cellP (some (.int mo tm))) ∈ τ) (hd : DuesAre dl ds) (hmo : mo ≤ 1000) (hlen : ∀ d ∈ ds, d.length ≤ mo + 1) (hdz : ds.length ≤ 1000)
    (h : ∀ l2 dl2 s', SS C ((l2, lstP (dueVals dl2)) :: (dueLed dl2 ++ (L, nsP (put m "dues" (.ref l2))) :: τ)) ι s' → DuesAre dl2 (ds.map (padS mo)) → Q .next s') :
    wpAny (model prg C.w) A (exec (holdsS 3) (holdsEnv L cS cA cM cT cX)) Q E s := by
  have hn : (dueVals dl).size = ds.length := by simp [dueVals, hd.1]
  refine comp_assignG (cl := [("most", cM)]) (n_local S (.head _) hm (iter_list S (.tail _ hld) fun it s2 S2 => ?_)) rfl (by decide)
  refine ⟨_, _, S2, run1 (li_walker (l := ld) (vs := dueVals dl)) (fun i out σ' ι' => ∃ dl2, i ≤ ds.length ∧ σ' = dueLed dl2 ++ (L, nsP m) :: τ ∧ ι' = ι ∧ out = dueVals dl2 ∧ DuesAre dl2 ((ds.take i).map (padS mo)))
    (fun i out m' D acc σ' ι' hI => ?_) (fun i out σ' ι' hi hI => ?_) (fun i out m' D acc σ' ι1 ι2 v sq E' hi hI hι hv Sq => ?_) (fun out acc σ' ι' hI => ?_) hA ⟨[], Nat.zero_le _, rfl, rfl, rfl, rfl, fun i p d h1 => by simp at h1⟩⟩
  · obtain ⟨dl2, _, rfl, _⟩ := hI
    exact ⟨_, .tail _ (.tail _ (List.mem_append_right _ (.tail _ hld))), fun o => lstP_seq⟩
  · obtain ⟨dl2, h1, rfl, rfl, rfl, hd2⟩ := hI
    have := hd2.1
    rw [List.length_map, List.length_take] at this
    (first | (refine rwP (sizeLine_eq) ?_; try with_reducible rfl) | rw [sizeLine_eq])
    simp [dueVals]; (first | lia | omega)
  · obtain ⟨dl2, h1, rfl, rfl, rfl, hd2⟩ := hI
    have Sq := Sq.less hι
    obtain ⟨p, hp, rfl⟩ := dueVals_at hv
    have hil : i < ds.length := by (first | lia | omega)
    have hdi : ds[i]? = some ds[i] := List.getElem?_eq_getElem hil
    have hint := hd.2 i p _ hp hdi
    have hpl := hint.length
    rw [natsI_length, Array.length_toList] at hpl
    have hdl' := hlen _ (List.getElem_mem hil)
    have hz : 2000000 ≤ sizeLine := by (first | (refine rwP (sizeLine_eq) ?_; try with_reducible rfl) | rw [sizeLine_eq]); (first | lia | omega)
    have hmem : (p.1, lstP p.2) ∈ τ := hdl _ (dueLed_at hp)
    refine wpAny_assign_Name (n_store Sq (.tail .head) fun s4 S4 => ?_)
    have hτ : ∀ {q : Addr × OP}, q ∈ τ → q ∈ (it, liP ld (i + 1)) :: (D, nsP (put m' "sums" (.ref p.1))) :: (acc, lstP (dueVals dl2)) :: (dueLed dl2 ++ (L, nsP m) :: τ) := fun hq => .tail _ (.tail _ (.tail _ (List.mem_append_right _ (.tail _ hq))))
    refine wpAny_BinOp (n_local S4 (.tail _ (.head _)) put_same (wpAny_BinOp (List_ (sp_cons (wpAny_Constant_int (sp_nil ?_))))))
    refine n_newList (show SS C _ ι1 { s4 with toks := s4.toks + 1 } from S4) fun l0 s5 S5 => ?_
    refine wpAny_BinOp (wpAny_BinOp (n_cell S5 rfl (.tail _ (hτ hcM)) (wpAny_Constant_int (P.add_int ?_))))
    have S6 : SS C _ ι1 { s5 with toks := s5.toks + 1 + 1 } := S5
    refine Call_ (n_builtin X S6 KK.B.gLen KK.B.bLen ?_)
    refine n_callb (sp_cons (n_local S6 (.tail _ (.tail _ (.head _))) put_same (sp_nil ?_)))
    refine len_L S6 (.tail _ (hτ hmem)) (by (first | lia | omega)) fun t7 s7 S7 => ?_
    refine P.sub_int ?_
    have e2 : (mo : Int) + 1 - (p.2.size : Int) = ((mo + 1 - p.2.size : Nat) : Int) := by (first | lia | omega)
    (first | (refine rwP (e2) ?_; try with_reducible rfl) | rw [e2])
    refine mul_L (show SS C _ ι1 { s7 with toks := s7.toks + 1 } from S7) (.head _) (by (first | lia | omega)) (by simp; (first | lia | omega)) fun l1 s8 S8 => ?_
    have er : (List.replicate (mo + 1 - p.2.size) (#[Value.int 0 s4.toks] : Array Value).toList).flatten.toArray = (List.replicate (mo + 1 - p.2.size) (Value.int 0 s4.toks)).toArray := by
      (first | (refine rwP (show (#[Value.int 0 s4.toks] : Array Value).toList = [Value.int 0 s4.toks] from rfl) ?_; refine rwP (rep_flat) ?_; try with_reducible rfl) | rw [show (#[Value.int 0 s4.toks] : Array Value).toList = [Value.int 0 s4.toks] from rfl, rep_flat])
    rw [er] at S8
    refine add_L S8 (.tail _ (.tail _ (hτ hmem))) (.head _) (fun l2 s9 S9 => ?_) (by simp; (first | lia | omega))
    have hfin : IntsAre (p.2 ++ (List.replicate (mo + 1 - p.2.size) (Value.int 0 s4.toks)).toArray).toList (natsI (padS mo ds[i])) := by
      have := hint.append (ints_rep0 s4.toks (mo + 1 - p.2.size))
      unfold padS
      (first | (refine rwP (natsI_append) ?_; refine rwQ (hpl) ?_; try with_reducible rfl) | rw [natsI_append, ← hpl])
      simpa using this
    refine ⟨put m' "sums" (.ref p.1), dueLed (dl2 ++ [(l2, p.2 ++ (List.replicate (mo + 1 - p.2.size) (Value.int 0 s4.toks)).toArray)]) ++ (L, nsP m) :: τ, ι1, ?_, _, by (first | lia | omega), rfl, rfl, (dueVals_snoc dl2 (l2, _)).symm, ?_⟩
    · have S10 : SS C ((l2, lstP (p.2 ++ (List.replicate (mo + 1 - p.2.size) (Value.int 0 s4.toks)).toArray)) :: (it, liP ld (i + 1)) :: (D, nsP (put m' "sums" (.ref p.1))) :: (acc, lstP (dueVals dl2)) :: (dueLed dl2 ++ (L, nsP m) :: τ)) ι1 s9 :=
        S9.sub (.cons₂ _ (.cons _ (.cons _ (List.Sublist.refl _))))
      refine S10.perm ?_
      refine ((List.perm_middle (l₁ := [(it, liP ld (i + 1)), (D, nsP (put m' "sums" (.ref p.1))), (acc, lstP (dueVals dl2))])).symm).trans ?_
      exact (((dueLed_snoc dl2 (l2, _) _).cons _).cons _).cons _
    · (first | (refine rwP (List.take_add_one) ?_; refine rwP (hdi) ?_; refine rwP (List.map_append) ?_; try with_reducible rfl) | rw [List.take_add_one, hdi, List.map_append])
      exact hd2.snoc hfin
  · obtain ⟨dl2, h1, rfl, rfl, rfl, hd2⟩ := hI
    rw [hn, List.take_length] at hd2
    refine ⟨m, (acc, lstP (dueVals dl2)) :: (dueLed dl2 ++ (L, nsP (put m "dues" (.ref acc))) :: τ), .tail .mid, fun s'' S'' => ?_⟩
    exact h acc dl2 s'' S'' hd2

theorem holds_blocks {n : Nat} {L cS cA cM cT cX lc : Addr} {m : Str → Option Value} {cv : Array Value} {counts : List Nat} {ahead : Nat} {ta : Tok} {Q : Flow → Shared → Prop}
    (X : CxOk C) (KK : AllK C.K) (KL' : KLaw C.K) (KQ : KAdd C.K) (KA' : KAll C.K) (KM' : KM C.K) (KH : KHolds C.K) (R : Room (n + 6) A)
    (S : SS C ((L, nsP m) :: τ) ι s) (hcA : (cA, cellP (some (.int ahead ta))) ∈ τ) (hm : m "counts" = some (.ref lc)) (hlc : (lc, lstP cv) ∈ τ) (hci : IntsAre cv.toList (natsI counts)) (hcz : counts.length ≤ 1000)
    (hsum : counts.sum ≤ 1000) (ha : ahead ≤ 10)
    (h : ∀ lb bl ι' s', ι ⊆ ι' → SS C ((L, nsP (put m "blocks" (.ref lb))) :: (blkLed bl ++ (lb, lstP (blkVals bl).toArray) :: τ)) ι' s' → BlkOk ι' bl (addedS (List.replicate counts.sum (pieceS 1)) counts ahead) → Q .next s') :
    wpAny (model prg C.w) A (exec (holdsS 4) (holdsEnv L cS cA cM cT cX)) Q E s := by
  refine wpAny_Assign_Name (Call_ (n_global X S KH.gAdd ?_))
  refine n_callF X KQ.fAdd (sp_cons (wpAny_BinOp (List_ (sp_cons (Call_ (n_global X S KH.gPiece ?_))))))
  refine n_callF X KL'.fPiece (sp_cons (wpAny_Constant_int (sp_nil ⟨⟨_, _, (show SS C _ ι { s with toks := s.toks + 1 } from S)⟩, ?_⟩)))
  refine piece_c (k := 1) X KL' R (show SS C _ ι { s with toks := s.toks + 1 } from S) (by decide) fun v ι1 s1 h1 hv S1 => ?_
  refine sp_nil (n_newList S1 fun l0 s2 S2 => ?_)
  refine Call_ (n_builtin X S2 KH.gSum KH.bSum ?_)
  refine n_callb (sp_cons (n_local S2 (.tail _ (.head _)) hm (sp_nil (sum_L S2 (.tail _ (.tail _ hlc)) hci R.h fun t3 s3 S3 => ?_))))
  (first | (refine rwP (natsI_sum) ?_; try with_reducible rfl) | rw [natsI_sum])
  refine mul_L S3 (.head _) (by (first | lia | omega)) (by simp; (first | lia | omega)) fun lp s4 S4 => ?_
  have er : (List.replicate counts.sum (#[v] : Array Value).toList).flatten.toArray = (List.replicate counts.sum v).toArray := by
    (first | (refine rwP (show (#[v] : Array Value).toList = [v] from rfl) ?_; refine rwP (rep_flat) ?_; try with_reducible rfl) | rw [show (#[v] : Array Value).toList = [v] from rfl, rep_flat])
  have e0 : ([v].toArray : Array Value) = #[v] := rfl
  rw [e0, er] at S4
  refine sp_cons (n_local S4 (.tail _ (.tail _ (.head _))) hm ?_)
  refine sp_cons (n_cell S4 rfl (.tail _ (.tail _ (.tail _ hcA))) (sp_nil ⟨⟨_, _, S4⟩, ?_⟩))
  have hcl : counts.length = cv.size := by
    have := hci.length
    rw [natsI_length, Array.length_toList] at this
    exact this.symm
  have h1l : lenS (List.replicate counts.sum (pieceS 1)) = counts.sum := by
    generalize counts.sum = n
    induction n with
    | zero => rfl
    | succ n ih => (first | (refine rwP (List.replicate_succ) ?_; refine rwP (lenS_cons) ?_; refine rwP (ih) ?_; try with_reducible rfl) | rw [List.replicate_succ, lenS_cons, ih]); simp [szOf, pieceS, rep, Str.length]; (first | lia | omega)
  refine added_c (k := ahead) X KK KL' KQ KA' KM' R S4 (.head _) (.tail _ (.tail _ (.tail _ hlc))) hcl (fun i c hc => ?_) (pcs_rep hv counts.sum) (fun p hp => ?_) (by (first | (refine rwP (h1l) ?_; try with_reducible rfl) | rw [h1l]); (first | lia | omega)) (by simp; (first | lia | omega)) hcz fun lb bl ι5 s5 h5 S5 hb => ?_
  · have hci' : cv.toList[i]? = some cv[i]! := by
      (first | (refine rwP (Array.getElem?_toList) ?_; try with_reducible rfl) | rw [Array.getElem?_toList])
      have : i < cv.size := by
        (first | (refine rwQ (hcl) ?_; try with_reducible rfl) | rw [← hcl])
        rcases Nat.lt_or_ge i counts.length with q | q
        · exact q
        · rw [List.getElem?_eq_none q] at hc; cases hc
      (first | (refine rwP (getElem!_pos cv i this) ?_; try with_reducible rfl) | rw [getElem!_pos cv i this])
      exact Array.getElem?_eq_getElem this
    refine gen_P fun Pg kg => ?_
    obtain ⟨x, t, hx, hx'⟩ := ints_at hci hci'
    obtain ⟨c', hc', rfl⟩ := natsI_at hx
    refine kg ?_
    clear kg
    rw [hc] at hc'
    cases hc'
    rw [Array.getElem?_toList, hx'] at hci'
    exact ⟨t, hci'⟩
  · (first | (refine rwP (List.eq_of_mem_replicate hp) ?_; try with_reducible rfl) | rw [List.eq_of_mem_replicate hp])
    exact ⟨by decide, by decide⟩
  · have S6 : SS C ((L, nsP m) :: (blkLed bl ++ (lb, lstP (blkVals bl).toArray) :: τ)) ι5 s5 := by
      have S6 : SS C (blkLed bl ++ (lb, lstP (blkVals bl).toArray) :: (L, nsP m) :: τ) ι5 s5 := S5.sub ((List.Sublist.refl _).append (.cons₂ _ (.cons _ (.cons _ (List.Sublist.refl _)))))
      refine S6.perm ?_
      refine List.Perm.trans ((List.Perm.swap _ _ _).append_left _) List.perm_middle
    exact n_store S6 .head fun s7 S7 => h lb bl ι5 s7 (fun _ h => h5 (h1 h)) S7 hb
end
end Mine
end Part58
section Part59
set_option tactic.hygienic false
open PySem PySem.W PySem.W.X PySem.Calls PyProof.Rows
set_option maxRecDepth 100000
namespace Mine

theorem BlkOk.length {ι : Imm} : ∀ {bl pss}, BlkOk ι bl pss → bl.length = pss.length
  | _, _, .nil => rfl
  | _, _, .cons _ r => by (first | (refine rwP (List.length_cons) ?_; refine rwP (List.length_cons) ?_; refine rwP (r.length) ?_; try with_reducible rfl) | rw [List.length_cons, List.length_cons, r.length])

structure Blks (τ : Led) (ι : Imm) (lb : Addr) (bl : List (Addr × Addr × Array Value)) (pss : List (List (Str × Str))) : Prop where
  lst : (lb, lstP (blkVals bl).toArray) ∈ τ
  led : blkLed bl ⊆ τ
  ok : BlkOk ι bl pss
  good : ∀ ps ∈ pss, small ps ∧ lenS ps + ps.length ≤ 100000 ∧ ∀ p ∈ ps, goodP p
  few : pss.length ≤ 1000
theorem Blks.at {τ : Led} {ι : Imm} {lb : Addr} {bl : List (Addr × Addr × Array Value)} {pss : List (List (Str × Str))} (B : Blks τ ι lb bl pss) {i : Nat} {v : Value} (h : (blkVals bl).toArray[i]? = some v) :
    ∃ a db vb ps, v = .ref a ∧ (a, accP db vb) ∈ τ ∧ (db, szP 0) ∈ τ ∧ pcs ι vb ps ∧ pss[i]? = some ps ∧ bl[i]? = some (a, db, vb) := by
  unfold blkVals at h
  rw [List.getElem?_toArray, List.getElem?_map] at h
  cases e : bl[i]? with
  | none => rw [e] at h; cases h
  | some b =>
    rw [e] at h
    refine gen_P fun Pg kg => ?_
    obtain ⟨ps, h1, h2, h3, h4⟩ := B.ok.get i b e
    refine kg ?_
    clear kg
    exact ⟨b.1, b.2.1, b.2.2, ps, (Option.some.inj h).symm, B.led h3, B.led h4, h2, h1, rfl⟩
theorem Blks.size {τ : Led} {ι : Imm} {lb : Addr} {bl : List (Addr × Addr × Array Value)} {pss : List (List (Str × Str))} (B : Blks τ ι lb bl pss) : (blkVals bl).toArray.size = pss.length := by
  simp [blkVals, B.ok.length]
noncomputable abbrev turnBody : List Stmt := bodyOf (holdsS 5)
noncomputable def turnS (i : Nat) : Stmt := turnBody.getD i (.Pass default)

section
variable {C : Cx} {σ σ' τ : Led} {ι ι' : Imm} {A : Around} {s : Shared} {E : Value → Shared → Prop} {a dx l b : Addr} {vs us items : Array Value}

theorem readsG {α : Type} {f : α → PyData} {xs : List α} (S : SS C σ ι s) (hl : (l, lstP vs) ∈ σ) (hz : vs.size = xs.length) (r : ∀ (i : Nat) x v, xs[i]? = some x → vs[i]? = some v → ∃ as, Reads s.heap v (f x) as) : ∃ as, Reads s.heap (.ref l) (.list (xs.map f)) as := by
  refine reads_list S hl (by (first | (refine rwP (List.length_map) ?_; try with_reducible rfl) | rw [List.length_map]); exact hz) fun i v d hv hd => ?_
  rw [List.getElem?_map] at hd
  cases e : xs[i]? with
  | none => rw [e] at hd; cases hd
  | some x => rw [e] at hd; cases hd; exact r i x v e hv
theorem okD_map {α : Type} {f : α → PyData} {xs : List α} {n : Nat} (h : ∀ x ∈ xs, okD n (f x)) : okD (n + 1) (.list (xs.map f)) := okD_list fun d hd => by
  obtain ⟨x, hx, rfl⟩ := List.mem_map.mp hd
  exact h x hx
/-- != of what reads alike -/
theorem ne_same {v1 v2 : Value} {D D' : PyData} {as1 as2 : List Addr} {n : Nat} {Q : Value → Shared → Prop} (r1 : Reads s.heap v1 D as1) (r2 : Reads s.heap v2 D' as2) (e : D = D') (ok : okD n D) (hn : n ≤ 64) (hu : A.units + 64 < cLine) (h : Q (.bool false) s) :
    wpAny (model prg C.w) A (compareOp .NotEq v1 v2) Q E s := by
  subst e
  refine PySem.SeqAt.compareNe_shaped r1 r2 (ok.shaped hn) (ok.shaped hn) hu ?_
  (first | (refine rwP (ok.refl) ?_; try with_reducible rfl) | rw [ok.refl])
  exact h
theorem Room.cmp {n : Nat} (R : Room n A) : A.units + 64 < cLine := by have := R.u; unfold cLine; (first | lia | omega)

theorem turn_b1 {n : Nat} {L cS cA cM cT cX lb lc : Addr} {m : Str → Option Value} {bl : List (Addr × Addr × Array Value)} {pss : List (List (Str × Str))} {cv : Array Value} {counts : List Nat} {t : Nat} {tt : Tok} {Q : Flow → Shared → Prop}
    (X : CxOk C) (KK : AllK C.K) (R : Room (n + 5) A) (S : SS C ((L, nsP m) :: τ) ι s) (B : Blks τ ι lb bl pss) (hb : m "blocks" = some (.ref lb)) (hc : m "counts" = some (.ref lc)) (hlc : (lc, lstP cv) ∈ τ) (hci : IntsAre cv.toList (natsI counts))
    (hcT : (cT, cellP (some (.int t tt))) ∈ τ) (hcz : counts.length ≤ 1000) (hg : pss.map (onlywsS 0) = counts.map fun c => decide (c < t)) (h : ∀ s', SS C ((L, nsP m) :: τ) ι s' → Q .next s') :
    wpAny (model prg C.w) A (exec (turnS 0) (holdsEnv L cS cA cM cT cX)) Q E s := by
  have hcl : cv.size = counts.length := by
    have := hci.length
    rw [natsI_length, Array.length_toList] at this
    exact this
  have hbz := B.size
  refine wpAny_If (wpAny_isTrue_Compare1 ?_)
  refine comp_map (fun _ => (L, nsP m) :: τ) (fun i x _ => ∀ ps, pss[i]? = some ps → x = .bool (onlywsS 0 ps)) S (.head _) hb (fun _ _ => .tail _ B.lst) (by (first | (refine rwP (hbz) ?_; try with_reducible rfl) | rw [hbz]); have := B.few; (first | lia | omega)) (fun _ _ _ _ _ h => h) R.h (fun it i v D m' acc out ι1 s1 E1 hi hι hv S1 => ?_) fun l1 out1 ι1 s1 h1 S1 hz1 hv1 => ?_
  · refine gen_P fun Pg kg => ?_
    obtain ⟨a, db, vb, ps, rfl, ha, hd, hp, hps, _⟩ := B.at hv
    obtain ⟨g1, g2, _⟩ := B.good ps (List.mem_of_getElem? hps)
    refine kg ?_
    clear kg
    refine n_accm X KK KK.W.onlyws KK.W.fOnly S1 (.tail _ (.head _)) put_same (.tail _ (.tail _ (.tail _ (.tail _ ha)))) (.tail _ (.tail _ (.tail _ (.tail _ hd)))) (sp_nil ⟨⟨_, _, S1⟩, ?_⟩)
    refine onlyws_c X KK R S1 (.tail _ (.tail _ (.tail _ (.tail _ ha)))) (.tail _ (.tail _ (.tail _ (.tail _ hd)))) (hp.mono hι) g1 (by (first | lia | omega)) fun s2 S2 => ?_
    exact ⟨_, _, fun _ h => h, S2, fun ps' e => by rw [hps] at e; cases e; rfl⟩
  refine comp_map (fun _ => (l1, lstP out1) :: (L, nsP m) :: τ) (fun i x _ => ∀ c, counts[i]? = some c → x = .bool (decide (c < t))) S1 (.tail _ (.head _)) hc (fun _ _ => .tail _ (.tail _ hlc)) (by (first | lia | omega)) (fun _ _ _ _ _ h => h) R.h (fun it i v D m' acc out ι2 s2 E2 hi hι hv S2 => ?_) fun l2 out2 ι2 s2 h2 S2 hz2 hv2 => ?_
  · refine gen_P fun Pg kg => ?_
    obtain ⟨x, tx, hx, rfl⟩ := ints_at hci (i := i) (v := v) (by (first | (refine rwP (Array.getElem?_toList) ?_; try with_reducible rfl) | rw [Array.getElem?_toList]); exact hv)
    obtain ⟨c, hc', rfl⟩ := natsI_at hx
    refine kg ?_
    clear kg
    refine wpAny_Compare1 (n_cell S2 rfl (.tail _ (.tail _ (.tail _ (.tail _ (.tail _ hcT))))) (n_local S2 (.tail _ (.head _)) put_same (P.gt_int ?_)))
    refine ⟨_, _, fun _ h => h, S2, fun c' e => ?_⟩
    rw [hc'] at e; cases e
    congr 1
    simp
  obtain ⟨as1, r1⟩ := readsG (f := fun b : Bool => PyData.bool b) (xs := pss.map (onlywsS 0)) S2 (.tail _ (.head _)) (by (first | (refine rwP (hz1) ?_; refine rwP (hbz) ?_; refine rwP (List.length_map) ?_; try with_reducible rfl) | rw [hz1, hbz, List.length_map])) fun i x v hx hv => by
    rw [List.getElem?_map] at hx
    cases e : pss[i]? with
    | none => rw [e] at hx; cases hx
    | some ps =>
      rw [e] at hx
      cases hx
      obtain ⟨x, hx, g⟩ := hv1 i (by (first | (refine rwP (hbz) ?_; try with_reducible rfl) | rw [hbz]); exact (List.getElem?_eq_some_iff.mp e).1)
      rw [hv] at hx
      cases hx
      (first | (refine rwP (g ps e) ?_; try with_reducible rfl) | rw [g ps e])
      exact ⟨_, .bool _⟩
  obtain ⟨as2, r2⟩ := readsG (f := fun b : Bool => PyData.bool b) (xs := counts.map fun c => decide (c < t)) S2 (.head _) (by (first | (refine rwP (hz2) ?_; refine rwP (hcl) ?_; refine rwP (List.length_map) ?_; try with_reducible rfl) | rw [hz2, hcl, List.length_map])) fun i x v hx hv => by
    rw [List.getElem?_map] at hx
    cases e : counts[i]? with
    | none => rw [e] at hx; cases hx
    | some c =>
      rw [e] at hx
      cases hx
      obtain ⟨x, hx, g⟩ := hv2 i (by (first | (refine rwP (hcl) ?_; try with_reducible rfl) | rw [hcl]); exact (List.getElem?_eq_some_iff.mp e).1)
      rw [hv] at hx
      cases hx
      (first | (refine rwP (g c e) ?_; try with_reducible rfl) | rw [g c e])
      exact ⟨_, .bool _⟩
  refine ne_same r1 r2 (by (first | (refine rwP (hg) ?_; try with_reducible rfl) | rw [hg])) (okD_map (n := 1) fun x _ => okD_bool) (by decide) R.cmp (wpAny_truthy_bool ?_)
  (first | refine wpIf0 ?_ | simp only [Bool.false_eq_true, if_false])
  exact wpAny_execs_nil (h s2 ((S2.tl.tl).less fun _ h => h2 (h1 h)))
end
end Mine
end Part59
section Part60
set_option tactic.hygienic false
open PySem PySem.W PySem.W.X PySem.Calls PyProof.Rows
set_option maxRecDepth 100000
namespace Mine

theorem glue2_eq (p : Str × Str) : glue2 p = p.1 ++ p.2 := by
  show (⟨(p.1.cps ++ (Str.ofString "").cps) ++ p.2.cps⟩ : Str) = ⟨p.1.cps ++ p.2.cps⟩
  have : (Str.ofString "").cps = #[] := rfl
  rw [this, Array.append_empty]
noncomputable def StrsAre (vs : Array Value) (xs : List Str) : Prop := ∃ l : List (Str × Tok), vs.toList = strValues l ∧ l.map (·.1) = xs
theorem StrsAre.push {vs : Array Value} {xs : List Str} {x : Str} {t : Tok} (h : StrsAre vs xs) : StrsAre (vs.push (.str x t)) (xs ++ [x]) := by
  obtain ⟨l, e, r⟩ := h
  exact ⟨l ++ [(x, t)], by (first | (refine rwP (Array.toList_push) ?_; refine rwP (e) ?_; try with_reducible rfl) | rw [Array.toList_push, e]); simp [strValues], by (first | (refine rwP (List.map_append) ?_; refine rwP (r) ?_; try with_reducible rfl) | rw [List.map_append, r]); rfl⟩

section
variable {C : Cx} {σ σ' τ : Led} {ι ι' : Imm} {A : Around} {s : Shared} {E : Value → Shared → Prop} {a dx l b : Addr} {vs us items : Array Value}

theorem n_join {x : Str} {kc : Nat} {p1 apos pos : Pos} {args : List Expr} {env : Env} {Q : Value → Shared → Prop}
    (h : ∀ t s', s' = { s with toks := s.toks + 1 } → wpAny (model prg C.w) A (callWith pos (.builtin "str.join") [.str x t] (backTo pos (starEach args env)) []) Q E s')
    (hform : autoParam (methodCallForm (args.length + ([] : List Keyword).length) (backTo pos (starEach args env)) (backToKw pos (keywordEach [] env)) = true) tacRfl)
    (hline : autoParam ((apos.endLine == pos.line) = true) tacRfl) : wpAny (model prg C.w) A (eval (.Call (.Attribute (.Constant (.str x) kc p1) "join" apos) args [] pos) env) Q E s := by
  refine n_meth (Constant_str ?_) rfl hform hline
  exact @GM.join (model prg C.w) A E { s with toks := s.toks + 1 } x s.toks _ _ (h s.toks _ rfl)
theorem text_comp {x : Str} {env : Env} {m : Str → Option Value} {ps : List (Str × Str)} {sc : Scope} {p1 p2 p3 p4 p5 p6 p7 p8 : Pos} {Q : Value → Shared → Prop} (X : CxOk C) (KK : AllK C.K) (hA : A.handled = none) (S : SS C σ ι s)
    (hm : (env.locals, nsP m) ∈ σ) (hx : m x = some (.ref a)) (ha : (a, accP dx vs) ∈ σ) (hp : pcs ι vs ps) (hz : lenS ps + ps.length ≤ 1000000) (h : ∀ l out s', SS C ((l, lstP out) :: σ) ι s' → StrsAre out (ps.map glue2) → Q (.ref l) s')
    (hk : autoParam (env.scope.kind = .function) tacRfl) (hl : autoParam (env.kindOf x = some .local) tacRfl) (hd : autoParam ((x == ("__debug__" : Str)) = false) tacDec)
    (hsc : sc = { kind := .function, names := [(".0", .local), ("a", .local), ("b", .local)], isGenerator := false, isCoroutine := false, more := [] } := by rfl)
    (hs : autoParam (∀ v, foldedSetIterable (.Name x p6) env v = pure v) tacRfl1) :
    wpAny (model prg C.w) A (eval (.ListComp (.BinOp (.Name "a" p1) .Add (.Name "b" p2) p3) [⟨.Tuple [.Name "a" p4, .Name "b" p5] 0 p7, .Name x p6, [], 0⟩] sc p8) env) Q E s := by
  subst hsc
  refine comp_evalG (cl := []) (n_local S hm hx (iter_acc X KK.A KK.T S ha fun it s2 S2 => ⟨_, _, S2, fun D acc s3 S3 => ?_⟩) hk hl hd) rfl (by decide) rfl hs
  have S4 : SS C ((it, liP a 0) :: (D, nsP fun _ => none) :: (acc, lstP #[]) :: σ) ι s3 := by
    have S3 : SS C ((D, nsP fun _ => none) :: (acc, lstP #[]) :: (it, liP a 0) :: σ) ι s3 := S3
    exact S3.perm (((List.Perm.swap _ _ _).cons _).trans (List.Perm.swap _ _ _))
  show codeAny (model prg C.w) A (.compStart _ 0 (.ref it) (.ref acc) (compEnvC _ [] D env)) _ s3
  refine start_with ?_ (fun q => (li_walker (l := a) (vs := vs)).again S4 q)
  refine PyProof.Rows.LCp.codeAny_compLoop_pair (fun k s => Ex3 fun i m out => And3 (i + k = ps.length) (SS C ((it, liP a i) :: (D, nsP m) :: (acc, lstP out) :: σ) ι s) (StrsAre out ((ps.take i).map glue2))) (fun k sq hk => ?_) ps.length ⟨0, _, #[], Nat.zero_add _, S4, [], rfl, rfl⟩
  obtain ⟨i, m', out, hik, S, hout⟩ := hk
  have hneed : ∃ P, (a, P) ∈ (D, nsP m') :: (acc, lstP out) :: σ ∧ ∀ o, P o → seqP vs o := ⟨_, .tail _ (.tail _ ha), fun o => accP_seq⟩
  by_cases hi : i < ps.length
  · refine (li_walker (l := a) (vs := vs)).next (by (first | (refine rwQ (hp.1) ?_; try with_reducible rfl) | rw [← hp.1]); exact hi) S hneed fun v ι1 s5 h5 hv S5 => ?_
    have S5 := S5.less h5
    have hpi : ps[i]? = some ps[i] := List.getElem?_eq_getElem hi
    obtain ⟨v', hv', hpv⟩ := hp.2 i _ hpi
    have ev : v' = v := Option.some.inj (hv'.symm.trans hv)
    subst ev
    obtain ⟨t, k1, k2, rfl, hmem⟩ := hpv
    obtain ⟨oi, ei, pi⟩ := S5.at (a := it) (.head _)
    refine wpAny_letOwnedTupleGo_listiter (l := a) (i := i + 1) ⟨oi, ei, pi.1, pi.2⟩ ?_
    refine assign_pair S5 hA hmem (.tail .head) (.tail .head) fun s6 S6 => ?_
    have hml := mem_lenS (List.getElem_mem hi)
    refine wpAny_BinOp (n_local S6 (.tail _ (.head _)) rfl (n_local S6 (.tail _ (.head _)) rfl (PyProof.Rows.add_str (fun t' tk => ?_) (by (first | (refine rwP (sizeLine_eq) ?_; try with_reducible rfl) | rw [sizeLine_eq]); (first | lia | omega)))))
    have S7 : SS C _ ι { s6 with toks := tk } := S6
    refine list_push S7 (.tail (.tail .head)) ?_ fun s8 S8 => ⟨k - 1, by (first | lia | omega), i + 1, _, _, by (first | lia | omega), S8, ?_⟩
    · obtain ⟨l, e, r⟩ := hout
      have h1 := congrArg List.length e
      have h2 := congrArg List.length r
      rw [Array.length_toList, strValues, List.length_map] at h1
      rw [List.length_map, List.length_map, List.length_take] at h2
      (first | (refine rwP (sizeLine_eq) ?_; try with_reducible rfl) | rw [sizeLine_eq]); (first | lia | omega)
    · (first | (refine rwP (List.take_add_one) ?_; refine rwP (hpi) ?_; refine rwP (List.map_append) ?_; try with_reducible rfl) | rw [List.take_add_one, hpi, List.map_append])
      have := hout.push (x := ps[i].1 ++ ps[i].2) (t := t')
      rw [← glue2_eq] at this
      exact this
  · have hii : i = ps.length := by (first | lia | omega)
    subst hii
    rw [List.take_length] at hout
    have hsz : ps.length = vs.size := hp.1
    rw [hsz] at S
    refine (li_walker (l := a) (vs := vs)).stop hA S hneed fun s5 S5 => ?_
    exact ⟨_, _, _, _, rfl, S5, fun s6 S6 => h acc out s6 S6 hout⟩

theorem turn_b2 {n : Nat} {L cS cA cM cT cX lb : Addr} {m : Str → Option Value} {bl : List (Addr × Addr × Array Value)} {pss : List (List (Str × Str))} {v0 : Option Value} {τ' : Value → Led} {Q : Flow → Shared → Prop}
    (X : CxOk C) (KK : AllK C.K) (hA : A.handled = none) (S : SS C ((L, nsP m) :: τ) ι s) (B : Blks τ ι lb bl pss) (hb : m "blocks" = some (.ref lb)) (u : ∀ v, Upd cX (cellP v0) (cellP (some v)) τ (τ' v))
    (h : ∀ lx xv s', SS C ((L, nsP m) :: (lx, lstP xv) :: τ' (.ref lx)) ι s' → xv.size = pss.length → (∀ (i : Nat) (ps : List (Str × Str)), pss[i]? = some ps → ∃ t, xv[i]? = some (Value.str (strS ps) t)) → Q .next s') :
    wpAny (model prg C.w) A (exec (turnS 1) (holdsEnv L cS cA cM cT cX)) Q E s := by
  have hbz := B.size
  refine wpAny_Assign_Name ?_
  refine comp_map (fun _ => (L, nsP m) :: τ) (fun i x _ => ∀ ps, pss[i]? = some ps → ∃ t, x = .str (strS ps) t) S (.head _) hb (fun _ _ => .tail _ B.lst) (by (first | (refine rwP (hbz) ?_; try with_reducible rfl) | rw [hbz]); have := B.few; (first | lia | omega)) (fun _ _ _ _ _ h => h) hA (fun it i v D m' acc out ι1 s1 E1 hi hι hv S1 => ?_) fun l1 out1 ι1 s1 h1 S1 hz1 hv1 => ?_
  · refine gen_P fun Pg kg => ?_
    obtain ⟨a, db, vb, ps, rfl, ha, hd, hp, hps, _⟩ := B.at hv
    obtain ⟨g1, g2, _⟩ := B.good ps (List.mem_of_getElem? hps)
    refine kg ?_
    clear kg
    refine n_join fun tj sj ej => ?_
    have S1' : SS C ((it, liP lb (i + 1)) :: (D, nsP (put m' "block" (.ref a))) :: (acc, lstP out) :: (L, nsP m) :: τ) ι1 sj := by subst ej; exact S1
    clear ej
    refine n_callb (sp_cons ?_)
    refine text_comp (x := "block") (a := a) (dx := db) (vs := vb) (ps := ps) (m := put m' "block" (.ref a)) X KK hA S1' (.tail _ (.head _)) put_same (.tail _ (.tail _ (.tail _ (.tail _ ha)))) (hp.mono hι) (by (first | lia | omega)) fun l2 out2 s2 S2 hs2 => sp_nil ?_
    refine gen_P fun Pg kg => ?_
    obtain ⟨lst, e1, e2⟩ := hs2
    obtain ⟨o, eo, ⟨c1, _⟩, nn, d1⟩ := S2.at (a := l2) (.head _)
    refine kg ?_
    clear kg
    have earr : out2 = (strValues lst).toArray := by (first | (refine rwQ (e1) ?_; try with_reducible rfl) | rw [← e1])
    refine SC.join (l := lst) (texts := ps.map glue2) ⟨o, eo, c1, nn, by (first | (refine rwP (d1) ?_; refine rwP (earr) ?_; try with_reducible rfl) | rw [d1, earr])⟩ e2 ?_ fun t' k => ?_
    · refine joinOk_of_weight ?_ (by decide)
      (first | (refine rwP (sum_glue) ?_; refine rwP (List.length_map) ?_; try with_reducible rfl) | rw [sum_glue, List.length_map]); (first | lia | omega)
    · exact ⟨ι1, _, fun _ h => h, (show SS C _ ι1 { s2 with toks := k } from S2.tl), fun ps' e => by rw [hps] at e; cases e; exact ⟨t', rfl⟩⟩
  · refine n_storeC S1 rfl (.tail (.tail (u _))) fun s2 S2 => ?_
    refine h l1 out1 s2 (S2.less h1).swap (by (first | (refine rwP (hz1) ?_; refine rwP (hbz) ?_; try with_reducible rfl) | rw [hz1, hbz])) fun i ps e => ?_
    refine gen_P fun Pg kg => ?_
    obtain ⟨x, hx, g⟩ := hv1 i (by (first | (refine rwP (hbz) ?_; try with_reducible rfl) | rw [hbz]); exact (List.getElem?_eq_some_iff.mp e).1)
    obtain ⟨t, rfl⟩ := g ps e
    refine kg ?_
    clear kg
    exact ⟨t, hx⟩
end
end Mine
end Part60
section Part61
set_option tactic.hygienic false
open PySem PySem.W PySem.W.X PySem.Calls PyProof.Rows
set_option maxRecDepth 100000
namespace Mine

theorem join_list : ∀ parts : List Str, (Str.join "" parts).cps.toList = (parts.map fun x => x.cps.toList).flatten
  | [] => rfl
  | [x] => by simp [Str.join]
  | x :: y :: r => by
    have := join_list (y :: r)
    show ((x.cps ++ (Str.ofString "").cps) ++ (Str.join "" (y :: r)).cps).toList = _
    (first | (refine rwP (Array.toList_append) ?_; refine rwP (Array.toList_append) ?_; refine rwP (this) ?_; refine rwP (show (Str.ofString "").cps = #[] from rfl) ?_; try with_reducible rfl) | rw [Array.toList_append, Array.toList_append, this, show (Str.ofString "").cps = #[] from rfl])
    simp
theorem strS_list (ps : List (Str × Str)) : (strS ps).cps.toList = (ps.map fun p => p.1.cps.toList ++ p.2.cps.toList).flatten := by
  unfold strS
  show (Builtin.Str.glued "" (ps.map glue2)).cps.toList = _
  (first | (refine rwP (StrLaws.glued_eq_join) ?_; refine rwP (join_list) ?_; refine rwP (List.map_map) ?_; try with_reducible rfl) | rw [StrLaws.glued_eq_join, join_list, List.map_map])
  congr 1
  refine List.map_congr_left fun p _ => ?_
  show (glue2 p).cps.toList = _
  (first | (refine rwP (glue2_eq) ?_; try with_reducible rfl) | rw [glue2_eq])
  show (p.1.cps ++ p.2.cps).toList = _
  simp
theorem strS_length (ps : List (Str × Str)) : (strS ps).length = lenS ps := by
  show (strS ps).cps.size = _
  (first | (refine rwQ (Array.length_toList) ?_; refine rwP (strS_list) ?_; refine rwP (List.length_flatten) ?_; refine rwP (List.map_map) ?_; refine rwP (lenS) ?_; try with_reducible rfl) | rw [← Array.length_toList, strS_list, List.length_flatten, List.map_map, lenS])
  congr 1
  refine List.map_congr_left fun p _ => ?_
  simp [Str.length]
theorem strOk_iff (x : Str) : PyData.strOk x = true ↔ ∀ c ∈ x.cps.toList, c < 0x110000 := by
  unfold PyData.strOk
  (first | (refine rwQ (Array.all_toList) ?_; refine rwP (List.all_eq_true) ?_; try with_reducible rfl) | rw [← Array.all_toList, List.all_eq_true])
  simp only [decide_eq_true_eq]
theorem strS_ok {ps : List (Str × Str)} (h : ∀ p ∈ ps, goodP p) : PyData.strOk (strS ps) = true := by
  (first | (refine rwP (strOk_iff) ?_; refine rwP (strS_list) ?_; try with_reducible rfl) | rw [strOk_iff, strS_list])
  intro c hc
  refine gen_P fun Pg kg => ?_
  obtain ⟨l, hl, hcl⟩ := List.mem_flatten.mp hc
  obtain ⟨p, hp, rfl⟩ := List.mem_map.mp hl
  obtain ⟨g1, g2⟩ := h p hp
  refine kg ?_
  clear kg
  rcases List.mem_append.mp hcl with h' | h'
  · exact (strOk_iff _).mp g1 c h'
  · exact (strOk_iff _).mp g2 c h'

section
variable {C : Cx} {σ σ' τ : Led} {ι ι' : Imm} {A : Around} {s : Shared} {E : Value → Shared → Prop} {a dx l b : Addr} {vs us items : Array Value}

/-- [elt for y in x], x told by a node of any kind -/
theorem comp_mapE {elt src : Expr} {y : Str} {py pos : Pos} {scope : Scope} {cl : List (Str × Addr)} {env : Env} {Q : Value → Shared → Prop} (Λ : Nat → Led) (G : Nat → Value → Imm → Prop)
    (hev : ∀ {Q : Value → Shared → Prop}, Q (.ref l) s → wpAny (model prg C.w) A (eval src env) Q E s)
    (S : SS C (Λ 0) ι s) (hl : ∀ i, i ≤ vs.size → (l, lstP vs) ∈ Λ i) (hn : vs.size ≤ 1000000) (hG : ∀ i x ι1 ι2, ι1 ⊆ ι2 → G i x ι1 → G i x ι2) (hA : A.handled = none)
    (step : ∀ it i v D m acc out ι' s E, i < vs.size → ι ⊆ ι' → vs[i]? = some v → SS C ((it, liP l (i + 1)) :: (D, nsP (put m y v)) :: (acc, lstP out) :: Λ i) ι' s → 
      wpAny (model prg C.w) A (eval elt (compEnvC scope cl D env)) (fun x s' => Ex2 fun ι'' m' => And3 (ι' ⊆ ι'') (SS C ((it, liP l (i + 1)) :: (D, nsP m') :: (acc, lstP out) :: Λ (i + 1)) ι'' s') (G i x ι'')) E s)
    (h : ∀ acc out ι' s', ι ⊆ ι' → SS C ((acc, lstP out) :: Λ vs.size) ι' s' → out.size = vs.size → (∀ i, i < vs.size → ∃ x, out[i]? = some x ∧ G i x ι') → Q (.ref acc) s')
    (hclos : autoParam (closureFor scope env = pure cl) tacRfl) (hnames : autoParam (∀ x ∈ scope.names, x.2 = .local → scope.names.lookup x.1 = some .local) tacDec)
    (hc : autoParam (∀ D, cellsFrom (D + 1) scope.names [] = []) tacRfl1) (hkl : autoParam (∀ D, (compEnvC scope cl D env).kindOf y = some .local) tacRfl1) (hk : autoParam (scope.kind = .function) tacRfl)
    (hs : autoParam (∀ v, foldedSetIterable src env v = pure v) tacRfl1) :
    wpAny (model prg C.w) A (eval (.ListComp elt [⟨.Name y py, src, [], 0⟩] scope pos) env) Q E s := by
  refine comp_evalG (cl := cl) (hev (iter_list S (hl 0 (Nat.zero_le _)) fun it s2 S2 => ?_)) hclos hnames hk hs
  refine ⟨_, _, S2, (run_mapW (li_walker (l := l) (vs := vs)) Λ G (fun i D m acc out hi => ⟨_, .tail _ (.tail _ (hl i hi)), fun o => lstP_seq⟩) hn hG (fun i v D m acc out ι' s E a b c d => step it i v D m acc out ι' s E a b c d) hA hc hkl hk).mono fun v σ' ι' hM s'' S'' => ?_⟩
  obtain ⟨acc, out, rfl, rfl, hι, h1, h2⟩ := hM
  exact h acc out ι' s'' hι S'' h1 h2

/-- the values read from what a mapping left -/
theorem readsM {α : Type} {f : α → PyData} {xs : List α} (G : Nat → Value → Prop) (S : SS C σ ι s) (hl : (l, lstP vs) ∈ σ) (hz : vs.size = xs.length) (hv : ∀ i, i < vs.size → ∃ x, vs[i]? = some x ∧ G i x)
    (r : ∀ (i : Nat) x v, xs[i]? = some x → G i v → ∃ as, Reads s.heap v (f x) as) : ∃ as, Reads s.heap (.ref l) (.list (xs.map f)) as :=
  readsG S hl hz fun i x v hx hvv => by
    obtain ⟨w, hw, g⟩ := hv i (Array.getElem?_eq_some_iff.mp hvv).1
    rw [hvv] at hw
    cases hw
    exact r i x v hx g

theorem turn_b3 {n : Nat} {L cS cA cM cT cX lb lx : Addr} {m : Str → Option Value} {bl : List (Addr × Addr × Array Value)} {pss : List (List (Str × Str))} {xv : Array Value} {Q : Flow → Shared → Prop}
    (X : CxOk C) (KK : AllK C.K) (R : Room (n + 4) A) (S : SS C ((L, nsP m) :: τ) ι s) (B : Blks τ ι lb bl pss) (hb : m "blocks" = some (.ref lb)) (hcX : (cX, cellP (some (.ref lx))) ∈ τ) (hlx : (lx, lstP xv) ∈ τ)
    (hxz : xv.size = pss.length) (hxv : ∀ (i : Nat) (ps : List (Str × Str)), pss[i]? = some ps → ∃ t, xv[i]? = some (Value.str (strS ps) t)) (h : ∀ s', SS C ((L, nsP m) :: τ) ι s' → Q .next s') :
    wpAny (model prg C.w) A (exec (turnS 2) (holdsEnv L cS cA cM cT cX)) Q E s := by
  have hbz := B.size
  have hfew := B.few
  refine wpAny_If (isTrue_or (wpAny_isTrue_Compare1 ?_))
  refine comp_map (fun _ => (L, nsP m) :: τ) (fun i x _ => ∀ ps, pss[i]? = some ps → ∃ t, x = Value.str (strS ps) t) S (.head _) hb (fun _ _ => .tail _ B.lst) (by (first | (refine rwP (hbz) ?_; try with_reducible rfl) | rw [hbz]); (first | lia | omega)) (fun _ _ _ _ _ h => h) R.h (fun it i v D m' acc out ι1 s1 E1 hi hι hv S1 => ?_) fun l1 out1 ι1 s1 h1 S1 hz1 hv1 => ?_
  · refine gen_P fun Pg kg => ?_
    obtain ⟨a, db, vb, ps, rfl, ha, hd, hp, hps, _⟩ := B.at hv
    obtain ⟨g1, g2, _⟩ := B.good ps (List.mem_of_getElem? hps)
    refine kg ?_
    clear kg
    refine Call_ (n_builtin X S1 KK.W.gStr KK.W.bStr ?_)
    refine PySem.callWith_type rfl (ea rfl (sp_cons (n_local S1 (.tail _ (.head _)) put_same (sp_nil ?_))))
    refine str_of_acc X KK R S1 (.tail _ (.tail _ (.tail _ (.tail _ ha)))) (hp.mono hι) (by (first | lia | omega)) fun t2 s2 S2 => ?_
    exact ⟨_, _, fun _ h => h, S2, fun ps' e => by rw [hps] at e; cases e; exact ⟨t2, rfl⟩⟩
  refine n_cell S1 rfl (.tail _ (.tail _ hcX)) ?_
  obtain ⟨as1, r1⟩ := readsM (f := fun ps => PyData.str (strS ps)) (xs := pss) (fun i x => ∀ ps, pss[i]? = some ps → ∃ t, x = Value.str (strS ps) t) S1 (.head _) (by (first | (refine rwP (hz1) ?_; refine rwP (hbz) ?_; try with_reducible rfl) | rw [hz1, hbz])) (by (first | (refine rwP (hz1) ?_; try with_reducible rfl) | rw [hz1]); exact hv1) fun i ps v e g => by
    obtain ⟨t, rfl⟩ := g ps e
    exact ⟨_, .str _ _⟩
  obtain ⟨as2, r2⟩ := readsG (f := fun ps => PyData.str (strS ps)) (xs := pss) S1 (.tail _ (.tail _ hlx)) hxz fun i ps v e hv => by
    obtain ⟨t, ht⟩ := hxv i ps e
    rw [hv] at ht
    cases ht
    exact ⟨_, .str _ _⟩
  refine ne_same r1 r2 rfl (okD_map (n := 1) fun ps hps => okD_str (strS_ok (B.good ps hps).2.2)) (by decide) R.cmp (wpAny_truthy_bool ?_)
  (first | refine wpIf0 ?_ | simp only [Bool.false_eq_true, if_false])
  have S1 := S1.tl
  refine isTrue_or (wpAny_isTrue_Compare1 ?_)
  refine comp_map (fun _ => (L, nsP m) :: τ) (fun i x _ => ∀ ps, pss[i]? = some ps → ∃ t, x = Value.int (lenS ps) t) S1 (.head _) hb (fun _ _ => .tail _ B.lst) (by (first | (refine rwP (hbz) ?_; try with_reducible rfl) | rw [hbz]); (first | lia | omega)) (fun _ _ _ _ _ h => h) R.h (fun it i v D m' acc out ι2 s2 E2 hi hι hv S2 => ?_) fun l2 out2 ι2 s2 h2 S2 hz2 hv2 => ?_
  · refine gen_P fun Pg kg => ?_
    obtain ⟨a, db, vb, ps, rfl, ha, hd, hp, hps, _⟩ := B.at hv
    obtain ⟨g1, g2, _⟩ := B.good ps (List.mem_of_getElem? hps)
    refine kg ?_
    clear kg
    refine n_len_acc (n := n + 1) X KK R S2 (.tail _ (.head _)) put_same (.tail _ (.tail _ (.tail _ (.tail _ ha)))) (.tail _ (.tail _ (.tail _ (.tail _ hd)))) (hp.mono fun _ h => hι (h1 h)) g1 (by decide) (by (first | lia | omega)) fun t3 s3 S3 => ?_
    exact ⟨_, _, fun _ h => h, S3, fun ps' e => by rw [hps] at e; cases e; exact ⟨t3, by (first | (refine rwP (Int.zero_add) ?_; try with_reducible rfl) | rw [Int.zero_add])⟩⟩
  refine comp_mapE (l := lx) (vs := xv) (fun _ => (l2, lstP out2) :: (L, nsP m) :: τ) (fun i x _ => ∀ ps, pss[i]? = some ps → ∃ t, x = Value.int (lenS ps) t) (fun q => n_cell S2 rfl (.tail _ (.tail _ hcX)) q) S2 (fun _ _ => .tail _ (.tail _ hlx)) (by (first | lia | omega)) (fun _ _ _ _ _ h => h) R.h (fun it i v D m' acc out ι3 s3 E3 hi hι hv S3 => ?_) fun l3 out3 ι3 s3 h3 S3 hz3 hv3 => ?_
  · have hip : i < pss.length := by (first | lia | omega)
    have hps : pss[i]? = some pss[i] := List.getElem?_eq_getElem hip
    obtain ⟨t, ht⟩ := hxv i _ hps
    rw [hv] at ht
    cases ht
    obtain ⟨g1, g2, _⟩ := B.good pss[i] (List.getElem_mem hip)
    refine Call_ (n_builtin X S3 KK.B.gLen KK.B.bLen ?_)
    refine n_callb (sp_cons (n_local S3 (.tail _ (.head _)) put_same (sp_nil ?_)))
    refine P.len_str (by (first | (refine rwP (strS_length) ?_; try with_reducible rfl) | rw [strS_length]); (first | lia | omega)) ?_
    exact ⟨_, _, fun _ h => h, (show SS C _ ι3 { s3 with toks := s3.toks + 1 + 1 } from S3), fun ps' e => by rw [hps] at e; cases e; exact ⟨s3.toks + 1, by (first | (refine rwP (strS_length) ?_; try with_reducible rfl) | rw [strS_length])⟩⟩
  obtain ⟨as3, r3⟩ := readsM (f := fun ps => PyData.int (lenS ps)) (xs := pss) (fun i x => ∀ ps, pss[i]? = some ps → ∃ t, x = Value.int (lenS ps) t) S3 (.tail _ (.head _)) (by (first | (refine rwP (hz2) ?_; refine rwP (hbz) ?_; try with_reducible rfl) | rw [hz2, hbz])) (by (first | (refine rwP (hz2) ?_; try with_reducible rfl) | rw [hz2]); exact hv2) fun i ps v e g => by
    obtain ⟨t, rfl⟩ := g ps e
    exact ⟨_, .int _ _⟩
  obtain ⟨as4, r4⟩ := readsM (f := fun ps => PyData.int (lenS ps)) (xs := pss) (fun i x => ∀ ps, pss[i]? = some ps → ∃ t, x = Value.int (lenS ps) t) S3 (.head _) (by (first | (refine rwP (hz3) ?_; refine rwP (hxz) ?_; try with_reducible rfl) | rw [hz3, hxz])) (by (first | (refine rwP (hz3) ?_; try with_reducible rfl) | rw [hz3]); exact hv3) fun i ps v e g => by
    obtain ⟨t, rfl⟩ := g ps e
    exact ⟨_, .int _ _⟩
  refine ne_same r3 r4 rfl (okD_map (n := 1) fun ps hps => okD_int) (by decide) R.cmp (wpAny_truthy_bool ?_)
  (first | refine wpIf0 ?_ | simp only [Bool.false_eq_true, if_false])
  refine isTrue_or_nil ?_
  (first | refine wpIf0 ?_ | simp only [Bool.false_eq_true, if_false])
  exact wpAny_execs_nil (h s3 ((S3.tl.tl).less fun _ h => h3 (h2 (h1 h))))
end
end Mine
end Part61
section Part62
set_option tactic.hygienic false
open PySem PySem.W PySem.W.X PySem.Calls PyProof.Rows
set_option maxRecDepth 100000
namespace Mine

theorem ints_of {out : Array Value} {n : Nat} {f : Nat → Nat} (hz : out.size = n) (h : ∀ i, i < n → ∃ x, out[i]? = some x ∧ ∃ t, x = Value.int (f i) t) : IntsAre out.toList (natsI ((List.range n).map f)) := by
  have key : ∀ (l : List Value) (k : Nat), (∀ i, i < l.length → ∃ t, l[i]? = some (Value.int (f (k + i)) t)) → IntsAre l (natsI ((List.range l.length).map fun i => f (k + i))) := by
    intro l
    induction l with
    | nil => intro k _; exact .nil
    | cons v r ih =>
      intro k hk
      obtain ⟨t, ht⟩ := hk 0 (Nat.zero_lt_succ _)
      simp at ht
      subst ht
      have := ih (k + 1) fun i hi => by
        obtain ⟨t, ht⟩ := hk (i + 1) (Nat.succ_lt_succ hi)
        refine ⟨t, ?_⟩
        simp at ht
        (first | (refine rwP (ht) ?_; refine rwP (show k + (i + 1) = k + 1 + i from by (first | lia | omega)) ?_; try with_reducible rfl) | rw [ht, show k + (i + 1) = k + 1 + i from by (first | lia | omega)])
      have e : (List.range (r.length + 1)).map (fun i => f (k + i)) = f k :: (List.range r.length).map fun i => f (k + 1 + i) := by
        (first | (refine rwP (List.range_succ_eq_map) ?_; refine rwP (List.map_cons) ?_; refine rwP (List.map_map) ?_; try with_reducible rfl) | rw [List.range_succ_eq_map, List.map_cons, List.map_map])
        congr 1
        refine List.map_congr_left fun i _ => ?_
        show f (k + (i + 1)) = _
        (first | (refine rwP (show k + (i + 1) = k + 1 + i from by (first | lia | omega)) ?_; try with_reducible rfl) | rw [show k + (i + 1) = k + 1 + i from by (first | lia | omega)])
      (first | (refine rwP (List.length_cons) ?_; refine rwP (e) ?_; try with_reducible rfl) | rw [List.length_cons, e])
      exact IntsAre.cons _ t this
  have := key out.toList 0 fun i hi => by
    rw [Array.length_toList, hz] at hi
    refine gen_P fun Pg kg => ?_
    obtain ⟨x, hx, t, rfl⟩ := h i hi
    refine kg ?_
    clear kg
    exact ⟨t, by (first | (refine rwP (Array.getElem?_toList) ?_; refine rwP (hx) ?_; refine rwP (Nat.zero_add) ?_; try with_reducible rfl) | rw [Array.getElem?_toList, hx, Nat.zero_add])⟩
  rw [Array.length_toList, hz] at this
  simpa using this

theorem lenS_replicate (p : Str × Str) (n : Nat) : lenS (List.replicate n p) = n * szOf p := by
  induction n with
  | zero => simp [lenS]
  | succ n ih => (first | (refine rwP (List.replicate_succ) ?_; refine rwP (lenS_cons) ?_; refine rwP (ih) ?_; refine rwP (Nat.add_mul) ?_; try with_reducible rfl) | rw [List.replicate_succ, lenS_cons, ih, Nat.add_mul]); (first | lia | omega)
theorem lenS_rowOf (k : Nat) (ps : List (Str × Str)) : lenS (rowOf k ps) = (k + 1) * lenS ps := by
  induction ps with
  | nil => simp [rowOf, lenS]
  | cons p r ih =>
    have e : rowOf k (p :: r) = List.replicate (k + 1) p ++ rowOf k r := by simp [rowOf]
    (first | (refine rwP (e) ?_; refine rwP (lenS_append) ?_; refine rwP (ih) ?_; refine rwP (lenS_replicate) ?_; refine rwP (lenS_cons) ?_; refine rwP (Nat.mul_add) ?_; try with_reducible rfl) | rw [e, lenS_append, ih, lenS_replicate, lenS_cons, Nat.mul_add])
theorem lenS_allS (pss : Nat → List (Str × Str)) : ∀ n, lenS (allS pss n) = ((List.range n).map fun k => (k + 1) * lenS (pss k)).sum
  | 0 => rfl
  | n + 1 => by (first | (refine rwP (allS_succ) ?_; refine rwP (lenS_append) ?_; refine rwP (lenS_allS pss n) ?_; refine rwP (lenS_rowOf) ?_; refine rwP (List.range_succ) ?_; refine rwP (List.map_append) ?_; refine rwP (List.sum_append) ?_; try with_reducible rfl) | rw [allS_succ, lenS_append, lenS_allS pss n, lenS_rowOf, List.range_succ, List.map_append, List.sum_append]); simp

section
variable {C : Cx} {σ σ' τ : Led} {ι ι' : Imm} {A : Around} {s : Shared} {E : Value → Shared → Prop} {a dx l b : Addr} {vs us items : Array Value}

noncomputable abbrev nth (pss : List (List (Str × Str))) (i : Nat) : List (Str × Str) := pss.getD i []
theorem nth_eq {pss : List (List (Str × Str))} {i : Nat} {ps : List (Str × Str)} (h : pss[i]? = some ps) : nth pss i = ps := by unfold nth; (first | (refine rwP (List.getD_eq_getElem?_getD) ?_; refine rwP (h) ?_; try with_reducible rfl) | rw [List.getD_eq_getElem?_getD, h]); rfl

theorem turn_b4 {n : Nat} {L cS cA cM cT cX lb : Addr} {m : Str → Option Value} {bl : List (Addr × Addr × Array Value)} {pss : List (List (Str × Str))} {Q : Flow → Shared → Prop}
    (X : CxOk C) (KK : AllK C.K) (KA' : KAll C.K) (KH : KHolds C.K) (R : Room (n + 3) A) (S : SS C ((L, nsP m) :: τ) ι s) (B : Blks τ ι lb bl pss) (h4 : pss.length = 4) (hb : m "blocks" = some (.ref lb)) (hz : (allS (nth pss) 4).length ≤ 1000000)
    (h : ∀ row dr vr ι' s', ι ⊆ ι' → SS C ((L, nsP (put m "row" (.ref row))) :: (row, accP dr vr) :: (dr, szP 0) :: τ) ι' s' → pcs ι' vr (allS (nth pss) 4) → Q .next s') :
    wpAny (model prg C.w) A (exec (turnS 3) (holdsEnv L cS cA cM cT cX)) Q E s := by
  refine wpAny_Assign_Name (Call_ (n_global X S KH.gAll ?_))
  refine n_callF X KA'.fAll (sp_cons (n_local S (.head _) hb (sp_nil ⟨⟨_, _, S⟩, ?_⟩)))
  refine all_c X KK KA' R S (.tail _ B.lst) (fun i hi => ?_) hz fun row dr vr ι' s1 h1 S1 hv => ?_
  · have hsz := B.size
    refine gen_P fun Pg kg => ?_
    obtain ⟨a, db, vb, ps, e, ha, hd, hp, hps, _⟩ := B.at (i := i) (v := (blkVals bl).toArray[i]'(by (first | (refine rwP (hsz) ?_; try with_reducible rfl) | rw [hsz]); (first | lia | omega))) (Array.getElem?_eq_getElem (by (first | (refine rwP (hsz) ?_; try with_reducible rfl) | rw [hsz]); (first | lia | omega)))
    refine kg ?_
    clear kg
    refine ⟨a, db, vb, ?_, .tail _ ha, by (first | (refine rwP (nth_eq hps) ?_; try with_reducible rfl) | rw [nth_eq hps]); exact hp⟩
    (first | (refine rwQ (e) ?_; try with_reducible rfl) | rw [← e])
    exact Array.getElem?_eq_getElem (by (first | (refine rwP (hsz) ?_; try with_reducible rfl) | rw [hsz]); (first | lia | omega))
  · refine n_store S1 (.tail (.tail .head)) fun s2 S2 => ?_
    exact h row dr vr ι' s2 h1 (S2.perm (List.perm_middle (l₁ := [(row, accP dr vr), (dr, szP 0)]))) hv

theorem turn_b5 {n : Nat} {L cS cA cM cT cX lx row dr : Addr} {m : Str → Option Value} {pss : List (List (Str × Str))} {xv vr : Array Value} {Q : Flow → Shared → Prop}
    (X : CxOk C) (KK : AllK C.K) (KA' : KAll C.K) (KH : KHolds C.K) (R : Room (n + 3) A) (S : SS C ((L, nsP m) :: τ) ι s) (h4 : pss.length = 4) (hr : m "row" = some (.ref row)) (hrow : (row, accP dr vr) ∈ τ) (hdr : (dr, szP 0) ∈ τ) (hp : pcs ι vr (allS (nth pss) 4))
    (hsm : small (allS (nth pss) 4)) (hz : lenS (allS (nth pss) 4) ≤ 1000000) (hcX : (cX, cellP (some (.ref lx))) ∈ τ) (hlx : (lx, lstP xv) ∈ τ)
    (hxv : ∀ (i : Nat) (ps : List (Str × Str)), pss[i]? = some ps → ∃ t, xv[i]? = some (Value.str (strS ps) t)) (hlen : ∀ ps ∈ pss, lenS ps ≤ 100000) (h : ∀ s', SS C ((L, nsP m) :: τ) ι s' → Q .next s') :
    wpAny (model prg C.w) A (exec (turnS 4) (holdsEnv L cS cA cM cT cX)) Q E s := by
  refine wpAny_If (wpAny_isTrue_Compare1 ?_)
  refine n_len_acc (n := n) X KK R S (.head _) hr (.tail _ hrow) (.tail _ hdr) hp hsm (by decide) (by (first | lia | omega)) fun t1 s1 S1 => ?_
  refine Call_ (n_builtin X S1 KH.gSum KH.bSum ?_)
  refine n_callb (sp_cons ?_)
  refine comp_range (N := 4) X KA' (fun _ => (L, nsP m) :: τ) (fun i x _ => ∃ t, x = Value.int (((i + 1) * lenS (nth pss i) : Nat) : Int) t) S1 (by decide) (fun _ _ _ _ _ h => h) R.h (fun it i t D m' acc out ι2 s2 E2 hi hι S2 => ?_) fun l3 out3 ι3 s3 h3 S3 hz3 hv3 => ?_
  · have hip : i < pss.length := by (first | lia | omega)
    have hps : pss[i]? = some pss[i] := List.getElem?_eq_getElem hip
    obtain ⟨tx, htx⟩ := hxv i _ hps
    have hl := hlen pss[i] (List.getElem_mem hip)
    refine wpAny_BinOp (wpAny_BinOp (n_local S2 (.tail _ (.head _)) put_same (wpAny_Constant_int (P.add_int ?_))))
    have S2' : SS C _ ι2 { s2 with toks := s2.toks + 1 + 1 } := S2
    refine Call_ (n_builtin X S2' KK.B.gLen KK.B.bLen ?_)
    refine n_callb (sp_cons (Subscript_ (n_cell S2' rfl (.tail _ (.tail _ (.tail _ (.tail _ hcX)))) (n_local S2' (.tail _ (.head _)) put_same ?_))))
    have L2 := lst_like S2' (.tail _ (.tail _ (.tail _ (.tail _ hlx))))
    refine like_tail L2 (like_int L2 (by (first | lia | omega)) (by (first | lia | omega)) (by (first | (refine rwP (Int.toNat_natCast) ?_; try with_reducible rfl) | rw [Int.toNat_natCast]); exact htx) ?_) (fun q => wpAny_operating q)
    refine sp_nil (P.len_str (by (first | (refine rwP (strS_length) ?_; try with_reducible rfl) | rw [strS_length]); (first | lia | omega)) ?_)
    refine P.mul_int ?_ (.of_left (intBits_le_64 (by (first | lia | omega)) (by (first | lia | omega))))
    refine ⟨_, _, fun _ h => h, (show SS C _ ι2 { s2 with toks := s2.toks + 1 + 1 + 1 + 1 + 1 } from S2), s2.toks + 1 + 1 + 1 + 1, ?_⟩
    (first | (refine rwP (nth_eq hps) ?_; refine rwP (strS_length) ?_; try with_reducible rfl) | rw [nth_eq hps, strS_length])
    congr 1
  · have hi := ints_of hz3 (f := fun i => (i + 1) * lenS (nth pss i)) hv3
    refine sp_nil (sum_L S3 (.head _) hi R.h fun t4 s4 S4 => ?_)
    (first | (refine rwP (natsI_sum) ?_; refine rwQ (lenS_allS) ?_; refine rwP (Int.zero_add) ?_; try with_reducible rfl) | rw [natsI_sum, ← lenS_allS, Int.zero_add])
    refine P.ne_int (wpAny_truthy_bool ?_)
    simp only [bne_self_eq_false, Bool.false_eq_true, if_false]
    exact wpAny_execs_nil (h s4 ((S4.tl).less h3))
end
end Mine
end Part62
section Part63
set_option tactic.hygienic false
open PySem PySem.W PySem.W.X PySem.Calls PyProof.Rows
set_option maxRecDepth 100000
namespace Mine

noncomputable abbrev Blk := Addr × Addr × Array Value
theorem blkLed_app : ∀ x y : List Blk, blkLed (x ++ y) = blkLed x ++ blkLed y
  | [], _ => rfl
  | b :: r, y => by (first | (refine rwP (List.cons_append) ?_; refine rwP (blkLed) ?_; refine rwP (blkLed) ?_; refine rwP (blkLed_app r y) ?_; try with_reducible rfl) | rw [List.cons_append, blkLed, blkLed, blkLed_app r y]); rfl
theorem blk_upd {b : Blk} {v' : Array Value} {y : List Blk} {ρ : Led} : ∀ x : List Blk, Upd b.1 (accP b.2.1 b.2.2) (accP b.2.1 v') (blkLed (x ++ b :: y) ++ ρ) (blkLed (x ++ (b.1, b.2.1, v') :: y) ++ ρ)
  | [] => .head
  | c :: r => .tail (.tail (blk_upd r))
theorem blk_mem {b : Blk} {y : List Blk} {ρ : Led} (x : List Blk) : (b.1, accP b.2.1 b.2.2) ∈ blkLed (x ++ b :: y) ++ ρ ∧ (b.2.1, szP 0) ∈ blkLed (x ++ b :: y) ++ ρ := by
  (first | (refine rwP (blkLed_app) ?_; refine rwP (blkLed) ?_; try with_reducible rfl) | rw [blkLed_app, blkLed])
  exact ⟨List.mem_append_left _ (List.mem_append_right _ (.head _)), List.mem_append_left _ (List.mem_append_right _ (.tail _ (.head _)))⟩

/-- blocks in the midst of a change -/
noncomputable def midB (f : Blk → Blk) (bl : List Blk) (i : Nat) : List Blk := (bl.take i).map f ++ bl.drop i
theorem midB_at {f : Blk → Blk} {bl : List Blk} {i : Nat} {b : Blk} (h : bl[i]? = some b) : midB f bl i = (bl.take i).map f ++ b :: bl.drop (i + 1) ∧ midB f bl (i + 1) = (bl.take i).map f ++ f b :: bl.drop (i + 1) := by
  have hi := (List.getElem?_eq_some_iff.mp h).1
  have e : bl.drop i = b :: bl.drop (i + 1) := by
    (first | (refine rwP (List.drop_eq_getElem_cons hi) ?_; try with_reducible rfl) | rw [List.drop_eq_getElem_cons hi])
    rw [List.getElem?_eq_getElem hi] at h
    (first | (refine rwP (Option.some.inj h) ?_; try with_reducible rfl) | rw [Option.some.inj h])
  refine ⟨by (first | (refine rwP (midB) ?_; refine rwP (e) ?_; try with_reducible rfl) | rw [midB, e]), ?_⟩
  (first | (refine rwP (midB) ?_; refine rwP (List.take_add_one) ?_; refine rwP (h) ?_; try with_reducible rfl) | rw [midB, List.take_add_one, h])
  simp
theorem midB_end (f : Blk → Blk) (bl : List Blk) : midB f bl bl.length = bl.map f := by simp [midB]
noncomputable def popD (b : Blk) : Blk := (b.1, b.2.1, b.2.2.pop)
noncomputable def outD (b : Blk) : Blk := (b.1, b.2.1, #[])
theorem blkVals_map {f : Blk → Blk} (hf : ∀ b, (f b).1 = b.1) (bl : List Blk) : blkVals (bl.map f) = blkVals bl := by
  (first | (refine rwP (blkVals) ?_; refine rwP (blkVals) ?_; refine rwP (List.map_map) ?_; try with_reducible rfl) | rw [blkVals, blkVals, List.map_map])
  exact List.map_congr_left fun b _ => by show Value.ref (f b).1 = _; (first | (refine rwP (hf) ?_; try with_reducible rfl) | rw [hf])
theorem BlkOk.mapPop {ι : Imm} : ∀ {bl : List Blk} {pss}, BlkOk ι bl pss → BlkOk ι (bl.map popD) (pss.map List.dropLast)
  | _, _, .nil => .nil
  | _, _, .cons (b := b) (ps := ps) h r => by
    refine .cons (b := popD b) ?_ r.mapPop
    refine ⟨by (first | (refine rwP (List.length_dropLast) ?_; try with_reducible rfl) | rw [List.length_dropLast]); show _ = (b.2.2.pop).size; (first | (refine rwP (Array.size_pop) ?_; refine rwP (h.1) ?_; try with_reducible rfl) | rw [Array.size_pop, h.1]), fun i p e => ?_⟩
    have hi := (List.getElem?_eq_some_iff.mp e).1
    rw [List.length_dropLast] at hi
    have e2 : ps[i]? = some p := by
      rw [List.dropLast_eq_take, List.getElem?_take, if_pos hi] at e
      exact e
    obtain ⟨v, hv, g⟩ := h.2 i p e2
    refine ⟨v, ?_, g⟩
    show b.2.2.pop[i]? = some v
    (first | (refine rwP (Array.getElem?_pop) ?_; try with_reducible rfl) | rw [Array.getElem?_pop])
    have := h.1
    (first | (refine rwP (if_pos (by (first | lia | omega))) ?_; try with_reducible rfl) | rw [if_pos (by (first | lia | omega))])
    exact hv
theorem BlkOk.mapOut {ι : Imm} : ∀ {bl : List Blk} {pss}, BlkOk ι bl pss → BlkOk ι (bl.map outD) (pss.map fun _ => [])
  | _, _, .nil => .nil
  | _, _, .cons (b := b) (ps := ps) h r => .cons (b := outD b) pcs.nil r.mapOut

noncomputable def lastP (ps : List (Str × Str)) : Str × Str := ps.getLast?.getD emptyPiece

section
variable {C : Cx} {σ σ' τ : Led} {ι ι' : Imm} {A : Around} {s : Shared} {E : Value → Shared → Prop} {a dx l b : Addr} {vs us items : Array Value}

theorem pcs_of {out : Array Value} {ps : List (Str × Str)} (hz : out.size = ps.length) (h : ∀ (i : Nat) (p : Str × Str), ps[i]? = some p → ∃ x, out[i]? = some x ∧ IsPiece ι x p) : pcs ι out ps := ⟨hz.symm, h⟩

theorem turn_b6 {n : Nat} {L cS cA cM cT cX lb : Addr} {m : Str → Option Value} {pre ρ : Led} {bl : List Blk} {pss : List (List (Str × Str))} {Q : Flow → Shared → Prop}
    (X : CxOk C) (KK : AllK C.K) (KM' : KM C.K) (R : Room (n + 2) A) (S : SS C ((L, nsP m) :: (pre ++ (blkLed bl ++ ρ))) ι s) (hok : BlkOk ι bl pss) (hlb : (lb, lstP (blkVals bl).toArray) ∈ ρ) (hb : m "blocks" = some (.ref lb)) (hfew : pss.length ≤ 1000) (hsz : ∀ ps ∈ pss, ps.length ≤ 100000)
    (h : ∀ lk kv ι' s', ι ⊆ ι' → SS C ((L, nsP (put m "struck" (.ref lk))) :: (lk, lstP kv) :: (pre ++ (blkLed (bl.map popD) ++ ρ))) ι' s' → pcs ι' kv (pss.map lastP) → Q .next s') :
    wpAny (model prg C.w) A (exec (turnS 5) (holdsEnv L cS cA cM cT cX)) Q E s := by
  have hbl : bl.length = pss.length := hok.length
  have hvz : (blkVals bl).toArray.size = bl.length := by simp [blkVals]
  have h0 : midB popD bl 0 = bl := rfl
  refine comp_mapA (m0 := m) (fun i => (L, nsP m) :: (pre ++ (blkLed (midB popD bl i) ++ ρ))) (fun i x ι' => ∀ ps, pss[i]? = some ps → IsPiece ι' x (lastP ps)) S (.head _) hb (fun i _ => .tail _ (List.mem_append_right _ (List.mem_append_right _ hlb))) (by (first | (refine rwP (hvz) ?_; try with_reducible rfl) | rw [hvz]); (first | lia | omega))
    (fun i x ι1 ι2 hι g ps e => (g ps e).mono hι) R.h (fun it i v D m' acc out ι1 s1 E1 hi hι hv S1 => ?_) (σf := fun v => (L, nsP (put m "struck" v)) :: (pre ++ (blkLed (midB popD bl (blkVals bl).toArray.size) ++ ρ))) (fun v => .head) (fun acc out ι' s' hι S' h1 h2 => ?_)
  · rw [hvz] at hi
    obtain ⟨b, hbi⟩ : ∃ b, bl[i]? = some b := ⟨_, List.getElem?_eq_getElem hi⟩
    refine gen_P fun Pg kg => ?_
    obtain ⟨ps, hps, hp, _, _⟩ := hok.get i b hbi
    refine kg ?_
    clear kg
    have hvb : v = .ref b.1 := by
      unfold blkVals at hv
      rw [List.getElem?_toArray, List.getElem?_map, hbi] at hv
      exact (Option.some.inj hv).symm
    subst hvb
    obtain ⟨e1, e2⟩ := midB_at (f := popD) hbi
    rw [e1] at S1
    (first | (refine rwP (e2) ?_; try with_reducible rfl) | rw [e2])
    obtain ⟨ma, md⟩ := blk_mem (b := b) (y := bl.drop (i + 1)) (ρ := ρ) ((bl.take i).map popD)
    have hl : ∀ {q : Addr × OP}, q ∈ blkLed ((bl.take i).map popD ++ b :: bl.drop (i + 1)) ++ ρ → q ∈ (it, liP lb (i + 1)) :: (D, nsP (put m' "block" (.ref b.1))) :: (acc, lstP out) :: (L, nsP m) :: (pre ++ (blkLed ((bl.take i).map popD ++ b :: bl.drop (i + 1)) ++ ρ)) :=
      fun hq => .tail _ (.tail _ (.tail _ (.tail _ (List.mem_append_right _ hq))))
    have hu : ∀ v', Upd b.1 (accP b.2.1 b.2.2) (accP b.2.1 v') ((it, liP lb (i + 1)) :: (D, nsP (put m' "block" (.ref b.1))) :: (acc, lstP out) :: (L, nsP m) :: (pre ++ (blkLed ((bl.take i).map popD ++ b :: bl.drop (i + 1)) ++ ρ)))
        ((it, liP lb (i + 1)) :: (D, nsP (put m' "block" (.ref b.1))) :: (acc, lstP out) :: (L, nsP m) :: (pre ++ (blkLed ((bl.take i).map popD ++ (b.1, b.2.1, v') :: bl.drop (i + 1)) ++ ρ))) := fun v' => .tail (.tail (.tail (.tail (Upd.app (blk_upd _)))))
    refine n_accm X KK KM'.pop KK.S.fPop S1 (.tail _ (.head _)) put_same (hl ma) (hl md) (sp_nil ⟨⟨_, _, S1⟩, ?_⟩)
    by_cases hem : b.2.2.size = 0
    · have ev : b.2.2 = #[] := Array.eq_empty_of_size_eq_zero hem
      rw [ev] at ma
      refine pop_none X KK.A KK.S KK.P R S1 (hl ma) (hl md) fun t k1 k2 s2 S2 => ?_
      have eb : popD b = b := by
        obtain ⟨x, y, z⟩ := b
        show (x, y, z.pop) = (x, y, z)
        have : z = #[] := ev
        (first | (refine rwP (this) ?_; try with_reducible rfl) | rw [this]); rfl
      (first | (refine rwP (eb) ?_; try with_reducible rfl) | rw [eb])
      refine ⟨_, _, fun _ h => .tail _ h, S2, fun ps' e => ?_⟩
      rw [hps] at e
      cases e
      have : ps = [] := List.length_eq_zero_iff.mp (by (first | (refine rwP (hp.1) ?_; refine rwP (hem) ?_; try with_reducible rfl) | rw [hp.1, hem]))
      subst this
      exact ⟨t, k1, k2, rfl, .head _⟩
    · have hpl := hp.1
      have hlt : b.2.2.size - 1 < b.2.2.size := by (first | lia | omega)
      have epush : b.2.2.pop.push (b.2.2[b.2.2.size - 1]) = b.2.2 := by
        refine Array.ext_getElem? fun j => ?_
        (first | (refine rwP (Array.getElem?_push) ?_; refine rwP (Array.size_pop) ?_; refine rwP (Array.getElem?_pop) ?_; try with_reducible rfl) | rw [Array.getElem?_push, Array.size_pop, Array.getElem?_pop])
        by_cases hj : j = b.2.2.size - 1
        · subst hj; simp [hlt]
        · (first | (refine rwP (if_neg hj) ?_; try with_reducible rfl) | rw [if_neg hj])
          by_cases hj2 : b.2.2.size - 1 ≤ j
          · (first | (refine rwP (if_neg (by (first | lia | omega))) ?_; try with_reducible rfl) | rw [if_neg (by (first | lia | omega))])
            exact (Array.getElem?_eq_none (by (first | lia | omega))).symm
          · (first | (refine rwP (if_pos (by (first | lia | omega))) ?_; try with_reducible rfl) | rw [if_pos (by (first | lia | omega))])
      have hu2 := hu b.2.2.pop
      rw [show accP b.2.1 b.2.2 = accP b.2.1 (b.2.2.pop.push (b.2.2[b.2.2.size - 1])) from congrArg _ epush.symm] at hu2
      have hps2 := hsz ps (List.mem_of_getElem? hps)
      refine pop_some X KK.A KK.S KK.P R S1 (hl md) hu2 (by (first | (refine rwP (Array.size_pop) ?_; refine rwP (sizeLine_eq) ?_; try with_reducible rfl) | rw [Array.size_pop, sizeLine_eq]); (first | lia | omega)) fun s2 S2 => ?_
      refine ⟨_, _, fun _ h => h, S2, fun ps' e => ?_⟩
      rw [hps] at e
      cases e
      have hlast : ps.getLast? = some (ps[ps.length - 1]'(by (first | lia | omega))) := by
        (first | (refine rwP (List.getLast?_eq_getElem?) ?_; try with_reducible rfl) | rw [List.getLast?_eq_getElem?])
        exact List.getElem?_eq_getElem _
      obtain ⟨v, hv', g⟩ := hp.2 (ps.length - 1) _ (List.getElem?_eq_getElem (by (first | lia | omega)))
      have : v = b.2.2[b.2.2.size - 1] := by
        have e3 : b.2.2[ps.length - 1]? = some (b.2.2[b.2.2.size - 1]) := by
          (first | (refine rwP (hpl) ?_; try with_reducible rfl) | rw [hpl]); exact Array.getElem?_eq_getElem hlt
        rw [e3] at hv'
        exact (Option.some.inj hv').symm
      (first | (refine rwQ (this) ?_; try with_reducible rfl) | rw [← this])
      unfold lastP
      (first | (refine rwP (hlast) ?_; try with_reducible rfl) | rw [hlast])
      exact g.mono hι
  · rw [hvz, midB_end] at S'
    refine h acc out ι' s' hι S'.swap (pcs_of (by (first | (refine rwP (h1) ?_; refine rwP (hvz) ?_; refine rwP (hbl) ?_; refine rwP (List.length_map) ?_; try with_reducible rfl) | rw [h1, hvz, hbl, List.length_map])) fun i p e => ?_)
    rw [List.getElem?_map] at e
    cases e2 : pss[i]? with
    | none => rw [e2] at e; cases e
    | some ps =>
      rw [e2] at e
      cases e
      obtain ⟨x, hx, g⟩ := h2 i (by (first | (refine rwP (hvz) ?_; refine rwP (hbl) ?_; try with_reducible rfl) | rw [hvz, hbl]); exact (List.getElem?_eq_some_iff.mp e2).1)
      exact ⟨x, hx, g ps e2⟩
end
end Mine
end Part63
section Part64
set_option tactic.hygienic false
open PySem PySem.W PySem.W.X PySem.Calls PyProof.Rows
set_option maxRecDepth 100000
namespace Mine

section
variable {C : Cx} {σ σ' τ : Led} {ι ι' : Imm} {A : Around} {s : Shared} {E : Value → Shared → Prop} {a dx l b : Addr} {vs us items : Array Value}

theorem turn_b7 {n : Nat} {L cS cA cM cT cX ld lk : Addr} {m : Str → Option Value} {dl : List (Addr × Array Value)} {ds : List (List Nat)} {kv : Array Value} {ks : List (Str × Str)} {t : Nat} {tt : Tok} {Q : Flow → Shared → Prop}
    (X : CxOk C) (KL' : KLaw C.K) (KH : KHolds C.K) (R : Room (n + 1) A) (S : SS C ((L, nsP m) :: τ) ι s) (hk : m "struck" = some (.ref lk)) (hlk : (lk, lstP kv) ∈ τ) (hkv : pcs ι kv ks) (hd : m "dues" = some (.ref ld)) (hld : (ld, lstP (dueVals dl)) ∈ τ) (hdl : ∀ p ∈ dueLed dl, p ∈ τ)
    (hda : DuesAre dl ds) (hdz : ds.length ≤ 1000) (hcT : (cT, cellP (some (.int t tt))) ∈ τ) (htl : ∀ d ∈ ds, t < d.length) (ht : t ≤ 1000) (hdm : ∀ d ∈ ds, d.getD t 0 ≤ 1000000) (hg : ks = ds.map fun d => pieceS (d.getD t 0)) (hgood : ∀ p ∈ ks, goodP p)
    (h : ∀ ι' s', ι ⊆ ι' → SS C ((L, nsP m) :: τ) ι' s' → Q .next s') :
    wpAny (model prg C.w) A (exec (turnS 6) (holdsEnv L cS cA cM cT cX)) Q E s := by
  have hvz : (dueVals dl).size = ds.length := by simp [dueVals, hda.1]
  refine wpAny_If (wpAny_isTrue_Compare1 (n_local S (.head _) hk ?_))
  refine comp_map (fun _ => (L, nsP m) :: τ) (fun i x ι' => ∀ d, ds[i]? = some d → IsPiece ι' x (pieceS (d.getD t 0))) S (.head _) hd (fun _ _ => .tail _ hld) (by (first | (refine rwP (hvz) ?_; try with_reducible rfl) | rw [hvz]); (first | lia | omega)) (fun i x ι1 ι2 hι g d e => (g d e).mono hι) R.h (fun it i v D m' acc out ι1 s1 E1 hi hι hv S1 => ?_) fun l1 out1 ι1 s1 h1 S1 hz1 hv1 => ?_
  · refine gen_P fun Pg kg => ?_
    obtain ⟨p, hp, rfl⟩ := dueVals_at hv
    refine kg ?_
    clear kg
    have hil : i < ds.length := by (first | lia | omega)
    have hdi : ds[i]? = some ds[i] := List.getElem?_eq_getElem hil
    have hint := hda.2 i p _ hp hdi
    have htd := htl _ (List.getElem_mem hil)
    have hpl := hint.length
    rw [natsI_length, Array.length_toList] at hpl
    have ev : p.2[t]? = some (p.2[t]'(by (first | lia | omega))) := Array.getElem?_eq_getElem (by (first | lia | omega))
    refine gen_P fun Pg kg => ?_
    obtain ⟨x, tx, hx, hx'⟩ := ints_at hint (i := t) (v := p.2[t]'(by (first | lia | omega))) (by (first | (refine rwP (Array.getElem?_toList) ?_; try with_reducible rfl) | rw [Array.getElem?_toList]); exact ev)
    obtain ⟨c, hc, rfl⟩ := natsI_at hx
    refine kg ?_
    clear kg
    rw [hx'] at ev
    have hget : (ds[i]).getD t 0 = c := by (first | (refine rwP (List.getD_eq_getElem?_getD) ?_; refine rwP (hc) ?_; try with_reducible rfl) | rw [List.getD_eq_getElem?_getD, hc]); rfl
    have hcm := hdm _ (List.getElem_mem hil)
    rw [hget] at hcm
    refine Call_ (n_global X S1 KH.gPiece ?_)
    refine n_callF X KL'.fPiece (sp_cons (Subscript_ (n_local S1 (.tail _ (.head _)) put_same (n_cell S1 rfl (.tail _ (.tail _ (.tail _ (.tail _ hcT)))) ?_))))
    have L1 := lst_like S1 (.tail _ (.tail _ (.tail _ (.tail _ (hdl _ (dueLed_at hp))))))
    refine like_tail L1 (like_int L1 (by (first | lia | omega)) (by (first | lia | omega)) (by (first | (refine rwP (Int.toNat_natCast) ?_; try with_reducible rfl) | rw [Int.toNat_natCast]); exact ev) ?_) (fun q => wpAny_operating q)
    refine sp_nil ⟨⟨_, _, S1⟩, ?_⟩
    refine piece_c (k := c) X KL' R S1 hcm fun w ι2 s2 h2 hw S2 => ?_
    exact ⟨ι2, _, h2, S2, fun d e => by rw [hdi] at e; cases e; (first | (refine rwP (hget) ?_; try with_reducible rfl) | rw [hget]); exact hw⟩
  · have hov : pcs ι1 out1 (ds.map fun d => pieceS (d.getD t 0)) := pcs_of (by (first | (refine rwP (hz1) ?_; refine rwP (hvz) ?_; refine rwP (List.length_map) ?_; try with_reducible rfl) | rw [hz1, hvz, List.length_map])) fun i p e => by
      rw [List.getElem?_map] at e
      cases e2 : ds[i]? with
      | none => rw [e2] at e; cases e
      | some d =>
        rw [e2] at e
        cases e
        refine gen_P fun Pg kg => ?_
        obtain ⟨x, hx, g⟩ := hv1 i (by (first | (refine rwP (hvz) ?_; try with_reducible rfl) | rw [hvz]); exact (List.getElem?_eq_some_iff.mp e2).1)
        refine kg ?_
        clear kg
        exact ⟨x, hx, g d e2⟩
    refine gen_P fun Pg kg => ?_
    obtain ⟨as1, r1⟩ := reads_pieces S1 (.tail _ (.tail _ hlk)) (hkv.mono h1)
    obtain ⟨as2, r2⟩ := reads_pieces S1 (.head _) hov
    refine kg ?_
    clear kg
    refine ne_same r1 r2 (by (first | (refine rwP (hg) ?_; try with_reducible rfl) | rw [hg])) (okD_pieces hgood) (by decide) R.cmp (wpAny_truthy_bool ?_)
    (first | refine wpIf0 ?_ | simp only [Bool.false_eq_true, if_false])
    exact wpAny_execs_nil (h ι1 s1 h1 S1.tl)

theorem turn_b8 {n : Nat} {L cS cA cM cT cX lb : Addr} {m : Str → Option Value} {bl : List Blk} {pss : List (List (Str × Str))} {Q : Flow → Shared → Prop}
    (X : CxOk C) (KK : AllK C.K) (R : Room (n + 1) A) (S : SS C ((L, nsP m) :: τ) ι s) (B : Blks τ ι lb bl pss) (hb : m "blocks" = some (.ref lb))
    (h : ∀ ll lv s', SS C ((L, nsP (put m "left" (.ref ll))) :: (ll, lstP lv) :: τ) ι s' → IntsAre lv.toList (natsI (pss.map List.length)) → Q .next s') :
    wpAny (model prg C.w) A (exec (turnS 7) (holdsEnv L cS cA cM cT cX)) Q E s := by
  have hbz := B.size
  refine comp_mapA (m0 := m) (fun _ => (L, nsP m) :: τ) (fun i x _ => ∃ t, x = Value.int (((nth pss i).length : Nat) : Int) t) S (.head _) hb (fun _ _ => .tail _ B.lst) (by (first | (refine rwP (hbz) ?_; try with_reducible rfl) | rw [hbz]); have := B.few; (first | lia | omega)) (fun _ _ _ _ _ h => h) R.h (fun it i v D m' acc out ι1 s1 E1 hi hι hv S1 => ?_)
    (σf := fun v => (L, nsP (put m "left" v)) :: τ) (fun v => .head) fun acc out ι' s' hι S' h1 h2 => ?_
  · refine gen_P fun Pg kg => ?_
    obtain ⟨a, db, vb, ps, rfl, ha, hd, hp, hps, _⟩ := B.at hv
    refine kg ?_
    clear kg
    refine n_accm X KK KK.P.fnCount KK.S.fCount S1 (.tail _ (.head _)) put_same (.tail _ (.tail _ (.tail _ (.tail _ ha)))) (.tail _ (.tail _ (.tail _ (.tail _ hd)))) (sp_nil ⟨⟨_, _, S1⟩, ?_⟩)
    refine count_c X KK.A KK.S R S1 (.tail _ (.tail _ (.tail _ (.tail _ ha)))) fun t2 s2 S2 => ?_
    exact ⟨_, _, fun _ h => h, S2, t2, by (first | (refine rwP (nth_eq hps) ?_; refine rwP (hp.1) ?_; try with_reducible rfl) | rw [nth_eq hps, hp.1])⟩
  · refine h acc out s' (S'.less hι).swap ?_
    rw [hbz] at h1 h2
    have := ints_of h1 (f := fun i => (nth pss i).length) h2
    have e : (List.range pss.length).map (fun i => (nth pss i).length) = pss.map List.length := by
      refine List.ext_getElem? fun i => ?_
      (first | (refine rwP (List.getElem?_map) ?_; refine rwP (List.getElem?_map) ?_; try with_reducible rfl) | rw [List.getElem?_map, List.getElem?_map])
      by_cases hi : i < pss.length
      · (first | (refine rwP (List.getElem?_range hi) ?_; refine rwP (List.getElem?_eq_getElem hi) ?_; try with_reducible rfl) | rw [List.getElem?_range hi, List.getElem?_eq_getElem hi])
        simp only [Option.map_some]
        (first | (refine rwP (nth_eq (List.getElem?_eq_getElem hi)) ?_; try with_reducible rfl) | rw [nth_eq (List.getElem?_eq_getElem hi)])
      · (first | (refine rwP (List.getElem?_eq_none (by simpa using hi)) ?_; refine rwP (List.getElem?_eq_none (by (first | lia | omega))) ?_; try with_reducible rfl) | rw [List.getElem?_eq_none (by simpa using hi), List.getElem?_eq_none (by (first | lia | omega))]); rfl
    rw [e] at this
    exact this

theorem turn_b10 {n : Nat} {L cS cA cM cT cX lb : Addr} {m : Str → Option Value} {bl : List Blk} {pss : List (List (Str × Str))} {Q : Flow → Shared → Prop}
    (X : CxOk C) (KK : AllK C.K) (R : Room (n + 1) A) (S : SS C ((L, nsP m) :: τ) ι s) (B : Blks τ ι lb bl pss) (h4 : pss.length = 4) (hnil : ∀ ps ∈ pss, ps = []) (hb : m "blocks" = some (.ref lb))
    (h : ∀ s', SS C ((L, nsP m) :: τ) ι s' → Q .next s') :
    wpAny (model prg C.w) A (exec (turnS 9) (holdsEnv L cS cA cM cT cX)) Q E s := by
  have hbz := B.size
  refine wpAny_If (wpAny_isTrue_Compare1 ?_)
  refine comp_map (fun _ => (L, nsP m) :: τ) (fun i x _ => ∃ t, x = Value.int 0 t) S (.head _) hb (fun _ _ => .tail _ B.lst) (by (first | (refine rwP (hbz) ?_; try with_reducible rfl) | rw [hbz]); have := B.few; (first | lia | omega)) (fun _ _ _ _ _ h => h) R.h (fun it i v D m' acc out ι1 s1 E1 hi hι hv S1 => ?_) fun l1 out1 ι1 s1 h1 S1 hz1 hv1 => ?_
  · refine gen_P fun Pg kg => ?_
    obtain ⟨a, db, vb, ps, rfl, ha, hd, hp, hps, _⟩ := B.at hv
    refine kg ?_
    clear kg
    refine n_accm X KK KK.P.fnCount KK.S.fCount S1 (.tail _ (.head _)) put_same (.tail _ (.tail _ (.tail _ (.tail _ ha)))) (.tail _ (.tail _ (.tail _ (.tail _ hd)))) (sp_nil ⟨⟨_, _, S1⟩, ?_⟩)
    refine count_c X KK.A KK.S R S1 (.tail _ (.tail _ (.tail _ (.tail _ ha)))) fun t2 s2 S2 => ?_
    have e0 := hnil ps (List.mem_of_getElem? hps)
    subst e0
    have : vb.size = 0 := hp.1.symm
    exact ⟨_, _, fun _ h => h, S2, t2, by (first | (refine rwP (this) ?_; try with_reducible rfl) | rw [this]); rfl⟩
  refine List_ (sp_cons (wpAny_Constant_int (sp_cons (wpAny_Constant_int (sp_cons (wpAny_Constant_int (sp_cons (wpAny_Constant_int (sp_nil ?_)))))))))
  have S2 : SS C _ ι1 { s1 with toks := s1.toks + 1 + 1 + 1 + 1 } := S1
  refine n_newList S2 fun l2 s3 S3 => ?_
  obtain ⟨as1, r1⟩ := readsM (f := fun _ : Nat => PyData.int 0) (xs := [0, 0, 0, 0]) (fun i x => ∃ t, x = Value.int 0 t) S3 (.tail _ (.head _)) (by (first | (refine rwP (hz1) ?_; refine rwP (hbz) ?_; refine rwP (h4) ?_; try with_reducible rfl) | rw [hz1, hbz, h4]); rfl) (by (first | (refine rwP (hz1) ?_; try with_reducible rfl) | rw [hz1]); exact hv1) fun i x v e g => by
    obtain ⟨t, rfl⟩ := g
    exact ⟨_, .int _ _⟩
  obtain ⟨as2, r2⟩ := readsG (f := fun _ : Nat => PyData.int 0) (xs := [0, 0, 0, 0]) S3 (.head _) rfl fun i x v e hv => by
    match i with
    | 0 => cases hv; exact ⟨_, .int _ _⟩
    | 1 => cases hv; exact ⟨_, .int _ _⟩
    | 2 => cases hv; exact ⟨_, .int _ _⟩
    | 3 => cases hv; exact ⟨_, .int _ _⟩
    | i + 4 => simp at hv
  refine ne_same r1 r2 rfl (okD_map (n := 1) fun x _ => okD_int) (by decide) R.cmp (wpAny_truthy_bool ?_)
  (first | refine wpIf0 ?_ | simp only [Bool.false_eq_true, if_false])
  exact wpAny_execs_nil (h s3 ((S3.tl.tl).less h1))

theorem pcs.app_snoc2 {vs : Array Value} {ps qs : List (Str × Str)} {v : Value} {p : Str × Str} {j : Nat} (x : pcs ι vs (ps ++ qs.take j)) (hj : qs[j]? = some p) (y : IsPiece ι v p) : pcs ι (vs.push v) (ps ++ qs.take (j + 1)) := by
  have := x.push y
  rw [List.append_assoc] at this
  (first | (refine rwP (List.take_add_one) ?_; refine rwP (hj) ?_; try with_reducible rfl) | rw [List.take_add_one, hj])
  exact this

theorem turn_b9 {n : Nat} {L cS cA cM cT cX lb : Addr} {m : Str → Option Value} {pre ρ : Led} {bl : List Blk} {pss : List (List (Str × Str))} {Q : Flow → Shared → Prop}
    (X : CxOk C) (KK : AllK C.K) (KM' : KM C.K) (R : Room (n + 1) A) (S : SS C ((L, nsP m) :: (pre ++ (blkLed bl ++ ρ))) ι s) (hok : BlkOk ι bl pss) (hlb : (lb, lstP (blkVals bl).toArray) ∈ ρ) (hb : m "blocks" = some (.ref lb)) (hfew : pss.length ≤ 1000) (hsz : pss.flatten.length ≤ 100000)
    (h : ∀ lr rv s', SS C ((L, nsP (put m "rest" (.ref lr))) :: (lr, lstP rv) :: (pre ++ (blkLed (bl.map outD) ++ ρ))) ι s' → pcs ι rv pss.flatten → Q .next s') :
    wpAny (model prg C.w) A (exec (turnS 8) (holdsEnv L cS cA cM cT cX)) Q E s := by
  have hA := R.h
  have hbl : bl.length = pss.length := hok.length
  have hvz : (blkVals bl).toArray.size = bl.length := by simp [blkVals]
  have hfl : ∀ i, (pss.take i).flatten.length ≤ pss.flatten.length := fun i => by
    have := congrArg (fun l => (List.flatten l).length) (List.take_append_drop i pss)
    simp only [List.flatten_append, List.length_append] at this
    (first | lia | omega)
  refine comp_assignG (cl := []) (n_local S (.head _) hb (iter_list S (.tail _ (List.mem_append_right _ (List.mem_append_right _ hlb))) fun it s2 S2 => ?_)) rfl (by decide)
  refine ⟨_, _, S2, run2 (li_walker (l := lb) (vs := (blkVals bl).toArray)) (fun i m' out σ' ι' => i ≤ bl.length ∧ (∃ junk, σ' = junk ++ ((L, nsP m) :: (pre ++ (blkLed (midB outD bl i) ++ ρ)))) ∧ ι' = ι ∧ pcs ι out (pss.take i).flatten)
    (fun i m' out D acc σ' ι' hI => ?_) (fun i m' out D2 acc σ' ι1 ι2 v sq hi' hI hι hv Sq => ?_) (fun m' out acc σ' ι' hI => ?_) hA ⟨Nat.zero_le _, ⟨[], rfl⟩, rfl, pcs.nil⟩⟩
  · refine gen_P fun Pg kg => ?_
    obtain ⟨_, ⟨junk, rfl⟩, _⟩ := hI
    refine kg ?_
    clear kg
    exact ⟨_, .tail _ (.tail _ (List.mem_append_right _ (.tail _ (List.mem_append_right _ (List.mem_append_right _ hlb))))), fun o => lstP_seq⟩
  · refine gen_P fun Pg kg => ?_
    obtain ⟨h1, ⟨junk, rfl⟩, rfl, hout⟩ := hI
    refine kg ?_
    clear kg
    have Sq := Sq.less hι
    rw [hvz] at hi'
    obtain ⟨b, hbi⟩ : ∃ b, bl[i]? = some b := ⟨_, List.getElem?_eq_getElem hi'⟩
    refine gen_P fun Pg kg => ?_
    obtain ⟨ps, hps, hp, _, _⟩ := hok.get i b hbi
    refine kg ?_
    clear kg
    have hvb : v = .ref b.1 := by
      unfold blkVals at hv
      rw [List.getElem?_toArray, List.getElem?_map, hbi] at hv
      exact (Option.some.inj hv).symm
    subst hvb
    obtain ⟨e1, e2⟩ := midB_at (f := outD) hbi
    rw [e1] at Sq
    refine wpAny_assign_Name (n_store Sq (.tail .head) fun s4 S4 => ?_)
    obtain ⟨ma, md⟩ := blk_mem (b := b) (y := bl.drop (i + 1)) (ρ := ρ) ((bl.take i).map outD)
    have hl : ∀ {q : Addr × OP}, q ∈ blkLed ((bl.take i).map outD ++ b :: bl.drop (i + 1)) ++ ρ → q ∈ (it, liP lb (i + 1)) :: (D2, nsP (put m' "block" (.ref b.1))) :: (acc, lstP out) :: (junk ++ ((L, nsP m) :: (pre ++ (blkLed ((bl.take i).map outD ++ b :: bl.drop (i + 1)) ++ ρ)))) :=
      fun hq => .tail _ (.tail _ (.tail _ (List.mem_append_right _ (.tail _ (List.mem_append_right _ hq)))))
    refine n_accm X KK KM'.popFrom KK.R.fPopFrom S4 (.tail _ (.head _)) put_same (hl ma) (hl md) (sp_nil ⟨⟨_, _, S4⟩, ?_⟩)
    have hft := hfl (i + 1)
    rw [List.take_add_one, hps, List.flatten_append, List.length_append] at hft
    simp only [Option.toList_some, List.flatten_cons, List.flatten_nil, List.append_nil] at hft
    have hbz : b.2.2.size ≤ sizeLine := by (first | (refine rwQ (hp.1) ?_; refine rwP (sizeLine_eq) ?_; try with_reducible rfl) | rw [← hp.1, sizeLine_eq]); (first | lia | omega)
    refine pop_from_c X KK.A KK.L KK.R R S4 (.tail (.tail (.tail (Upd.app (.tail (Upd.app (blk_upd _))))))) hbz fun lp s5 S5 => ?_
    refine iter_list S5 (.head _) fun it2 s6 S6 => ?_
    have e3 : (bl.take i).map outD ++ (b.1, b.2.1, #[]) :: bl.drop (i + 1) = midB outD bl (i + 1) := e2.symm
    rw [e3] at S6
    have S7 : SS C ((it2, liP lp 0) :: (D2, nsP (put m' "block" (.ref b.1))) :: (acc, lstP out) :: (it, liP lb (i + 1)) :: ((lp, lstP b.2.2) :: junk ++ ((L, nsP m) :: (pre ++ (blkLed (midB outD bl (i + 1)) ++ ρ))))) ι1 s6 := by
      refine S6.perm (List.Perm.cons _ ?_)
      exact (List.perm_middle (l₁ := [(it, liP lb (i + 1)), (D2, nsP (put m' "block" (.ref b.1))), (acc, lstP out)])).symm.trans
        ((List.perm_middle (a := (it, liP lb (i + 1))) (l₁ := [(D2, nsP (put m' "block" (.ref b.1))), (acc, lstP out)])).symm)
    refine ⟨it2, liP lp, b.2.2.size, _, _, fun j m'' out' σ'' ι' => j ≤ b.2.2.size ∧ σ'' = (it, liP lb (i + 1)) :: ((lp, lstP b.2.2) :: junk ++ ((L, nsP m) :: (pre ++ (blkLed (midB outD bl (i + 1)) ++ ρ)))) ∧ ι' = ι1 ∧ pcs ι1 out' ((pss.take i).flatten ++ ps.take j), _, ι1, _, rfl, S7,
      ⟨Nat.zero_le _, rfl, rfl, by simpa using hout⟩, li_walker (l := lp) (vs := b.2.2), fun j m'' out' σ'' ι' hI2 => ?_, fun j m'' out' σ'' ι' hj hI2 => ?_, fun j m'' out' σ'' ι3 ι4 v sr E hj hI2 hι2 hv Sr => ?_, fun m'' out' σ'' ι' hI2 => ?_⟩
    · obtain ⟨_, rfl, _⟩ := hI2
      exact ⟨_, .tail _ (.tail _ (.tail _ (.head _))), fun o => lstP_seq⟩
    · refine gen_P fun Pg kg => ?_
      obtain ⟨_, _, _, ho⟩ := hI2
      refine kg ?_
      clear kg
      have h5 := ho.1
      have h6 : (ps.take j).length ≤ ps.length := by (first | (refine rwP (List.length_take) ?_; try with_reducible rfl) | rw [List.length_take]); (first | lia | omega)
      rw [List.length_append] at h5
      (first | (refine rwP (sizeLine_eq) ?_; try with_reducible rfl) | rw [sizeLine_eq]); (first | lia | omega)
    · refine gen_P fun Pg kg => ?_
      obtain ⟨h3, rfl, rfl, ho⟩ := hI2
      refine kg ?_
      clear kg
      have Sr := Sr.less hι2
      obtain ⟨p, hpj⟩ : ∃ p, ps[j]? = some p := ⟨_, List.getElem?_eq_getElem (by (first | (refine rwP (hp.1) ?_; try with_reducible rfl) | rw [hp.1]); exact hj)⟩
      obtain ⟨w, hw, hpw⟩ := hp.2 j p hpj
      have ew : w = v := Option.some.inj (hw.symm.trans hv)
      subst ew
      refine wpAny_assign_Name (n_store Sr (.tail .head) fun s7 S8 => ?_)
      refine n_local S8 (.tail _ (.head _)) put_same ?_
      exact ⟨_, _, _, S8, hj, rfl, rfl, pcs.app_snoc2 ho hpj hpw⟩
    · refine gen_P fun Pg kg => ?_
      obtain ⟨_, rfl, rfl, ho⟩ := hI2
      refine kg ?_
      clear kg
      refine ⟨_, rfl, fun m3 => ⟨by (first | lia | omega), ⟨(lp, lstP b.2.2) :: junk, rfl⟩, rfl, ?_⟩⟩
      (first | (refine rwP (List.take_add_one) ?_; refine rwP (hps) ?_; refine rwP (List.flatten_append) ?_; try with_reducible rfl) | rw [List.take_add_one, hps, List.flatten_append])
      rw [← hp.1, List.take_length] at ho
      simpa using ho
  · refine gen_P fun Pg kg => ?_
    obtain ⟨_, ⟨junk, rfl⟩, rfl, hout⟩ := hI
    refine kg ?_
    clear kg
    (first | (refine rwP (hvz) ?_; refine rwP (midB_end) ?_; try with_reducible rfl) | rw [hvz, midB_end])
    rw [hvz, hbl, List.take_length] at hout
    refine ⟨m, (acc, lstP out) :: (junk ++ ((L, nsP (put m "rest" (.ref acc))) :: (pre ++ (blkLed (bl.map outD) ++ ρ)))), .tail .mid, fun s'' S'' => ?_⟩
    exact h acc out s'' ((S''.sub (.cons₂ _ (List.sublist_append_right _ _))).swap) hout
end
end Mine
end Part64
section Part65
set_option tactic.hygienic false
open PySem PySem.W PySem.W.X PySem.Calls PyProof.Rows
set_option maxRecDepth 100000
namespace Mine

noncomputable def twiceS (ks : List (Str × Str)) : List (Str × Str) := ks.flatMap fun p => [p, p]
noncomputable def emptyN (counts : List Nat) (t : Nat) : Nat := if counts.getD 3 0 < t then 8 else if counts.getD 0 0 < t then 1 else 0

section
variable {C : Cx} {σ σ' τ : Led} {ι ι' : Imm} {A : Around} {s : Shared} {E : Value → Shared → Prop} {a dx l b : Addr} {vs us items : Array Value}

theorem turn_b11 {L cS cA cM cT cX lk : Addr} {m : Str → Option Value} {kv : Array Value} {ks : List (Str × Str)} {Q : Flow → Shared → Prop}
    (X : CxOk C) (KA' : KAll C.K) (hA : A.handled = none) (S : SS C ((L, nsP m) :: τ) ι s) (hk : m "struck" = some (.ref lk)) (hlk : (lk, lstP kv) ∈ τ) (hkv : pcs ι kv ks) (hfew : ks.length ≤ 1000)
    (h : ∀ lw wv s', SS C ((L, nsP (put m "twice" (.ref lw))) :: (lw, lstP wv) :: τ) ι s' → pcs ι wv (twiceS ks) → Q .next s') :
    wpAny (model prg C.w) A (exec (turnS 10) (holdsEnv L cS cA cM cT cX)) Q E s := by
  have hlen : ∀ l : List (Str × Str), (twiceS l).length = 2 * l.length := by
    intro l
    induction l with
    | nil => rfl
    | cons p r ih => simp only [twiceS, List.flatMap_cons, List.length_append, List.length_cons, List.length_nil] at ih ⊢; (first | lia | omega)
  refine comp_assignG (cl := []) (n_local S (.head _) hk (iter_list S (.tail _ hlk) fun it s2 S2 => ?_)) rfl (by decide)
  refine ⟨_, _, S2, run2 (li_walker (l := lk) (vs := kv)) (fun i m' out σ' ι' => i ≤ kv.size ∧ σ' = (L, nsP m) :: τ ∧ ι' = ι ∧ pcs ι out (twiceS (ks.take i)))
    (fun i m' out D acc σ' ι' hI => ?_) (fun i m' out D2 acc σ' ι1 ι2 v sq hi' hI hι hv Sq => ?_) (fun m' out acc σ' ι' hI => ?_) hA ⟨Nat.zero_le _, rfl, rfl, pcs.nil⟩⟩
  · obtain ⟨_, rfl, _⟩ := hI
    exact ⟨_, .tail _ (.tail _ (.tail _ hlk)), fun o => lstP_seq⟩
  · obtain ⟨h1, rfl, rfl, hout⟩ := hI
    have Sq := Sq.less hι
    obtain ⟨p, hpi⟩ : ∃ p, ks[i]? = some p := ⟨_, List.getElem?_eq_getElem (by (first | (refine rwP (hkv.1) ?_; try with_reducible rfl) | rw [hkv.1]); exact hi')⟩
    obtain ⟨w, hw, hpw⟩ := hkv.2 i p hpi
    have ew : w = v := Option.some.inj (hw.symm.trans hv)
    subst ew
    refine wpAny_assign_Name (n_store Sq (.tail .head) fun s4 S4 => ?_)
    refine range_lit (N := 2) X KA' S4 (by decide) fun it2 s5 S5 => ?_
    have S7 : SS C ((it2, riP 0 2 0) :: (D2, nsP (put m' "piece" w)) :: (acc, lstP out) :: (it, liP lk (i + 1)) :: ((L, nsP m) :: τ)) ι1 s5 := S5.perm (List.Perm.cons _ ((List.Perm.swap _ _ _).trans ((List.Perm.swap _ _ _).cons _)))
    refine ⟨it2, riP 0 2, 2, _, _, fun j m'' out' σ'' ι' => j ≤ 2 ∧ σ'' = (it, liP lk (i + 1)) :: ((L, nsP m) :: τ) ∧ ι' = ι1 ∧ m'' "piece" = some w ∧ pcs ι1 out' (twiceS (ks.take i) ++ List.replicate j p), _, ι1, _, rfl, S7,
      ⟨Nat.zero_le _, rfl, rfl, put_same, by simpa using hout⟩, ri_walker (x := 0) (n := 2), fun _ _ _ _ _ _ => trivial, fun j m'' out' σ'' ι' hj hI2 => ?_, fun j m'' out' σ'' ι3 ι4 v sr E hj hI2 hι2 hv Sr => ?_, fun m'' out' σ'' ι' hI2 => ?_⟩
    · obtain ⟨_, _, _, _, ho⟩ := hI2
      have h5 := ho.1
      have h6 : (ks.take i).length ≤ ks.length := by (first | (refine rwP (List.length_take) ?_; try with_reducible rfl) | rw [List.length_take]); (first | lia | omega)
      rw [List.length_append, hlen, List.length_replicate] at h5
      (first | (refine rwP (sizeLine_eq) ?_; try with_reducible rfl) | rw [sizeLine_eq]); (first | lia | omega)
    · obtain ⟨h3, rfl, rfl, hmp, ho⟩ := hI2
      have Sr := Sr.less hι2
      refine wpAny_assign_Name (n_store Sr (.tail .head) fun s7 S8 => ?_)
      refine n_local S8 (.tail _ (.head _)) ((put_ne (by decide)).trans hmp) ?_
      exact ⟨_, _, _, S8, hj, rfl, rfl, (put_ne (by decide)).trans hmp, pcs.app_snoc ho hpw⟩
    · obtain ⟨_, rfl, rfl, _, ho⟩ := hI2
      refine ⟨_, rfl, fun m3 => ⟨hi', rfl, rfl, ?_⟩⟩
      (first | (refine rwP (List.take_add_one) ?_; refine rwP (hpi) ?_; try with_reducible rfl) | rw [List.take_add_one, hpi])
      simpa [twiceS] using ho
  · obtain ⟨_, rfl, rfl, hout⟩ := hI
    rw [← hkv.1, List.take_length] at hout
    refine ⟨m, (acc, lstP out) :: (L, nsP (put m "twice" (.ref acc))) :: τ, .tail .head, fun s'' S'' => ?_⟩
    exact h acc out s'' S''.swap hout

theorem turn_b12 {L cS cA cM cT cX lc : Addr} {m : Str → Option Value} {cv : Array Value} {counts : List Nat} {t : Nat} {tt : Tok} {Q : Flow → Shared → Prop}
    (S : SS C ((L, nsP m) :: τ) ι s) (hc : m "counts" = some (.ref lc)) (hlc : (lc, lstP cv) ∈ τ) (hci : IntsAre cv.toList (natsI counts)) (h4 : counts.length = 4) (hcT : (cT, cellP (some (.int t tt))) ∈ τ)
    (h : ∀ le ev ι' s', ι ⊆ ι' → SS C ((L, nsP (put m "empty" (.ref le))) :: (le, lstP ev) :: τ) ι' s' → pcs ι' ev (List.replicate (emptyN counts t) emptyPiece) → Q .next s') :
    wpAny (model prg C.w) A (exec (turnS 11) (holdsEnv L cS cA cM cT cX)) Q E s := by
  have hcl : cv.size = 4 := by
    have := hci.length
    rw [natsI_length, Array.length_toList, h4] at this
    exact this
  have hat : ∀ i, i < 4 → ∃ t, cv[i]? = some (Value.int ((counts.getD i 0 : Nat) : Int) t) := fun i hi => by
    have e : cv[i]? = some (cv[i]'(by (first | lia | omega))) := Array.getElem?_eq_getElem (by (first | lia | omega))
    refine gen_P fun Pg kg => ?_
    obtain ⟨x, tx, hx, hx'⟩ := ints_at hci (i := i) (v := cv[i]'(by (first | lia | omega))) (by (first | (refine rwP (Array.getElem?_toList) ?_; try with_reducible rfl) | rw [Array.getElem?_toList]); exact e)
    obtain ⟨c, hc, rfl⟩ := natsI_at hx
    refine kg ?_
    clear kg
    exact ⟨tx, by (first | (refine rwP (e) ?_; refine rwP (hx') ?_; refine rwP (List.getD_eq_getElem?_getD) ?_; refine rwP (hc) ?_; try with_reducible rfl) | rw [e, hx', List.getD_eq_getElem?_getD, hc]); rfl⟩
  refine wpAny_Assign_Name (wpAny_BinOp (List_ (sp_cons (n_piece S fun v ι1 s1 h1 hv S1 => ?_))))
  refine sp_nil (n_newList S1 fun l0 s2 S2 => ?_)
  have fin : ∀ {N : Nat} {tk : Tok} {s' : Shared}, N = emptyN counts t → SS C ((l0, lstP [v].toArray) :: (L, nsP m) :: τ) ι1 s' →
      wpAny (model prg C.w) A (binaryOp .Mult (.ref l0) (.int (N : Nat) tk)) (fun v s₁ => wpAny (model prg C.w) A (storeName (holdsEnv L cS cA cM cT cX) "empty" v) (fun _ => Q .next) E s₁) E s' := fun {N tk s'} hN S' => by
    have hN8 : N ≤ 8 := by (first | (refine rwP (hN) ?_; try with_reducible rfl) | rw [hN]); unfold emptyN; split <;> (try split) <;> (first | lia | omega)
    refine mul_L S' (.head _) (by (first | lia | omega)) (by simp; (first | lia | omega)) fun r s3 S3 => ?_
    have er : (List.replicate N ([v].toArray : Array Value).toList).flatten.toArray = (List.replicate N v).toArray := by
      (first | (refine rwP (show ([v].toArray : Array Value).toList = [v] from rfl) ?_; refine rwP (rep_flat) ?_; try with_reducible rfl) | rw [show ([v].toArray : Array Value).toList = [v] from rfl, rep_flat])
    rw [er] at S3
    refine n_store S3 (.tail (.tail .head)) fun s4 S4 => ?_
    have S5 : SS C ((L, nsP (put m "empty" (.ref r))) :: (r, lstP (List.replicate N v).toArray) :: τ) ι1 s4 := (S4.sub (.cons₂ _ (.cons _ (List.Sublist.refl _)))).swap
    exact h r _ ι1 s4 h1 S5 (hN ▸ pcs_rep hv N)
  refine gen_P fun Pg kg => ?_
  obtain ⟨t3, e3⟩ := hat 3 (by decide)
  obtain ⟨t0, e0⟩ := hat 0 (by decide)
  refine kg ?_
  clear kg
  refine wpAny_IfExp (wpAny_isTrue_Compare1 (n_cell S2 rfl (.tail _ (.tail _ hcT)) (Subscript_ (n_local S2 (.tail _ (.head _)) hc (wpAny_Constant_int ?_)))))
  have S3 : SS C _ ι1 { s2 with toks := s2.toks + 1 } := S2
  have L3 := lst_like S3 (.tail _ (.tail _ hlc))
  refine like_tail L3 (like_int L3 (by decide) (by decide) e3 ?_) (fun q => wpAny_operating q)
  refine P.gt_int (wpAny_truthy_bool ?_)
  by_cases q3 : counts.getD 3 0 < t
  · (first | (refine rwP (decide_eq_true (show (t : Int) > ((counts.getD 3 0 : Nat) : Int) by (first | lia | omega))) ?_; try with_reducible rfl) | rw [decide_eq_true (show (t : Int) > ((counts.getD 3 0 : Nat) : Int) by (first | lia | omega))])
    (first | refine wpIf1 ?_ | simp only [if_true])
    refine wpAny_Constant_int (fin (N := 8) (by unfold emptyN; (first | (refine rwP (if_pos q3) ?_; try with_reducible rfl) | rw [if_pos q3])) S3)
  · (first | (refine rwP (decide_eq_false (show ¬ ((t : Int) > ((counts.getD 3 0 : Nat) : Int)) by (first | lia | omega))) ?_; try with_reducible rfl) | rw [decide_eq_false (show ¬ ((t : Int) > ((counts.getD 3 0 : Nat) : Int)) by (first | lia | omega))])
    (first | refine wpIf0 ?_ | simp only [Bool.false_eq_true, if_false])
    refine wpAny_IfExp (wpAny_isTrue_Compare1 (n_cell S3 rfl (.tail _ (.tail _ hcT)) (Subscript_ (n_local S3 (.tail _ (.head _)) hc (wpAny_Constant_int ?_)))))
    have S4 : SS C _ ι1 { s2 with toks := s2.toks + 1 + 1 } := S2
    have L4 := lst_like S4 (.tail _ (.tail _ hlc))
    refine like_tail L4 (like_int L4 (by decide) (by decide) e0 ?_) (fun q => wpAny_operating q)
    refine P.gt_int (wpAny_truthy_bool ?_)
    by_cases q0 : counts.getD 0 0 < t
    · (first | (refine rwP (decide_eq_true (show (t : Int) > ((counts.getD 0 0 : Nat) : Int) by (first | lia | omega))) ?_; try with_reducible rfl) | rw [decide_eq_true (show (t : Int) > ((counts.getD 0 0 : Nat) : Int) by (first | lia | omega))])
      (first | refine wpIf1 ?_ | simp only [if_true])
      refine wpAny_Constant_int (fin (N := 1) (by unfold emptyN; (first | (refine rwP (if_neg q3) ?_; refine rwP (if_pos q0) ?_; try with_reducible rfl) | rw [if_neg q3, if_pos q0])) S4)
    · (first | (refine rwP (decide_eq_false (show ¬ ((t : Int) > ((counts.getD 0 0 : Nat) : Int)) by (first | lia | omega))) ?_; try with_reducible rfl) | rw [decide_eq_false (show ¬ ((t : Int) > ((counts.getD 0 0 : Nat) : Int)) by (first | lia | omega))])
      (first | refine wpIf0 ?_ | simp only [Bool.false_eq_true, if_false])
      refine wpAny_Constant_int (fin (N := 0) (by unfold emptyN; (first | (refine rwP (if_neg q3) ?_; refine rwP (if_neg q0) ?_; try with_reducible rfl) | rw [if_neg q3, if_neg q0])) S4)

/-- a tuple of two lists of pieces, read -/
theorem reads_pair {t l1 l2 : Addr} {v1 v2 : Array Value} {p1 p2 : List (Str × Str)} (S : SS C σ ι s) (ht : (t, pieceObj (.ref l1) (.ref l2)) ∈ ι) (h1 : (l1, lstP v1) ∈ σ) (h2 : (l2, lstP v2) ∈ σ) (x1 : pcs ι v1 p1) (x2 : pcs ι v2 p2) :
    ∃ as, Reads s.heap (.ref t) (.tuple [.list (p1.map pieceD), .list (p2.map pieceD)]) as := by
  obtain ⟨a1, r1⟩ := reads_pieces S h1 x1
  obtain ⟨a2, r2⟩ := reads_pieces S h2 x2
  exact ⟨_, .tuple (S.tup ht) rfl rfl (.cons r1 (.cons r2 .nil))⟩
theorem okD_pair {p1 p2 : List (Str × Str)} (h1 : ∀ p ∈ p1, goodP p) (h2 : ∀ p ∈ p2, goodP p) : okD 4 (.tuple [.list (p1.map pieceD), .list (p2.map pieceD)]) := okD_tuple fun d hd => by
  rcases List.mem_cons.mp hd with rfl | hd
  · exact okD_pieces h1
  · (first | (refine rwP (List.mem_singleton.mp hd) ?_; try with_reducible rfl) | rw [List.mem_singleton.mp hd]); exact okD_pieces h2

theorem turn_b13 {n : Nat} {L cS cA cM cT cX row lw : Addr} {m : Str → Option Value} {vr wv : Array Value} {rs ws : List (Str × Str)} {t : Nat} {tt : Tok} {Q : Flow → Shared → Prop} {dr : Addr}
    (X : CxOk C) (KK : AllK C.K) (KS' : KSld C.K) (KP' : KPart C.K) (KH : KHolds C.K) (R : Room (n + 2) A) (hn : 4 ≤ n) (hin : FrIn A ((L, nsP m) :: τ)) (S : SS C ((L, nsP m) :: τ) ι s)
    (hr : m "row" = some (.ref row)) (hrow : (row, accP dr vr) ∈ τ) (hrv : pcs ι vr rs) (hw : m "twice" = some (.ref lw)) (hlw : (lw, lstP wv) ∈ τ) (hwv : pcs ι wv ws) (hcT : (cT, cellP (some (.int t tt))) ∈ τ)
    (hgr : ∀ p ∈ rs, goodP p) (hgw : ∀ p ∈ ws, goodP p) (hzr : rs.length ≤ 1000000) (hzw : ws.length ≤ 1000000)
    (h : ∀ l1 l2 tt v1 v2 ι' s', ι ⊆ ι' → (tt, pieceObj (.ref l1) (.ref l2)) ∈ ι' → SS C ((L, nsP (put m "told" (.ref tt))) :: (l1, lstP v1) :: (l2, lstP v2) :: τ) ι' s' → pcs ι' v1 (partedS t rs ws).1 → pcs ι' v2 (partedS t rs ws).2 → Q .next s') :
    wpAny (model prg C.w) A (exec (turnS 12) (holdsEnv L cS cA cM cT cX)) Q E s := by
  refine wpAny_Assign_Name (Call_ (n_global X S KH.gPart ?_))
  refine n_callF X KP'.fPart (sp_cons (n_local S (.head _) hr (sp_cons (n_local S (.head _) hw (sp_cons (n_cell S rfl (.tail _ hcT) (sp_nil ⟨⟨_, _, S⟩, ?_⟩)))))))
  refine parted_c (n := n) X KS' KP' R hn hin S (RowK.acc X KK (.tail _ hrow)) (RowK.lst (.tail _ hlw)) hrv hwv hgr hgw hzr hzw fun l1 l2 tt v1 v2 ι' s1 h1 htt S1 x1 x2 => ?_
  refine n_store S1 (.tail (.tail .head)) fun s2 S2 => ?_
  exact h l1 l2 tt v1 v2 ι' s2 h1 htt (S2.perm (List.perm_middle (l₁ := [(l1, lstP v1), (l2, lstP v2)]))) x1 x2

theorem turn_b14 {n : Nat} {L cS cA cM cT cX t l1 l2 lr le : Addr} {m : Str → Option Value} {v1 v2 rv ev : Array Value} {p1 p2 q1 q2 : List (Str × Str)} {Q : Flow → Shared → Prop}
    (R : Room n A) (S : SS C ((L, nsP m) :: τ) ι s) (ht : m "told" = some (.ref t)) (htt : (t, pieceObj (.ref l1) (.ref l2)) ∈ ι) (hl1 : (l1, lstP v1) ∈ τ) (hl2 : (l2, lstP v2) ∈ τ) (x1 : pcs ι v1 p1) (x2 : pcs ι v2 p2)
    (hr : m "rest" = some (.ref lr)) (hlr : (lr, lstP rv) ∈ τ) (y1 : pcs ι rv q1) (he : m "empty" = some (.ref le)) (hle : (le, lstP ev) ∈ τ) (y2 : pcs ι ev q2) (e1 : p1 = q1) (e2 : p2 = q2) (g1 : ∀ p ∈ p1, goodP p) (g2 : ∀ p ∈ p2, goodP p)
    (h : ∀ s', SS C ((L, nsP m) :: τ) ι s' → Q .next s') : wpAny (model prg C.w) A (exec (turnS 13) (holdsEnv L cS cA cM cT cX)) Q E s := by
  refine wpAny_If (wpAny_isTrue_Compare1 (n_local S (.head _) ht ?_))
  refine Tuple_ (sp_cons (n_local S (.head _) hr (sp_cons (n_local S (.head _) he (sp_nil (wpAny_newTuple ?_))))))
  have S1 : SS C ((L, nsP m) :: τ) ((s.heap.objs.size, pieceObj (.ref lr) (.ref le)) :: ι) { s with heap := s.heap.push (pieceObj (.ref lr) (.ref le)) } := S.allocT (o := pieceObj (.ref lr) (.ref le)) rfl (pieceObj_tup _ _)
  have hι : ι ⊆ (s.heap.objs.size, pieceObj (.ref lr) (.ref le)) :: ι := fun _ h => .tail _ h
  obtain ⟨a1, r1⟩ := reads_pair S1 (.tail _ htt) (.tail _ hl1) (.tail _ hl2) (x1.mono hι) (x2.mono hι)
  obtain ⟨a2, r2⟩ := reads_pair S1 (.head _) (.tail _ hlr) (.tail _ hle) (y1.mono hι) (y2.mono hι)
  refine ne_same r1 r2 (by (first | (refine rwP (e1) ?_; refine rwP (e2) ?_; try with_reducible rfl) | rw [e1, e2])) (okD_pair g1 g2) (by decide) R.cmp (wpAny_truthy_bool ?_)
  (first | refine wpIf0 ?_ | simp only [Bool.false_eq_true, if_false])
  exact wpAny_execs_nil (h _ (S1.less hι))
end
end Mine
end Part65
section Part66
set_option tactic.hygienic false
open PySem PySem.W PySem.W.X PySem.Calls PyProof.Rows
set_option maxRecDepth 100000
namespace Mine

noncomputable def lowP : List (Str × Str) := [("y", "")]
noncomputable def highP : List (Str × Str) := [("z", ""), ("z", ""), ("z", "z")]
noncomputable def addRow (t : Nat) : List (Str × Str) := if t < 3 then lowP ++ lowP else highP
noncomputable def addTwice (t : Nat) : List (Str × Str) := if t < 3 then highP else lowP ++ lowP
noncomputable def moreP (t : Nat) : List (Str × Str) := if t < 3 then lowP else highP
noncomputable def lessP (t : Nat) : List (Str × Str) := if t < 3 then highP else lowP

section
variable {C : Cx} {σ σ' τ : Led} {ι ι' : Imm} {A : Around} {s : Shared} {E : Value → Shared → Prop} {a dx l b : Addr} {vs us items : Array Value}

set_option maxHeartbeats 4000000 in
theorem turn_b15 {L cS cA cM cT cX : Addr} {m : Str → Option Value} {Q : Flow → Shared → Prop} (hA : A.handled = none)
    (S : SS C ((L, nsP m) :: τ) ι s)
    (h : ∀ ll lh lv hv ι' s', ι ⊆ ι' → SS C ((L, nsP (put (put m "high" (.ref lh)) "low" (.ref ll))) :: (lh, lstP hv) :: (ll, lstP lv) :: τ) ι' s' → pcs ι' lv lowP → pcs ι' hv highP → Q .next s') :
    wpAny (model prg C.w) A (exec (turnS 14) (holdsEnv L cS cA cM cT cX)) Q E s := by
  refine Assign_Tuple_swapped (names := [("low" : Str), ("high" : Str)]) ?_ ?_ ?_
  rotate_left
  · rfl
  · rfl
  refine Tuple_ ?_
  refine sp_cons ?_
  refine List_ ?_
  refine sp_cons ?_
  refine @n_piece _ ?sg1 ?io1 _ _ _ _ _ _ _ _ _ _ _ _ _ ?hS1 ?hK1
  case hS1 => exact S
  intro v1 ι1 s1 h1 hv1 S1
  refine sp_nil (n_newList S1 fun ll s2 S2 => ?_)
  refine sp_cons ?_
  refine List_ ?_
  refine sp_cons ?_
  refine @n_piece _ ?sg2 ?io2 _ _ _ _ _ _ _ _ _ _ _ _ _ ?hS2 ?hK2
  case hS2 => exact S2
  intro v2 ι2 s3 h2 hv2 S3
  refine sp_cons ?_
  refine @n_piece _ ?sg3 ?io3 _ _ _ _ _ _ _ _ _ _ _ _ _ ?hS3 ?hK3
  case hS3 => exact S3
  intro v3 ι3 s4 h3 hv3 S4
  refine sp_cons ?_
  refine @n_piece _ ?sg4 ?io4 _ _ _ _ _ _ _ _ _ _ _ _ _ ?hS4 ?hK4
  case hS4 => exact S4
  intro v4 ι4 s5 h4 hv4 S5
  refine sp_nil (n_newList S5 fun lh s6 S6 => sp_nil (wpAny_newTuple ?_))
  have S7 : SS C ((lh, lstP [v2, v3, v4].toArray) :: (ll, lstP [v1].toArray) :: (L, nsP m) :: τ) ((s6.heap.objs.size, pieceObj (.ref ll) (.ref lh)) :: ι4) { s6 with heap := s6.heap.push (pieceObj (.ref ll) (.ref lh)) } := S6.allocT (o := pieceObj (.ref ll) (.ref lh)) rfl (pieceObj_tup _ _)
  refine unpackItems_tuple (items := #[.ref ll, .ref lh]) hA ⟨_, S7.tup (.head _), rfl, _, rfl⟩ fun h' hk => ?_
  have S8 : SS C ((lh, lstP [v2, v3, v4].toArray) :: (ll, lstP [v1].toArray) :: (L, nsP m) :: τ) ι4 { s6 with heap := h' } := (S7.kept (h' := h') fun b o e => hk b o (Nat.ne_of_lt (Heap.lt_size e)) e).less fun _ h => .tail _ h
  generalize ({ s6 with heap := h' } : Shared) = s7 at S8
  show wpAny _ _ (assignInOrder [fun v => bindName (holdsEnv L cS cA cM cT cX) "high" v, fun v => bindName (holdsEnv L cS cA cM cT cX) "low" v] [.ref lh, .ref ll]) _ _ _
  unfold assignInOrder
  refine wpAny_bind (wpAny_holding (wpAny_bindName (n_store (env := holdsEnv L cS cA cM cT cX) (x := "high") S8 (.tail (.tail .head)) fun s8 S9 => ?_)))
  unfold assignInOrder
  refine wpAny_bind (wpAny_holding (wpAny_bindName (n_store (env := holdsEnv L cS cA cM cT cX) (x := "low") S9 (.tail (.tail .head)) fun s9 S10 => ?_)))
  unfold assignInOrder
  refine wpAny_pure ?_
  have i1 : ι1 ⊆ ι4 := fun _ h => h4 (h3 (h2 h))
  refine h ll lh [v1].toArray [v2, v3, v4].toArray ι4 s9 (fun _ h => i1 (h1 h)) (S10.perm (List.perm_middle (l₁ := [(lh, lstP [v2, v3, v4].toArray), (ll, lstP [v1].toArray)]))) ?_ ?_
  · exact (pcs.nil.push (hv1.mono i1))
  · exact ((pcs.nil.push (hv2.mono fun _ h => h4 (h3 h))).push (hv3.mono h4)).push hv4

theorem turn_b16 {L cS cA cM cT cX ll lh : Addr} {m : Str → Option Value} {t : Nat} {tt : Tok} {Q : Flow → Shared → Prop} (hA : A.handled = none)
    (S : SS C ((L, nsP m) :: τ) ι s) (hl : m "low" = some (.ref ll)) (hh : m "high" = some (.ref lh)) (hcT : (cT, cellP (some (.int t tt))) ∈ τ)
    (h : ∀ m' s', (if t < 3 then m' "more" = some (.ref ll) ∧ m' "less" = some (.ref lh) else m' "more" = some (.ref lh) ∧ m' "less" = some (.ref ll)) → (∀ x, (x == ("more" : Str)) = false → (x == ("less" : Str)) = false → m' x = m x) → SS C ((L, nsP m') :: τ) ι s' → Q .next s') :
    wpAny (model prg C.w) A (exec (turnS 15) (holdsEnv L cS cA cM cT cX)) Q E s := by
  refine Assign_Tuple (wpAny_IfExp (wpAny_isTrue_Compare1 (n_cell S rfl (.tail _ hcT) (wpAny_Constant_int (P.lt_int (wpAny_truthy_bool ?_))))))
  have S1 : SS C ((L, nsP m) :: τ) ι { s with toks := s.toks + 1 } := S
  have fin : ∀ {x y : Addr}, (∀ m' s', m' "more" = some (.ref x) ∧ m' "less" = some (.ref y) → (∀ x, (x == ("more" : Str)) = false → (x == ("less" : Str)) = false → m' x = m x) → SS C ((L, nsP m') :: τ) ι s' → Q .next s') →
      SS C ((L, nsP m) :: τ) ((s.heap.objs.size, pieceObj (.ref x) (.ref y)) :: ι) { s with toks := s.toks + 1, heap := s.heap.push (pieceObj (.ref x) (.ref y)) } →
      wpAny (model prg C.w) A (assign (.Tuple [.Name "more" ⟨141, 8, 141, 12⟩, .Name "less" ⟨141, 14, 141, 18⟩] 0 ⟨141, 8, 141, 18⟩) (holdsEnv L cS cA cM cT cX) (.ref s.heap.objs.size)) (fun _ => Q .next) E { s with toks := s.toks + 1, heap := s.heap.push (pieceObj (.ref x) (.ref y)) } := fun {x y} k S2 => by
    refine assign_pair S2 hA (.head _) .head .head fun s3 S3 => ?_
    exact k _ s3 ⟨rfl, rfl⟩ (fun z z1 z2 => by (first | (refine rwP (put_ne z2) ?_; refine rwP (put_ne z1) ?_; try with_reducible rfl) | rw [put_ne z2, put_ne z1])) (S3.less fun _ h => .tail _ h)
  by_cases q : t < 3
  · (first | (refine rwP (decide_eq_true (show (t : Int) < 3 by omega)) ?_; try with_reducible rfl) | rw [decide_eq_true (show (t : Int) < 3 by omega)])
    (first | refine wpIf1 ?_ | simp only [if_true])
    simp only [q, if_true] at h
    refine Tuple_ (sp_cons (n_local S1 (.head _) hl (sp_cons (n_local S1 (.head _) hh (sp_nil (wpAny_newTuple ?_))))))
    exact fin h (S1.allocT (o := pieceObj (.ref ll) (.ref lh)) rfl (pieceObj_tup _ _))
  · (first | (refine rwP (decide_eq_false (show ¬ ((t : Int) < 3) by omega)) ?_; try with_reducible rfl) | rw [decide_eq_false (show ¬ ((t : Int) < 3) by omega)])
    (first | refine wpIf0 ?_ | simp only [Bool.false_eq_true, if_false])
    simp only [q, if_false] at h
    refine Tuple_ (sp_cons (n_local S1 (.head _) hh (sp_cons (n_local S1 (.head _) hl (sp_nil (wpAny_newTuple ?_))))))
    exact fin h (S1.allocT (o := pieceObj (.ref lh) (.ref ll)) rfl (pieceObj_tup _ _))
end
end Mine
end Part66
section Part67
set_option tactic.hygienic false
open PySem PySem.W PySem.W.X PySem.Calls PyProof.Rows
set_option maxRecDepth 100000
namespace Mine

section
variable {C : Cx} {σ σ' τ : Led} {ι ι' : Imm} {A : Around} {s : Shared} {E : Value → Shared → Prop} {a dx l b : Addr} {vs us items : Array Value}

theorem pcs_two {vs : Array Value} {ps : List (Str × Str)} (x : pcs ι vs ps) : pcs ι (List.replicate 2 vs.toList).flatten.toArray (ps ++ ps) := by
  have e : (List.replicate 2 vs.toList).flatten.toArray = vs ++ vs := by simp [List.replicate]
  (first | (refine rwP (e) ?_; try with_reducible rfl) | rw [e])
  exact x.app x

/-- low * 2 if turn < 3 else high, or the other way round: a list at hand -/
theorem pick_list {L cS cA cM cT cX ll lh : Addr} {m : Str → Option Value} {lv hv : Array Value} {t : Nat} {tt : Tok} {p1 p2 p3 p4 p5 p6 p7 p8 : Pos} {Q : Value → Shared → Prop}
    (S : SS C ((L, nsP m) :: τ) ι s) (hl : m "low" = some (.ref ll)) (hll : (ll, lstP lv) ∈ τ) (hlv : pcs ι lv lowP) (hh : m "high" = some (.ref lh)) (hlh : (lh, lstP hv) ∈ τ) (hhv : pcs ι hv highP) (hcT : (cT, cellP (some (.int t tt))) ∈ τ)
    (h : ∀ l' v' junk s', SS C ((L, nsP m) :: (junk ++ τ)) ι s' → (l', lstP v') ∈ junk ++ τ → (junk = [] ∧ (l', lstP v') = (lh, lstP hv) ∨ junk = [(l', lstP v')]) → pcs ι v' (addRow t) → Q (.ref l') s') :
    wpAny (model prg C.w) A (eval (.IfExp (.Compare (.Name "turn" p1) [.Lt] [.Constant (.int 3) 0 p2] p3) (.BinOp (.Name "low" p4) .Mult (.Constant (.int 2) 0 p5) p6) (.Name "high" p7) p8) (holdsEnv L cS cA cM cT cX)) Q E s := by
  refine wpAny_IfExp (wpAny_isTrue_Compare1 (n_cell S rfl (.tail _ hcT) (wpAny_Constant_int (P.lt_int (wpAny_truthy_bool ?_)))))
  have S1 : SS C ((L, nsP m) :: τ) ι { s with toks := s.toks + 1 } := S
  by_cases q : t < 3
  · (first | (refine rwP (decide_eq_true (show (t : Int) < 3 by (first | lia | omega))) ?_; try with_reducible rfl) | rw [decide_eq_true (show (t : Int) < 3 by (first | lia | omega))])
    (first | refine wpIf1 ?_ | simp only [if_true])
    refine wpAny_BinOp (n_local S1 (.head _) hl (wpAny_Constant_int ?_))
    have S2 : SS C ((L, nsP m) :: τ) ι { s with toks := s.toks + 1 + 1 } := S
    have hz : lv.size = 1 := by (first | (refine rwQ (hlv.1) ?_; try with_reducible rfl) | rw [← hlv.1]); rfl
    refine mul_L (x := 2) S2 (.tail _ hll) (by decide) (by (first | lia | omega)) fun r s3 S3 => ?_
    have e : addRow t = lowP ++ lowP := by unfold addRow; (first | (refine rwP (if_pos q) ?_; try with_reducible rfl) | rw [if_pos q])
    exact h r _ [_] s3 S3.swap (.head _) (.inr rfl) (e ▸ pcs_two hlv)
  · (first | (refine rwP (decide_eq_false (show ¬ ((t : Int) < 3) by (first | lia | omega))) ?_; try with_reducible rfl) | rw [decide_eq_false (show ¬ ((t : Int) < 3) by (first | lia | omega))])
    (first | refine wpIf0 ?_ | simp only [Bool.false_eq_true, if_false])
    refine n_local S1 (.head _) hh ?_
    have e : addRow t = highP := by unfold addRow; (first | (refine rwP (if_neg q) ?_; try with_reducible rfl) | rw [if_neg q])
    exact h lh hv [] _ S1 hlh (.inl ⟨rfl, rfl⟩) (e ▸ hhv)

theorem turn_b17 {n : Nat} {L cS cA cM cT cX ll lh row dr : Addr} {m : Str → Option Value} {lv hv vr : Array Value} {rs : List (Str × Str)} {t : Nat} {tt : Tok} {τf : Array Value → Led} {Q : Flow → Shared → Prop}
    (X : CxOk C) (KK : AllK C.K) (R : Room (n + 1) A) (S : SS C ((L, nsP m) :: τf vr) ι s) (hr : m "row" = some (.ref row)) (hu : ∀ v w, Upd row (accP dr v) (accP dr w) (τf v) (τf w)) (hdr : ∀ v, (dr, szP 0) ∈ τf v) (hrv : pcs ι vr rs) (hrz : rs.length ≤ 100000)
    (hl : m "low" = some (.ref ll)) (hll : ∀ v, (ll, lstP lv) ∈ τf v) (hlv : pcs ι lv lowP) (hh : m "high" = some (.ref lh)) (hlh : ∀ v, (lh, lstP hv) ∈ τf v) (hhv : pcs ι hv highP) (hcT : ∀ v, (cT, cellP (some (.int t tt))) ∈ τf v)
    (h : ∀ m' vr' ι' s', ι ⊆ ι' → (∀ x, (x == ("piece" : Str)) = false → m' x = m x) → SS C ((L, nsP m') :: τf vr') ι' s' → pcs ι' vr' (rs ++ addRow t) → Q .next s') :
    wpAny (model prg C.w) A (exec (turnS 16) (holdsEnv L cS cA cM cT cX)) Q E s := by
  refine wpAny_For ?_
  refine pick_list S hl (hll _) hlv hh (hlh _) hhv (hcT _) fun l' v' junk s1 S1 hmem hj hv' => ?_
  have hmem' : ∀ w, (l', lstP v') ∈ junk ++ τf w := fun w => by
    rcases hj with ⟨rfl, e⟩ | rfl
    · (first | (refine rwP (List.nil_append) ?_; refine rwP (e) ?_; try with_reducible rfl) | rw [List.nil_append, e]); exact hlh w
    · exact .head _
  refine iter_list S1 (.tail _ hmem) fun it s2 S2 => ?_
  have hlen : (addRow t).length ≤ 3 := by unfold addRow; split <;> decide
  refine for_w (li_walker (l := l') (vs := v')) (fun i σ' ι' => i ≤ v'.size ∧ Ex2 fun m' vr' => And4 (σ' = (L, nsP m') :: (junk ++ τf vr')) (ι ⊆ ι') ((∀ x, (x == ("piece" : Str)) = false → m' x = m x)) (pcs ι' vr' (rs ++ (addRow t).take i)))
    (fun i σ' ι' hI => ?_) (fun i σ' ι1 ι2 w sq hi hI hι hw Sq => ?_) (fun σ' ι1 sq hI Sq => ?_) R.h S2 ⟨Nat.zero_le _, m, vr, rfl, fun _ h => h, fun _ _ => rfl, by simpa using hrv⟩
  · refine gen_P fun Pg kg => ?_
    obtain ⟨_, m', vr', rfl, _⟩ := hI
    refine kg ?_
    clear kg
    exact ⟨_, .tail _ (hmem' _), fun o => lstP_seq⟩
  · refine gen_P fun Pg kg => ?_
    obtain ⟨h1, m', vr', rfl, hιι, hm', hp'⟩ := hI
    refine kg ?_
    clear kg
    obtain ⟨p, hpi⟩ : ∃ p, (addRow t)[i]? = some p := ⟨_, List.getElem?_eq_getElem (by (first | (refine rwP (hv'.1) ?_; try with_reducible rfl) | rw [hv'.1]); exact hi)⟩
    obtain ⟨w', hw', hpw⟩ := hv'.2 i p hpi
    have ew : w' = w := Option.some.inj (hw'.symm.trans hw)
    subst ew
    refine wpAny_assign_Name (n_store Sq (.tail .head) fun s4 S4 => ?_)
    refine wpAny_execs_cons (wpAny_Expr_any ?_)
    have hsz : vr'.size ≤ sizeLine := by
      have := hp'.1
      have h6 : ((addRow t).take i).length ≤ (addRow t).length := by (first | (refine rwP (List.length_take) ?_; try with_reducible rfl) | rw [List.length_take]); (first | lia | omega)
      rw [List.length_append] at this
      (first | (refine rwP (sizeLine_eq) ?_; try with_reducible rfl) | rw [sizeLine_eq]); (first | lia | omega)
    refine star_push X KK.A KK.G R S4 (.tail _ (.head _)) ((put_ne (by decide)).trans ((hm' _ (by decide)).trans hr)) put_same (.tail _ (.tail _ (List.mem_append_right _ (hdr vr')))) (fun v => .tail (.tail (Upd.app (hu vr' (vr'.push v))))) (hpw.mono fun _ h => hι (hιι h)) hsz fun v3 ι3 s5 h3 hv3 S5 => ?_
    refine wpAny_execs_nil ⟨_, ι3, S5, hi, _, vr'.push v3, rfl, fun _ h => h3 (hι (hιι h)), fun x hx => (put_ne hx).trans (hm' x hx), ?_⟩
    exact pcs.app_snoc2 (hp'.mono fun _ h => h3 (hι h)) hpi hv3
  · refine gen_P fun Pg kg => ?_
    obtain ⟨_, m', vr', rfl, hιι, hm', hp'⟩ := hI
    refine kg ?_
    clear kg
    rw [← hv'.1, List.take_length] at hp'
    refine wpAny_execs_nil (h m' vr' ι1 sq hιι hm' (Sq.sub (.cons₂ _ (List.sublist_append_right _ _))) hp')

/-- high if turn < 3 else low * 2 -/
theorem turn_b18 {L cS cA cM cT cX ll lh lw : Addr} {m : Str → Option Value} {lv hv wv : Array Value} {ws : List (Str × Str)} {t : Nat} {tt : Tok} {τf : Array Value → Led} {Q : Flow → Shared → Prop}
    (S : SS C ((L, nsP m) :: τf wv) ι s) (hw : m "twice" = some (.ref lw)) (hu : ∀ v, Upd lw (lstP wv) (lstP v) (τf wv) (τf v)) (hwv : pcs ι wv ws) (hwz : ws.length ≤ 100000)
    (hl : m "low" = some (.ref ll)) (hll : (ll, lstP lv) ∈ τf wv) (hlv : pcs ι lv lowP) (hh : m "high" = some (.ref lh)) (hlh : (lh, lstP hv) ∈ τf wv) (hhv : pcs ι hv highP) (hcT : (cT, cellP (some (.int t tt))) ∈ τf wv)
    (h : ∀ wv' s', SS C ((L, nsP m) :: τf wv') ι s' → pcs ι wv' (ws ++ addTwice t) → Q .next s') :
    wpAny (model prg C.w) A (exec (turnS 17) (holdsEnv L cS cA cM cT cX)) Q E s := by
  have hz : 2000000 ≤ sizeLine := by (first | (refine rwP (sizeLine_eq) ?_; try with_reducible rfl) | rw [sizeLine_eq]); (first | lia | omega)
  have hws := hwv.1
  refine wpAny_Expr_any (n_extend S (.head _) hw (.tail _ (hu wv).mem) ?_)
  refine wpAny_IfExp (wpAny_isTrue_Compare1 (n_cell S rfl (.tail _ hcT) (wpAny_Constant_int (P.lt_int (wpAny_truthy_bool ?_)))))
  have S1 : SS C ((L, nsP m) :: τf wv) ι { s with toks := s.toks + 1 } := S
  by_cases q : t < 3
  · (first | (refine rwP (decide_eq_true (show (t : Int) < 3 by (first | lia | omega))) ?_; try with_reducible rfl) | rw [decide_eq_true (show (t : Int) < 3 by (first | lia | omega))])
    (first | refine wpIf1 ?_ | simp only [if_true])
    refine n_local S1 (.head _) hh ?_
    have hz3 : hv.size = 3 := by (first | (refine rwQ (hhv.1) ?_; try with_reducible rfl) | rw [← hhv.1]); rfl
    have e : addTwice t = highP := by unfold addTwice; (first | (refine rwP (if_pos q) ?_; try with_reducible rfl) | rw [if_pos q])
    refine ⟨lh, hv, _, _, _, rfl, S1, .tail (hu _), .tail _ hlh, by (first | lia | omega), fun s3 S3 => ?_⟩
    exact h _ s3 S3 (by (first | (refine rwP (e) ?_; try with_reducible rfl) | rw [e]); exact hwv.app hhv)
  · (first | (refine rwP (decide_eq_false (show ¬ ((t : Int) < 3) by (first | lia | omega))) ?_; try with_reducible rfl) | rw [decide_eq_false (show ¬ ((t : Int) < 3) by (first | lia | omega))])
    (first | refine wpIf0 ?_ | simp only [Bool.false_eq_true, if_false])
    refine wpAny_BinOp (n_local S1 (.head _) hl (wpAny_Constant_int ?_))
    have S2 : SS C ((L, nsP m) :: τf wv) ι { s with toks := s.toks + 1 + 1 } := S
    have hz1 : lv.size = 1 := by (first | (refine rwQ (hlv.1) ?_; try with_reducible rfl) | rw [← hlv.1]); rfl
    have e : addTwice t = lowP ++ lowP := by unfold addTwice; (first | (refine rwP (if_neg q) ?_; try with_reducible rfl) | rw [if_neg q])
    refine mul_L (x := 2) S2 (.tail _ hll) (by decide) (by (first | lia | omega)) fun r s3 S3 => ?_
    refine ⟨r, _, _, _, _, rfl, S3, .tail (.tail (hu _)), .head _, ?_, fun s4 S4 => ?_⟩
    · have : (List.replicate 2 lv.toList).flatten.toArray.size = 2 := by
        have := (pcs_two hlv).1
        (first | (refine rwQ (this) ?_; try with_reducible rfl) | rw [← this]); rfl
      (first | lia | omega)
    · exact h _ s4 S4.tl (by (first | (refine rwP (e) ?_; try with_reducible rfl) | rw [e]); exact hwv.app (pcs_two hlv))
end
end Mine
end Part67
section Part68
set_option tactic.hygienic false
open PySem PySem.W PySem.W.X PySem.Calls PyProof.Rows
set_option maxRecDepth 100000
namespace Mine

section
variable {C : Cx} {σ σ' τ : Led} {ι ι' : Imm} {A : Around} {s : Shared} {E : Value → Shared → Prop} {a dx l b : Addr} {vs us items : Array Value}

theorem turn_b19 {n : Nat} {L cS cA cM cT cX row lw dr lr lmo le lle : Addr} {m : Str → Option Value} {vr wv rv mv ev lv : Array Value} {rs ws p1 p2 q1 q2 : List (Str × Str)} {t : Nat} {tt : Tok} {Q : Flow → Shared → Prop}
    (X : CxOk C) (KK : AllK C.K) (KS' : KSld C.K) (KP' : KPart C.K) (KH : KHolds C.K) (R : Room (n + 2) A) (hn : 4 ≤ n) (hin : FrIn A ((L, nsP m) :: τ)) (S : SS C ((L, nsP m) :: τ) ι s)
    (hr : m "row" = some (.ref row)) (hrow : (row, accP dr vr) ∈ τ) (hrv : pcs ι vr rs) (hw : m "twice" = some (.ref lw)) (hlw : (lw, lstP wv) ∈ τ) (hwv : pcs ι wv ws) (hcT : (cT, cellP (some (.int t tt))) ∈ τ)
    (hgr : ∀ p ∈ rs, goodP p) (hgw : ∀ p ∈ ws, goodP p) (hzr : rs.length ≤ 100000) (hzw : ws.length ≤ 100000)
    (h1 : m "rest" = some (.ref lr)) (hlr : (lr, lstP rv) ∈ τ) (y1 : pcs ι rv p1) (h2 : m "more" = some (.ref lmo)) (hlm : (lmo, lstP mv) ∈ τ) (y2 : pcs ι mv q1)
    (h3 : m "empty" = some (.ref le)) (hle : (le, lstP ev) ∈ τ) (y3 : pcs ι ev p2) (h4 : m "less" = some (.ref lle)) (hlle : (lle, lstP lv) ∈ τ) (y4 : pcs ι lv q2)
    (z1 : p1.length ≤ 100000) (z2 : q1.length ≤ 100000) (z3 : p2.length ≤ 100000) (z4 : q2.length ≤ 100000) (g1 : ∀ p ∈ (partedS t rs ws).1, goodP p) (g2 : ∀ p ∈ (partedS t rs ws).2, goodP p)
    (e1 : (partedS t rs ws).1 = p1 ++ q1) (e2 : (partedS t rs ws).2 = p2.take 1 ++ q2)
    (h : ∀ ι' s', ι ⊆ ι' → SS C ((L, nsP m) :: τ) ι' s' → Q .next s') :
    wpAny (model prg C.w) A (exec (turnS 18) (holdsEnv L cS cA cM cT cX)) Q E s := by
  have hz : 2000000 ≤ sizeLine := by (first | (refine rwP (sizeLine_eq) ?_; try with_reducible rfl) | rw [sizeLine_eq]); (first | lia | omega)
  have s1 := y1.1
  have s2 := y2.1
  have s3 := y3.1
  have s4 := y4.1
  refine wpAny_If (wpAny_isTrue_Compare1 (Call_ (n_global X S KH.gPart ?_)))
  refine n_callF X KP'.fPart (sp_cons (n_local S (.head _) hr (sp_cons (n_local S (.head _) hw (sp_cons (n_cell S rfl (.tail _ hcT) (sp_nil ⟨⟨_, _, S⟩, ?_⟩)))))))
  refine parted_c (n := n) X KS' KP' R hn hin S (RowK.acc X KK (.tail _ hrow)) (RowK.lst (.tail _ hlw)) hrv hwv hgr hgw (by (first | lia | omega)) (by (first | lia | omega)) fun l1 l2 tt v1 v2 ι' s5 h5 htt S5 x1 x2 => ?_
  refine Tuple_ (sp_cons (wpAny_BinOp (n_local S5 (.tail _ (.tail _ (.head _))) h1 (n_local S5 (.tail _ (.tail _ (.head _))) h2 ?_))))
  refine add_L S5 (.tail _ (.tail _ (.tail _ hlr))) (.tail _ (.tail _ (.tail _ hlm))) (fun la s6 S6 => ?_) (by (first | lia | omega))
  refine sp_cons (wpAny_BinOp (Subscript_ (n_local S6 (.tail _ (.tail _ (.tail _ (.head _)))) h3 ?_)))
  refine n_slice2 (vu := .int 1 s6.toks) (evalPart_some_step (wpAny_Constant_int ⟨rfl, _, _, (show SS C ((la, lstP (rv ++ mv)) :: (l1, lstP v1) :: (l2, lstP v2) :: (L, nsP m) :: τ) ι' { s6 with toks := s6.toks + 1 } from S6), fun sl s7 S7 hsl => ?_⟩))
  have L7 := lst_like S7 (.tail _ (.tail _ (.tail _ (.tail _ hle))))
  refine like_tail L7 (like_slice L7 hsl .none (.int 1 s6.toks) .none (by simp) ?_ (by (first | lia | omega))) (fun q => wpAny_operating q)
  have ep : slicePick ev none (some 1) none = (ev.toList.take 1).toArray := pick_take ev 1
  (first | (refine rwP (ep) ?_; try with_reducible rfl) | rw [ep])
  have S8 := newL (xs := (ev.toList.take 1).toArray) S7
  generalize s7.heap.objs.size = lb at S8 ⊢
  refine n_local S8 (.tail _ (.tail _ (.tail _ (.tail _ (.head _))))) h4 ?_
  refine add_L S8 (.head _) (.tail _ (.tail _ (.tail _ (.tail _ (.tail _ hlle))))) (fun lc s9 S9 => ?_) (by simp; (first | lia | omega))
  refine sp_nil (wpAny_newTuple ?_)
  have S10 : SS C ((lc, lstP ((ev.toList.take 1).toArray ++ lv)) :: (lb, lstP (ev.toList.take 1).toArray) :: (la, lstP (rv ++ mv)) :: (l1, lstP v1) :: (l2, lstP v2) :: (L, nsP m) :: τ) ((s9.heap.objs.size, pieceObj (.ref la) (.ref lc)) :: ι') { s9 with heap := s9.heap.push (pieceObj (.ref la) (.ref lc)) } :=
    S9.allocT (o := pieceObj (.ref la) (.ref lc)) rfl (pieceObj_tup _ _)
  have hι : ι' ⊆ (s9.heap.objs.size, pieceObj (.ref la) (.ref lc)) :: ι' := fun _ h => .tail _ h
  obtain ⟨a1, r1⟩ := reads_pair S10 (.tail _ htt) (.tail _ (.tail _ (.tail _ (.head _)))) (.tail _ (.tail _ (.tail _ (.tail _ (.head _))))) (x1.mono hι) (x2.mono hι)
  obtain ⟨a2, r2⟩ := reads_pair S10 (.head _) (.tail _ (.tail _ (.head _))) (.head _) ((y1.app y2).mono fun _ h => hι (h5 h)) (((y3.take 1).app y4).mono fun _ h => hι (h5 h))
  refine ne_same r1 r2 (by (first | (refine rwP (e1) ?_; refine rwP (e2) ?_; try with_reducible rfl) | rw [e1, e2])) (okD_pair g1 g2) (by decide) R.cmp (wpAny_truthy_bool ?_)
  (first | refine wpIf0 ?_ | simp only [Bool.false_eq_true, if_false])
  exact wpAny_execs_nil (h ι' _ h5 ((S10.tl.tl.tl.tl.tl).less hι))

theorem turn_b20 {n : Nat} {L cS cA cM cT cX row dr : Addr} {m : Str → Option Value} {vr : Array Value} {τf : Array Value → Led} {Q : Flow → Shared → Prop}
    (X : CxOk C) (KK : AllK C.K) (KM' : KM C.K) (R : Room (n + 3) A) (S : SS C ((L, nsP m) :: τf vr) ι s) (hr : m "row" = some (.ref row)) (hu : ∀ v w, Upd row (accP dr v) (accP dr w) (τf v) (τf w)) (hud : ∀ v, Upd dr (szP 0) (szP 0) (τf v) (τf v)) (hz : vr.size ≤ 1000000)
    (h : ∀ s', SS C ((L, nsP m) :: τf #[]) ι s' → Q .next s') :
    wpAny (model prg C.w) A (exec (turnS 19) (holdsEnv L cS cA cM cT cX)) Q E s := by
  have hzz : 2000000 ≤ sizeLine := by (first | (refine rwP (sizeLine_eq) ?_; try with_reducible rfl) | rw [sizeLine_eq]); (first | lia | omega)
  refine wpAny_If (isTrue_or (wpAny_isTrue_Compare1 ?_))
  refine n_accm X KK KM'.reset KK.R.fReset S (.head _) hr (.tail _ (hu vr vr).mem) (.tail _ (hud vr).mem) (sp_nil ⟨⟨_, _, S⟩, ?_⟩)
  refine reset0_c (n := n + 2) X KK.A KK.L KK.I KK.R R S (.tail (hu vr #[])) (.tail (hud #[])) (by (first | lia | omega)) fun s1 S1 => ?_
  refine wpAny_Constant_none (isNot_none (wpAny_truthy_bool ?_))
  simp only [show (!(Value.none == Value.none)) = false from rfl, Bool.false_eq_true, if_false]
  refine isTrue_or (wpAny_isTrue_Compare1 (List_ ?_))
  refine sp_cons (n_len_acc (n := n) (ps := []) X KK R S1 (.head _) hr (.tail _ (hu #[] #[]).mem) (.tail _ (hud #[]).mem) pcs.nil (fun p hp => by cases hp) (by decide) (by decide) fun t2 s2 S2 => ?_)
  refine sp_cons (n_accm X KK KK.P.fnCount KK.S.fCount S2 (.head _) hr (.tail _ (hu #[] #[]).mem) (.tail _ (hud #[]).mem) (sp_nil ⟨⟨_, _, S2⟩, ?_⟩))
  refine count_c (n := n + 2) X KK.A KK.S R S2 (.tail _ (hu #[] #[]).mem) fun t3 s3 S3 => ?_
  refine sp_nil (n_newList S3 fun l4 s4 S4 => ?_)
  refine List_ (sp_cons (wpAny_Constant_int (sp_cons (wpAny_Constant_int (sp_nil ?_)))))
  refine n_newList (show SS C _ ι { s4 with toks := s4.toks + 1 + 1 } from S4) fun l5 s5 S5 => ?_
  obtain ⟨as1, r1⟩ := readsG (f := fun _ : Nat => PyData.int 0) (xs := [0, 0]) S5 (.tail _ (.head _)) rfl fun i x v e hv => by
    match i with
    | 0 => cases hv; exact ⟨_, .int _ _⟩
    | 1 => cases hv; exact ⟨_, .int _ _⟩
    | i + 2 => simp at hv
  obtain ⟨as2, r2⟩ := readsG (f := fun _ : Nat => PyData.int 0) (xs := [0, 0]) S5 (.head _) rfl fun i x v e hv => by
    match i with
    | 0 => cases hv; exact ⟨_, .int _ _⟩
    | 1 => cases hv; exact ⟨_, .int _ _⟩
    | i + 2 => simp at hv
  refine ne_same r1 r2 rfl (okD_map (n := 1) fun x _ => okD_int) (by decide) R.cmp (wpAny_truthy_bool ?_)
  (first | refine wpIf0 ?_ | simp only [Bool.false_eq_true, if_false])
  refine isTrue_or_nil ?_
  (first | refine wpIf0 ?_ | simp only [Bool.false_eq_true, if_false])
  exact wpAny_execs_nil (h s5 S5.tl.tl)

theorem turn_b21 {n : Nat} {L cS cA cM cT cX t l1 l2 ll : Addr} {m : Str → Option Value} {v1 lv : Array Value} {ps : List (Str × Str)} {counts : List Nat} {Q : Flow → Shared → Prop}
    (X : CxOk C) (KK : AllK C.K) (KL' : KLaw C.K) (KQ : KAdd C.K) (KA' : KAll C.K) (KM' : KM C.K) (KH : KHolds C.K) (R : Room (n + 6) A)
    (S : SS C ((L, nsP m) :: τ) ι s) (ht : m "told" = some (.ref t)) (htt : (t, pieceObj (.ref l1) (.ref l2)) ∈ ι) (hl1 : (l1, lstP v1) ∈ τ) (x1 : pcs ι v1 ps) (hll : m "left" = some (.ref ll)) (hlv : (ll, lstP lv) ∈ τ) (hci : IntsAre lv.toList (natsI counts)) (hcz : counts.length ≤ 1000)
    (hsm : small ps) (hz : lenS ps ≤ 1000000) (hn : ps.length ≤ 1000000)
    (h : ∀ lb bl ι' s', ι ⊆ ι' → SS C ((L, nsP (put m "blocks" (.ref lb))) :: (blkLed bl ++ (lb, lstP (blkVals bl).toArray) :: τ)) ι' s' → BlkOk ι' bl (addedS ps counts 0) → Q .next s') :
    wpAny (model prg C.w) A (exec (turnS 20) (holdsEnv L cS cA cM cT cX)) Q E s := by
  refine wpAny_Assign_Name (Call_ (n_global X S KH.gAdd ?_))
  refine n_callF X KQ.fAdd (sp_cons (Subscript_ (n_local S (.head _) ht (wpAny_Constant_int ?_))))
  have S1 : SS C ((L, nsP m) :: τ) ι { s with toks := s.toks + 1 } := S
  refine item_tuple (items := #[.ref l1, .ref l2]) (j := 0) ⟨_, S1.tup htt, rfl, _, rfl⟩ (by decide) (by decide) rfl rfl ?_
  refine sp_cons (n_local S1 (.head _) hll (sp_cons (wpAny_Constant_int (sp_nil ⟨⟨_, _, S1⟩, ?_⟩))))
  have S2 : SS C ((L, nsP m) :: τ) ι { s with toks := s.toks + 1 + 1 } := S
  have hcl : counts.length = lv.size := by
    have := hci.length
    rw [natsI_length, Array.length_toList] at this
    exact this.symm
  refine added_c (k := 0) (n := n) X KK KL' KQ KA' KM' R S2 (.tail _ hl1) (.tail _ hlv) hcl (fun i c hc => ?_) x1 hsm (by (first | lia | omega)) hn hcz fun lb bl ι5 s5 h5 S5 hb => ?_
  · have hi : i < lv.size := by
      (first | (refine rwQ (hcl) ?_; try with_reducible rfl) | rw [← hcl])
      rcases Nat.lt_or_ge i counts.length with q | q
      · exact q
      · rw [List.getElem?_eq_none q] at hc; cases hc
    have e : lv[i]? = some (lv[i]'hi) := Array.getElem?_eq_getElem hi
    refine gen_P fun Pg kg => ?_
    obtain ⟨x, t, hx, hx'⟩ := ints_at hci (i := i) (v := lv[i]'hi) (by (first | (refine rwP (Array.getElem?_toList) ?_; try with_reducible rfl) | rw [Array.getElem?_toList]); exact e)
    obtain ⟨c', hc', rfl⟩ := natsI_at hx
    refine kg ?_
    clear kg
    rw [hc] at hc'
    cases hc'
    exact ⟨t, by (first | (refine rwP (e) ?_; refine rwP (hx') ?_; try with_reducible rfl) | rw [e, hx'])⟩
  · have S6 : SS C ((L, nsP m) :: (blkLed bl ++ (lb, lstP (blkVals bl).toArray) :: τ)) ι5 s5 := by
      refine S5.perm ?_
      refine List.Perm.trans ((List.Perm.swap _ _ _).append_left _) List.perm_middle
    exact n_store S6 .head fun s7 S7 => h lb bl ι5 s7 h5 S7 hb
end
end Mine
end Part68
section Part69
set_option tactic.hygienic false
open PySem PySem.W PySem.W.X PySem.Calls PyProof.Rows
set_option maxRecDepth 100000
namespace Mine

/-! ## pieces told by numbers -/
noncomputable def top : Nat := 1000000
noncomputable def enc (n : Nat) : Str × Str := if n < 1000000 then pieceS n else if n = 1000000 then ("y", "") else if n = 1000001 then ("z", "") else ("z", "z")
theorem enc_low {n : Nat} (h : n < 1000000) : enc n = pieceS n := if_pos h

theorem rep_list (c k : Nat) : (rep c k).cps.toList = List.replicate k c := by simp [rep]
theorem rep_len (c k : Nat) : (rep c k).length = k := by simp [rep, Str.length]
theorem szOf_piece (n : Nat) : szOf (pieceS n) = n := by
  unfold szOf pieceS
  (first | (refine rwP (rep_len) ?_; refine rwP (rep_len) ?_; try with_reducible rfl) | rw [rep_len, rep_len]); (first | lia | omega)
theorem rep_good (c k : Nat) (hc : c < 0x110000) : PyData.strOk (rep c k) = true := by
  (first | (refine rwP (strOk_iff) ?_; refine rwP (rep_list) ?_; try with_reducible rfl) | rw [strOk_iff, rep_list])
  intro x hx
  (first | (refine rwP (List.eq_of_mem_replicate hx) ?_; try with_reducible rfl) | rw [List.eq_of_mem_replicate hx])
  exact hc
theorem piece_good (n : Nat) : goodP (pieceS n) := ⟨rep_good _ _ (by decide), rep_good _ _ (by decide)⟩
theorem enc_good (n : Nat) : goodP (enc n) := by
  unfold enc
  split
  · exact piece_good n
  · split
    · exact ⟨by decide +kernel, by decide +kernel⟩
    · split
      · exact ⟨by decide +kernel, by decide +kernel⟩
      · exact ⟨by decide +kernel, by decide +kernel⟩
theorem piece_small {ps : List Nat} (h : ∀ n ∈ ps, n < 1000000) : small (ps.map pieceS) := fun p hp => by
  obtain ⟨n, hn, rfl⟩ := List.mem_map.mp hp
  have := h n hn
  show (rep _ _).length < _ ∧ (rep _ _).length < _
  (first | (refine rwP (rep_len) ?_; refine rwP (rep_len) ?_; try with_reducible rfl) | rw [rep_len, rep_len])
  omega
theorem good_map (ps : List Nat) : ∀ p ∈ ps.map pieceS, goodP p := fun p hp => by
  obtain ⟨n, _, rfl⟩ := List.mem_map.mp hp
  exact piece_good n
theorem good_enc (ps : List Nat) : ∀ p ∈ ps.map enc, goodP p := fun p hp => by
  obtain ⟨n, _, rfl⟩ := List.mem_map.mp hp
  exact enc_good n
theorem lenS_nat (ps : List Nat) : lenS (ps.map pieceS) = ps.sum := by
  induction ps with
  | nil => rfl
  | cons n r ih => (first | (refine rwP (List.map_cons) ?_; refine rwP (lenS_cons) ?_; refine rwP (szOf_piece) ?_; refine rwP (ih) ?_; refine rwP (List.sum_cons) ?_; try with_reducible rfl) | rw [List.map_cons, lenS_cons, szOf_piece, ih, List.sum_cons])

noncomputable def sumsN (k : Nat) : List Nat → List Nat
  | [] => []
  | n :: r => (k + n) :: sumsN (k + n) r
theorem sums_nat : ∀ (k : Nat) (ps : List Nat), sumsS k (ps.map pieceS) = (sumsN k ps).map pieceS
  | _, [] => rfl
  | k, n :: r => by (first | (refine rwP (List.map_cons) ?_; refine rwP (sumsS) ?_; refine rwP (szOf_piece) ?_; refine rwP (sumsN) ?_; refine rwP (List.map_cons) ?_; refine rwP (sums_nat) ?_; try with_reducible rfl) | rw [List.map_cons, sumsS, szOf_piece, sumsN, List.map_cons, sums_nat])
noncomputable def addedN : List Nat → List Nat → Nat → List (List Nat)
  | _, [], _ => []
  | ps, c :: cs, k => sumsN k (ps.take c) :: addedN (ps.drop c) cs (k + (ps.take c).sum)
theorem added_nat : ∀ (counts ps : List Nat) (k : Nat), addedS (ps.map pieceS) counts k = (addedN ps counts k).map (List.map pieceS)
  | [], ps, k => by cases ps <;> simp [addedS, addedN]
  | c :: cs, ps, k => by
    (first | (refine rwP (addedN) ?_; refine rwP (List.map_cons) ?_; refine rwQ (added_nat cs) ?_; refine rwQ (sums_nat) ?_; try with_reducible rfl) | rw [addedN, List.map_cons, ← added_nat cs, ← sums_nat])
    have e : addedS (ps.map pieceS) (c :: cs) k = sumsS k ((ps.map pieceS).take c) :: addedS ((ps.map pieceS).drop c) cs (k + lenS ((ps.map pieceS).take c)) := by
      cases ps <;> rfl
    (first | (refine rwP (e) ?_; refine rwQ (List.map_take) ?_; refine rwQ (List.map_drop) ?_; refine rwP (lenS_nat) ?_; try with_reducible rfl) | rw [e, ← List.map_take, ← List.map_drop, lenS_nat])

/-! order -/
theorem rep_lt (c : Nat) : ∀ a b : Nat, (List.replicate a c < List.replicate b c) ↔ a < b
  | 0, 0 => by simp
  | 0, b + 1 => by simp [List.replicate_succ]
  | a + 1, 0 => by simp [List.replicate_succ]
  | a + 1, b + 1 => by
    (first | (refine rwP (List.replicate_succ) ?_; refine rwP (List.replicate_succ) ?_; refine rwP (List.cons_lt_cons_iff) ?_; try with_reducible rfl) | rw [List.replicate_succ, List.replicate_succ, List.cons_lt_cons_iff])
    simp [rep_lt c a b]
theorem ltStr_rep (c a b : Nat) : ltStr (rep c a) (rep c b) = decide (a < b) := by
  unfold ltStr
  (first | (refine rwP (rep_list) ?_; refine rwP (rep_list) ?_; try with_reducible rfl) | rw [rep_list, rep_list])
  exact decide_eq_decide.mpr (rep_lt c a b)
theorem rep_inj (c a b : Nat) : (rep c a == rep c b) = (a == b) := by
  (first | (refine rwP (Bool.eq_iff_iff) ?_; refine rwP (beq_iff_eq) ?_; refine rwP (beq_iff_eq) ?_; try with_reducible rfl) | rw [Bool.eq_iff_iff, beq_iff_eq, beq_iff_eq])
  constructor
  · intro h
    have := congrArg Str.length h
    rwa [rep_len, rep_len] at this
  · rintro rfl; rfl
theorem half (a : Nat) : a / 2 + (a - a / 2) = a ∧ a / 2 ≤ a - a / 2 ∧ a - a / 2 ≤ a / 2 + 1 := by
  have h := Nat.div_mul_le_self a 2
  have h2 := Nat.lt_mul_div_succ a (show 0 < 2 by decide)
  rw [Nat.mul_two] at h
  rw [Nat.two_mul] at h2
  exact ⟨Nat.add_sub_of_le (Nat.div_le_self a 2), Nat.le_sub_of_add_le h, Nat.sub_le_of_le_add (Nat.le_of_lt_succ h2)⟩
theorem halves {a b x y u v : Nat} (a1 : x + y = a) (a2 : x ≤ y) (a3 : y ≤ x + 1) (b1 : u + v = b) (b2 : u ≤ v) (b3 : v ≤ u + 1) :
    (if (x == u) = true then (if (y == v) = true then false else decide (y < v)) else decide (x < u)) = decide (a < b) := by
  subst a1 b1
  by_cases h : x = u
  · subst h
    (first | (refine rwP (beq_self_eq_true) ?_; refine rwP (if_pos rfl) ?_; try with_reducible rfl) | rw [beq_self_eq_true, if_pos rfl])
    by_cases h2 : y = v
    · subst h2; (first | (refine rwP (beq_self_eq_true) ?_; refine rwP (if_pos rfl) ?_; refine rwP (decide_eq_false (Nat.lt_irrefl _)) ?_; try with_reducible rfl) | rw [beq_self_eq_true, if_pos rfl, decide_eq_false (Nat.lt_irrefl _)])
    · (first | (refine rwP (beq_eq_false_iff_ne.mpr h2) ?_; refine rwP (if_neg Bool.false_ne_true) ?_; try with_reducible rfl) | rw [beq_eq_false_iff_ne.mpr h2, if_neg Bool.false_ne_true])
      exact decide_eq_decide.mpr (Nat.add_lt_add_iff_left).symm
  · (first | (refine rwP (beq_eq_false_iff_ne.mpr h) ?_; refine rwP (if_neg Bool.false_ne_true) ?_; try with_reducible rfl) | rw [beq_eq_false_iff_ne.mpr h, if_neg Bool.false_ne_true])
    refine decide_eq_decide.mpr ⟨fun q => Nat.add_lt_add_of_lt_of_le q (Nat.le_trans a3 (Nat.le_trans q b2)), fun q => ?_⟩
    rcases Nat.lt_or_gt_of_ne h with w | w
    · exact w
    · exact absurd q (Nat.lt_asymm (Nat.add_lt_add_of_lt_of_le w (Nat.le_trans b3 (Nat.le_trans w a2))))
theorem ltP_piece (a b : Nat) : ltP (pieceS a) (pieceS b) = decide (a < b) := by
  unfold ltP pieceS
  dsimp only
  (first | (refine rwP (rep_inj) ?_; refine rwP (rep_inj) ?_; refine rwP (ltStr_rep) ?_; refine rwP (ltStr_rep) ?_; try with_reducible rfl) | rw [rep_inj, rep_inj, ltStr_rep, ltStr_rep])
  refine gen_P fun Pg kg => ?_
  obtain ⟨a1, a2, a3⟩ := half a
  obtain ⟨b1, b2, b3⟩ := half b
  refine kg ?_
  clear kg
  exact halves a1 a2 a3 b1 b2 b3
theorem piece_inj (a b : Nat) : (pieceS a == pieceS b) = (a == b) := by
  (first | (refine rwP (Bool.eq_iff_iff) ?_; refine rwP (beq_iff_eq) ?_; refine rwP (beq_iff_eq) ?_; try with_reducible rfl) | rw [Bool.eq_iff_iff, beq_iff_eq, beq_iff_eq])
  constructor
  · intro h
    have := congrArg szOf h
    rwa [szOf_piece, szOf_piece] at this
  · rintro rfl; rfl
theorem first_lt (n c : Nat) (hc : 32 < c) : (List.replicate n 32 < [c]) ∧ ¬ ([c] < List.replicate n 32) ∧ List.replicate n 32 ≠ [c] := by
  cases n with
  | zero => simp
  | succ n =>
    (first | (refine rwP (List.replicate_succ) ?_; try with_reducible rfl) | rw [List.replicate_succ])
    refine ⟨?_, ?_, ?_⟩
    · (first | (refine rwP (List.cons_lt_cons_iff) ?_; try with_reducible rfl) | rw [List.cons_lt_cons_iff]); exact .inl hc
    · (first | (refine rwP (List.cons_lt_cons_iff) ?_; try with_reducible rfl) | rw [List.cons_lt_cons_iff])
      rintro (h | ⟨h, _⟩) <;> (first | lia | omega)
    · intro h
      injection h with h1 h2
      (first | lia | omega)
theorem ltP_first (n c : Nat) (hc : 32 < c) (q : Str × Str) (hq : q.1.cps.toList = [c]) : ltP (pieceS n) q = true ∧ ltP q (pieceS n) = false ∧ (pieceS n == q) = false ∧ (q == pieceS n) = false := by
  refine gen_P fun Pg kg => ?_
  obtain ⟨h1, h2, h3⟩ := first_lt (n / 2) c hc
  refine kg ?_
  clear kg
  have ne : (pieceS n).1 ≠ q.1 := fun e => h3 (by
    have := congrArg (fun x : Str => x.cps.toList) e
    rw [show (pieceS n).1.cps.toList = _ from rep_list 32 (n / 2), hq] at this
    exact this)
  refine ⟨?_, ?_, ?_, ?_⟩
  · unfold ltP
    (first | (refine rwP (beq_eq_false_iff_ne.mpr ne) ?_; try with_reducible rfl) | rw [beq_eq_false_iff_ne.mpr ne])
    (first | refine wpIf0 ?_ | simp only [Bool.false_eq_true, if_false])
    unfold ltStr
    (first | (refine rwP (show (pieceS n).1.cps.toList = _ from rep_list 32 (n / 2)) ?_; refine rwP (hq) ?_; try with_reducible rfl) | rw [show (pieceS n).1.cps.toList = _ from rep_list 32 (n / 2), hq])
    exact decide_eq_true h1
  · unfold ltP
    (first | (refine rwP (beq_eq_false_iff_ne.mpr (Ne.symm ne)) ?_; try with_reducible rfl) | rw [beq_eq_false_iff_ne.mpr (Ne.symm ne)])
    (first | refine wpIf0 ?_ | simp only [Bool.false_eq_true, if_false])
    unfold ltStr
    (first | (refine rwP (show (pieceS n).1.cps.toList = _ from rep_list 32 (n / 2)) ?_; refine rwP (hq) ?_; try with_reducible rfl) | rw [show (pieceS n).1.cps.toList = _ from rep_list 32 (n / 2), hq])
    exact decide_eq_false h2
  · exact beq_eq_false_iff_ne.mpr fun e => ne (congrArg Prod.fst e)
  · exact beq_eq_false_iff_ne.mpr fun e => ne (congrArg Prod.fst e).symm

noncomputable abbrev okCode (n : Nat) : Prop := n < 1000003
theorem ltP_enc {a b : Nat} (ha : okCode a) (hb : okCode b) : ltP (enc a) (enc b) = decide (a < b) ∧ (enc a == enc b) = (a == b) := by
  have hi : ∀ {n : Nat}, okCode n → ¬ n < 1000000 → n = 1000000 ∨ n = 1000001 ∨ n = 1000002 := fun {n} h1 h2 => by unfold okCode at h1; (first | lia | omega)
  have fst : ∀ {n : Nat}, okCode n → ¬ n < 1000000 → ∃ c, 32 < c ∧ (enc n).1.cps.toList = [c] := fun {n} h1 h2 => by
    rcases hi h1 h2 with rfl | rfl | rfl
    · exact ⟨121, by decide, rfl⟩
    · exact ⟨122, by decide, rfl⟩
    · exact ⟨122, by decide, rfl⟩
  by_cases la : a < 1000000
  · by_cases lb : b < 1000000
    · (first | (refine rwP (enc_low la) ?_; refine rwP (enc_low lb) ?_; try with_reducible rfl) | rw [enc_low la, enc_low lb])
      exact ⟨ltP_piece a b, piece_inj a b⟩
    · obtain ⟨c, hc, e⟩ := fst hb lb
      (first | (refine rwP (enc_low la) ?_; try with_reducible rfl) | rw [enc_low la])
      refine gen_P fun Pg kg => ?_
      obtain ⟨r1, _, r3, _⟩ := ltP_first a c hc (enc b) e
      refine kg ?_
      clear kg
      (first | (refine rwP (r1) ?_; refine rwP (r3) ?_; try with_reducible rfl) | rw [r1, r3])
      exact ⟨(decide_eq_true (by (first | lia | omega))).symm, (beq_eq_false_iff_ne.mpr (by (first | lia | omega))).symm⟩
  · by_cases lb : b < 1000000
    · obtain ⟨c, hc, e⟩ := fst ha la
      (first | (refine rwP (enc_low lb) ?_; try with_reducible rfl) | rw [enc_low lb])
      refine gen_P fun Pg kg => ?_
      obtain ⟨_, r2, _, r4⟩ := ltP_first b c hc (enc a) e
      refine kg ?_
      clear kg
      (first | (refine rwP (r2) ?_; refine rwP (r4) ?_; try with_reducible rfl) | rw [r2, r4])
      exact ⟨(decide_eq_false (by (first | lia | omega))).symm, (beq_eq_false_iff_ne.mpr (by (first | lia | omega))).symm⟩
    · rcases hi ha la with rfl | rfl | rfl <;> rcases hi hb lb with rfl | rfl | rfl <;> decide +kernel

noncomputable def sldN : Nat → List Nat → List Nat → List Nat × List Nat
  | 0, es, as => (es, as)
  | _ + 1, [], as => ([], as)
  | _ + 1, e :: es, [] => (e :: es, [])
  | n + 1, e :: es, a :: as =>
    if Nat.blt e a then (e :: (sldN n (es.dropWhile (Nat.beq · e)) (a :: as)).1, (sldN n (es.dropWhile (Nat.beq · e)) (a :: as)).2)
    else if Nat.blt a e then ((sldN n (e :: es) (as.dropWhile (Nat.beq · a))).1, a :: (sldN n (e :: es) (as.dropWhile (Nat.beq · a))).2)
    else sldN n (es.dropWhile (Nat.beq · e)) (as.dropWhile (Nat.beq · a))
theorem drop_enc {e : Nat} (he : okCode e) : ∀ {es : List Nat}, (∀ x ∈ es, okCode x) → (es.map enc).dropWhile (· == enc e) = (es.dropWhile (Nat.beq · e)).map enc
  | [], _ => rfl
  | x :: r, h => by
    have e2 : (enc x == enc e) = Nat.beq x e := by
      (first | (refine rwP ((ltP_enc (h x (.head _)) he).2) ?_; refine rwP (Bool.eq_iff_iff) ?_; refine rwP (beq_iff_eq) ?_; refine rwP (Nat.beq_eq) ?_; try with_reducible rfl) | rw [(ltP_enc (h x (.head _)) he).2, Bool.eq_iff_iff, beq_iff_eq, Nat.beq_eq])
    (first | (refine rwP (List.map_cons) ?_; refine rwP (List.dropWhile_cons) ?_; refine rwP (List.dropWhile_cons) ?_; refine rwP (e2) ?_; try with_reducible rfl) | rw [List.map_cons, List.dropWhile_cons, List.dropWhile_cons, e2])
    split
    · exact drop_enc he fun y hy => h y (.tail _ hy)
    · (first | (refine rwP (List.map_cons) ?_; try with_reducible rfl) | rw [List.map_cons])
theorem blt_dec (a b : Nat) : Nat.blt a b = decide (a < b) := by
  (first | (refine rwP (Bool.eq_iff_iff) ?_; refine rwP (decide_eq_true_iff) ?_; try with_reducible rfl) | rw [Bool.eq_iff_iff, decide_eq_true_iff])
  unfold Nat.blt
  (first | (refine rwP (Nat.ble_eq) ?_; try with_reducible rfl) | rw [Nat.ble_eq])
  exact Iff.rfl
theorem sld_enc : ∀ (f : Nat) (es as : List Nat), (∀ x ∈ es, okCode x) → (∀ x ∈ as, okCode x) → sldGo f (es.map enc) (as.map enc) = ((sldN f es as).1.map enc, (sldN f es as).2.map enc)
  | 0, _, _, _, _ => rfl
  | _ + 1, [], _, _, _ => rfl
  | _ + 1, _ :: _, [], _, _ => rfl
  | n + 1, e :: es, a :: as, h1, h2 => by
    have he := h1 e (.head _)
    have ha := h2 a (.head _)
    have d1 := drop_enc he fun y hy => h1 y (.tail _ hy)
    have d2 := drop_enc ha fun y hy => h2 y (.tail _ hy)
    have m1 : ∀ x ∈ es.dropWhile (Nat.beq · e), okCode x := fun x hx => h1 x (.tail _ ((List.dropWhile_sublist _).subset hx))
    have m2 : ∀ x ∈ as.dropWhile (Nat.beq · a), okCode x := fun x hx => h2 x (.tail _ ((List.dropWhile_sublist _).subset hx))
    (first | (refine rwP (List.map_cons) ?_; refine rwP (List.map_cons) ?_; try with_reducible rfl) | rw [List.map_cons, List.map_cons])
    unfold sldGo sldN
    (first | (refine rwP ((ltP_enc he ha).1) ?_; refine rwP ((ltP_enc ha he).1) ?_; refine rwP (d1) ?_; refine rwP (d2) ?_; refine rwP (blt_dec) ?_; refine rwP (blt_dec) ?_; try with_reducible rfl) | rw [(ltP_enc he ha).1, (ltP_enc ha he).1, d1, d2, blt_dec, blt_dec])
    have r1 := sld_enc n (es.dropWhile (Nat.beq · e)) (a :: as) m1 h2
    have r2 := sld_enc n (e :: es) (as.dropWhile (Nat.beq · a)) h1 m2
    have r3 := sld_enc n (es.dropWhile (Nat.beq · e)) (as.dropWhile (Nat.beq · a)) m1 m2
    rw [List.map_cons] at r1 r2
    (first | (refine rwP (r1) ?_; refine rwP (r2) ?_; refine rwP (r3) ?_; try with_reducible rfl) | rw [r1, r2, r3])
    split
    · rfl
    · split <;> rfl
noncomputable def partedN (t : Nat) (rs ts : List Nat) : List Nat × List Nat := if t % 2 = 1 then sldN (rs.length + ts.length) rs ts else ((sldN (ts.length + rs.length) ts rs).2, (sldN (ts.length + rs.length) ts rs).1)
theorem parted_enc {t : Nat} {rs ts : List Nat} (h1 : ∀ x ∈ rs, okCode x) (h2 : ∀ x ∈ ts, okCode x) : partedS t (rs.map enc) (ts.map enc) = ((partedN t rs ts).1.map enc, (partedN t rs ts).2.map enc) := by
  unfold partedS partedN sldS
  (first | (refine rwP (sld_enc _ _ _ h1 h2) ?_; refine rwP (sld_enc _ _ _ h2 h1) ?_; refine rwP (List.length_map) ?_; refine rwP (List.length_map) ?_; try with_reducible rfl) | rw [sld_enc _ _ _ h1 h2, sld_enc _ _ _ h2 h1, List.length_map, List.length_map])
  split <;> rfl
end Mine
end Part69
section Part70
set_option tactic.hygienic false
open PySem PySem.W PySem.W.X PySem.Calls PyProof.Rows
set_option maxRecDepth 100000
namespace Mine

/-! ## a turn, in numbers -/
noncomputable def lastN (bl : List Nat) : Nat := bl.getLast?.getD 0
noncomputable def struckN (bls : List (List Nat)) : List Nat := bls.map lastN
noncomputable def restN (bls : List (List Nat)) : List Nat := (bls.map List.dropLast).flatten
noncomputable def rowN (k : Nat) (bl : List Nat) : List Nat := bl.flatMap fun n => List.replicate (k + 1) n
noncomputable def allN (bls : List (List Nat)) : List Nat := (List.range 4).flatMap fun k => rowN k (bls.getD k [])
noncomputable def twiceN (ks : List Nat) : List Nat := ks.flatMap fun p => [p, p]
noncomputable def emptyL (counts : List Nat) (t : Nat) : List Nat := List.replicate (emptyN counts t) 0
noncomputable def lowN : List Nat := [1000000]
noncomputable def highN : List Nat := [1000001, 1000001, 1000002]
noncomputable def addRowN (t : Nat) : List Nat := if t < 3 then lowN ++ lowN else highN
noncomputable def addTwiceN (t : Nat) : List Nat := if t < 3 then highN else lowN ++ lowN
noncomputable def moreN (t : Nat) : List Nat := if t < 3 then lowN else highN
noncomputable def lessN (t : Nat) : List Nat := if t < 3 then highN else lowN
noncomputable def turnOk (counts : List Nat) (ds : List (List Nat)) (t : Nat) (bls : List (List Nat)) : Bool :=
  bls.length == 4 && bls.all (fun bl => Nat.ble bl.length 100 && Nat.ble bl.sum 10000) && (bls.map (fun bl => Nat.beq bl.sum 0) == counts.map (fun c => Nat.blt c t)) &&
  ds.all (fun d => Nat.blt t d.length && Nat.ble (d.getD t 0) 10000) && (struckN bls == ds.map (fun d => d.getD t 0)) &&
  (partedN t (allN bls) (twiceN (struckN bls)) == (restN bls, emptyL counts t)) &&
  (partedN t (allN bls ++ addRowN t) (twiceN (struckN bls) ++ addTwiceN t) == (restN bls ++ moreN t, (emptyL counts t).take 1 ++ lessN t))
noncomputable def nextN (bls : List (List Nat)) : List (List Nat) := addedN (restN bls) ((bls.map List.dropLast).map List.length) 0

noncomputable abbrev pcsOf (bls : List (List Nat)) : List (List (Str × Str)) := bls.map (List.map pieceS)

theorem mem_le_sum : ∀ {l : List Nat} {n : Nat}, n ∈ l → n ≤ l.sum
  | _ :: _, _, .head _ => by (first | (refine rwP (List.sum_cons) ?_; try with_reducible rfl) | rw [List.sum_cons]); (first | lia | omega)
  | _ :: _, _, .tail _ h => by (first | (refine rwP (List.sum_cons) ?_; try with_reducible rfl) | rw [List.sum_cons]); have := mem_le_sum h; (first | lia | omega)
structure TurnFacts (counts : List Nat) (ds : List (List Nat)) (t : Nat) (bls : List (List Nat)) : Prop where
  len : bls.length = 4
  low : ∀ bl ∈ bls, bl.length ≤ 100 ∧ bl.sum ≤ 10000
  g1 : (pcsOf bls).map (onlywsS 0) = counts.map fun c => decide (c < t)
  g2 : ∀ d ∈ ds, t < d.length ∧ d.getD t 0 ≤ 10000
  g3 : (pcsOf bls).map lastP = ds.map fun d => pieceS (d.getD t 0)
  g4 : partedS t (allS (nth (pcsOf bls)) 4) (twiceS ((pcsOf bls).map lastP)) = (((pcsOf bls).map List.dropLast).flatten, List.replicate (emptyN counts t) emptyPiece)
  g5 : partedS t (allS (nth (pcsOf bls)) 4 ++ addRow t) (twiceS ((pcsOf bls).map lastP) ++ addTwice t) = (((pcsOf bls).map List.dropLast).flatten ++ moreP t, (List.replicate (emptyN counts t) emptyPiece).take 1 ++ lessP t)
  g6 : addedS ((pcsOf bls).map List.dropLast).flatten (((pcsOf bls).map List.dropLast).map List.length) 0 = pcsOf (nextN bls)
  all : allS (nth (pcsOf bls)) 4 = (allN bls).map pieceS
  allLow : (allN bls).length ≤ 10000 ∧ (allN bls).sum ≤ 1000000 ∧ ∀ n ∈ allN bls, n < 1000000
  rest : ((pcsOf bls).map List.dropLast).flatten = (restN bls).map pieceS
  restLow : (restN bls).length ≤ 1000 ∧ (restN bls).sum ≤ 100000 ∧ ∀ n ∈ restN bls, n < 1000000
  struck : (pcsOf bls).map lastP = (struckN bls).map pieceS

theorem onlyws_nat (bl : List Nat) : onlywsS 0 (bl.map pieceS) = Nat.beq bl.sum 0 := by
  unfold onlywsS
  (first | (refine rwP (lenS_nat) ?_; try with_reducible rfl) | rw [lenS_nat])
  have e0 : ((0 : Int) == 0) = true := rfl
  (first | (refine rwP (e0) ?_; refine rwP (Bool.true_and) ?_; try with_reducible rfl) | rw [e0, Bool.true_and])
  by_cases h : bl.sum = 0
  · (first | (refine rwP (h) ?_; try with_reducible rfl) | rw [h]); rfl
  · have e1 : (bl.sum == 0) = false := beq_eq_false_iff_ne.mpr h
    have e2 : Nat.beq bl.sum 0 = false := by
      (first | (refine rwQ (Bool.not_eq_true) ?_; refine rwP (Nat.beq_eq) ?_; try with_reducible rfl) | rw [← Bool.not_eq_true, Nat.beq_eq]); exact h
    (first | (refine rwP (e1) ?_; refine rwP (e2) ?_; refine rwP (Bool.false_or) ?_; try with_reducible rfl) | rw [e1, e2, Bool.false_or])
    -- a number that is not 0 has a sign that is not white
    obtain ⟨n, hn, hn0⟩ : ∃ n ∈ bl, n ≠ 0 := by
      induction bl with
      | nil => exact absurd rfl h
      | cons n r ih =>
        by_cases hn : n = 0
        · subst hn
          have h' : r.sum ≠ 0 := by rwa [List.sum_cons, Nat.zero_add] at h
          obtain ⟨k, hk, hk0⟩ := ih h' (beq_eq_false_iff_ne.mpr h') (by (first | (refine rwQ (Bool.not_eq_true) ?_; refine rwP (Nat.beq_eq) ?_; try with_reducible rfl) | rw [← Bool.not_eq_true, Nat.beq_eq]); exact h')
          exact ⟨k, .tail _ hk, hk0⟩
        · exact ⟨n, .head _, hn⟩
    unfold Txt.isspace
    (first | (refine rwP (Bool.and_eq_false_iff) ?_; try with_reducible rfl) | rw [Bool.and_eq_false_iff])
    refine .inr ?_
    (first | (refine rwQ (Array.all_toList) ?_; refine rwP (List.all_eq_false) ?_; try with_reducible rfl) | rw [← Array.all_toList, List.all_eq_false])
    refine ⟨120, ?_, by decide +kernel⟩
    (first | (refine rwP (strS_list) ?_; try with_reducible rfl) | rw [strS_list])
    refine List.mem_flatten.mpr ⟨(pieceS n).1.cps.toList ++ (pieceS n).2.cps.toList, List.mem_map.mpr ⟨pieceS n, List.mem_map.mpr ⟨n, hn, rfl⟩, rfl⟩, List.mem_append_right _ ?_⟩
    (first | (refine rwP (show (pieceS n).2.cps.toList = _ from rep_list 120 (n - n / 2)) ?_; try with_reducible rfl) | rw [show (pieceS n).2.cps.toList = _ from rep_list 120 (n - n / 2)])
    exact List.mem_replicate.mpr ⟨by (first | lia | omega), rfl⟩
theorem lastP_nat (bl : List Nat) : lastP (bl.map pieceS) = pieceS (lastN bl) := by
  unfold lastP lastN
  (first | (refine rwP (List.getLast?_map) ?_; try with_reducible rfl) | rw [List.getLast?_map])
  cases bl.getLast? with
  | none => rfl
  | some n => rfl
theorem rowOf_nat (k : Nat) (bl : List Nat) : rowOf k (bl.map pieceS) = (rowN k bl).map pieceS := by
  unfold rowOf rowN
  (first | (refine rwP (List.flatMap_map) ?_; refine rwP (List.map_flatMap) ?_; try with_reducible rfl) | rw [List.flatMap_map, List.map_flatMap])
  congr 1
  funext n
  (first | (refine rwP (List.map_replicate) ?_; try with_reducible rfl) | rw [List.map_replicate])
theorem allS_nat (bls : List (List Nat)) : allS (nth (pcsOf bls)) 4 = (allN bls).map pieceS := by
  unfold allS allN
  (first | (refine rwP (List.map_flatMap) ?_; try with_reducible rfl) | rw [List.map_flatMap])
  congr 1
  funext k
  (first | (refine rwQ (rowOf_nat) ?_; try with_reducible rfl) | rw [← rowOf_nat])
  congr 1
  unfold nth pcsOf
  (first | (refine rwP (List.getD_eq_getElem?_getD) ?_; refine rwP (List.getD_eq_getElem?_getD) ?_; refine rwP (List.getElem?_map) ?_; try with_reducible rfl) | rw [List.getD_eq_getElem?_getD, List.getD_eq_getElem?_getD, List.getElem?_map])
  cases bls[k]? <;> rfl
theorem twice_nat (f : Nat → Str × Str) (ks : List Nat) : twiceS (ks.map f) = (twiceN ks).map f := by
  unfold twiceS twiceN
  (first | (refine rwP (List.flatMap_map) ?_; refine rwP (List.map_flatMap) ?_; try with_reducible rfl) | rw [List.flatMap_map, List.map_flatMap])
  congr 1
theorem drops_nat (bls : List (List Nat)) : (pcsOf bls).map List.dropLast = pcsOf (bls.map List.dropLast) := by
  unfold pcsOf
  (first | (refine rwP (List.map_map) ?_; refine rwP (List.map_map) ?_; try with_reducible rfl) | rw [List.map_map, List.map_map])
  refine List.map_congr_left fun bl _ => ?_
  show (bl.map pieceS).dropLast = (bl.dropLast).map pieceS
  (first | (refine rwP (List.map_dropLast) ?_; try with_reducible rfl) | rw [List.map_dropLast])
theorem flat_nat (bls : List (List Nat)) : (pcsOf bls).flatten = bls.flatten.map pieceS := by
  unfold pcsOf
  (first | (refine rwP (List.map_flatten) ?_; try with_reducible rfl) | rw [List.map_flatten])
theorem low_enc {l : List Nat} (h : ∀ n ∈ l, n < 1000000) : l.map pieceS = l.map enc := List.map_congr_left fun n hn => (enc_low (h n hn)).symm

theorem dropLast_sum (bl : List Nat) : bl.dropLast.sum ≤ bl.sum ∧ bl.dropLast.length ≤ bl.length := by
  refine ⟨?_, by (first | (refine rwP (List.length_dropLast) ?_; try with_reducible rfl) | rw [List.length_dropLast]); omega⟩
  rcases List.eq_nil_or_concat bl with rfl | ⟨l, x, rfl⟩
  · exact Nat.le_refl _
  · simp
theorem rest_low {bls : List (List Nat)} (h : ∀ bl ∈ bls, bl.length ≤ 100 ∧ bl.sum ≤ 10000) : (restN bls).length ≤ 100 * bls.length ∧ (restN bls).sum ≤ 10000 * bls.length ∧ ∀ n ∈ restN bls, n < 1000000 := by
  induction bls with
  | nil => exact ⟨Nat.le_refl _, Nat.le_refl _, fun n hn => by cases hn⟩
  | cons bl r ih =>
    refine gen_P fun Pg kg => ?_
    obtain ⟨i1, i2, i3⟩ := ih fun b hb => h b (.tail _ hb)
    obtain ⟨h1, h2⟩ := h bl (.head _)
    obtain ⟨d1, d2⟩ := dropLast_sum bl
    refine kg ?_
    clear kg
    have e : restN (bl :: r) = bl.dropLast ++ restN r := rfl
    (first | (refine rwP (e) ?_; refine rwP (List.length_append) ?_; refine rwP (List.sum_append) ?_; refine rwP (List.length_cons) ?_; try with_reducible rfl) | rw [e, List.length_append, List.sum_append, List.length_cons])
    refine ⟨by (first | lia | omega), by (first | lia | omega), fun n hn => ?_⟩
    rcases List.mem_append.mp hn with hn | hn
    · have := mem_le_sum hn
      (first | lia | omega)
    · exact i3 n hn
theorem rowN_low (k : Nat) (bl : List Nat) : (rowN k bl).length = (k + 1) * bl.length ∧ (rowN k bl).sum = (k + 1) * bl.sum ∧ ∀ n ∈ rowN k bl, n ∈ bl := by
  refine ⟨?_, ?_, fun n hn => ?_⟩
  · induction bl with
    | nil => simp [rowN]
    | cons b r ih =>
      have e : rowN k (b :: r) = List.replicate (k + 1) b ++ rowN k r := rfl
      (first | (refine rwP (e) ?_; refine rwP (List.length_append) ?_; refine rwP (ih) ?_; refine rwP (List.length_replicate) ?_; refine rwP (List.length_cons) ?_; refine rwP (Nat.mul_add) ?_; try with_reducible rfl) | rw [e, List.length_append, ih, List.length_replicate, List.length_cons, Nat.mul_add]); (first | lia | omega)
  · induction bl with
    | nil => simp [rowN]
    | cons b r ih =>
      have e : rowN k (b :: r) = List.replicate (k + 1) b ++ rowN k r := rfl
      (first | (refine rwP (e) ?_; refine rwP (List.sum_append) ?_; refine rwP (ih) ?_; refine rwP (List.sum_replicate_nat) ?_; refine rwP (List.sum_cons) ?_; refine rwP (Nat.mul_add) ?_; try with_reducible rfl) | rw [e, List.sum_append, ih, List.sum_replicate_nat, List.sum_cons, Nat.mul_add])
  · obtain ⟨b, hb, h⟩ := List.mem_flatMap.mp hn
    (first | (refine rwP (List.eq_of_mem_replicate h) ?_; try with_reducible rfl) | rw [List.eq_of_mem_replicate h]); exact hb
theorem all_low {bls : List (List Nat)} (h : ∀ bl ∈ bls, bl.length ≤ 100 ∧ bl.sum ≤ 10000) : (allN bls).length ≤ 10000 ∧ (allN bls).sum ≤ 1000000 ∧ ∀ n ∈ allN bls, n < 1000000 := by
  have hg : ∀ k, (bls.getD k []).length ≤ 100 ∧ (bls.getD k []).sum ≤ 10000 := fun k => by
    (first | (refine rwP (List.getD_eq_getElem?_getD) ?_; try with_reducible rfl) | rw [List.getD_eq_getElem?_getD])
    cases e : bls[k]? with
    | none => exact ⟨by simp, by simp⟩
    | some bl => exact h bl (List.mem_of_getElem? e)
  have e : allN bls = rowN 0 (bls.getD 0 []) ++ (rowN 1 (bls.getD 1 []) ++ (rowN 2 (bls.getD 2 []) ++ (rowN 3 (bls.getD 3 []) ++ []))) := rfl
  refine gen_P fun Pg kg => ?_
  obtain ⟨a0, b0, c0⟩ := rowN_low 0 (bls.getD 0 [])
  obtain ⟨a1, b1, c1⟩ := rowN_low 1 (bls.getD 1 [])
  obtain ⟨a2, b2, c2⟩ := rowN_low 2 (bls.getD 2 [])
  obtain ⟨a3, b3, c3⟩ := rowN_low 3 (bls.getD 3 [])
  obtain ⟨u0, v0⟩ := hg 0
  obtain ⟨u1, v1⟩ := hg 1
  obtain ⟨u2, v2⟩ := hg 2
  obtain ⟨u3, v3⟩ := hg 3
  refine kg ?_
  clear kg
  (first | (refine rwP (e) ?_; try with_reducible rfl) | rw [e])
  simp only [List.length_append, List.sum_append, List.length_nil, List.sum_nil, List.mem_append, List.not_mem_nil, or_false, a0, a1, a2, a3, b0, b1, b2, b3]
  refine ⟨by (first | lia | omega), by (first | lia | omega), fun n hn => ?_⟩
  rcases hn with h' | h' | h' | h'
  · have := mem_le_sum (c0 n h'); (first | lia | omega)
  · have := mem_le_sum (c1 n h'); (first | lia | omega)
  · have := mem_le_sum (c2 n h'); (first | lia | omega)
  · have := mem_le_sum (c3 n h'); (first | lia | omega)

theorem low_ok {l : List Nat} (h : ∀ n ∈ l, n < 1000000) : ∀ n ∈ l, okCode n := fun n hn => Nat.lt_trans (h n hn) (by decide)
theorem addRow_enc (t : Nat) : addRow t = (addRowN t).map enc ∧ (∀ n ∈ addRowN t, okCode n) ∧ addTwice t = (addTwiceN t).map enc ∧ (∀ n ∈ addTwiceN t, okCode n) ∧ moreP t = (moreN t).map enc ∧ lessP t = (lessN t).map enc := by
  have hl : ∀ n ∈ lowN, okCode n := by decide
  have hh : ∀ n ∈ highN, okCode n := by decide
  have el : lowP = lowN.map enc := rfl
  have eh : highP = highN.map enc := rfl
  unfold addRow addRowN addTwice addTwiceN moreP moreN lessP lessN
  split
  · refine ⟨by (first | (refine rwP (List.map_append) ?_; refine rwP (el) ?_; try with_reducible rfl) | rw [List.map_append, el]), fun n hn => ?_, eh, hh, el, eh⟩
    rcases List.mem_append.mp hn with h | h <;> exact hl n h
  · refine ⟨eh, hh, by (first | (refine rwP (List.map_append) ?_; refine rwP (el) ?_; try with_reducible rfl) | rw [List.map_append, el]), fun n hn => ?_, eh, el⟩
    rcases List.mem_append.mp hn with h | h <;> exact hl n h
theorem turn_facts {counts : List Nat} {ds : List (List Nat)} {t : Nat} {bls : List (List Nat)} (h : turnOk counts ds t bls = true) : TurnFacts counts ds t bls := by
  unfold turnOk at h
  simp only [Bool.and_eq_true, beq_iff_eq] at h
  refine gen_P fun Pg kg => ?_
  obtain ⟨⟨⟨⟨⟨⟨hlen, hall⟩, hws⟩, hds⟩, hst⟩, hp1⟩, hp2⟩ := h
  refine kg ?_
  clear kg
  have low : ∀ bl ∈ bls, bl.length ≤ 100 ∧ bl.sum ≤ 10000 := fun bl hb => by
    have := List.all_eq_true.mp hall bl hb
    rw [Bool.and_eq_true, Nat.ble_eq, Nat.ble_eq] at this
    exact this
  have hst2 : (pcsOf bls).map lastP = (struckN bls).map pieceS := by
    unfold struckN pcsOf
    (first | (refine rwP (List.map_map) ?_; refine rwP (List.map_map) ?_; try with_reducible rfl) | rw [List.map_map, List.map_map])
    exact List.map_congr_left fun bl _ => lastP_nat bl
  have sl : ∀ n ∈ struckN bls, n < 1000000 := fun n hn => by
    obtain ⟨bl, hb, rfl⟩ := List.mem_map.mp hn
    unfold lastN
    cases e : bl.getLast? with
    | none => decide
    | some x =>
      have := mem_le_sum (List.mem_of_getLast? e)
      have := (low bl hb).2
      show x < _
      (first | lia | omega)
  have tw : ∀ n ∈ twiceN (struckN bls), n < 1000000 := fun n hn => by
    obtain ⟨p, hp, h⟩ := List.mem_flatMap.mp hn
    have : n = p := by
      rcases List.mem_cons.mp h with rfl | h
      · rfl
      · exact List.mem_singleton.mp h
    (first | (refine rwP (this) ?_; try with_reducible rfl) | rw [this]); exact sl p hp
  have al := all_low low
  have rl := rest_low low
  have hrest : ((pcsOf bls).map List.dropLast).flatten = (restN bls).map pieceS := by (first | (refine rwP (drops_nat) ?_; refine rwP (flat_nat) ?_; try with_reducible rfl) | rw [drops_nat, flat_nat]); rfl
  have hall2 := allS_nat bls
  have htw : twiceS ((pcsOf bls).map lastP) = (twiceN (struckN bls)).map enc := by (first | (refine rwP (hst2) ?_; refine rwP (twice_nat) ?_; refine rwP (low_enc tw) ?_; try with_reducible rfl) | rw [hst2, twice_nat, low_enc tw])
  have hem : List.replicate (emptyN counts t) emptyPiece = (emptyL counts t).map enc := by
    unfold emptyL
    (first | (refine rwP (List.map_replicate) ?_; try with_reducible rfl) | rw [List.map_replicate])
    rfl
  refine gen_P fun Pg kg => ?_
  obtain ⟨a1, a2, a3, a4, a5, a6⟩ := addRow_enc t
  refine kg ?_
  clear kg
  refine ⟨hlen, low, ?_, fun d hd => ?_, ?_, ?_, ?_, ?_, hall2, al, hrest, ⟨by (first | lia | omega), by (first | lia | omega), rl.2.2⟩, hst2⟩
  · have e1 : (pcsOf bls).map (onlywsS 0) = bls.map fun bl => Nat.beq bl.sum 0 := by
      unfold pcsOf
      (first | (refine rwP (List.map_map) ?_; try with_reducible rfl) | rw [List.map_map])
      exact List.map_congr_left fun bl _ => onlyws_nat bl
    (first | (refine rwP (e1) ?_; refine rwP (hws) ?_; try with_reducible rfl) | rw [e1, hws])
    exact List.map_congr_left fun c _ => blt_dec c t
  · have := List.all_eq_true.mp hds d hd
    rw [Bool.and_eq_true, Nat.ble_eq, blt_dec, decide_eq_true_iff] at this
    exact this
  · (first | (refine rwP (hst2) ?_; refine rwP (hst) ?_; refine rwP (List.map_map) ?_; try with_reducible rfl) | rw [hst2, hst, List.map_map])
    rfl
  · (first | (refine rwP (htw) ?_; refine rwP (hall2) ?_; refine rwP (low_enc al.2.2) ?_; refine rwP (parted_enc (low_ok al.2.2) (low_ok tw)) ?_; refine rwP (hp1) ?_; refine rwP (hrest) ?_; refine rwP (low_enc rl.2.2) ?_; refine rwP (hem) ?_; try with_reducible rfl) | rw [htw, hall2, low_enc al.2.2, parted_enc (low_ok al.2.2) (low_ok tw), hp1, hrest, low_enc rl.2.2, hem])
  · (first | (refine rwP (htw) ?_; refine rwP (hall2) ?_; refine rwP (low_enc al.2.2) ?_; refine rwP (a1) ?_; refine rwP (a3) ?_; refine rwQ (List.map_append) ?_; refine rwQ (List.map_append) ?_; refine rwP (parted_enc (fun n hn => ?_) (fun n hn => ?_)) ?_; refine rwP (hp2) ?_; refine rwP (hrest) ?_; refine rwP (low_enc rl.2.2) ?_; refine rwP (hem) ?_; refine rwP (a5) ?_; refine rwP (a6) ?_; refine rwP (List.map_append) ?_; refine rwP (List.map_append) ?_; refine rwP (List.map_take) ?_; try with_reducible rfl) | rw [htw, hall2, low_enc al.2.2, a1, a3, ← List.map_append, ← List.map_append, parted_enc (fun n hn => ?_) (fun n hn => ?_), hp2, hrest, low_enc rl.2.2, hem, a5, a6, List.map_append, List.map_append, List.map_take])
    · rcases List.mem_append.mp hn with h | h
      · exact low_ok al.2.2 n h
      · exact a2 n h
    · rcases List.mem_append.mp hn with h | h
      · exact low_ok tw n h
      · exact a4 n h
  · have e2 : ((pcsOf bls).map List.dropLast).map List.length = (bls.map List.dropLast).map List.length := by
      (first | (refine rwP (drops_nat) ?_; try with_reducible rfl) | rw [drops_nat])
      unfold pcsOf
      (first | (refine rwP (List.map_map) ?_; try with_reducible rfl) | rw [List.map_map])
      exact List.map_congr_left fun bl _ => List.length_map ..
    (first | (refine rwP (hrest) ?_; refine rwP (e2) ?_; refine rwP (added_nat) ?_; try with_reducible rfl) | rw [hrest, e2, added_nat])
    rfl
end Mine
end Part70
section Part71
set_option tactic.hygienic false
open PySem PySem.W PySem.W.X PySem.Calls PyProof.Rows
set_option maxRecDepth 100000
namespace Mine

section
variable {C : Cx} {σ σ' τ : Led} {ι ι' : Imm} {A : Around} {s : Shared} {E : Value → Shared → Prop} {a dx l b : Addr} {vs us items : Array Value}

theorem good_rep (k : Nat) : ∀ p ∈ List.replicate k emptyPiece, goodP p := fun p hp => by (first | (refine rwP (List.eq_of_mem_replicate hp) ?_; try with_reducible rfl) | rw [List.eq_of_mem_replicate hp]); exact piece_good 0
theorem good_more (t : Nat) : (∀ p ∈ addRow t, goodP p) ∧ (∀ p ∈ addTwice t, goodP p) ∧ (∀ p ∈ moreP t, goodP p) ∧ (∀ p ∈ lessP t, goodP p) := by
  refine gen_P fun Pg kg => ?_
  obtain ⟨a1, _, a3, _, a5, a6⟩ := addRow_enc t
  refine kg ?_
  clear kg
  (first | (refine rwP (a1) ?_; refine rwP (a3) ?_; refine rwP (a5) ?_; refine rwP (a6) ?_; try with_reducible rfl) | rw [a1, a3, a5, a6])
  exact ⟨good_enc _, good_enc _, good_enc _, good_enc _⟩
theorem more_len (t : Nat) : (addRow t).length ≤ 3 ∧ (addTwice t).length ≤ 3 ∧ (moreP t).length ≤ 3 ∧ (lessP t).length ≤ 3 := by
  unfold addRow addTwice moreP lessP
  split <;> decide
theorem good_app {p q : List (Str × Str)} (h1 : ∀ x ∈ p, goodP x) (h2 : ∀ x ∈ q, goodP x) : ∀ x ∈ p ++ q, goodP x := fun x hx => by
  rcases List.mem_append.mp hx with h | h
  · exact h1 x h
  · exact h2 x h
theorem sub_pre {pre X Y : Led} (h : X ⊆ Y) : X ⊆ pre ++ Y := fun _ m => List.mem_append_right _ (h m)

set_option maxHeartbeats 1000000 in
theorem turn_c {n : Nat} {L cS cA cM cT cX lb lc ld : Addr} {m : Str → Option Value} {bl : List Blk} {bls : List (List Nat)} {cv : Array Value} {counts : List Nat} {dl : List (Addr × Array Value)} {ds : List (List Nat)} {t : Nat} {tt : Tok} {vX : Option Value} {ρ : Led} {Q : Flow → Shared → Prop}
    (X : CxOk C) (KK : AllK C.K) (KS' : KSld C.K) (KP' : KPart C.K) (KL' : KLaw C.K) (KQ : KAdd C.K) (KA' : KAll C.K) (KM' : KM C.K) (KH : KHolds C.K) (R : Room (n + 6) A) (hin : ∀ m, FrIn A ((L, nsP m) :: ρ))
    (S : SS C ((L, nsP m) :: (cT, cellP (some (.int t tt))) :: (cX, cellP vX) :: (blkLed bl ++ (lb, lstP (blkVals bl).toArray) :: ρ)) ι s) (hok : BlkOk ι bl (pcsOf bls))
    (hb : m "blocks" = some (.ref lb)) (hc : m "counts" = some (.ref lc)) (hlc : (lc, lstP cv) ∈ ρ) (hci : IntsAre cv.toList (natsI counts)) (h4 : counts.length = 4) (hd : m "dues" = some (.ref ld)) (hld : (ld, lstP (dueVals dl)) ∈ ρ) (hdl : ∀ p ∈ dueLed dl, p ∈ ρ) (hda : DuesAre dl ds) (hdz : ds.length ≤ 1000) (ht : t ≤ 1000)
    (F : TurnFacts counts ds t bls)
    (h : ∀ m' vX' lb' bl' ι' s', ι ⊆ ι' → SS C ((L, nsP m') :: (cT, cellP (some (.int t tt))) :: (cX, cellP vX') :: (blkLed bl' ++ (lb', lstP (blkVals bl').toArray) :: ρ)) ι' s' → BlkOk ι' bl' (pcsOf (nextN bls)) → m' "blocks" = some (.ref lb') → m' "counts" = some (.ref lc) → m' "dues" = some (.ref ld) → Q .next s') :
    wpAny (model prg C.w) A (execs turnBody (holdsEnv L cS cA cM cT cX)) Q E s := by
  have hp4 : (pcsOf bls).length = 4 := by (first | (refine rwP (List.length_map) ?_; try with_reducible rfl) | rw [List.length_map]); exact F.len
  have good : ∀ ps ∈ pcsOf bls, small ps ∧ lenS ps + ps.length ≤ 100000 ∧ ∀ p ∈ ps, goodP p := fun ps hps => by
    refine gen_P fun Pg kg => ?_
    obtain ⟨bl, hbl, rfl⟩ := List.mem_map.mp hps
    obtain ⟨l1, l2⟩ := F.low bl hbl
    refine kg ?_
    clear kg
    refine ⟨piece_small fun n hn => ?_, by (first | (refine rwP (lenS_nat) ?_; refine rwP (List.length_map) ?_; try with_reducible rfl) | rw [lenS_nat, List.length_map]); (first | lia | omega), good_map bl⟩
    have := mem_le_sum hn
    (first | lia | omega)
  have B0 : Blks ((cT, cellP (some (.int t tt))) :: (cX, cellP vX) :: (blkLed bl ++ (lb, lstP (blkVals bl).toArray) :: ρ)) ι lb bl (pcsOf bls) :=
    ⟨.tail _ (.tail _ (List.mem_append_right _ (.head _))), fun _ h => .tail _ (.tail _ (List.mem_append_left _ h)), hok, good, by (first | (refine rwP (hp4) ?_; try with_reducible rfl) | rw [hp4]); decide⟩
  have inρ : ∀ {q : Addr × OP} {bl' : List Blk}, q ∈ ρ → q ∈ blkLed bl' ++ (lb, lstP (blkVals bl).toArray) :: ρ := fun h => List.mem_append_right _ (.tail _ h)
  have hinT : ∀ {m' : Str → Option Value} {τ' : Led}, ρ ⊆ τ' → FrIn A ((L, nsP m') :: τ') := fun {m' τ'} hs => (hin m').more fun q hq => by
    rcases List.mem_cons.mp hq with e | hq
    · exact e ▸ .head _
    · exact .tail _ (hs hq)
  -- the blocks are only white where they should be
  refine wpAny_execs_cons (turn_b1 (n := n + 1) X KK R S B0 hb hc (.tail _ (.tail _ (inρ hlc))) hci (.head _) (by (first | lia | omega)) F.g1 fun s1 S1 => ?_)
  -- their texts
  refine wpAny_execs_cons (turn_b2 (n := n) X KK R.h S1 B0 hb (fun v => .tail .head) fun lx xv s2 S2 hxz hxv => ?_)
  have B2 : Blks ((lx, lstP xv) :: (cT, cellP (some (.int t tt))) :: (cX, cellP (some (.ref lx))) :: (blkLed bl ++ (lb, lstP (blkVals bl).toArray) :: ρ)) ι lb bl (pcsOf bls) :=
    ⟨.tail _ (.tail _ (.tail _ (List.mem_append_right _ (.head _)))), fun _ h => .tail _ (.tail _ (.tail _ (List.mem_append_left _ h))), hok, good, by (first | (refine rwP (hp4) ?_; try with_reducible rfl) | rw [hp4]); decide⟩
  refine wpAny_execs_cons (turn_b3 (n := n + 2) X KK R S2 B2 hb (.tail _ (.tail _ (.head _))) (.head _) hxz hxv fun s3 S3 => ?_)
  -- the row of all
  have hallen : (allS (nth (pcsOf bls)) 4).length = (allN bls).length := by (first | (refine rwP (F.all) ?_; refine rwP (List.length_map) ?_; try with_reducible rfl) | rw [F.all, List.length_map])
  obtain ⟨al1, al2, al3⟩ := F.allLow
  have hallS : lenS (allS (nth (pcsOf bls)) 4) = (allN bls).sum := by (first | (refine rwP (F.all) ?_; refine rwP (lenS_nat) ?_; try with_reducible rfl) | rw [F.all, lenS_nat])
  refine wpAny_execs_cons (turn_b4 (n := n + 3) X KK KA' KH R S3 B2 hp4 hb (by (first | lia | omega)) fun row dr vr ι4 s4 i4 S4 hvr => ?_)
  refine wpAny_execs_cons (turn_b5 (n := n + 3) (pss := pcsOf bls) X KK KA' KH R S4 hp4 put_same (.head _) (.tail _ (.head _)) hvr (by (first | (refine rwP (F.all) ?_; try with_reducible rfl) | rw [F.all]); exact piece_small al3) (by (first | lia | omega)) (.tail _ (.tail _ (.tail _ (.tail _ (.head _))))) (.tail _ (.tail _ (.head _))) hxv (fun ps hps => by have := (good ps hps).2.1; (first | lia | omega)) fun s5 S5 => ?_)
  -- the last pieces are struck
  refine wpAny_execs_cons (turn_b6 (n := n + 4) (pre := [(row, accP dr vr), (dr, szP 0), (lx, lstP xv), (cT, cellP (some (.int t tt))), (cX, cellP (some (.ref lx)))]) X KK KM' R S5 (hok.mono i4) (.head _) hb (by (first | (refine rwP (hp4) ?_; try with_reducible rfl) | rw [hp4]); decide) (fun ps hps => by have := (good ps hps).2.1; (first | lia | omega)) fun lk kv ι6 s6 i6 S6 hkv => ?_)
  have hstl : (struckN bls).length = 4 := by unfold struckN; (first | (refine rwP (List.length_map) ?_; try with_reducible rfl) | rw [List.length_map]); exact F.len
  refine wpAny_execs_cons (turn_b7 (n := n + 5) X KL' KH R S6 put_same (.head _) hkv hd (.tail _ (sub_pre (fun _ h => inρ h) hld)) (fun p hp => .tail _ (sub_pre (fun _ h => inρ h) (hdl p hp))) hda hdz (.tail _ (.tail _ (.tail _ (.tail _ (.head _)))))
    (fun d hd => (F.g2 d hd).1) ht (fun d hd => by have := (F.g2 d hd).2; (first | lia | omega)) F.g3 (by (first | (refine rwP (F.struck) ?_; try with_reducible rfl) | rw [F.struck]); exact good_map _) fun ι7 s7 i7 S7 => ?_)
  -- how many are left
  have hok7 : BlkOk ι7 (bl.map popD) ((pcsOf bls).map List.dropLast) := (hok.mapPop).mono fun _ h => i7 (i6 (i4 h))
  have evals : blkVals (bl.map popD) = blkVals bl := blkVals_map (f := popD) (fun _ => rfl) bl
  have good7 : ∀ ps ∈ (pcsOf bls).map List.dropLast, small ps ∧ lenS ps + ps.length ≤ 100000 ∧ ∀ p ∈ ps, goodP p := fun ps hps => by
    rw [drops_nat] at hps
    refine gen_P fun Pg kg => ?_
    obtain ⟨b', hb', rfl⟩ := List.mem_map.mp hps
    obtain ⟨b0, hb0, rfl⟩ := List.mem_map.mp hb'
    obtain ⟨l1, l2⟩ := F.low b0 hb0
    obtain ⟨d1, d2⟩ := dropLast_sum b0
    refine kg ?_
    clear kg
    refine ⟨piece_small fun n hn => ?_, by (first | (refine rwP (lenS_nat) ?_; refine rwP (List.length_map) ?_; try with_reducible rfl) | rw [lenS_nat, List.length_map]); (first | lia | omega), good_map _⟩
    have := mem_le_sum hn
    (first | lia | omega)
  have B7 : Blks ((lk, lstP kv) :: ([(row, accP dr vr), (dr, szP 0), (lx, lstP xv), (cT, cellP (some (.int t tt))), (cX, cellP (some (.ref lx)))] ++ (blkLed (bl.map popD) ++ (lb, lstP (blkVals bl).toArray) :: ρ))) ι7 lb (bl.map popD) ((pcsOf bls).map List.dropLast) :=
    ⟨.tail _ (List.mem_append_right _ (List.mem_append_right _ (by (first | (refine rwP (evals) ?_; try with_reducible rfl) | rw [evals]); exact .head _))), fun _ h => .tail _ (List.mem_append_right _ (List.mem_append_left _ h)), hok7, good7, by (first | (refine rwP (List.length_map) ?_; refine rwP (hp4) ?_; try with_reducible rfl) | rw [List.length_map, hp4]); decide⟩
  refine wpAny_execs_cons (turn_b8 (n := n + 5) X KK R S7 B7 hb fun ll lv s8 S8 hlv => ?_)
  -- what is left is taken off
  obtain ⟨rl1, rl2, rl3⟩ := F.restLow
  refine wpAny_execs_cons (turn_b9 (n := n + 5) (pre := [(ll, lstP lv), (lk, lstP kv), (row, accP dr vr), (dr, szP 0), (lx, lstP xv), (cT, cellP (some (.int t tt))), (cX, cellP (some (.ref lx)))]) X KK KM' R S8 hok7 (by (first | (refine rwP (evals) ?_; try with_reducible rfl) | rw [evals]); exact .head _) hb
    (by (first | (refine rwP (List.length_map) ?_; refine rwP (hp4) ?_; try with_reducible rfl) | rw [List.length_map, hp4]); decide) (by (first | (refine rwP (F.rest) ?_; refine rwP (List.length_map) ?_; try with_reducible rfl) | rw [F.rest, List.length_map]); (first | lia | omega)) fun lr rv s9 S9 hrv => ?_)
  have hok9 : BlkOk ι7 ((bl.map popD).map outD) (((pcsOf bls).map List.dropLast).map fun _ => []) := hok7.mapOut
  have evals9 : blkVals ((bl.map popD).map outD) = blkVals bl := (blkVals_map (f := outD) (fun _ => rfl) _).trans evals
  have B9 : Blks ((lr, lstP rv) :: ([(ll, lstP lv), (lk, lstP kv), (row, accP dr vr), (dr, szP 0), (lx, lstP xv), (cT, cellP (some (.int t tt))), (cX, cellP (some (.ref lx)))] ++ (blkLed ((bl.map popD).map outD) ++ (lb, lstP (blkVals bl).toArray) :: ρ))) ι7 lb ((bl.map popD).map outD) (((pcsOf bls).map List.dropLast).map fun _ => []) :=
    ⟨.tail _ (List.mem_append_right _ (List.mem_append_right _ (by (first | (refine rwP (evals9) ?_; try with_reducible rfl) | rw [evals9]); exact .head _))), fun _ h => .tail _ (List.mem_append_right _ (List.mem_append_left _ h)), hok9,
      fun ps hps => by obtain ⟨_, _, rfl⟩ := List.mem_map.mp hps; exact ⟨fun p hp => (nomatch hp), Nat.zero_le _, fun p hp => (nomatch hp)⟩, by (first | (refine rwP (List.length_map) ?_; refine rwP (List.length_map) ?_; refine rwP (hp4) ?_; try with_reducible rfl) | rw [List.length_map, List.length_map, hp4]); decide⟩
  refine wpAny_execs_cons (turn_b10 (n := n + 5) X KK R S9 B9 (by (first | (refine rwP (List.length_map) ?_; refine rwP (List.length_map) ?_; refine rwP (hp4) ?_; try with_reducible rfl) | rw [List.length_map, List.length_map, hp4])) (fun ps hps => by obtain ⟨_, _, rfl⟩ := List.mem_map.mp hps; rfl) hb fun s10 S10 => ?_)
  -- each struck one twice
  have hkv10 : pcs ι7 kv ((pcsOf bls).map lastP) := hkv.mono i7
  refine wpAny_execs_cons (turn_b11 X KA' R.h S10 rfl (.tail _ (.tail _ (.head _))) hkv10 (by (first | (refine rwP (List.length_map) ?_; refine rwP (hp4) ?_; try with_reducible rfl) | rw [List.length_map, hp4]); decide) fun lw wv s11 S11 hwv => ?_)
  refine wpAny_execs_cons (turn_b12 S11 hc (.tail _ (.tail _ (sub_pre (fun _ h => inρ h) hlc))) hci h4 (.tail _ (.tail _ (.tail _ (.tail _ (.tail _ (.tail _ (.tail _ (.head _)))))))) fun le ev ι12 s12 i12 S12 hev => ?_)
  -- both rows parted
  have i7t : ι ⊆ ι7 := fun _ h => i7 (i6 (i4 h))
  have hvr12 : pcs ι12 vr (allS (nth (pcsOf bls)) 4) := hvr.mono fun _ h => i12 (i7 (i6 h))
  have hwv12 : pcs ι12 wv (twiceS ((pcsOf bls).map lastP)) := hwv.mono i12
  have gall : ∀ p ∈ allS (nth (pcsOf bls)) 4, goodP p := by (first | (refine rwP (F.all) ?_; try with_reducible rfl) | rw [F.all]); exact good_map _
  have etw : twiceS ((pcsOf bls).map lastP) = (twiceN (struckN bls)).map pieceS := by (first | (refine rwP (F.struck) ?_; refine rwP (twice_nat) ?_; try with_reducible rfl) | rw [F.struck, twice_nat])
  have gtw : ∀ p ∈ twiceS ((pcsOf bls).map lastP), goodP p := by (first | (refine rwP (etw) ?_; try with_reducible rfl) | rw [etw]); exact good_map _
  have ltw : (twiceS ((pcsOf bls).map lastP)).length ≤ 1000 := by
    have : ∀ l : List (Str × Str), (twiceS l).length = 2 * l.length := by
      intro l
      induction l with
      | nil => rfl
      | cons p r ih => simp only [twiceS, List.flatMap_cons, List.length_append, List.length_cons, List.length_nil] at ih ⊢; (first | lia | omega)
    (first | (refine rwP (this) ?_; refine rwP (List.length_map) ?_; refine rwP (hp4) ?_; try with_reducible rfl) | rw [this, List.length_map, hp4]); decide
  have grest : ∀ p ∈ ((pcsOf bls).map List.dropLast).flatten, goodP p := by (first | (refine rwP (F.rest) ?_; try with_reducible rfl) | rw [F.rest]); exact good_map _
  have lrest : ((pcsOf bls).map List.dropLast).flatten.length ≤ 1000 := by (first | (refine rwP (F.rest) ?_; refine rwP (List.length_map) ?_; try with_reducible rfl) | rw [F.rest, List.length_map]); (first | lia | omega)
  have gemp := good_rep (emptyN counts t)
  have lemp : (List.replicate (emptyN counts t) emptyPiece).length ≤ 8 := by
    (first | (refine rwP (List.length_replicate) ?_; try with_reducible rfl) | rw [List.length_replicate]); unfold emptyN; split <;> (try split) <;> (first | lia | omega)
  refine wpAny_execs_cons (turn_b13 (n := n + 4) X KK KS' KP' KH R (by (first | lia | omega)) (hinT (fun q hq => .tail _ (.tail _ (.tail _ (.tail _ (sub_pre (fun _ h => inρ h) hq)))))) S12 rfl (.tail _ (.tail _ (.tail _ (.tail _ (.tail _ (.head _)))))) hvr12 rfl (.tail _ (.head _)) hwv12 (.tail _ (.tail _ (.tail _ (.tail _ (.tail _ (.tail _ (.tail _ (.tail _ (.head _))))))))) gall gtw (by (first | lia | omega)) (by (first | lia | omega)) fun l1 l2 tt13 v1 v2 ι13 s13 i13 htt S13 x1 x2 => ?_)
  have hrv13 : pcs ι13 rv ((pcsOf bls).map List.dropLast).flatten := hrv.mono fun _ h => i13 (i12 h)
  have hev13 : pcs ι13 ev (List.replicate (emptyN counts t) emptyPiece) := hev.mono i13
  have e41 : (partedS t (allS (nth (pcsOf bls)) 4) (twiceS ((pcsOf bls).map lastP))).1 = ((pcsOf bls).map List.dropLast).flatten := by (first | (refine rwP (F.g4) ?_; try with_reducible rfl) | rw [F.g4])
  have e42 : (partedS t (allS (nth (pcsOf bls)) 4) (twiceS ((pcsOf bls).map lastP))).2 = List.replicate (emptyN counts t) emptyPiece := by (first | (refine rwP (F.g4) ?_; try with_reducible rfl) | rw [F.g4])
  rw [e41] at x1
  rw [e42] at x2
  refine wpAny_execs_cons (turn_b14 (n := n + 6) R S13 put_same htt (.head _) (.tail _ (.head _)) x1 x2 rfl (.tail _ (.tail _ (.tail _ (.tail _ (.head _))))) hrv13 rfl (.tail _ (.tail _ (.head _))) hev13 rfl rfl grest gemp fun s14 S14 => ?_)
  -- greater ones
  refine @wpAny_execs_cons _ _ _ _ _ _ _ _ ?x15
  show wpAny (model prg C.w) A (exec (turnS 14) (holdsEnv L cS cA cM cT cX)) _ E s14

  refine @turn_b15 _ ?sg15 ?io15 _ _ _ _ _ _ _ _ _ ?m15 _ ?hA15 ?hS15 ?hK15
  case hA15 => exact R.h
  case hS15 => exact S14
  intro ll2 lh lowv highv ι15 s15 i15 S15 hlow hhigh
  refine wpAny_execs_cons (turn_b16 R.h S15 put_same rfl (.tail _ (.tail _ (.tail _ (.tail _ (.tail _ (.tail _ (.tail _ (.tail _ (.tail _ (.tail _ (.tail _ (.tail _ (.head _))))))))))))) fun m16 s16 hml f16 S16 => ?_)
  refine gen_P fun Pg kg => ?_
  obtain ⟨gar, gat, gmo, gle⟩ := good_more t
  obtain ⟨lar, lat, lmo, lle⟩ := more_len t
  refine kg ?_
  clear kg
  have hvr15 : pcs ι15 vr (allS (nth (pcsOf bls)) 4) := hvr12.mono fun _ h => i15 (i13 h)
  refine wpAny_execs_cons (turn_b17 (n := n + 5) (row := row) (dr := dr) (vr := vr) (lv := lowv) (hv := highv) (ll := ll2) (lh := lh) (t := t) (tt := tt)
    (τf := fun v => (lh, lstP highv) :: (ll2, lstP lowv) :: (l1, lstP v1) :: (l2, lstP v2) :: (le, lstP ev) :: (lw, lstP wv) :: (lr, lstP rv) :: ([(ll, lstP lv), (lk, lstP kv), (row, accP dr v), (dr, szP 0), (lx, lstP xv), (cT, cellP (some (.int t tt))), (cX, cellP (some (.ref lx)))] ++ (blkLed ((bl.map popD).map outD) ++ (lb, lstP (blkVals bl).toArray) :: ρ)))
    X KK R S16 ((f16 _ (by decide) (by decide)).trans rfl) (fun v w => (.tail (.tail (.tail (.tail (.tail (.tail (.tail (.tail (.tail .head)))))))))) (fun v => (.tail _ (.tail _ (.tail _ (.tail _ (.tail _ (.tail _ (.tail _ (.tail _ (.tail _ (.tail _ (.head _)))))))))))) hvr15 (by (first | lia | omega)) ((f16 _ (by decide) (by decide)).trans rfl) (fun v => (.tail _ (.head _))) hlow ((f16 _ (by decide) (by decide)).trans rfl) (fun v => (.head _)) hhigh (fun v => (.tail _ (.tail _ (.tail _ (.tail _ (.tail _ (.tail _ (.tail _ (.tail _ (.tail _ (.tail _ (.tail _ (.tail _ (.head _)))))))))))))) fun m17 vr17 ι17 s17 i17 f17 S17 hvr17 => ?_)
  have hwv17 : pcs ι17 wv (twiceS ((pcsOf bls).map lastP)) := hwv12.mono fun _ h => i17 (i15 (i13 h))
  have hlow17 := hlow.mono i17
  have hhigh17 := hhigh.mono i17
  refine wpAny_execs_cons (turn_b18 (lw := lw) (wv := wv) (lv := lowv) (hv := highv) (ll := ll2) (lh := lh) (t := t) (tt := tt)
    (τf := fun w => (lh, lstP highv) :: (ll2, lstP lowv) :: (l1, lstP v1) :: (l2, lstP v2) :: (le, lstP ev) :: (lw, lstP w) :: (lr, lstP rv) :: ([(ll, lstP lv), (lk, lstP kv), (row, accP dr vr17), (dr, szP 0), (lx, lstP xv), (cT, cellP (some (.int t tt))), (cX, cellP (some (.ref lx)))] ++ (blkLed ((bl.map popD).map outD) ++ (lb, lstP (blkVals bl).toArray) :: ρ)))
    S17 ((f17 _ (by decide)).trans ((f16 _ (by decide) (by decide)).trans rfl)) (fun v => (.tail (.tail (.tail (.tail (.tail .head)))))) hwv17 (by (first | lia | omega)) ((f17 _ (by decide)).trans ((f16 _ (by decide) (by decide)).trans rfl)) (.tail _ (.head _)) hlow17 ((f17 _ (by decide)).trans ((f16 _ (by decide) (by decide)).trans rfl)) (.head _) hhigh17 (.tail _ (.tail _ (.tail _ (.tail _ (.tail _ (.tail _ (.tail _ (.tail _ (.tail _ (.tail _ (.tail _ (.tail _ (.head _))))))))))))) fun wv18 s18 S18 hwv18 => ?_)
  have hmore : Ex2 fun lmo mov => And3 (m17 "more" = some (.ref lmo)) (((lmo, mov) = (ll2, lowv) ∨ (lmo, mov) = (lh, highv))) (pcs ι17 mov (moreP t)) := by
    (first | (refine rwP (f17 _ (by decide)) ?_; try with_reducible rfl) | rw [f17 _ (by decide)])
    unfold moreP
    by_cases q : t < 3
    · simp only [q, if_true] at hml ⊢
      exact ⟨ll2, lowv, hml.1, .inl rfl, hlow17⟩
    · simp only [q, if_false] at hml ⊢
      exact ⟨lh, highv, hml.1, .inr rfl, hhigh17⟩
  have hless : Ex2 fun lle lev => And3 (m17 "less" = some (.ref lle)) (((lle, lev) = (ll2, lowv) ∨ (lle, lev) = (lh, highv))) (pcs ι17 lev (lessP t)) := by
    (first | (refine rwP (f17 _ (by decide)) ?_; try with_reducible rfl) | rw [f17 _ (by decide)])
    unfold lessP
    by_cases q : t < 3
    · simp only [q, if_true] at hml ⊢
      exact ⟨lh, highv, hml.2, .inr rfl, hhigh17⟩
    · simp only [q, if_false] at hml ⊢
      exact ⟨ll2, lowv, hml.2, .inl rfl, hlow17⟩
  refine gen_P fun Pg kg => ?_
  obtain ⟨lmo, mov, hm1, hm2, hm3⟩ := hmore
  obtain ⟨lle, lev, hn1, hn2, hn3⟩ := hless
  refine kg ?_
  clear kg
  have pick : ∀ {x : Addr} {v : Array Value}, (x, v) = (ll2, lowv) ∨ (x, v) = (lh, highv) → (x, lstP v) ∈ (lh, lstP highv) :: (ll2, lstP lowv) :: (l1, lstP v1) :: (l2, lstP v2) :: (le, lstP ev) :: (lw, lstP wv18) :: (lr, lstP rv) :: ([(ll, lstP lv), (lk, lstP kv), (row, accP dr vr17), (dr, szP 0), (lx, lstP xv), (cT, cellP (some (.int t tt))), (cX, cellP (some (.ref lx)))] ++ (blkLed ((bl.map popD).map outD) ++ (lb, lstP (blkVals bl).toArray) :: ρ)) := fun {x v} e => by
    rcases e with e | e
    · cases e; exact .tail _ (.head _)
    · cases e; exact .head _
  have e51 : (partedS t (allS (nth (pcsOf bls)) 4 ++ addRow t) (twiceS ((pcsOf bls).map lastP) ++ addTwice t)).1 = ((pcsOf bls).map List.dropLast).flatten ++ moreP t := by (first | (refine rwP (F.g5) ?_; try with_reducible rfl) | rw [F.g5])
  have e52 : (partedS t (allS (nth (pcsOf bls)) 4 ++ addRow t) (twiceS ((pcsOf bls).map lastP) ++ addTwice t)).2 = (List.replicate (emptyN counts t) emptyPiece).take 1 ++ lessP t := by (first | (refine rwP (F.g5) ?_; try with_reducible rfl) | rw [F.g5])
  refine wpAny_execs_cons (turn_b19 (n := n + 4) X KK KS' KP' KH R (by (first | lia | omega)) (hinT (fun q hq => .tail _ (.tail _ (.tail _ (.tail _ (.tail _ (.tail _ (.tail _ (.tail _ (sub_pre (fun _ h => inρ h) hq)))))))))) S18 ((f17 _ (by decide)).trans ((f16 _ (by decide) (by decide)).trans rfl)) (.tail _ (.tail _ (.tail _ (.tail _ (.tail _ (.tail _ (.tail _ (.tail _ (.tail _ (.head _)))))))))) hvr17 ((f17 _ (by decide)).trans ((f16 _ (by decide) (by decide)).trans rfl)) (.tail _ (.tail _ (.tail _ (.tail _ (.tail _ (.head _)))))) hwv18 (.tail _ (.tail _ (.tail _ (.tail _ (.tail _ (.tail _ (.tail _ (.tail _ (.tail _ (.tail _ (.tail _ (.tail _ (.head _))))))))))))) (good_app gall gar) (good_app gtw gat) (by (first | (refine rwP (List.length_append) ?_; try with_reducible rfl) | rw [List.length_append]); (first | lia | omega)) (by (first | (refine rwP (List.length_append) ?_; try with_reducible rfl) | rw [List.length_append]); (first | lia | omega))
    ((f17 _ (by decide)).trans ((f16 _ (by decide) (by decide)).trans rfl)) (.tail _ (.tail _ (.tail _ (.tail _ (.tail _ (.tail _ (.head _))))))) (hrv13.mono fun _ h => i17 (i15 h)) hm1 (pick hm2) hm3 ((f17 _ (by decide)).trans ((f16 _ (by decide) (by decide)).trans rfl)) (.tail _ (.tail _ (.tail _ (.tail _ (.head _))))) (hev13.mono fun _ h => i17 (i15 h)) hn1 (pick hn2) hn3 (by (first | lia | omega)) (by (first | lia | omega)) (by (first | lia | omega)) (by (first | lia | omega))
    (by (first | (refine rwP (e51) ?_; try with_reducible rfl) | rw [e51]); exact good_app grest gmo) (by (first | (refine rwP (e52) ?_; try with_reducible rfl) | rw [e52]); exact good_app (fun p hp => gemp p (List.mem_of_mem_take hp)) gle) e51 e52 fun ι19 s19 i19 S19 => ?_)
  have hvz17 := hvr17.1
  rw [List.length_append] at hvz17
  refine wpAny_execs_cons (turn_b20 (n := n + 3) (row := row) (dr := dr) (vr := vr17)
    (τf := fun v => (lh, lstP highv) :: (ll2, lstP lowv) :: (l1, lstP v1) :: (l2, lstP v2) :: (le, lstP ev) :: (lw, lstP wv18) :: (lr, lstP rv) :: ([(ll, lstP lv), (lk, lstP kv), (row, accP dr v), (dr, szP 0), (lx, lstP xv), (cT, cellP (some (.int t tt))), (cX, cellP (some (.ref lx)))] ++ (blkLed ((bl.map popD).map outD) ++ (lb, lstP (blkVals bl).toArray) :: ρ)))
    X KK KM' R S19 ((f17 _ (by decide)).trans ((f16 _ (by decide) (by decide)).trans rfl)) (fun v w => (.tail (.tail (.tail (.tail (.tail (.tail (.tail (.tail (.tail .head)))))))))) (fun v => (.tail (.tail (.tail (.tail (.tail (.tail (.tail (.tail (.tail (.tail .head))))))))))) (by (first | lia | omega)) fun s20 S20 => ?_)
  -- and added up anew
  have hrl : lenS ((pcsOf bls).map List.dropLast).flatten ≤ 1000000 := by (first | (refine rwP (F.rest) ?_; refine rwP (lenS_nat) ?_; try with_reducible rfl) | rw [F.rest, lenS_nat]); (first | lia | omega)
  refine wpAny_execs_cons (turn_b21 (n := n) X KK KL' KQ KA' KM' KH R S20 ((f17 _ (by decide)).trans ((f16 _ (by decide) (by decide)).trans rfl)) (i19 (i17 (i15 htt))) (.tail _ (.tail _ (.head _))) (x1.mono fun _ h => i19 (i17 (i15 h))) ((f17 _ (by decide)).trans ((f16 _ (by decide) (by decide)).trans rfl)) (.tail _ (.tail _ (.tail _ (.tail _ (.tail _ (.tail _ (.tail _ (.head _)))))))) hlv (by (first | (refine rwP (List.length_map) ?_; refine rwP (List.length_map) ?_; refine rwP (hp4) ?_; try with_reducible rfl) | rw [List.length_map, List.length_map, hp4]); decide) (by (first | (refine rwP (F.rest) ?_; try with_reducible rfl) | rw [F.rest]); exact piece_small rl3) hrl (by (first | lia | omega)) fun lb' bl' ι21 s21 i21 S21 hok21 => ?_)
  rw [F.g6] at hok21
  refine wpAny_execs_nil ?_
  refine h (put m17 "blocks" (.ref lb')) (some (.ref lx)) lb' bl' ι21 s21 (fun _ h => i21 (i19 (i17 (i15 (i13 (i12 (i7t h))))))) ?_ hok21 put_same ((f17 _ (by decide)).trans ((f16 _ (by decide) (by decide)).trans hc)) ((f17 _ (by decide)).trans ((f16 _ (by decide) (by decide)).trans hd))
  have S22 : SS C ((L, nsP (put m17 "blocks" (.ref lb'))) :: (blkLed bl' ++ (lb', lstP (blkVals bl').toArray) :: (cT, cellP (some (.int t tt))) :: (cX, cellP (some (.ref lx))) :: ρ)) ι21 s21 := by
    refine S21.sub (.cons_cons _ ((List.Sublist.refl _).append (.cons_cons _ ?_)))
    refine .cons _ (.cons _ (.cons _ (.cons _ (.cons _ (.cons _ (.cons _ (.cons _ (.cons _ (.cons _ (.cons _ (.cons _ (.cons_cons _ (.cons_cons _ ?_)))))))))))))
    exact (List.sublist_cons_self _ _).trans (List.sublist_append_right _ _)
  refine S22.perm (List.Perm.cons _ ?_)
  have p1 := List.perm_middle (a := (cT, cellP (some (.int t tt)))) (l₁ := blkLed bl' ++ [(lb', lstP (blkVals bl').toArray)]) (l₂ := (cX, cellP (some (.ref lx))) :: ρ)
  have p2 := (List.perm_middle (a := (cX, cellP (some (.ref lx)))) (l₁ := blkLed bl' ++ [(lb', lstP (blkVals bl').toArray)]) (l₂ := ρ)).cons (cT, cellP (some (.int t tt)))
  have p3 := p1.trans p2
  simp only [List.append_assoc, List.cons_append, List.nil_append] at p3
  exact p3
end
end Mine
end Part71
section Part72
set_option tactic.hygienic false
open PySem PySem.W PySem.W.X PySem.Calls PyProof.Rows
set_option maxRecDepth 100000
namespace Mine

/-! ## _law_holds in numbers, and the 80 cases -/
noncomputable def countsN (st : List Nat) : List Nat := (List.range 4).map (countS st)
noncomputable def duesN (st : List Nat) (ahead : Nat) : List (List Nat) := ((List.range 4).map fun k => prodN (factS st ahead k)).map (padS (countS st 3 + 2))
noncomputable def firstN (st : List Nat) (ahead : Nat) : List (List Nat) := addedN (List.replicate (countsN st).sum 1) (countsN st) ahead
noncomputable def turnsOk (counts : List Nat) (ds : List (List Nat)) : Nat → Nat → List (List Nat) → Bool
  | 0, _, _ => true
  | k + 1, t, bls => turnOk counts ds t bls && turnsOk counts ds k (t + 1) (nextN bls)
noncomputable def holdsOk (st : List Nat) (ahead : Nat) : Bool :=
  st.length == 4 && st.all (fun x => Nat.ble x 10) && Nat.ble ahead 10 && Nat.ble (countsN st).sum 100 &&
  ((List.range 4).map fun k => prodN (factS st ahead k)).all (fun d => Nat.ble d.length (countS st 3 + 3)) &&
  turnsOk (countsN st) (duesN st ahead) (countS st 3 + 2) 1 (firstN st ahead)

noncomputable def eightOk (a b c : Nat) : Bool := (List.range 2).all fun d => (List.range 4).all fun v => holdsOk [a + 1, b, c, d] v
theorem eight_000 : eightOk 0 0 0 = true := by decide +kernel
theorem eight_001 : eightOk 0 0 1 = true := by decide +kernel
theorem eight_002 : eightOk 0 0 2 = true := by decide +kernel
theorem eight_010 : eightOk 0 1 0 = true := by decide +kernel
theorem eight_011 : eightOk 0 1 1 = true := by decide +kernel
theorem eight_020 : eightOk 0 2 0 = true := by decide +kernel
theorem eight_100 : eightOk 1 0 0 = true := by decide +kernel
theorem eight_101 : eightOk 1 0 1 = true := by decide +kernel
theorem eight_110 : eightOk 1 1 0 = true := by decide +kernel
theorem eight_200 : eightOk 2 0 0 = true := by decide +kernel

theorem all_hold {a b c d v : Nat} (ha : a < 3) (hb : b < 3 - a) (hc : c < 3 - a - b) (hd : d < 2) (hv : v < 4) : holdsOk [a + 1, b, c, d] v = true := by
  have key : eightOk a b c = true := by
    match a, b, c, ha, hb, hc with
    | 0, 0, 0, _, _, _ => exact eight_000
    | 0, 0, 1, _, _, _ => exact eight_001
    | 0, 0, 2, _, _, _ => exact eight_002
    | 0, 1, 0, _, _, _ => exact eight_010
    | 0, 1, 1, _, _, _ => exact eight_011
    | 0, 2, 0, _, _, _ => exact eight_020
    | 1, 0, 0, _, _, _ => exact eight_100
    | 1, 0, 1, _, _, _ => exact eight_101
    | 1, 1, 0, _, _, _ => exact eight_110
    | 2, 0, 0, _, _, _ => exact eight_200
    | 0, 0, c + 3, _, _, h => (first | lia | omega)
    | 0, 1, c + 2, _, _, h => (first | lia | omega)
    | 0, 2, c + 1, _, _, h => (first | lia | omega)
    | 0, b + 3, _, _, h, _ => (first | lia | omega)
    | 1, 0, c + 2, _, _, h => (first | lia | omega)
    | 1, 1, c + 1, _, _, h => (first | lia | omega)
    | 1, b + 2, _, _, h, _ => (first | lia | omega)
    | 2, 0, c + 1, _, _, h => (first | lia | omega)
    | 2, b + 1, _, _, h, _ => (first | lia | omega)
    | a + 3, _, _, h, _, _ => (first | lia | omega)
  have h1 := List.all_eq_true.mp key d (List.mem_range.mpr hd)
  exact List.all_eq_true.mp h1 v (List.mem_range.mpr hv)

structure HoldsFacts (st : List Nat) (ahead : Nat) : Prop where
  len : st.length = 4
  low : ∀ j, st.getD j 0 ≤ 10
  far : ahead ≤ 10
  sum : (countsN st).sum ≤ 100
  dues : ∀ d ∈ (List.range 4).map (fun k => prodN (factS st ahead k)), d.length ≤ countS st 3 + 2 + 1
  turns : turnsOk (countsN st) (duesN st ahead) (countS st 3 + 2) 1 (firstN st ahead) = true
  c3 : countS st 3 ≤ 100
theorem holds_facts {st : List Nat} {ahead : Nat} (h : holdsOk st ahead = true) : HoldsFacts st ahead := by
  unfold holdsOk at h
  simp only [Bool.and_eq_true, beq_iff_eq, Nat.ble_eq] at h
  obtain ⟨⟨⟨⟨⟨h1, h2⟩, h3⟩, h4⟩, h5⟩, h6⟩ := h
  refine ⟨h1, fun j => ?_, h3, h4, fun d hd => ?_, h6, ?_⟩
  · (first | (refine rwP (List.getD_eq_getElem?_getD) ?_; try with_reducible rfl) | rw [List.getD_eq_getElem?_getD])
    cases e : st[j]? with
    | none => exact Nat.zero_le _
    | some x =>
      have := List.all_eq_true.mp h2 x (List.mem_of_getElem? e)
      rwa [Nat.ble_eq] at this
  · have := List.all_eq_true.mp h5 d hd
    rwa [Nat.ble_eq] at this
  · have : countS st 3 ∈ countsN st := List.mem_map.mpr ⟨3, by decide, rfl⟩
    have := mem_le_sum this
    (first | lia | omega)
end Mine
end Part72
section Part73
set_option tactic.hygienic false
open PySem PySem.W PySem.W.X PySem.Calls PyProof.Rows
set_option maxRecDepth 100000
namespace Mine

theorem perm3 {α : Type} (X : List α) (a b c : α) (r : List α) : (X ++ a :: b :: c :: r).Perm (a :: b :: c :: (X ++ r)) :=
  List.perm_middle.trans ((List.perm_middle.trans (List.perm_middle.cons _)).cons _)
theorem perm2 {α : Type} (X : List α) (l b c : α) (r : List α) : (X ++ l :: b :: c :: r).Perm (b :: c :: (X ++ l :: r)) := by
  have := (List.perm_middle (a := b) (l₁ := X ++ [l]) (l₂ := c :: r)).trans ((List.perm_middle (a := c) (l₁ := X ++ [l]) (l₂ := r)).cons b)
  simpa only [List.append_assoc, List.cons_append, List.nil_append] using this
/-- an entry put deep -/
theorem permIn {α : Type} (it L a b : α) (X : List α) (l : α) (r : List α) : (it :: L :: a :: b :: (X ++ l :: r)).Perm (L :: a :: b :: (X ++ l :: it :: r)) := by
  have := (List.perm_middle (a := it) (l₁ := L :: a :: b :: (X ++ [l])) (l₂ := r)).symm
  simpa only [List.append_assoc, List.cons_append, List.nil_append] using this

section
variable {C : Cx} {σ σ' τ : Led} {ι ι' : Imm} {A : Around} {s : Shared} {E : Value → Shared → Prop} {a dx l b : Addr} {vs us items : Array Value}

set_option maxHeartbeats 1000000 in
theorem holds_loop {n : Nat} {L cS cA cM cT cX lb lc ld : Addr} {m : Str → Option Value} {bl : List Blk} {bls : List (List Nat)} {cv : Array Value} {counts : List Nat} {dl : List (Addr × Array Value)} {ds : List (List Nat)} {most : Nat} {tm : Tok} {vT vX : Option Value} {ρ : Led} {Q : Flow → Shared → Prop}
    (X : CxOk C) (KK : AllK C.K) (KS' : KSld C.K) (KP' : KPart C.K) (KL' : KLaw C.K) (KQ : KAdd C.K) (KA' : KAll C.K) (KM' : KM C.K) (KH : KHolds C.K) (R : Room (n + 6) A) (hin : ∀ m, FrIn A ((L, nsP m) :: ρ))
    (S : SS C ((L, nsP m) :: (cT, cellP vT) :: (cX, cellP vX) :: (blkLed bl ++ (lb, lstP (blkVals bl).toArray) :: ρ)) ι s) (hok : BlkOk ι bl (pcsOf bls))
    (hb : m "blocks" = some (.ref lb)) (hc : m "counts" = some (.ref lc)) (hlc : (lc, lstP cv) ∈ ρ) (hci : IntsAre cv.toList (natsI counts)) (h4 : counts.length = 4) (hd : m "dues" = some (.ref ld)) (hld : (ld, lstP (dueVals dl)) ∈ ρ) (hdl : ∀ p ∈ dueLed dl, p ∈ ρ) (hda : DuesAre dl ds) (hdz : ds.length ≤ 1000)
    (hcM : (cM, cellP (some (.int most tm))) ∈ ρ) (hmo : most ≤ 500) (ht : turnsOk counts ds most 1 bls = true) (hQ : ∀ σ' ι' s', SS C σ' ι' s' → Q .next s') :
    wpAny (model prg C.w) A (exec (holdsS 5) (holdsEnv L cS cA cM cT cX)) Q E s := by
  refine wpAny_For ?_
  refine Call_ (n_builtin X S KA'.gRange KA'.bRange ?_)
  refine PySem.callWith_type (by rfl) (ea (by rfl) (sp_cons (wpAny_Constant_int (sp_cons (wpAny_BinOp ?_)))))
  have S1 : SS C ((L, nsP m) :: (cT, cellP vT) :: (cX, cellP vX) :: (blkLed bl ++ (lb, lstP (blkVals bl).toArray) :: ρ)) ι { s with toks := s.toks + 1 } := S
  refine n_cell S1 rfl (.tail _ (.tail _ (.tail _ (List.mem_append_right _ (.tail _ hcM))))) (wpAny_Constant_int (P.add_int (sp_nil ?_)))
  have S2 : SS C ((L, nsP m) :: (cT, cellP vT) :: (cX, cellP vX) :: (blkLed bl ++ (lb, lstP (blkVals bl).toArray) :: ρ)) ι { s with toks := s.toks + 1 + 1 + 1 } := S
  refine make_range2 S2 fun r t u w s3 S3 hr => ?_
  have e : (most : Int) + 1 = 1 + (most : Nat) := by (first | lia | omega)
  rw [e] at hr
  refine iter_range S3 hr (by decide) (by (first | lia | omega)) fun it s4 S4 => ?_
  refine for_w ri_walker (fun i σ' ι' => i ≤ most ∧ Ex6 fun m vT vX lb bl bls => And7 (σ' = (L, nsP m) :: (cT, cellP vT) :: (cX, cellP vX) :: (blkLed bl ++ (lb, lstP (blkVals bl).toArray) :: ρ)) (ι ⊆ ι') (BlkOk ι' bl (pcsOf bls)) (turnsOk counts ds (most - i) (1 + i) bls = true) (m "blocks" = some (.ref lb)) (m "counts" = some (.ref lc)) (m "dues" = some (.ref ld)))
    (fun _ _ _ _ => trivial) (fun i σ' ι1 ι2 w s hi hI hι hw S => ?_) (fun σ' ι1 s hI S => ?_) R.h S4 ⟨Nat.zero_le _, m, vT, vX, lb, bl, bls, rfl, fun _ h => h, hok, ht, hb, hc, hd⟩
  · refine gen_P fun Pg kg => ?_
    obtain ⟨_, m', vT', vX', lb', bl', bls', rfl, hιι, hok', ht', hb', hc', hd'⟩ := hI
    obtain ⟨tw, rfl⟩ := hw
    refine kg ?_
    clear kg
    obtain ⟨j, hj⟩ : ∃ j, most - i = j + 1 := ⟨most - i - 1, by (first | lia | omega)⟩
    rw [hj] at ht'
    simp only [turnsOk, Bool.and_eq_true] at ht'
    refine wpAny_assign_Name (n_storeC S rfl (.tail (.tail .head)) fun s5 S5 => ?_)
    have e1 : (1 : Int) + (i : Nat) = ((1 + i : Nat) : Int) := by (first | lia | omega)
    rw [e1] at S5
    have S6 := S5.perm (permIn _ _ _ _ _ _ _)
    refine turn_c (n := n) (ρ := (it, riP 1 most (i + 1)) :: ρ) X KK KS' KP' KL' KQ KA' KM' KH R (fun m => ?_) S6 (hok'.mono hι) hb' hc' (.tail _ hlc) hci h4 hd' (.tail _ hld) (fun p hp => .tail _ (hdl p hp)) hda hdz (by (first | lia | omega)) (turn_facts ht'.1) fun m7 vX7 lb7 bl7 ι7 s7 h7 S7 hok7 hb7 hc7 hd7 => ?_
    · refine (hin m).more fun q hq => ?_
      rcases List.mem_cons.mp hq with e | hq
      · exact e ▸ .head _
      · exact .tail _ (.tail _ hq)
    · refine ⟨_, ι7, S7.perm (permIn _ _ _ _ _ _ _).symm, by (first | lia | omega), m7, _, vX7, lb7, bl7, nextN bls', rfl, fun _ h => h7 (hι (hιι h)), hok7, ?_, hb7, hc7, hd7⟩
      (first | (refine rwP (show most - (i + 1) = j by (first | lia | omega)) ?_; refine rwQ (Nat.add_assoc) ?_; try with_reducible rfl) | rw [show most - (i + 1) = j by (first | lia | omega), ← Nat.add_assoc])
      exact ht'.2
  · exact wpAny_execs_nil (hQ _ _ _ S)

end
end Mine
end Part73
section Part74
set_option tactic.hygienic false
open PySem PySem.W PySem.W.X PySem.Calls PyProof.Rows
set_option maxRecDepth 100000
namespace Mine
section
variable {C : Cx} {σ σ' τ : Led} {ι ι' : Imm} {A : Around} {s : Shared} {E : Value → Shared → Prop} {a dx l b : Addr} {vs us items : Array Value}

set_option maxHeartbeats 2000000 in
theorem holds_c {n : Nat} {ls : Addr} {sv : Array Value} {st : List Nat} {ahead : Nat} {ta : Tok} {Q : Value → Shared → Prop}
    (X : CxOk C) (KK : AllK C.K) (KS' : KSld C.K) (KP' : KPart C.K) (KL' : KLaw C.K) (KQ : KAdd C.K) (KA' : KAll C.K) (KM' : KM C.K) (KP : KProd C.K) (KH : KHolds C.K) (R : Room (n + 7) A) (hin : FrIn A σ)
    (S : SS C σ ι s) (hls : (ls, lstP sv) ∈ σ) (hi : IntsAre sv.toList (natsI st)) (H : HoldsFacts st ahead) (hQ : ∀ σ' ι' s', SS C σ' ι' s' → Q (.bool true) s') :
    wpAny (model prg C.w) A (call (.ref 141) [.ref ls, .int ahead ta] []) Q E s := by
  refine call_fnC (binds := [("steps", .ref ls), ("ahead", .int ahead ta)]) X KH.fHolds R S (fun _ _ _ _ _ => rfl) (fun L s1 S1 R1 => ?_) (fun L x hx => ?_)
  rotate_left
  · rcases List.mem_cons.mp hx with rfl | hx
    · exact .inr ⟨rfl, rfl⟩
    · (first | (refine rwP (List.mem_singleton.mp hx) ?_; try with_reducible rfl) | rw [List.mem_singleton.mp hx]); exact .inr ⟨rfl, rfl⟩
  have S1 : SS C ((L, nsP (bindL (fun x => (scopeOf (topS 11)).names.lookup x) [("steps", .ref ls), ("ahead", .int ahead ta)] fun _ => none)) :: (L + 5, cellP none) :: (L + 4, cellP none) :: (L + 3, cellP none) :: (L + 2, cellP (some (.int ahead ta))) :: (L + 1, cellP (some (.ref ls))) :: σ) ι s1 := S1
  generalize bindL (fun x => (scopeOf (topS 11)).names.lookup x) [("steps", Value.ref ls), ("ahead", .int ahead ta)] (fun _ => none) = m at S1
  show wpAny (model prg C.w) (A.deeper (holdsEnv L (L + 1) (L + 2) (L + 3) (L + 4) (L + 5))) (execs (bodyOf (topS 11)) (holdsEnv L (L + 1) (L + 2) (L + 3) (L + 4) (L + 5))) _ _ s1
  have R1 : Room (n + 6) (A.deeper (holdsEnv L (L + 1) (L + 2) (L + 3) (L + 4) (L + 5))) := R1
  have hin1 : ∀ m, FrIn (A.deeper (holdsEnv L (L + 1) (L + 2) (L + 3) (L + 4) (L + 5))) ((L, nsP m) :: σ) := fun m => hin.deeper (by intro q; cases q) rfl
  generalize L + 1 = cS at S1 R1 hin1 ⊢
  generalize L + 2 = cA at S1 R1 hin1 ⊢
  generalize L + 3 = cM at S1 R1 hin1 ⊢
  generalize L + 4 = cT at S1 R1 hin1 ⊢
  generalize L + 5 = cX at S1 R1 hin1 ⊢
  generalize e0 : A.deeper (holdsEnv L cS cA cM cT cX) = A1 at hin1 R1
  have hA1 := R1.h
  obtain ⟨h4, h10, hfar, hsum, hdue, hturns, hc3⟩ := H
  have S2 : SS C ((L, nsP m) :: (cT, cellP none) :: (cX, cellP none) :: (cM, cellP none) :: (cA, cellP (some (.int ahead ta))) :: (cS, cellP (some (.ref ls))) :: σ) ι s1 := S1.perm ((List.Perm.swap _ _ _).cons _)
  -- the counts
  refine wpAny_execs_cons (holds_counts X KA' KH hA1 S2 (.tail _ (.tail _ (.tail _ (.tail _ (.head _))))) (.tail _ (.tail _ (.tail _ (.tail _ (.tail _ hls))))) hi (by (first | lia | omega)) fun lc cv s3 S3 hcz hcv => ?_)
  have hci : IntsAre cv.toList (natsI (countsN st)) := ints_of hcz fun i h => (hcv i h).elim fun t e => ⟨_, e, t, rfl⟩
  have S4 := S3.perm (perm3 [(lc, lstP cv)] _ _ _ _)
  -- the most
  obtain ⟨t3, ht3⟩ := hcv 3 (by decide)
  refine wpAny_execs_cons (holds_most S4 put_same (.tail _ (.tail _ (.head _))) ht3 (fun v => .tail (.tail (.tail .head))) fun tm s5 S5 => ?_)
  -- the dues
  refine wpAny_execs_cons (holds_dues1 (n := n + 5) X KA' KH KP R1 S5 (.tail _ (.tail _ (.tail _ (.tail _ (.tail _ (.head _)))))) (.tail _ (.tail _ (.tail _ (.tail _ (.head _))))) (.tail _ (.tail _ (.tail _ (.tail _ (.tail _ (.tail _ hls)))))) hi h4 h10 hfar fun ld dl s6 S6 hdl => ?_)
  have S7 := S6.perm (perm3 ((ld, lstP (dueVals dl)) :: dueLed dl) _ _ _ _)
  refine wpAny_execs_cons (holds_dues2 X KK hA1 S7 put_same (.tail _ (.tail _ (.head _))) (fun p hp => .tail _ (.tail _ (.tail _ (List.mem_append_left _ hp)))) (.tail _ (.tail _ (.tail _ (List.mem_append_right _ (.tail _ (.head _)))))) hdl (by (first | lia | omega)) hdue (by simp) fun ld2 dl2 s8 S8 hdl2 => ?_)
  have S9 := S8.perm (perm3 ((ld2, lstP (dueVals dl2)) :: dueLed dl2) _ _ _ _)
  -- the first blocks
  have inr : ∀ {q : Addr × OP} {r : Led}, q ∈ r → q ∈ (cT, cellP none) :: (cX, cellP none) :: (((ld2, lstP (dueVals dl2)) :: dueLed dl2) ++ (((ld, lstP (dueVals dl)) :: dueLed dl) ++ r)) := fun h => .tail _ (.tail _ (List.mem_append_right _ (List.mem_append_right _ h)))
  refine wpAny_execs_cons (holds_blocks (n := n) X KK KL' KQ KA' KM' KH R1 S9 (inr (.tail _ (.tail _ (.head _)))) rfl (inr (.head _)) hci (by simp [countsN]) (by (first | lia | omega)) hfar fun lb bl ι10 s10 h10' S10 hok => ?_)
  have e1 : List.replicate (countsN st).sum (pieceS 1) = (List.replicate (countsN st).sum 1).map pieceS := by (first | (refine rwP (List.map_replicate) ?_; try with_reducible rfl) | rw [List.map_replicate])
  rw [e1, added_nat] at hok
  have S11 := S10.perm ((perm2 (blkLed bl) _ _ _ _).cons _)
  -- the turns
  refine wpAny_execs_cons (holds_loop (n := n) X KK KS' KP' KL' KQ KA' KM' KH R1 (fun m => ?_) S11 hok put_same rfl (List.mem_append_right _ (List.mem_append_right _ (.head _))) hci (by simp [countsN])
    rfl (.head _) (fun p hp => .tail _ (List.mem_append_left _ hp)) hdl2 (by simp) (List.mem_append_right _ (List.mem_append_right _ (.tail _ (.head _)))) (by (first | lia | omega)) hturns fun σ' ι' s' S' => ?_)
  · refine (hin1 m).more fun q hq => ?_
    rcases List.mem_cons.mp hq with e | hq
    · exact e ▸ .head _
    · exact .tail _ (List.mem_append_right _ (List.mem_append_right _ (.tail _ (.tail _ (.tail _ (.tail _ hq))))))
  refine wpAny_execs_cons (wpAny_Return_some (wpAny_Constant_bool ?_))
  exact hQ _ _ _ S'
end
end Mine
end Part74
section Part75
set_option tactic.hygienic false
open PySem PySem.W PySem.W.X PySem.Calls PyProof.Rows
set_option maxRecDepth 100000
namespace Mine

/-! ## enumerate over the ledger -/
noncomputable def enumP (it : Addr) (f0 : Value) (i : Int) (old : Value) : OP := fun o => o = { cls := .type "enumerate", dict := none, data := .fields #[f0, .bool false, .ref it, rawInt i, .none, old], slots := #[] }
theorem enumP_not {it : Addr} {f0 old : Value} {i : Int} {o : Obj} (h : enumP it f0 i old o) : ¬ isTup o := by
  rintro ⟨e, _⟩; rw [h] at e; injection e with e; exact absurd e (by decide)
noncomputable abbrev enumLed (e it l : Addr) (k : Nat) (f0 old : Value) : Led := [(e, enumP it f0 k old), (it, liP l k)]

section
variable {C : Cx} {σ σ' τ : Led} {ι ι' : Imm} {A : Around} {s : Shared} {E : Value → Shared → Prop} {e it l : Addr} {xs : Array Value} {k : Nat} {f0 old : Value}

theorem enum_ne (S : SS C (enumLed e it l k f0 old ++ σ) ι s) : e ≠ it := by
  have nd := S.nd
  simp only [List.cons_append, List.nil_append, List.map_cons, List.nodup_cons, List.mem_cons, not_or] at nd
  exact nd.1.1

theorem enum_item {x : Value} {Q : Option Value → Shared → Prop} (S : SS C (enumLed e it l k .none old ++ σ) ι s) (hl : (l, lstP xs) ∈ σ) (hx : xs[k]? = some x)
    (h : ∀ (T : Addr) tk s', SS C (enumLed e it l (k + 1) (rawInt T) x ++ σ) ((T, pieceObj (.int k tk) x) :: ι) s' → Q (some (.ref T)) s') :
    wpAny (model prg C.w) A (pyNext (.ref e)) Q E s := by
  refine gen_P fun Pg kg => ?_
  obtain ⟨oe, ee, pe⟩ := S.at (a := e) (.head _)
  refine kg ?_
  clear kg
  subst pe
  refine gen_P fun Pg kg => ?_
  obtain ⟨oi, ei, pi⟩ := S.at (a := it) (.tail _ (.head _))
  obtain ⟨ol, el, ⟨cl, _⟩, nl, dl⟩ := S.at (a := l) (.tail _ (.tail _ hl))
  refine kg ?_
  clear kg
  refine wpAny_pyNext_enum_item ee ⟨oi, ei, pi.1, pi.2⟩ ⟨ol, el, cl, nl, dl⟩ hx (enum_ne S) fun h' f1 f2 f3 f4 kp => ?_
  refine h s.heap.objs.size s.toks _ ?_
  refine St.remake (P := enumLed e it l k .none old) (B := []) (B' := [(s.heap.objs.size, pieceObj (.int k s.toks) x)]) (X := [e, it]) S rfl (fun p hp => ?_) (fun p hp => ?_) (fun c o hc eo => ?_) (fun c hc => ?_)
  · rcases List.mem_cons.mp hp with rfl | hp
    · exact ⟨_, f1, rfl, enumP_not rfl⟩
    · (first | (refine rwP (List.mem_singleton.mp hp) ?_; try with_reducible rfl) | rw [List.mem_singleton.mp hp])
      refine gen_P fun Pg kg => ?_
      obtain ⟨o, eo, c, d⟩ := f2
      refine kg ?_
      clear kg
      exact ⟨o, eo, ⟨c, d⟩, liP_not ⟨c, d⟩⟩
  · (first | (refine rwP (List.mem_singleton.mp hp) ?_; try with_reducible rfl) | rw [List.mem_singleton.mp hp])
    exact ⟨f3, pieceObj_tup _ _, fresh_base S.big (Nat.le_refl _)⟩
  · simp only [List.mem_cons, List.not_mem_nil, or_false, not_or] at hc
    exact kp c o hc.1 hc.2 eo
  · simp only [List.mem_cons, List.not_mem_nil, or_false] at hc
    rcases hc with rfl | rfl
    · exact .inl (by simp)
    · exact .inl (by simp)

theorem enum_end {Q : Option Value → Shared → Prop} (S : SS C (enumLed e it l k .none old ++ σ) ι s) (hA : A.handled = none) (hl : (l, lstP xs) ∈ σ) (hx : xs[k]? = none) (h : ∀ s', SS C σ ι s' → Q none s') :
    wpAny (model prg C.w) A (pyNext (.ref e)) Q E s := by
  obtain ⟨oe, ee, pe⟩ := S.at (a := e) (.head _)
  subst pe
  refine gen_P fun Pg kg => ?_
  obtain ⟨oi, ei, pi⟩ := S.at (a := it) (.tail _ (.head _))
  obtain ⟨ol, el, ⟨cl, _⟩, nl, dl⟩ := S.at (a := l) (.tail _ (.tail _ hl))
  refine kg ?_
  clear kg
  refine wpAny_pyNext_enum_end hA ee ⟨oi, ei, pi.1, pi.2⟩ ⟨ol, el, cl, nl, dl⟩ hx fun h' kp => ?_
  refine h _ ?_
  have nd := S.nd
  rw [List.map_append, List.nodup_append] at nd
  have Sa : SS C σ ι s := S.sub (List.sublist_append_right _ _)
  refine St.remake (P := []) (P' := []) (B := []) (B' := []) (X := [it]) Sa rfl (fun p hp => by cases hp) (fun p hp => by cases hp) (fun c o hc eo => ?_) (fun c hc => .inr ?_)
  · simp only [List.mem_cons, List.not_mem_nil, or_false] at hc
    exact kp c o hc eo
  · (first | (refine rwP (List.mem_singleton.mp hc) ?_; try with_reducible rfl) | rw [List.mem_singleton.mp hc])
    have hp : (it, liP l k) ∈ enumLed e it l k .none old := .tail _ (.head _)
    refine ⟨fun q hq e => nd.2.2 it (List.mem_map_of_mem (f := (·.1)) hp) q.1 (List.mem_map_of_mem (f := (·.1)) hq) e.symm, fun q hq e => S.apart (List.mem_append_left _ hp) hq e.symm, ?_⟩
    refine gen_P fun Pg kg => ?_
    obtain ⟨_, _, _, _, b⟩ := S.own _ (List.mem_append_left _ hp)
    refine kg ?_
    clear kg
    exact b

theorem enum_go {elts : List Expr} {n : Nat} {pos : Pos} {T : Addr} {Q : Unit → Shared → Prop} (S : SS C (enumLed e it l k (rawInt T) old ++ σ) ι s) (h : ∀ s', SS C (enumLed e it l k .none old ++ σ) ι s' → Q () s') :
    wpAny (model prg C.w) A (letOwnedTupleGo (.Tuple elts n pos) (.ref e) (.ref T)) Q E s := by
  refine gen_P fun Pg kg => ?_
  obtain ⟨oe, ee, pe⟩ := S.at (a := e) (.head _)
  refine kg ?_
  clear kg
  subst pe
  refine wpAny_letOwnedTupleGo_enum ee fun h' f1 hs => h _ ?_
  exact S.same .head hs f1 rfl (enumP_not rfl)

theorem enum_new {Q : Value → Shared → Prop} (S : SS C σ ι s) (hl : (l, lstP xs) ∈ σ) (h : ∀ e it s', SS C (enumLed e it l 0 .none .none ++ σ) ι s' → Q (.ref e) s') :
    wpAny (model prg C.w) A (call (.type "enumerate") [.ref l]) Q E s := by
  refine gen_P fun Pg kg => ?_
  obtain ⟨ol, el, ⟨cl, _⟩, nl, dl⟩ := S.at hl
  refine kg ?_
  clear kg
  refine call_enumerate_list ⟨ol, el, cl, nl, dl⟩ fun h' f1 f2 f3 kp => ?_
  refine h (s.heap.objs.size + 1) s.heap.objs.size _ ?_
  refine St.many S ?_ kp fun p hp => ?_
  · simp
  · rcases List.mem_cons.mp hp with rfl | hp
    · exact ⟨Nat.le_add_right _ _, _, f1, rfl, enumP_not rfl⟩
    · (first | (refine rwP (List.mem_singleton.mp hp) ?_; try with_reducible rfl) | rw [List.mem_singleton.mp hp])
      refine gen_P fun Pg kg => ?_
      obtain ⟨o, eo, c, d⟩ := f2
      refine kg ?_
      clear kg
      exact ⟨Nat.le_refl _, o, eo, ⟨c, d⟩, liP_not ⟨c, d⟩⟩
theorem enum_iter {Q : Value → Shared → Prop} (S : SS C (enumLed e it l k .none old ++ σ) ι s) (h : Q (.ref e) s) : wpAny (model prg C.w) A (pyIter (.ref e)) Q E s := by
  obtain ⟨oe, ee, pe⟩ := S.at (a := e) (.head _)
  subst pe
  exact wpAny_pyIter_enum ee h
end

/-! ## a slice with a step, of ints -/
theorem ints_some {vs : List Value} (h : ∀ v ∈ vs, ∃ n t, v = Value.int n t) : ∃ ns, IntsAre vs ns := by
  induction vs with
  | nil => exact ⟨[], .nil⟩
  | cons v r ih =>
    obtain ⟨n, t, rfl⟩ := h v (.head _)
    obtain ⟨ns, hns⟩ := ih fun v hv => h v (.tail _ hv)
    exact ⟨n :: ns, .cons n t hns⟩
theorem ints_pick {vs : Array Value} {ns : List Int} {lo hi st : Option Int} (h : IntsAre vs.toList ns) : ∃ ms, IntsAre (slicePick vs lo hi st).toList ms := by
  refine ints_some fun v hv => ?_
  unfold slicePick at hv
  rw [List.toList_toArray] at hv
  refine gen_P fun Pg kg => ?_
  obtain ⟨i, _, e⟩ := List.mem_filterMap.mp hv
  obtain ⟨n, t, _, r⟩ := ints_at h (i := i) (v := v) (by (first | (refine rwP (Array.getElem?_toList) ?_; try with_reducible rfl) | rw [Array.getElem?_toList]); exact e)
  refine kg ?_
  clear kg
  exact ⟨n, t, r⟩
section
variable {C : Cx} {A : Around} {s : Shared} {E : Value → Shared → Prop}
theorem n_slice3 {lower step : Option Expr} {p : Pos} {env : Env} {vl vs : Value} {Q : Value → Shared → Prop} 
    (h : wpAny (model prg C.w) A (evalPart lower env) (fun v s₁ => v = vl ∧ wpAny (model prg C.w) A (evalPart step env) (fun w s₂ => w = vs ∧ ∃ σ ι, SS C σ ι s₂ ∧ ∀ sl s₃, SS C σ ι s₃ → s₃.heap.IsSliceOf sl vl .none vs → Q (.ref sl) s₃) E s₁) E s) :
    wpAny (model prg C.w) A (eval (.Slice lower none step p) env) Q E s := by
  refine wpAny_Slice (wpAny_mono h (fun v s1 h1 => ?_) fun _ _ x => x)
  obtain ⟨rfl, h1⟩ := h1
  (first | (refine rwP (evalPart_none) ?_; try with_reducible rfl) | rw [evalPart_none])
  refine wpAny_pure (wpAny_mono h1 (fun w s2 h2 => ?_) fun _ _ x => x)
  refine gen_P fun Pg kg => ?_
  obtain ⟨rfl, σ, ι, S1, h2⟩ := h2
  refine kg ?_
  clear kg
  exact h2 _ _ (S1.push _) ⟨_, Heap.get?_push_size _ rfl, rfl, rfl⟩
end

/-! ## a list of the given heap -/
noncomputable def BaseList (C : Cx) (l : Addr) (vs : Array Value) : Prop := isTab l = false ∧ ∃ o n, C.base.get? l = some o ∧ o.cls = .type "list" ∧ o.data = .seq vs n
theorem base_like {C : Cx} {σ : Led} {ι : Imm} {h : Heap} {g : Array GenState} {os : OsState} {l : Addr} {vs : Array Value} (S : St C σ ι h g os) (hl : BaseList C l vs) : SeqLike C.w h l vs := by
  refine gen_P fun Pg kg => ?_
  obtain ⟨ht, o, n, eb, hc, hd⟩ := hl
  refine kg ?_
  clear kg
  have e := S.old l o eb ht
  have ty : Looks (model prg C.w) h (typeOf (.ref l)) (.type "list") := by (first | (refine rwQ (hc) ?_; try with_reducible rfl) | rw [← hc]); exact (Looks.ld e).andThen .now
  refine ⟨⟨o, n, e, hd⟩, ty.andThen (Looks.of_pure F.slot_list_getitem.lookup), fun k => ?_, ty.andThen (Looks.of_pure sub_list_list)⟩
  exact ty.andThen .now
end Mine
end Part75
section Part76
set_option tactic.hygienic false
open PySem PySem.W PySem.W.X PySem.Calls PyProof.Rows
set_option maxRecDepth 100000
namespace Mine

structure KTop (K : Frag) : Prop where
  gEnum : nsIn K 3 "enumerate" = some none
  bEnum : nsIn K 0 "enumerate" = some (some (.type "enumerate"))
  gHolds : nsIn K 3 "_law_holds" = some (some (.ref 141))
  fLaw : Fn K 146 145 "law" (topS 12) [] .none
noncomputable abbrev lawEnv (L c : Addr) : Env := envX "law" (scopeOf (topS 12)) L 146 (.ref 145) [("script", c)]
noncomputable def lawS (i : Nat) : Stmt := (bodyOf (topS 12)).getD i (.Pass default)

section
variable {C : Cx} {σ σ' τ : Led} {ι ι' : Imm} {A : Around} {s : Shared} {E : Value → Shared → Prop} {a dx l b : Addr} {vs us items : Array Value}

set_option maxHeartbeats 1000000 in
theorem law_cells {L c ls : Addr} {m : Str → Option Value} {sv : Array Value} {ns : List Int} {Q : Flow → Shared → Prop} (X : CxOk C) (KH : KHolds C.K) (KT : KTop C.K) (hA : A.handled = none)
    (S : SS C ((L, nsP m) :: τ) ι s) (hc : (c, cellP (some (.ref ls))) ∈ τ) (hls : BaseList C ls sv) (hi : IntsAre sv.toList ns) (hz : ns.length ≤ 1000)
    (h : ∀ l' cv cs ι' s', ι ⊆ ι' → SS C ((l', lstP cv) :: (L, nsP (put m "cells" (.ref l'))) :: τ) ι' s' → IntsAre cv.toList cs → cs.length = 4 → Q .next s') :
    wpAny (model prg C.w) A (exec (lawS 0) (lawEnv L c)) Q E s := by
  have hzz : sv.size ≤ sizeLine := by
    have := hi.length
    rw [Array.length_toList] at this
    (first | (refine rwP (sizeLine_eq) ?_; try with_reducible rfl) | rw [sizeLine_eq]); (first | lia | omega)
  refine comp_assignG (cl := [("script", c)]) (Call_ (n_builtin X S KT.gEnum KT.bEnum ?_)) rfl (by decide)
  refine gen_Q fun Q1 E1 q1 => ?_
  refine PySem.callWith_type rfl (ea rfl (sp_cons (List_ (sp_cons (wpAny_Constant_int (sp_cons (wpAny_Constant_int (sp_cons (wpAny_Constant_int (sp_cons (wpAny_Constant_int (sp_nil ?_))))))))))))
  have S1 : SS C ((L, nsP m) :: τ) ι { s with toks := s.toks + 1 + 1 + 1 + 1 } := S
  refine n_newList S1 fun l0 s2 S2 => sp_nil ?_
  generalize hxs : ([Value.int 3 s.toks, Value.int 1 (s.toks + 1), Value.int 1 (s.toks + 1 + 1), Value.int 3 (s.toks + 1 + 1 + 1)].toArray : Array Value) = xs at S2
  have hx4 : IntsAre xs.toList [3, 1, 1, 3] := by (first | (refine rwQ (hxs) ?_; try with_reducible rfl) | rw [← hxs]); exact .cons _ _ (.cons _ _ (.cons _ _ (.cons _ _ .nil)))
  have hxz : xs.size = 4 := by (first | (refine rwQ (hxs) ?_; try with_reducible rfl) | rw [← hxs]); rfl
  refine enum_new S2 (.head _) fun e it s3 S3 => ?_
  refine q1 _ _ (enum_iter S3 ⟨_, _, S3, fun D acc s7 S7 => ?_⟩)
  clear q1
  refine gen_R fun R1 r1 => ?_
  show codeAny (model prg C.w) A (.compStart _ 0 (.ref e) (.ref acc) (compEnvC _ [("script", c)] D (lawEnv L c))) _ s7
  have S8 : SS C (enumLed e it l0 0 .none .none ++ ((D, nsP (fun _ => none)) :: (acc, lstP #[]) :: (l0, lstP xs) :: (L, nsP m) :: τ)) ι s7 := by
    refine S7.perm ?_
    show (([(D, nsP fun _ => none), (acc, lstP #[])] ++ (enumLed e it l0 0 .none .none ++ _))).Perm _
    (first | (refine rwQ (List.append_assoc) ?_; try with_reducible rfl) | rw [← List.append_assoc])
    refine (List.perm_append_comm.append_right _).trans ?_
    (first | (refine rwP (List.append_assoc) ?_; try with_reducible rfl) | rw [List.append_assoc])
    exact List.Perm.refl _
  refine start_with ?_ (fun q => enum_iter S8 q)
  refine PyProof.Rows.LCp.codeAny_compLoop_pair (fun k s => Ex6 fun i m' out old ι' cs => And5 (i + k = 4) (ι ⊆ ι') (SS C (enumLed e it l0 i .none old ++ ((D, nsP m') :: (acc, lstP out) :: (l0, lstP xs) :: (L, nsP m) :: τ)) ι' s) (IntsAre out.toList cs) (cs.length = i)) (fun k sq hk => ?_) 4
    ⟨0, _, #[], .none, ι, [], rfl, fun _ h => h, S8, .nil, rfl⟩
  refine gen_Q fun Q2 E2 q2 => ?_
  obtain ⟨i, m', out, old, ι', cs, hik, hιι, S, hout, hcl⟩ := hk
  by_cases hi' : i < 4
  · have ex : xs[i]? = some xs[i] := Array.getElem?_eq_getElem (by (first | lia | omega))
    obtain ⟨x, tx, hx, hx'⟩ := ints_at hx4 (i := i) (v := xs[i]) (by (first | (refine rwP (Array.getElem?_toList) ?_; try with_reducible rfl) | rw [Array.getElem?_toList]); exact ex)
    rw [hx'] at ex
    refine enum_item S (.tail _ (.tail _ (.head _))) ex fun T tk s9 S9 => ?_
    refine q2 _ _ ?_
    clear q2
    refine gen_Q fun Q3 E3 q3 => ?_
    refine enum_go S9 fun s10 S10 => q3 _ _ ?_
    clear q3
    refine gen_Q fun Q4 E4 q4 => ?_
    refine assign_pair S10 hA (.head _) (.tail (.tail .head)) (.tail (.tail .head)) fun s11 S11 => ?_
    refine q4 _ _ ?_
    clear q4
    refine gen_Q fun Q5 E5 q5 => ?_
    have hD : ((compEnvC { kind := .function, names := [(".0", .local), ("k", .local), ("base", .local), ("sum", .globalImplicit), ("script", .free)], isGenerator := false, isCoroutine := false } [("script", c)] D (lawEnv L c)).locals, nsP (put (put m' "k" (.int i tk)) "base" (.int x tx))) ∈ enumLed e it l0 (i + 1) .none (.int x tx) ++ ((D, nsP (put (put m' "k" (.int i tk)) "base" (.int x tx))) :: (acc, lstP out) :: (l0, lstP xs) :: (L, nsP m) :: τ) := .tail _ (.tail _ (.head _))
    refine wpAny_BinOp (n_local S11 hD rfl (Call_ (n_builtin X S11 KH.gSum KH.bSum ?_)))
    refine n_callb (sp_cons (Subscript_ (n_cell S11 rfl (.tail _ (.tail _ (.tail _ (.tail _ (.tail _ (.tail _ hc)))))) ?_)))
    have S12 : SS C _ _ { s11 with toks := s11.toks + 1 } := S11
    refine n_slice3 (vl := .int i tk) (vs := .int 4 s11.toks) (evalPart_some_step (n_local S11 hD rfl ⟨rfl, evalPart_some_step (wpAny_Constant_int ⟨rfl, _, _, S12, fun sl s13 S13 hsl => ?_⟩)⟩))
    have L13 := base_like S13 hls
    refine like_tail L13 (like_slice L13 hsl (.int i tk) .none (.int 4 s11.toks) (by simp) ?_ hzz) (fun q => wpAny_operating q)
    obtain ⟨ms, hms⟩ := ints_pick (lo := some (i : Int)) (hi := none) (st := some 4) hi
    refine sp_nil (sum_L (newL S13) (.head _) (ns := ms) hms hA fun t14 s14 S14 => P.add_int ?_)
    have S15 : SS C _ _ { s14 with toks := s14.toks + 1 } := S14
    refine q5 _ _ ?_
    clear q5
    have hoz : out.size ≤ sizeLine := by
      have := hout.length
      rw [Array.length_toList] at this
      (first | (refine rwP (sizeLine_eq) ?_; try with_reducible rfl) | rw [sizeLine_eq]); (first | lia | omega)
    refine list_push S15 (.tail (.tail (.tail (.tail .head)))) hoz fun s16 S16 => ?_
    exact ⟨k - 1, by (first | lia | omega), i + 1, _, _, _, _, cs ++ [x + ms.sum], by (first | lia | omega), fun _ h => .tail _ (hιι h), S16.tl, ints_push hout, by (first | (refine rwP (List.length_append) ?_; refine rwP (hcl) ?_; try with_reducible rfl) | rw [List.length_append, hcl]); rfl⟩
  · have hii : i = 4 := by (first | lia | omega)
    subst hii
    refine enum_end S hA (.tail _ (.tail _ (.head _))) (Array.getElem?_eq_none (by (first | lia | omega))) fun s9 S9 => q2 _ _ ?_
    refine r1 _ _ ?_
    refine ⟨_, _, _, _, rfl, S9, m, (acc, lstP out) :: (l0, lstP xs) :: (L, nsP (put m "cells" (.ref acc))) :: τ, .tail (.tail .head), fun s10 S10 => ?_⟩
    exact h acc out cs ι' s10 hιι (S10.sub (.cons_cons _ (.cons _ (List.Sublist.refl _)))) hout hcl
end
end Mine
end Part76
section Part77
set_option tactic.hygienic false
open PySem PySem.W PySem.W.X PySem.Calls PyProof.Rows
set_option maxRecDepth 100000
namespace Mine

theorem fmod_nn (c : Int) {n : Nat} (hn : 0 < n) : ∃ a : Nat, c.fmod n = a ∧ a < n := by
  have h1 : 0 ≤ c.fmod n := Int.fmod_nonneg_of_pos _ (by omega)
  have h2 : c.fmod n < n := Int.fmod_lt_of_pos _ (by omega)
  exact ⟨(c.fmod n).toNat, by omega, by omega⟩
theorem ints_four {cv : Array Value} {cs : List Int} (h : IntsAre cv.toList cs) (h4 : cs.length = 4) : ∃ c0 c1 c2 c3 t0 t1 t2 t3, cv[0]? = some (Value.int c0 t0) ∧ cv[1]? = some (Value.int c1 t1) ∧ cv[2]? = some (Value.int c2 t2) ∧ cv[3]? = some (Value.int c3 t3) := by
  have hz : cv.size = 4 := by
    have := h.length
    rw [Array.length_toList] at this
    (first | lia | omega)
  have at' : ∀ i, i < 4 → Ex2 fun c t => cv[i]? = some (Value.int c t) := fun i hi => by
    have ex : cv[i]? = some cv[i] := Array.getElem?_eq_getElem (by (first | lia | omega))
    refine gen_P fun Pg kg => ?_
    obtain ⟨x, tx, _, hx⟩ := ints_at h (i := i) (v := cv[i]) (by (first | (refine rwP (Array.getElem?_toList) ?_; try with_reducible rfl) | rw [Array.getElem?_toList]); exact ex)
    refine kg ?_
    clear kg
    rw [hx] at ex
    exact ⟨x, tx, ex⟩
  refine gen_P fun Pg kg => ?_
  obtain ⟨c0, t0, h0⟩ := at' 0 (by decide)
  obtain ⟨c1, t1, h1⟩ := at' 1 (by decide)
  obtain ⟨c2, t2, h2⟩ := at' 2 (by decide)
  obtain ⟨c3, t3, h3⟩ := at' 3 (by decide)
  refine kg ?_
  clear kg
  exact ⟨c0, c1, c2, c3, t0, t1, t2, t3, h0, h1, h2, h3⟩

section
variable {C : Cx} {σ σ' τ : Led} {ι ι' : Imm} {A : Around} {s : Shared} {E : Value → Shared → Prop} {a dx l b : Addr} {vs us items : Array Value}

set_option maxHeartbeats 1000000 in
theorem law_c {n : Nat} {ls : Addr} {sv : Array Value} {ns : List Int} {Q : Value → Shared → Prop}
    (X : CxOk C) (KK : AllK C.K) (KS' : KSld C.K) (KP' : KPart C.K) (KL' : KLaw C.K) (KQ : KAdd C.K) (KA' : KAll C.K) (KM' : KM C.K) (KP : KProd C.K) (KH : KHolds C.K) (KT : KTop C.K) (R : Room (n + 8) A) (hin : FrIn A σ)
    (S : SS C σ ι s) (hls : BaseList C ls sv) (hi : IntsAre sv.toList ns) (hz : ns.length ≤ 1000) (hQ : ∀ σ' ι' s', SS C σ' ι' s' → Q (.bool true) s') :
    wpAny (model prg C.w) A (call (.ref 146) [.ref ls] []) Q E s := by
  refine call_fnC (binds := [("script", .ref ls)]) X KT.fLaw R S (fun _ _ _ _ _ => rfl) (fun L s1 S1 R1 => ?_) (fun L x hx => by (first | (refine rwP (List.mem_singleton.mp hx) ?_; try with_reducible rfl) | rw [List.mem_singleton.mp hx]); exact .inr ⟨rfl, rfl⟩)
  have S1 : SS C ((L, nsP (bindL (fun x => (scopeOf (topS 12)).names.lookup x) [("script", .ref ls)] fun _ => none)) :: (L + 1, cellP (some (.ref ls))) :: σ) ι s1 := S1
  generalize bindL (fun x => (scopeOf (topS 12)).names.lookup x) [("script", Value.ref ls)] (fun _ => none) = m at S1
  show wpAny (model prg C.w) (A.deeper (lawEnv L (L + 1))) (execs (bodyOf (topS 12)) (lawEnv L (L + 1))) _ _ s1
  have R1 : Room (n + 7) (A.deeper (lawEnv L (L + 1))) := R1
  have hin1 : ∀ m, FrIn (A.deeper (lawEnv L (L + 1))) ((L, nsP m) :: σ) := fun m => hin.deeper (by intro q; cases q) rfl
  generalize L + 1 = c at S1 R1 hin1 ⊢
  generalize e0 : A.deeper (lawEnv L c) = A1 at hin1 R1
  have hA1 := R1.h
  refine wpAny_execs_cons (law_cells X KH KT hA1 S1 (.head _) hls hi hz fun lc cv cs ι2 s2 _ S2 hcv hc4 => ?_)
  refine gen_P fun Pg kg => ?_
  obtain ⟨c0, c1, c2, c3, t0, t1, t2, t3, h0, h1, h2, h3⟩ := ints_four hcv hc4
  refine kg ?_
  clear kg
  have L2 := fun {s : Shared} {m' : Str → Option Value} (S : SS C ((lc, lstP cv) :: (L, nsP m') :: (c, cellP (some (.ref ls))) :: σ) ι2 s) => lst_like S (.head _)
  -- first
  obtain ⟨a, ha, ha3⟩ := fmod_nn c0 (n := 3) (by decide)
  refine wpAny_execs_cons ?_
  refine gen_Q fun Q1 E1 q1 => ?_
  refine wpAny_Assign_Name (wpAny_BinOp (wpAny_Constant_int (wpAny_BinOp (Subscript_ (n_local (show SS C _ ι2 { s2 with toks := s2.toks + 1 } from S2) (.tail _ (.head _)) put_same (wpAny_Constant_int ?_))))))
  have S3 : SS C _ ι2 { s2 with toks := s2.toks + 1 + 1 } := S2
  refine like_tail (L2 S3) (like_int (L2 S3) (by decide) (by decide) h0 ?_) (fun q => wpAny_operating q)
  refine wpAny_Constant_int (mod_int' (by decide) (P.add_int ?_))
  have ea : (1 : Int) + c0.fmod 3 = ((a + 1 : Nat) : Int) := by
    have : c0.fmod 3 = a := ha
    (first | lia | omega)
  (first | (refine rwP (ea) ?_; try with_reducible rfl) | rw [ea])
  refine n_store (show SS C _ ι2 { s2 with toks := s2.toks + 1 + 1 + 1 + 1 + 1 } from S2) (.tail .head) fun s4 S4 => q1 _ _ ?_
  clear q1
  -- second
  obtain ⟨b, hb, hb3⟩ := fmod_nn c1 (n := 3 - a) (by (first | lia | omega))
  refine wpAny_execs_cons ?_
  refine gen_Q fun Q1 E1 q1 => ?_
  refine wpAny_Assign_Name (wpAny_BinOp (Subscript_ (n_local S4 (.tail _ (.head _)) rfl (wpAny_Constant_int ?_))))
  have S5 : SS C _ ι2 { s4 with toks := s4.toks + 1 } := S4
  refine like_tail (L2 S5) (like_int (L2 S5) (by decide) (by decide) h1 ?_) (fun q => wpAny_operating q)
  refine wpAny_BinOp (wpAny_Constant_int (n_local (show SS C _ ι2 { s4 with toks := s4.toks + 1 + 1 } from S4) (.tail _ (.head _)) put_same (P.sub_int ?_)))
  have eb : (4 : Int) - ((a + 1 : Nat) : Int) = ((3 - a : Nat) : Int) := by (first | lia | omega)
  (first | (refine rwP (eb) ?_; try with_reducible rfl) | rw [eb])
  refine mod_int' (by (first | lia | omega)) ?_
  (first | (refine rwP (hb) ?_; try with_reducible rfl) | rw [hb])
  refine n_store (show SS C _ ι2 { s4 with toks := s4.toks + 1 + 1 + 1 + 1 } from S4) (.tail .head) fun s6 S6 => q1 _ _ ?_
  clear q1
  -- third
  obtain ⟨d, hd, hd3⟩ := fmod_nn c2 (n := 3 - a - b) (by (first | lia | omega))
  refine wpAny_execs_cons ?_
  refine gen_Q fun Q1 E1 q1 => ?_
  refine wpAny_Assign_Name (wpAny_BinOp (Subscript_ (n_local S6 (.tail _ (.head _)) rfl (wpAny_Constant_int ?_))))
  have S7 : SS C _ ι2 { s6 with toks := s6.toks + 1 } := S6
  refine like_tail (L2 S7) (like_int (L2 S7) (by decide) (by decide) h2 ?_) (fun q => wpAny_operating q)
  refine wpAny_BinOp (wpAny_BinOp (wpAny_Constant_int (n_local (show SS C _ ι2 { s6 with toks := s6.toks + 1 + 1 } from S6) (.tail _ (.head _)) rfl (P.sub_int ?_))))
  (first | (refine rwP (eb) ?_; try with_reducible rfl) | rw [eb])
  refine n_local (show SS C _ ι2 { s6 with toks := s6.toks + 1 + 1 + 1 } from S6) (.tail _ (.head _)) put_same (P.sub_int ?_)
  have ed : ((3 - a : Nat) : Int) - (b : Int) = ((3 - a - b : Nat) : Int) := by (first | lia | omega)
  (first | (refine rwP (ed) ?_; try with_reducible rfl) | rw [ed])
  refine mod_int' (by (first | lia | omega)) ?_
  (first | (refine rwP (hd) ?_; try with_reducible rfl) | rw [hd])
  refine n_store (show SS C _ ι2 { s6 with toks := s6.toks + 1 + 1 + 1 + 1 + 1 } from S6) (.tail .head) fun s8 S8 => q1 _ _ ?_
  clear q1
  -- the call
  refine gen_P fun Pg kg => ?_
  obtain ⟨u, hu, hu2⟩ := fmod_nn c3 (n := 2) (by decide)
  obtain ⟨v, hv, hv4⟩ := fmod_nn (c3.fdiv 2) (n := 4) (by decide)
  refine kg ?_
  clear kg
  refine wpAny_execs_cons ?_
  refine gen_Q fun Q1 E1 q1 => ?_
  refine wpAny_Return_some (Call_ (n_global X S8 KT.gHolds ?_))
  refine n_callF X KH.fHolds (sp_cons (List_ (sp_cons (n_local S8 (.tail _ (.head _)) rfl (sp_cons (n_local S8 (.tail _ (.head _)) rfl (sp_cons (n_local S8 (.tail _ (.head _)) put_same (sp_cons (wpAny_BinOp (Subscript_ (n_local S8 (.tail _ (.head _)) rfl (wpAny_Constant_int ?_)))))))))))))
  have S9 : SS C _ ι2 { s8 with toks := s8.toks + 1 } := S8
  refine like_tail (L2 S9) (like_int (L2 S9) (by decide) (by decide) h3 ?_) (fun q => wpAny_operating q)
  refine wpAny_Constant_int (mod_int' (by decide) (sp_nil ?_))
  have eu : c3.fmod 2 = (u : Int) := hu
  (first | (refine rwP (eu) ?_; try with_reducible rfl) | rw [eu])
  refine n_newList (show SS C _ ι2 { s8 with toks := s8.toks + 1 + 1 + 1 } from S8) fun l10 s10 S10 => ?_
  refine sp_cons (wpAny_BinOp (wpAny_BinOp (Subscript_ (n_local S10 (.tail _ (.tail _ (.head _))) rfl (wpAny_Constant_int ?_)))))
  have S11 : SS C _ ι2 { s10 with toks := s10.toks + 1 } := S10
  have L11 := lst_like S11 (.tail _ (.head _))
  refine like_tail L11 (like_int L11 (by decide) (by decide) h3 ?_) (fun q => wpAny_operating q)
  refine wpAny_Constant_int (floordiv_int (by decide) (wpAny_Constant_int (mod_int' (by decide) (sp_nil ⟨⟨_, _, S10⟩, ?_⟩))))
  have ev : (c3.fdiv 2).fmod 4 = (v : Int) := hv
  (first | (refine rwP (ev) ?_; try with_reducible rfl) | rw [ev])
  have S12 : SS C _ ι2 { s10 with toks := s10.toks + 1 + 1 + 1 + 1 + 1 } := S10
  have hst : IntsAre ([Value.int ((a + 1 : Nat) : Int) (s2.toks + 1 + 1 + 1 + 1), Value.int b (s4.toks + 1 + 1 + 1), Value.int d (s6.toks + 1 + 1 + 1 + 1), Value.int u (s8.toks + 1 + 1)].toArray : Array Value).toList (natsI [a + 1, b, d, u]) := .cons _ _ (.cons _ _ (.cons _ _ (.cons _ _ .nil)))
  have hinT : ∀ {p q : Addr × OP} {m' : Str → Option Value} {τ' : Led}, σ ⊆ τ' → FrIn A1 (p :: q :: (L, nsP m') :: τ') := fun {p q m' τ'} hs => (hin1 m').more fun r hr => by
    rcases List.mem_cons.mp hr with e | hr
    · exact e ▸ .tail _ (.tail _ (.head _))
    · exact .tail _ (.tail _ (.tail _ (hs hr)))
  refine holds_c (n := n) X KK KS' KP' KL' KQ KA' KM' KP KH R1 (hinT fun _ h => .tail _ h) S12 (.head _) hst (holds_facts (all_hold ha3 hb3 hd3 hu2 hv4)) fun σ' ι' s' S' => q1 _ _ (hQ _ _ _ S')
end
end Mine
end Part77
section Part78
set_option tactic.hygienic false
open PySem PySem.W PySem.W.X PySem.Calls PyProof.Rows
set_option maxRecDepth 100000
namespace Mine

/-! ## the top heap without its two tables -/
noncomputable def noTabs (F : Frag) : Frag := F.filter fun p => !isTab p.1
theorem noTabs_none {a : Addr} (h : isTab a = true) : ∀ F : Frag, (noTabs F).lookup a = none
  | [] => rfl
  | (b, o) :: r => by
    unfold noTabs
    (first | (refine rwP (List.filter_cons) ?_; try with_reducible rfl) | rw [List.filter_cons])
    split
    · rename_i hb
      (first | (refine rwP (List.lookup_cons) ?_; try with_reducible rfl) | rw [List.lookup_cons])
      have : (a == b) = false := by
        (first | (refine rwP (beq_eq_false_iff_ne) ?_; try with_reducible rfl) | rw [beq_eq_false_iff_ne])
        rintro rfl
        rw [h] at hb
        exact absurd hb (by decide)
      (first | (refine rwP (this) ?_; try with_reducible rfl) | rw [this])
      exact noTabs_none h r
    · exact noTabs_none h r
theorem noTabs_some {a : Addr} {o : Obj} : ∀ {F : Frag}, (noTabs F).lookup a = some o → F.lookup a = some o
  | [], h => h
  | (b, p) :: r, h => by
    by_cases hb : isTab b = true
    · have e : noTabs ((b, p) :: r) = noTabs r := by
        unfold noTabs
        (first | (refine rwP (List.filter_cons) ?_; refine rwP (hb) ?_; try with_reducible rfl) | rw [List.filter_cons, hb]); rfl
      have e2 : (a == b) = false := by
        (first | (refine rwP (beq_eq_false_iff_ne) ?_; try with_reducible rfl) | rw [beq_eq_false_iff_ne])
        rintro rfl
        rw [noTabs_none hb] at h
        cases h
      (first | (refine rwP (List.lookup_cons) ?_; refine rwP (e2) ?_; try with_reducible rfl) | rw [List.lookup_cons, e2])
      rw [e] at h
      exact noTabs_some h
    · have hb' : isTab b = false := by simpa using hb
      have e : noTabs ((b, p) :: r) = (b, p) :: noTabs r := by
        unfold noTabs
        (first | (refine rwP (List.filter_cons) ?_; refine rwP (hb') ?_; try with_reducible rfl) | rw [List.filter_cons, hb']); rfl
      rw [e, List.lookup_cons] at h
      (first | (refine rwP (List.lookup_cons) ?_; try with_reducible rfl) | rw [List.lookup_cons])
      cases q : a == b with
      | true => rw [q] at h; exact h
      | false => rw [q] at h; exact noTabs_some h

noncomputable def strKeysB (es : Array DictEntry) : Bool := es.all fun e => match e.key with
  | .str _ _ => true
  | _ => false
theorem strKeys_of {es : Array DictEntry} (h : strKeysB es = true) : StrKeys es := fun e he => by
  have := Array.all_eq_true_iff_forall_mem.mp h e he
  cases q : e.key <;> rw [q] at this <;> first | exact ⟨_, _, rfl⟩ | cases this

structure TabK (F : Frag) (c P : Addr) : Prop where
  code : ∃ d vs sl file tf flags tg inF text tt, F.lookup c = some ⟨.type "code", d, .fields vs, sl⟩ ∧ vs[11]? = some (.ref P) ∧ vs.getD 11 .none = .ref P ∧ vs.getD 18 .none = .str file tf ∧ vs.getD 7 .none = .int flags tg ∧ vs.getD 9 .none = .bool inF ∧ vs.getD 10 .none = .int text tt
  tab : F.lookup P = some { cls := .none, data := .fields #[] }
theorem TabK.ok {F : Frag} {h : Heap} {c P : Addr} (x : TabK F c P) (X : F.In h) (hc : c = tabCode P) (hne : c ≠ P) : TabOk h h P := by
  refine gen_P fun Pg kg => ?_
  obtain ⟨⟨d, vs, sl, file, tf, flags, tg, inF, text, tt, e, e11, f11, f18, f7, f9, f10⟩, et⟩ := x
  refine kg ?_
  clear kg
  have T : h.TableAt c P #[] := ⟨⟨_, vs, X _ _ e, rfl, rfl, e11⟩, X _ _ et⟩
  exact ⟨c, #[], #[], hc, ⟨_, vs, file, tf, flags, tg, inF, text, tt, _, X _ _ e, rfl, f11, f18, f7, f9, f10, X _ _ et, rfl, trivial, hne⟩, T, T⟩

structure Facts (F : Frag) : Prop where
  K : AllK (noTabs F)
  sld : KSld (noTabs F)
  part : KPart (noTabs F)
  piece : KLaw (noTabs F)
  add : KAdd (noTabs F)
  all : KAll (noTabs F)
  m : KM (noTabs F)
  prod : KProd (noTabs F)
  holds : KHolds (noTabs F)
  top : KTop (noTabs F)
  lim : nsIn (noTabs F) cStatics "sys.recursionlimit" = some none
  limo : ∃ c d es n sl, (noTabs F).lookup cStatics = some ⟨c, d, .dict es n, sl⟩ ∧ strKeysB es = true
  t63 : TabK F 67 63
  t70 : TabK F 74 70

theorem St.oldK {C : Cx} {σ : Led} {ι : Imm} {h : Heap} {g : Array GenState} {os : OsState} (S : St C σ ι h g os) : OldK C.base h := by
  refine ⟨fun b o e => ?_, fun b o e => ?_⟩
  · cases q : isTab b with
    | false => exact .inl (S.old b o e q)
    | true =>
      refine gen_P fun Pg kg => ?_
      obtain ⟨c, ps, mr, _, _, t0, t1⟩ := (S.tab b q).more
      refine kg ?_
      clear kg
      have e0 : o = { cls := .none, data := .fields ps } := Option.some.inj (e.symm.trans t0.2)
      subst e0
      exact .inr (.inl ⟨t0.isCodeTable, rfl, ps, mr, rfl, t1.2⟩)
  · cases q : isTab b with
    | false => exact ⟨o, S.old b o e q⟩
    | true =>
      refine gen_P fun Pg kg => ?_
      obtain ⟨c, ps, mr, _, _, _, t1⟩ := (S.tab b q).more
      refine kg ?_
      clear kg
      exact ⟨_, t1.2⟩

theorem all_in_all {F : Frag} {w : World} {s : Shared} {sv : List Value} {ns : List Int} {R : Value → Shared → Prop} {E : Value → Shared → Prop} (X : F.In s.heap) (K : Facts F) (hg : s.gens = #[]) (hL : s.heap.IsList 147 sv.toArray) (hi : IntsAre sv ns) (hz : ns.length ≤ 1000)
    (hR : ∀ s', OldK s.heap s'.heap → s'.os = s.os → AllBare s'.gens → R (.bool true) s') : wpAny (model prg w) callerA (call (.ref 146) [.ref 147] []) R E s := by
  have XC : CxOk ⟨w, noTabs F, s.heap, s.os⟩ := by
    refine ⟨fun a o e => X a o (noTabs_some e), fun P hP => noTabs_none hP F, K.lim, ?_⟩
    refine gen_P fun Pg kg => ?_
    obtain ⟨c, d, es, n, sl, e, h⟩ := K.limo
    refine kg ?_
    clear kg
    exact ⟨c, d, es, n, sl, e, strKeys_of h⟩
  have S : SS ⟨w, noTabs F, s.heap, s.os⟩ [] [] s := by
    refine ⟨List.nodup_nil, fun p hp => (nomatch hp), fun p hp => (nomatch hp), fun b o e _ => e, fun P hP => ?_, fun a o e => Heap.lt_size e, .of_eq hg, rfl⟩
    unfold isTab at hP
    rw [Bool.or_eq_true, beq_iff_eq, beq_iff_eq] at hP
    rcases hP with rfl | rfl
    · exact K.t63.ok X (by decide) (by decide)
    · exact K.t70.ok X (by decide) (by decide)
  have R8 : Room 8 callerA := ⟨by decide, by decide, rfl, ⟨[], rfl⟩⟩
  refine gen_P fun Pg kg => ?_
  obtain ⟨o, e, hc, n, hd⟩ := hL
  refine kg ?_
  clear kg
  have hin : FrIn callerA [] := ⟨[], rfl, fun env he => (nomatch he)⟩
  have hb : BaseList ⟨w, noTabs F, s.heap, s.os⟩ 147 sv.toArray := ⟨by decide, o, n, e, hc, hd⟩
  have := law_c (n := 0) (E := E) XC K.K K.sld K.part K.piece K.add K.all K.m K.prod K.holds K.top R8 hin S hb (ns := ns) hi hz (Q := R) fun σ' ι' s' S' => hR s' S'.oldK S'.os S'.gens
  exact this
end Mine
end Part78
open PySem PySem.W PySem.W.X PySem.W.ZRun PyProof.Rows
set_option maxRecDepth 100000 in
set_option maxHeartbeats 0 in
theorem PySem.Challenge.cw_tv0015_01_holds : PySem.Challenge.rw_tv0015_01.Holds := by
  w_on; o_law; z_head; (case hw => w_witness2)
  k_fill
  intro w s₀ s₁ mg mb G Y fa o pm cd doc dV kV ho hd hcd hD hmg hg args vals as L hpre hlay hrd hwl hlo
  z_open Y L KX ZH ZN ZT
  refine Ground.open G ?_
  intro T B D TE TW
  wrow_args hpre hlay hrd hwl hlo
  obtain ⟨hat, hsz⟩ := script_at L
  have htk := script_toks L ZT
  rw [ZN] at hat hsz
  subst hat
  x_fa T KX hmg
  all_lens
  refine Mine.all_in_all KX ?facts hg (by assumption) (by assumption) (by omega) fun s' h1 h2 h3 => ⟨.inl ⟨_, _, [], rfl, fun _ => rfl, ReadsW.bool true, ?_, fun _ => ⟨List.nodup_nil, fun _ hm => (nomatch hm)⟩⟩, h1, h2, h3⟩
  rotate_left
  · first | rfl | wrow_post
  refine ⟨⟨?KF, ?KS, ?KP, ?KI, ?KT, ?KG, ?KL, ?KR, ?KB, ?KStr, ?KD, ?KW⟩, ?KSld, ?KPart, ?KLaw, ?KAdd, ?KAll, ?KM, ?KProd, ?KHolds, ?KTop, ?lim, ?limo, ?t63, ?t70⟩
  case KF => exact ⟨by kernel_rfl, by kernel_rfl, by kernel_rfl, by kernel_rfl, by kernel_rfl, ⟨⟨_, _, _, _, _, _, _, rfl⟩, by kernel_rfl⟩⟩
  case KS => exact ⟨⟨_, _, _, rfl⟩, ⟨_, rfl, by kernel_rfl⟩, by kernel_rfl, by kernel_rfl, by kernel_rfl, by kernel_rfl, by kernel_rfl, by kernel_rfl, by kernel_rfl, by kernel_rfl, by kernel_rfl, by kernel_rfl, ⟨⟨_, _, _, _, _, _, _, rfl⟩, by kernel_rfl⟩, ⟨⟨_, _, _, _, _, _, _, rfl⟩, by kernel_rfl⟩, ⟨⟨_, _, _, _, _, _, _, rfl⟩, by kernel_rfl⟩⟩
  case KP => exact ⟨by kernel_rfl, by kernel_rfl, ⟨_, rfl, by kernel_rfl⟩, by kernel_rfl⟩
  case KI => exact ⟨by kernel_rfl, by kernel_rfl, by kernel_rfl, ⟨_, rfl, by kernel_rfl, by kernel_rfl, by kernel_rfl, by kernel_rfl⟩, ⟨_, _, _, _, rfl, by kernel_rfl⟩, by kernel_rfl, by kernel_rfl, by kernel_rfl, ⟨_, _, _, _, rfl⟩⟩
  case KT => exact ⟨by kernel_rfl⟩
  case KG => exact ⟨by kernel_rfl, by kernel_rfl, by kernel_rfl, by kernel_rfl, by kernel_rfl⟩
  case KL => exact ⟨by kernel_rfl, by kernel_rfl, by kernel_rfl, by kernel_rfl⟩
  case KR => exact ⟨⟨⟨_, _, _, _, _, _, _, rfl⟩, by kernel_rfl⟩, ⟨⟨_, _, _, _, _, _, _, rfl⟩, by kernel_rfl⟩, ⟨_, _, _, _, rfl⟩, ⟨_, _, _, rfl⟩⟩
  case KB => exact ⟨by kernel_rfl, ⟨_, rfl⟩, by kernel_rfl, by kernel_rfl, by kernel_rfl, by kernel_rfl, ⟨⟨_, _, _, _, _, _, _, rfl⟩, by kernel_rfl⟩⟩
  case KStr => exact ⟨⟨_, rfl⟩, ⟨⟨_, _, _, _, _, _, _, rfl⟩, by kernel_rfl⟩⟩
  case KD => exact ⟨by kernel_rfl, by kernel_rfl, by kernel_rfl⟩
  case KW => exact ⟨by kernel_rfl, by kernel_rfl, ⟨⟨_, _, _, _, _, _, _, rfl⟩, by kernel_rfl⟩, by kernel_rfl⟩
  case KSld => exact ⟨by kernel_rfl, by kernel_rfl, ⟨⟨_, _, _, _, _, _, _, rfl⟩, by kernel_rfl⟩⟩
  case KPart => exact ⟨by kernel_rfl, ⟨⟨_, _, _, _, _, _, _, rfl⟩, by kernel_rfl⟩⟩
  case KLaw => exact ⟨⟨⟨_, _, _, _, _, _, _, rfl⟩, by kernel_rfl⟩⟩
  case KAdd => exact ⟨by kernel_rfl, ⟨⟨_, _, _, _, _, _, _, rfl⟩, by kernel_rfl⟩⟩
  case KAll => exact ⟨by kernel_rfl, by kernel_rfl, by kernel_rfl, by kernel_rfl, ⟨⟨_, _, _, _, _, _, _, rfl⟩, by kernel_rfl⟩⟩
  case KM => exact ⟨by kernel_rfl, by kernel_rfl, by kernel_rfl⟩
  case KProd => exact ⟨by kernel_rfl, by kernel_rfl, ⟨⟨_, _, _, _, _, _, _, rfl⟩, by kernel_rfl⟩⟩
  case KHolds => exact ⟨by kernel_rfl, by kernel_rfl, by kernel_rfl, by kernel_rfl, by kernel_rfl, by kernel_rfl, by kernel_rfl, ⟨⟨_, _, _, _, _, _, _, rfl⟩, by kernel_rfl⟩⟩
  case KTop => exact ⟨by kernel_rfl, by kernel_rfl, by kernel_rfl, ⟨⟨_, _, _, _, _, _, _, rfl⟩, by kernel_rfl⟩⟩
  case lim => kernel_rfl
  case limo => exact ⟨_, _, _, _, _, rfl, by kernel_rfl⟩
  case t63 => exact ⟨⟨_, _, _, _, _, _, _, _, _, _, rfl, rfl, rfl, rfl, rfl, rfl, rfl⟩, by kernel_rfl⟩
  case t70 => exact ⟨⟨_, _, _, _, _, _, _, _, _, _, rfl, rfl, rfl, rfl, rfl, rfl, rfl⟩, by kernel_rfl⟩

