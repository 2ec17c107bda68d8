import PyProof.Rows.All
import Wide.All
import OpenK.AllK
import Wide.FinOn
import PySem.Challenge.RW_dn0024_07
set_option Elab.async false
set_option compiler.extract_closed false
set_option linter.unusedSimpArgs false
set_option linter.unusedVariables false
namespace Mine
open PySem PySem.W PyProof.Rows

theorem an3 {A0 A1 A2 G : Prop} (h : A0 ∧ A1 ∧ A2) (k : A0 → A1 → A2 → G) : G := k h.1 h.2.1 h.2.2
theorem an4 {A0 A1 A2 A3 G : Prop} (h : A0 ∧ A1 ∧ A2 ∧ A3) (k : A0 → A1 → A2 → A3 → G) : G := k h.1 h.2.1 h.2.2.1 h.2.2.2
theorem an5 {A0 A1 A2 A3 A4 G : Prop} (h : A0 ∧ A1 ∧ A2 ∧ A3 ∧ A4) (k : A0 → A1 → A2 → A3 → A4 → G) : G := k h.1 h.2.1 h.2.2.1 h.2.2.2.1 h.2.2.2.2
theorem an6 {A0 A1 A2 A3 A4 A5 G : Prop} (h : A0 ∧ A1 ∧ A2 ∧ A3 ∧ A4 ∧ A5) (k : A0 → A1 → A2 → A3 → A4 → A5 → G) : G := k h.1 h.2.1 h.2.2.1 h.2.2.2.1 h.2.2.2.2.1 h.2.2.2.2.2
theorem an7 {A0 A1 A2 A3 A4 A5 A6 G : Prop} (h : A0 ∧ A1 ∧ A2 ∧ A3 ∧ A4 ∧ A5 ∧ A6) (k : A0 → A1 → A2 → A3 → A4 → A5 → A6 → G) : G := k h.1 h.2.1 h.2.2.1 h.2.2.2.1 h.2.2.2.2.1 h.2.2.2.2.2.1 h.2.2.2.2.2.2
theorem an8 {A0 A1 A2 A3 A4 A5 A6 A7 G : Prop} (h : A0 ∧ A1 ∧ A2 ∧ A3 ∧ A4 ∧ A5 ∧ A6 ∧ A7) (k : A0 → A1 → A2 → A3 → A4 → A5 → A6 → A7 → G) : G := k h.1 h.2.1 h.2.2.1 h.2.2.2.1 h.2.2.2.2.1 h.2.2.2.2.2.1 h.2.2.2.2.2.2.1 h.2.2.2.2.2.2.2
theorem an9 {A0 A1 A2 A3 A4 A5 A6 A7 A8 G : Prop} (h : A0 ∧ A1 ∧ A2 ∧ A3 ∧ A4 ∧ A5 ∧ A6 ∧ A7 ∧ A8) (k : A0 → A1 → A2 → A3 → A4 → A5 → A6 → A7 → A8 → G) : G := k h.1 h.2.1 h.2.2.1 h.2.2.2.1 h.2.2.2.2.1 h.2.2.2.2.2.1 h.2.2.2.2.2.2.1 h.2.2.2.2.2.2.2.1 h.2.2.2.2.2.2.2.2
theorem an10 {A0 A1 A2 A3 A4 A5 A6 A7 A8 A9 G : Prop} (h : A0 ∧ A1 ∧ A2 ∧ A3 ∧ A4 ∧ A5 ∧ A6 ∧ A7 ∧ A8 ∧ A9) (k : A0 → A1 → A2 → A3 → A4 → A5 → A6 → A7 → A8 → A9 → G) : G := k h.1 h.2.1 h.2.2.1 h.2.2.2.1 h.2.2.2.2.1 h.2.2.2.2.2.1 h.2.2.2.2.2.2.1 h.2.2.2.2.2.2.2.1 h.2.2.2.2.2.2.2.2.1 h.2.2.2.2.2.2.2.2.2
theorem an11 {A0 A1 A2 A3 A4 A5 A6 A7 A8 A9 A10 G : Prop} (h : A0 ∧ A1 ∧ A2 ∧ A3 ∧ A4 ∧ A5 ∧ A6 ∧ A7 ∧ A8 ∧ A9 ∧ A10) (k : A0 → A1 → A2 → A3 → A4 → A5 → A6 → A7 → A8 → A9 → A10 → G) : G := k h.1 h.2.1 h.2.2.1 h.2.2.2.1 h.2.2.2.2.1 h.2.2.2.2.2.1 h.2.2.2.2.2.2.1 h.2.2.2.2.2.2.2.1 h.2.2.2.2.2.2.2.2.1 h.2.2.2.2.2.2.2.2.2.1 h.2.2.2.2.2.2.2.2.2.2
theorem an12 {A0 A1 A2 A3 A4 A5 A6 A7 A8 A9 A10 A11 G : Prop} (h : A0 ∧ A1 ∧ A2 ∧ A3 ∧ A4 ∧ A5 ∧ A6 ∧ A7 ∧ A8 ∧ A9 ∧ A10 ∧ A11) (k : A0 → A1 → A2 → A3 → A4 → A5 → A6 → A7 → A8 → A9 → A10 → A11 → G) : G := k h.1 h.2.1 h.2.2.1 h.2.2.2.1 h.2.2.2.2.1 h.2.2.2.2.2.1 h.2.2.2.2.2.2.1 h.2.2.2.2.2.2.2.1 h.2.2.2.2.2.2.2.2.1 h.2.2.2.2.2.2.2.2.2.1 h.2.2.2.2.2.2.2.2.2.2.1 h.2.2.2.2.2.2.2.2.2.2.2
theorem ex2 {α0 : Sort _} {α1 : Sort _} {p : α0 → α1 → Prop} {G : Prop} (h : ∃ x0 x1, p x0 x1) (k : ∀ x0 x1, p x0 x1 → G) : G := let ⟨x0, x1, h⟩ := h; k x0 x1 h
theorem ex3 {α0 : Sort _} {α1 : Sort _} {α2 : Sort _} {p : α0 → α1 → α2 → Prop} {G : Prop} (h : ∃ x0 x1 x2, p x0 x1 x2) (k : ∀ x0 x1 x2, p x0 x1 x2 → G) : G := let ⟨x0, x1, x2, h⟩ := h; k x0 x1 x2 h
theorem ex4 {α0 : Sort _} {α1 : Sort _} {α2 : Sort _} {α3 : Sort _} {p : α0 → α1 → α2 → α3 → Prop} {G : Prop} (h : ∃ x0 x1 x2 x3, p x0 x1 x2 x3) (k : ∀ x0 x1 x2 x3, p x0 x1 x2 x3 → G) : G := let ⟨x0, x1, x2, x3, h⟩ := h; k x0 x1 x2 x3 h
theorem ex5 {α0 : Sort _} {α1 : Sort _} {α2 : Sort _} {α3 : Sort _} {α4 : Sort _} {p : α0 → α1 → α2 → α3 → α4 → Prop} {G : Prop} (h : ∃ x0 x1 x2 x3 x4, p x0 x1 x2 x3 x4) (k : ∀ x0 x1 x2 x3 x4, p x0 x1 x2 x3 x4 → G) : G := let ⟨x0, x1, x2, x3, x4, h⟩ := h; k x0 x1 x2 x3 x4 h
/-- abstract values -/
inductive V where
  | none
  | bool (b : Bool)
  | int (i : Int)
  | str (s : Str)
  | ref (a : Addr)
  | tup (xs : List Int)
  | rng (lo hi st : Int)
  | vt (vs : List V)
  | opq (v : Value)

/-- abstract objects of the call's own -/
inductive O where
  | lst (vs : List V)
  | rol (vs : List V)
  | raw (o : Obj)
noncomputable def O.isMut : O → Bool
  | .rol _ => false
  | _ => true
noncomputable def O.items : O → Option (List V)
  | .lst vs => some vs
  | .rol vs => some vs
  | .raw _ => none

structure St where
  loc : List (Str × V)
  sto : Addr → Option O

noncomputable def locSet : List (Str × V) → Str → V → List (Str × V)
  | [], x, v => [(x, v)]
  | (y, u) :: r, x, v => if x == y then (y, v) :: r else (y, u) :: locSet r x v

theorem locSet_lookup (x : Str) (v : V) (y : Str) : ∀ l : List (Str × V), (locSet l x v).lookup y = if y == x then some v else l.lookup y
  | [] => by
    show ((x, v) :: []).lookup y = _
    rw [List.lookup_cons]
    cases y == x <;> rfl
  | (z, u) :: r => by
    unfold locSet
    by_cases hxz : (x == z) = true
    · rw [if_pos hxz, List.lookup_cons, List.lookup_cons]
      have e : x = z := beq_iff_eq.mp hxz
      subst e
      cases y == x <;> rfl
    · rw [if_neg hxz, List.lookup_cons, List.lookup_cons, locSet_lookup x v y r]
      by_cases hyz : (y == z) = true
      · have e : y = z := beq_iff_eq.mp hyz
        subst e
        have : (y == x) = false := by
          cases h : y == x with
          | false => rfl
          | true => exact absurd (beq_iff_eq.mpr (beq_iff_eq.mp h).symm) hxz
        simp [this]
      · simp [hyz]

noncomputable def St.setLoc (σ : St) (x : Str) (v : V) : St := { σ with loc := locSet σ.loc x v }
noncomputable def St.setSto (σ : St) (a : Addr) (o : O) : St := { σ with sto := fun b => if b = a then some o else σ.sto b }

@[simp] theorem setSto_loc (σ : St) (a : Addr) (o : O) : (σ.setSto a o).loc = σ.loc := rfl
@[simp] theorem setLoc_sto (σ : St) (x : Str) (v : V) : (σ.setLoc x v).sto = σ.sto := rfl
@[simp] theorem setSto_same (σ : St) (a : Addr) (o : O) : (σ.setSto a o).sto a = some o := by simp [St.setSto]
theorem setSto_other (σ : St) {a b : Addr} (o : O) (h : b ≠ a) : (σ.setSto a o).sto b = σ.sto b := by simp [St.setSto, h]

/-- objects that never change: tuples, ranges -/
noncomputable def FrzO (o : Obj) : Prop := (o.cls = .type "tuple" ∧ ∃ items n, o.data = .seq items n) ∨ (o.cls = .type "range" ∧ ∃ vs, o.data = .fields vs)
mutual
/-- what an abstract value stands for -/
inductive Rep (h : Heap) : V → Value → Prop
  | none : Rep h .none .none
  | bool (b : Bool) : Rep h (.bool b) (.bool b)
  | int (i : Int) (t : Tok) : Rep h (.int i) (.int i t)
  | str (s : Str) (t : Tok) : Rep h (.str s) (.str s t)
  | ref (a : Addr) : Rep h (.ref a) (.ref a)
  | tup {a : Addr} {vs : List Value} {xs : List Int} : IsTup h a vs.toArray → IntsAre vs xs → Rep h (.tup xs) (.ref a)
  | rng {a : Addr} {lo hi st : Int} {t u v : Tok} : IsRange h a lo hi st t u v → Rep h (.rng lo hi st) (.ref a)
  | vt {a : Addr} {vs : List V} {vs' : List Value} : IsTup h a vs'.toArray → Reps h vs vs' → Rep h (.vt vs) (.ref a)
  | opq {v : Value} : (∀ a, v ≠ .ref a) → Rep h (.opq v) v
inductive Reps (h : Heap) : List V → List Value → Prop
  | nil : Reps h [] []
  | cons {v : V} {v' : Value} {vs : List V} {vs' : List Value} : Rep h v v' → Reps h vs vs' → Reps h (v :: vs) (v' :: vs')
end

noncomputable def maxLen : Nat := 2 ^ 20

noncomputable def ORep (h : Heap) (a : Addr) : O → Prop
  | .lst vs => vs.length ≤ maxLen ∧ ∃ vs' n, h.get? a = some (listOf vs'.toArray n) ∧ Reps h vs vs'
  | .rol vs => vs.length ≤ maxLen ∧ ∃ vs', h.IsList a vs'.toArray ∧ Reps h vs vs'
  | .raw o => h.get? a = some o ∧ ¬ FrzO o

noncomputable def Place (env : Env) (m : Str → Option Value) (h : Heap) (x : Str) (v : Value) : Prop :=
  (env.kindOf x = some .local ∧ m x = some v) ∨ ((env.kindOf x = some .cell ∨ env.kindOf x = some .free) ∧ ∃ c, env.cells.lookup x = some c ∧ h.IsCell c (some v))

/-- a frame: its environment and the addresses that it may change -/
structure FE where
  env : Env
  own : List Addr
  frames : List Env

structure EnvOk (env : Env) : Prop where
  kind : env.scope.kind = .function
  globals : env.globals = mainGlobals
  builtins : env.builtins = builtinsNs

structure Sim (GB : Heap) (F : FE) (σ : St) (h : Heap) : Prop where
  base : ∀ b o, GB.get? b = some o → h.get? b = some o
  frame : ∃ m, h.Ns F.env.locals m ∧ ∀ x v, σ.loc.lookup x = some v → ∃ v', Place F.env m h x v' ∧ Rep h v v'
  cells : ∀ p ∈ F.env.cells, ∃ v₀, h.IsCell p.2 v₀
  apart : F.env.cells.Pairwise fun x y => x.2 ≠ y.2
  sto : ∀ a o, σ.sto a = some o → ORep h a o
  inOwn : F.env.locals ∈ F.own
  ownIs : ∀ b ∈ F.own, b = F.env.locals ∨ ∃ p ∈ F.env.cells, p.2 = b
  new : ∀ b ∈ F.own, GB.get? b = none
  off : ∀ a o, σ.sto a = some o → (o.isMut = true → GB.get? a = none) ∧ a ≠ F.env.locals ∧ ∀ p ∈ F.env.cells, p.2 ≠ a

noncomputable def St.fixed (σ : St) (b : Addr) : Prop := ∀ o, σ.sto b = some o → o.isMut = false

structure Mod (own : List Addr) (σ σ' : St) (s s' : Shared) : Prop where
  keep : ∀ b o, s.heap.get? b = some o → σ.fixed b → b ∉ own → s'.heap.get? b = some o
  dom : ∀ b o, σ'.sto b = some o → (∃ o', σ.sto b = some o' ∧ (o.isMut = true → o'.isMut = true)) ∨ s.heap.get? b = none
  alive : ∀ b o, s.heap.get? b = some o → ∃ o', s'.heap.get? b = some o'
  rest : s' = { s with heap := s'.heap, toks := s'.toks }

theorem Mod.refl {own : List Addr} {σ : St} {s : Shared} : Mod own σ σ s s := ⟨fun _ _ e _ _ => e, fun _ _ e => .inl ⟨_, e, id⟩, fun _ _ e => ⟨_, e⟩, rfl⟩
theorem Mod.toks {own : List Addr} {σ : St} {s : Shared} (tk : Nat) : Mod own σ σ s { s with toks := tk } := ⟨fun _ _ e _ _ => e, fun _ _ e => .inl ⟨_, e, id⟩, fun _ _ e => ⟨_, e⟩, rfl⟩
theorem Sim.own_alive {GB : Heap} {F : FE} {σ : St} {h : Heap} (S : Sim GB F σ h) {b : Addr} (hb : b ∈ F.own) : ∃ o, h.get? b = some o := by
  rcases S.ownIs b hb with rfl | ⟨p, hp, rfl⟩
  · obtain ⟨m, ⟨o, _, _, ho, _⟩, _⟩ := S.frame; exact ⟨o, ho⟩
  · obtain ⟨v₀, o, ho, _⟩ := S.cells p hp; exact ⟨o, ho⟩
theorem Mod.trans' {own : List Addr} {σ σ' σ'' : St} {s s' s'' : Shared} (x : Mod own σ σ' s s') (y : Mod own σ' σ'' s' s'') : Mod own σ σ'' s s'' where
  keep := fun b o e n1 n2 => by
    refine y.keep b o (x.keep b o e n1 n2) (fun o' h => ?_) n2
    cases hm : o'.isMut with
    | false => rfl
    | true =>
      rcases x.dom b o' h with ⟨o'', h', hm'⟩ | h'
      · have := hm' hm; rw [n1 _ h'] at this; cases this
      · rw [e] at h'; cases h'
  dom := fun b o e => by
    rcases y.dom b o e with ⟨o', h', m'⟩ | h'
    · rcases x.dom b o' h' with ⟨o'', h'', m''⟩ | h''
      · exact .inl ⟨o'', h'', fun q => m'' (m' q)⟩
      · exact .inr h''
    · refine .inr ?_
      cases hs : s.heap.get? b with
      | none => rfl
      | some ob => obtain ⟨o', ho'⟩ := x.alive b ob hs; rw [h'] at ho'; cases ho'
  alive := fun b o e => let ⟨o', e'⟩ := x.alive b o e; y.alive b o' e'
  rest := by rw [y.rest, x.rest]
theorem Mod.trans {GB : Heap} {F : FE} {σ σ' σ'' : St} {s s' s'' : Shared} (S' : Sim GB F σ' s'.heap) (x : Mod F.own σ σ' s s') (y : Mod F.own σ' σ'' s' s'') : Mod F.own σ σ'' s s'' := x.trans' y
theorem Mod.back {own : List Addr} {σ σ' : St} {s s' : Shared} (x : Mod own σ σ' s s') {b : Addr} (h : s'.heap.get? b = none) : s.heap.get? b = none := by
  cases hs : s.heap.get? b with
  | none => rfl
  | some ob => obtain ⟨o', ho'⟩ := x.alive b ob hs; rw [h] at ho'; cases ho'
theorem Mod.more {own : List Addr} {σ σ' : St} {s s' : Shared} (x : Mod own σ σ' s s') (c : Addr) : Mod (c :: own) σ σ' s s' := ⟨fun b o e f n => x.keep b o e f fun h => n (.tail _ h), x.dom, x.alive, x.rest⟩
theorem Mod.endOf {own : List Addr} {σ σ' σ₄ : St} {s s' s₃ s₄ : Shared} {I : Addr} (M' : Mod (I :: own) σ σ' s s') (hI : s.heap.get? I = none) (ext : Heap.ExtBut I s'.heap s₃.heap) (rest : s₃ = { s' with heap := s₃.heap, toks := s₃.toks })
    (M₄ : Mod own σ' σ₄ s₃ s₄) : Mod own σ σ₄ s s₄ := by
  have ne : ∀ b o, s.heap.get? b = some o → b ≠ I := fun b o e q => by rw [q, hI] at e; cases e
  refine ⟨fun b o e f n => ?_, fun b o e => ?_, fun b o e => ?_, ?_⟩
  · have e' := M'.keep b o e f fun h => by
      cases h with
      | head => exact ne _ _ e rfl
      | tail _ h => exact n h
    refine M₄.keep b o (ext b o (ne b o e) e') (fun o' h => ?_) n
    cases hm : o'.isMut with
    | false => rfl
    | true =>
      rcases M'.dom b o' h with ⟨o'', h', hm'⟩ | h'
      · have := hm' hm; rw [f _ h'] at this; cases this
      · rw [e] at h'; cases h'
  · rcases M₄.dom b o e with ⟨o', h', m'⟩ | h'
    · rcases M'.dom b o' h' with ⟨o'', h'', m''⟩ | h''
      · exact .inl ⟨o'', h'', fun q => m'' (m' q)⟩
      · exact .inr h''
    · refine .inr ?_
      cases hs : s.heap.get? b with
      | none => rfl
      | some ob =>
        obtain ⟨o', ho'⟩ := M'.alive b ob hs
        rw [ext b o' (ne b ob hs) ho'] at h'; cases h'
  · obtain ⟨o', ho'⟩ := M'.alive b o e
    exact M₄.alive b o' (ext b o' (ne b o e) ho')
  · rw [M₄.rest, rest, M'.rest]
theorem Mod.less {own : List Addr} {σ σ' : St} {s s' : Shared} {c : Addr} (x : Mod (c :: own) σ σ' s s') (hc : s.heap.get? c = none) : Mod own σ σ' s s' :=
  ⟨fun b o e f n => x.keep b o e f fun h => by
    cases h with
    | head => rw [hc] at e; cases e
    | tail _ h => exact n h, x.dom, x.alive, x.rest⟩

theorem frz_not_dict {h : Heap} {a : Addr} {o : Obj} {m : Str → Option Value} (ho : h.get? a = some o) (hf : FrzO o) (n : h.Ns a m) : False := by
  obtain ⟨o', es, ep, ho', hd', _⟩ := n
  rw [ho] at ho'; cases ho'
  rcases hf with ⟨_, _, _, hd⟩ | ⟨_, _, hd⟩ <;> rw [hd] at hd' <;> cases hd'
theorem frz_not_cell {h : Heap} {a : Addr} {o : Obj} {v : Option Value} (ho : h.get? a = some o) (hf : FrzO o) (n : h.IsCell a v) : False := by
  obtain ⟨o', ho', hd'⟩ := n
  rw [ho] at ho'; cases ho'
  rcases hf with ⟨_, _, _, hd⟩ | ⟨_, _, hd⟩ <;> rw [hd] at hd' <;> cases hd'
theorem not_frz_list {o : Obj} (hc : o.cls = .type "list") : ¬ FrzO o := by
  rintro (⟨h, _⟩ | ⟨h, _⟩) <;> rw [hc] at h <;> exact absurd h (by decide)

variable {GB : Heap}
theorem ORep.not_frz {h : Heap} {a : Addr} {o : O} (r : ORep h a o) : ∀ ob, h.get? a = some ob → ¬ FrzO ob := by
  intro ob ho hf
  cases o with
  | lst vs =>
    obtain ⟨_, vs', n, ho', _⟩ := r
    rw [ho] at ho'; cases ho'
    exact not_frz_list rfl hf
  | rol vs =>
    obtain ⟨_, vs', ⟨o', ho', hc', _⟩, _⟩ := r
    rw [ho] at ho'; cases ho'
    exact not_frz_list hc' hf
  | raw o =>
    obtain ⟨ho', hc'⟩ := r
    rw [ho] at ho'; cases ho'
    exact hc' hf
theorem Sim.frz_off {F : FE} {σ : St} {h : Heap} (S : Sim GB F σ h) {a : Addr} {o : Obj} (ho : h.get? a = some o) (hf : FrzO o) : σ.fixed a ∧ a ∉ F.own := by
  constructor
  · intro o' hs
    exact ((S.sto a o' hs).not_frz o ho hf).elim
  · intro hb
    rcases S.ownIs a hb with rfl | ⟨p, hp, rfl⟩
    · obtain ⟨m, hm, _⟩ := S.frame; exact frz_not_dict ho hf hm
    · obtain ⟨v₀, hv⟩ := S.cells p hp; exact frz_not_cell ho hf hv

theorem tup_keeps {h h' : Heap} {a : Addr} {items : Array Value} (h1 : IsTup h a items) (k : ∀ a o, h.get? a = some o → FrzO o → h'.get? a = some o) : IsTup h' a items :=
  let ⟨o, ho, hc, n, hd⟩ := h1; ⟨o, k _ o ho (.inl ⟨hc, _, n, hd⟩), hc, n, hd⟩
theorem Rep.inv_int {h : Heap} {i : Int} {v' : Value} (r : Rep h (.int i) v') : ∃ t, v' = .int i t := by cases r; exact ⟨_, rfl⟩
theorem Rep.inv_ref {h : Heap} {a : Addr} {v' : Value} (r : Rep h (.ref a) v') : v' = .ref a := by cases r; rfl
theorem Rep.inv_opq {h : Heap} {v v' : Value} (r : Rep h (.opq v) v') : v' = v := by cases r; rfl
theorem Rep.inv_none {h : Heap} {v' : Value} (r : Rep h .none v') : v' = .none := by cases r; rfl
theorem Rep.inv_bool {h : Heap} {b : Bool} {v' : Value} (r : Rep h (.bool b) v') : v' = .bool b := by cases r; rfl
theorem Rep.inv_tup {h : Heap} {xs : List Int} {v' : Value} (r : Rep h (.tup xs) v') : ∃ a vs, v' = .ref a ∧ IsTup h a (List.toArray vs) ∧ IntsAre vs xs := by cases r with | tup h1 h2 => exact ⟨_, _, rfl, h1, h2⟩
theorem Rep.inv_rng {h : Heap} {lo hi st : Int} {v' : Value} (r : Rep h (.rng lo hi st) v') : ∃ a t u v, v' = .ref a ∧ IsRange h a lo hi st t u v := by cases r with | rng h1 => exact ⟨_, _, _, _, rfl, h1⟩
theorem Rep.inv_vt {h : Heap} {vs : List V} {v' : Value} (r : Rep h (.vt vs) v') : ∃ a vs', v' = .ref a ∧ IsTup h a (List.toArray vs') ∧ Reps h vs vs' := by cases r with | vt h1 h2 => exact ⟨_, _, rfl, h1, h2⟩
theorem Reps.inv_nil {h : Heap} {vs' : List Value} (r : Reps h [] vs') : vs' = [] := by cases r; rfl
theorem Reps.inv_cons {h : Heap} {v : V} {vs : List V} {vs' : List Value} (r : Reps h (v :: vs) vs') : ∃ v' ws, vs' = v' :: ws ∧ Rep h v v' ∧ Reps h vs ws := by cases r with | cons h1 h2 => exact ⟨_, _, rfl, h1, h2⟩
theorem Reps.inv1 {h : Heap} {a : V} {vs' : List Value} (r : Reps h [a] vs') : ∃ a', vs' = [a'] ∧ Rep h a a' := by
  obtain ⟨a', _, e, ra, r'⟩ := r.inv_cons
  exact ⟨a', by rw [e, r'.inv_nil], ra⟩
theorem Reps.inv2 {h : Heap} {a b : V} {vs' : List Value} (r : Reps h [a, b] vs') : ∃ a' b', vs' = [a', b'] ∧ Rep h a a' ∧ Rep h b b' := by
  obtain ⟨a', _, e, ra, r'⟩ := r.inv_cons
  obtain ⟨b', e', rb⟩ := r'.inv1
  exact ⟨a', b', by rw [e, e'], ra, rb⟩
theorem Reps.inv3 {h : Heap} {a b c : V} {vs' : List Value} (r : Reps h [a, b, c] vs') : ∃ a' b' c', vs' = [a', b', c'] ∧ Rep h a a' ∧ Rep h b b' ∧ Rep h c c' := by
  obtain ⟨a', _, e, ra, r'⟩ := r.inv_cons
  obtain ⟨b', c', e', rb, rc⟩ := r'.inv2
  exact ⟨a', b', c', by rw [e, e'], ra, rb, rc⟩
theorem Rep.keeps {h h' : Heap} {v : V} {v' : Value} (x : Rep h v v') (k : ∀ a o, h.get? a = some o → FrzO o → h'.get? a = some o) : Rep h' v v' :=
  Rep.rec (motive_1 := fun v v' _ => Rep h' v v') (motive_2 := fun vs vs' _ => Reps h' vs vs') .none .bool .int .str .ref (fun h1 h2 => .tup (tup_keeps h1 k) h2) (fun h1 => .rng (k _ _ h1 (.inr ⟨rfl, _, rfl⟩))) (fun h1 _ h2 => .vt (tup_keeps h1 k) h2) .opq .nil (fun _ _ a b => .cons a b) x
theorem Reps.keeps {h h' : Heap} {vs : List V} {vs' : List Value} (x : Reps h vs vs') (k : ∀ a o, h.get? a = some o → FrzO o → h'.get? a = some o) : Reps h' vs vs' :=
  Reps.rec (motive_1 := fun v v' _ => Rep h' v v') (motive_2 := fun vs vs' _ => Reps h' vs vs') .none .bool .int .str .ref (fun h1 h2 => .tup (tup_keeps h1 k) h2) (fun h1 => .rng (k _ _ h1 (.inr ⟨rfl, _, rfl⟩))) (fun h1 _ h2 => .vt (tup_keeps h1 k) h2) .opq .nil (fun _ _ a b => .cons a b) x

theorem Mod.frz {F : FE} {σ σ' : St} {s s' : Shared} (S : Sim GB F σ s.heap) (x : Mod F.own σ σ' s s') : ∀ a o, s.heap.get? a = some o → FrzO o → s'.heap.get? a = some o :=
  fun a o ho hf => x.keep a o ho (S.frz_off ho hf).1 (S.frz_off ho hf).2
theorem Mod.rep {F : FE} {σ σ' : St} {s s' : Shared} (S : Sim GB F σ s.heap) (x : Mod F.own σ σ' s s') {v : V} {v' : Value} (r : Rep s.heap v v') : Rep s'.heap v v' := r.keeps (x.frz S)
theorem Mod.reps {F : FE} {σ σ' : St} {s s' : Shared} (S : Sim GB F σ s.heap) (x : Mod F.own σ σ' s s') {vs : List V} {vs' : List Value} (r : Reps s.heap vs vs') : Reps s'.heap vs vs' := r.keeps (x.frz S)

theorem Reps.length {h : Heap} : ∀ {vs : List V} {vs' : List Value}, Reps h vs vs' → vs'.length = vs.length
  | [], _, r => by obtain rfl := r.inv_nil; rfl
  | _ :: _, _, r => by obtain ⟨_, _, rfl, _, r⟩ := r.inv_cons; exact congrArg (· + 1) r.length
theorem Reps.get {h : Heap} : ∀ {vs : List V} {vs' : List Value}, Reps h vs vs' → ∀ {i : Nat} {v : V}, vs[i]? = some v → ∃ v', vs'[i]? = some v' ∧ Rep h v v'
  | [], _, r, i, v, e => by simp at e
  | _ :: _, _, r, 0, v, e => by obtain ⟨_, _, rfl, h1, r⟩ := r.inv_cons; exact ⟨_, rfl, Option.some.inj e ▸ h1⟩
  | _ :: _, _, r, i + 1, v, e => by obtain ⟨_, _, rfl, h1, r⟩ := r.inv_cons; exact r.get (i := i) e
theorem Reps.set {h : Heap} {v : V} {v' : Value} (q : Rep h v v') : ∀ {vs : List V} {vs' : List Value}, Reps h vs vs' → ∀ i : Nat, Reps h (vs.set i v) (vs'.set i v')
  | [], _, r, i => by obtain rfl := r.inv_nil; exact .nil
  | _ :: _, _, r, 0 => by obtain ⟨_, _, rfl, h1, r⟩ := r.inv_cons; exact .cons q r
  | _ :: _, _, r, i + 1 => by obtain ⟨_, _, rfl, h1, r⟩ := r.inv_cons; exact .cons h1 (r.set q i)
theorem Reps.append {h : Heap} : ∀ {vs : List V} {vs' : List Value}, Reps h vs vs' → ∀ {us : List V} {us' : List Value}, Reps h us us' → Reps h (vs ++ us) (vs' ++ us')
  | [], _, r, _, _, y => by obtain rfl := r.inv_nil; exact y
  | _ :: _, _, r, _, _, y => by obtain ⟨_, _, rfl, h1, r⟩ := r.inv_cons; exact .cons h1 (r.append y)
theorem ints_nil {vs : List Value} (h : IntsAre vs []) : vs = [] := by cases h; rfl
theorem ints_cons {vs : List Value} {n : Int} {xs : List Int} (h : IntsAre vs (n :: xs)) : ∃ t ws, vs = .int n t :: ws ∧ IntsAre ws xs := by cases h with | cons _ t r => exact ⟨t, _, rfl, r⟩
theorem reps_ints : ∀ {h : Heap} {xs : List Int} {vs' : List Value}, IntsAre vs' xs → Reps h (xs.map V.int) vs'
  | _, [], _, r => by obtain rfl := ints_nil r; exact .nil
  | _, _ :: _, _, r => by obtain ⟨_, _, rfl, r'⟩ := ints_cons r; exact .cons (.int _ _) (reps_ints r')
theorem ints_reps : ∀ {h : Heap} {xs : List Int} {vs' : List Value}, Reps h (xs.map V.int) vs' → IntsAre vs' xs
  | _, [], _, r => by obtain rfl := r.inv_nil; exact .nil
  | _, _ :: _, _, r => by obtain ⟨_, _, rfl, h1, r'⟩ := r.inv_cons; obtain ⟨_, rfl⟩ := h1.inv_int; exact .cons _ _ (ints_reps r')

/-- Sim carried along a change outside the frame's own and the store -/
theorem Sim.keeps {F : FE} {σ : St} {h h' : Heap} (S : Sim GB F σ h) (k : ∀ b o, h.get? b = some o → h'.get? b = some o) : Sim GB F σ h' where
  base := fun b o e => k b o (S.base b o e)
  frame := by
    obtain ⟨m, hm, hl⟩ := S.frame
    refine ⟨m, hm.keeps k, fun x v e => ?_⟩
    obtain ⟨v', hp, hr⟩ := hl x v e
    refine ⟨v', ?_, hr.keeps fun a o ho _ => k a o ho⟩
    rcases hp with hp | ⟨hk, c, hc, hcell⟩
    · exact .inl hp
    · exact .inr ⟨hk, c, hc, hcell.keeps k⟩
  cells := fun p hp => let ⟨v₀, hv⟩ := S.cells p hp; ⟨v₀, hv.keeps k⟩
  apart := S.apart
  sto := fun a o e => by
    have r := S.sto a o e
    cases o with
    | lst vs => obtain ⟨hb, vs', n, ho, r2⟩ := r; exact ⟨hb, vs', n, k _ _ ho, r2.keeps fun a o ho _ => k a o ho⟩
    | rol vs => obtain ⟨hb, vs', ⟨o, ho, r1⟩, r2⟩ := r; exact ⟨hb, vs', ⟨o, k _ _ ho, r1⟩, r2.keeps fun a o ho _ => k a o ho⟩
    | raw o => exact ⟨k _ _ r.1, r.2⟩
  inOwn := S.inOwn
  ownIs := S.ownIs
  new := S.new
  off := S.off

theorem not_frz_ext {h h' : Heap} {c : Addr} (hc : ∀ o, h.get? c = some o → ¬ FrzO o) (k : Heap.ExtBut c h h') : ∀ a o, h.get? a = some o → FrzO o → h'.get? a = some o :=
  fun a o ho hf => k a o (fun e => hc o (e ▸ ho) hf) ho

theorem ORep.ext {h h' : Heap} {a c : Addr} {o : O} (r : ORep h a o) (hac : a ≠ c) (hc : ∀ o, h.get? c = some o → ¬ FrzO o) (k : Heap.ExtBut c h h') : ORep h' a o := by
  cases o with
  | lst vs => obtain ⟨hb, vs', n, ho, r2⟩ := r; exact ⟨hb, vs', n, k _ _ hac ho, r2.keeps (not_frz_ext hc k)⟩
  | rol vs => obtain ⟨hb, vs', ⟨o, ho, r1⟩, r2⟩ := r; exact ⟨hb, vs', ⟨o, k _ _ hac ho, r1⟩, r2.keeps (not_frz_ext hc k)⟩
  | raw o => exact ⟨k _ _ hac r.1, r.2⟩

theorem Sim.local_not_cell {F : FE} {σ : St} {h : Heap} (S : Sim GB F σ h) {p : Str × Addr} (hp : p ∈ F.env.cells) : p.2 ≠ F.env.locals := by
  intro e
  obtain ⟨v₀, o, ho, hd⟩ := S.cells p hp
  obtain ⟨m, ⟨o', es, ep, ho', hd', _⟩, _⟩ := S.frame
  rw [e, ho'] at ho; cases ho
  rw [hd'] at hd; cases hd

/-- a store into an object of the call's own -/
theorem Sim.change {F : FE} {σ : St} {h h' : Heap} {a : Addr} {o₀ o : O} (S : Sim GB F σ h) (ha : σ.sto a = some o₀) (hm : o₀.isMut = true) (k : Heap.ExtBut a h h') (ho : ORep h' a o) : Sim GB F (σ.setSto a o) h' := by
  have hnt := (S.sto a o₀ ha).not_frz
  have hoff := S.off a o₀ ha
  exact {
    base := fun b ob e => k b ob (fun q => by rw [q, hoff.1 hm] at e; cases e) (S.base b ob e)
    frame := by
      obtain ⟨m, hn, hl⟩ := S.frame
      refine ⟨m, hn.extBut k (Ne.symm hoff.2.1), fun x v e => ?_⟩
      obtain ⟨v', hp, hr⟩ := hl x v e
      refine ⟨v', ?_, hr.keeps (not_frz_ext hnt k)⟩
      rcases hp with hp | ⟨hk, c, hc, oc, hcell, hd⟩
      · exact .inl hp
      · exact .inr ⟨hk, c, hc, oc, k c oc (hoff.2.2 _ (mem_of_lookup hc)) hcell, hd⟩
    cells := fun p hp => by obtain ⟨v₀, oc, hcell, hd⟩ := S.cells p hp; exact ⟨v₀, oc, k _ _ (hoff.2.2 p hp) hcell, hd⟩
    apart := S.apart
    sto := fun b ob e => by
      by_cases hb : b = a
      · subst hb; rw [setSto_same] at e; cases e; exact ho
      · rw [setSto_other _ _ hb] at e; exact (S.sto b ob e).ext hb hnt k
    inOwn := S.inOwn
    ownIs := S.ownIs
    new := S.new
    off := fun b ob e => by
      by_cases hb : b = a
      · subst hb; exact ⟨fun _ => hoff.1 hm, hoff.2⟩
      · rw [setSto_other _ _ hb] at e; exact S.off b ob e }

theorem Mod.change {F : FE} {σ : St} {s : Shared} {h' : Heap} {tk : Nat} {a : Addr} {o₀ o : O} (S : Sim GB F σ s.heap) (ha : σ.sto a = some o₀) (hm : o₀.isMut = true) (k : Heap.ExtBut a s.heap h') (hal : ∃ ob, h'.get? a = some ob) :
    Mod F.own σ (σ.setSto a o) s { s with heap := h', toks := tk } where
  alive := fun b ob e => by
    by_cases hb : b = a
    · subst hb; exact hal
    · exact ⟨ob, k b ob hb e⟩
  keep := fun b ob e hf _ => k b ob (fun q => by subst q; rw [hf o₀ ha] at hm; cases hm) e
  dom := fun b ob e => by
    by_cases hb : b = a
    · subst hb; exact .inl ⟨o₀, ha, fun _ => hm⟩
    · rw [setSto_other _ _ hb] at e; exact .inl ⟨ob, e, id⟩
  rest := rfl

/-- new objects, one of them into the store -/
theorem Sim.alloc {F : FE} {σ : St} {h h' : Heap} {a : Addr} {o : O} (S : Sim GB F σ h) (k : ∀ b ob, h.get? b = some ob → h'.get? b = some ob) (ha : h.get? a = none) (ho : ORep h' a o) : Sim GB F (σ.setSto a o) h' := by
  have S' := S.keeps k
  have hnot : ∀ ob, h.get? a ≠ some ob := fun ob e => by rw [ha] at e; cases e
  exact {
    base := S'.base
    frame := S'.frame
    cells := S'.cells
    apart := S'.apart
    sto := fun b ob e => by
      by_cases hb : b = a
      · subst hb; rw [setSto_same] at e; cases e; exact ho
      · rw [setSto_other _ _ hb] at e; exact S'.sto b ob e
    inOwn := S.inOwn
    ownIs := S.ownIs
    new := S.new
    off := fun b ob e => by
      by_cases hb : b = a
      · subst hb
        refine ⟨fun _ => ?_, fun e => ?_, fun p hp e => ?_⟩
        · cases hq : GB.get? b with
          | none => rfl
          | some ob => exact (hnot _ (S.base b ob hq)).elim
        · obtain ⟨m, ⟨o', _, _, ho', _⟩, _⟩ := S.frame
          exact hnot _ (e ▸ ho')
        · obtain ⟨v₀, oc, hoc, _⟩ := S.cells p hp
          exact hnot _ (e ▸ hoc)
      · rw [setSto_other _ _ hb] at e; exact S.off b ob e }
theorem Mod.alloc {F : FE} {σ : St} {s : Shared} {h' : Heap} {tk : Nat} {a : Addr} {o : O} (k : ∀ b ob, s.heap.get? b = some ob → h'.get? b = some ob) (ha : s.heap.get? a = none) :
    Mod F.own σ (σ.setSto a o) s { s with heap := h', toks := tk } where
  alive := fun b ob e => ⟨ob, k b ob e⟩
  keep := fun b ob e _ _ => k b ob e
  dom := fun b ob e => by
    by_cases hb : b = a
    · subst hb; exact .inr ha
    · rw [setSto_other _ _ hb] at e; exact .inl ⟨ob, e, id⟩
  rest := rfl
theorem Mod.pure {F : FE} {σ : St} {s : Shared} {h' : Heap} {tk : Nat} (k : ∀ b ob, s.heap.get? b = some ob → h'.get? b = some ob) :
    Mod F.own σ σ s { s with heap := h', toks := tk } := ⟨fun b ob e _ _ => k b ob e, fun b ob e => .inl ⟨ob, e, id⟩, fun b ob e => ⟨ob, k b ob e⟩, rfl⟩

theorem Sim.fresh_none {F : FE} {σ : St} {h : Heap} (S : Sim GB F σ h) {a : Addr} (ha : h.get? a = none) : σ.sto a = none := by
  cases hs : σ.sto a with
  | none => rfl
  | some o =>
    exfalso
    have hnot : ∀ ob, h.get? a ≠ some ob := fun ob e => by rw [ha] at e; cases e
    have r := S.sto a o hs
    cases o with
    | lst vs => obtain ⟨_, _, _, e, _⟩ := r; exact hnot _ e
    | rol vs => obtain ⟨_, _, ⟨_, e, _⟩, _⟩ := r; exact hnot _ e
    | raw o => exact hnot _ r.1

/-- a store into a name -/
theorem store_name {prog : Program} {w : World} {A : Around} {E : Value → Shared → Prop} {F : FE} {σ : St} {s : Shared} {x : Str} {v : V} {v' : Value} {Q : Unit → Shared → Prop}
    (ok : EnvOk F.env) (S : Sim GB F σ s.heap) (hr : Rep s.heap v v')
    (hk : F.env.kindOf x = some .local ∨ (F.env.kindOf x = some .cell ∧ ∃ c, F.env.cells.lookup x = some c ∧ c ∈ F.own))
    (h : ∀ h' tk, Sim GB F (σ.setLoc x v) h' → Mod F.own σ (σ.setLoc x v) s { s with heap := h', toks := tk } → Q () { s with heap := h', toks := tk }) :
    wpAny (model prog w) A (storeName F.env x v') Q E s := by
  obtain ⟨m, hn, hl⟩ := S.frame
  rcases hk with hk | ⟨hk, c, hc, hown⟩
  · refine wpAny_storeName_local hk hn (fun h' hn' hs => ?_) (by rw [ok.kind]; rfl)
    have hnt : ∀ o, s.heap.get? F.env.locals = some o → ¬ FrzO o := fun o ho hf => frz_not_dict ho hf hn
    have k := hs.extBut
    refine h h' (s.toks + 1) ?_ ⟨fun b ob e _ ho => k b ob (fun q => ho (q ▸ S.inOwn)) e, fun b ob e => .inl ⟨ob, e, id⟩, fun b ob e => by
      by_cases hb : b = F.env.locals
      · subst hb; obtain ⟨o', _, _, ho', _⟩ := hn'; exact ⟨o', ho'⟩
      · exact ⟨ob, k b ob hb e⟩, rfl⟩
    exact {
      base := fun b ob e => k b ob (fun q => by rw [q, S.new _ S.inOwn] at e; cases e) (S.base b ob e)
      frame := by
        refine ⟨_, hn', fun y u e => ?_⟩
        rw [show (σ.setLoc x v).loc = locSet σ.loc x v from rfl, locSet_lookup] at e
        by_cases hy : (y == x) = true
        · rw [if_pos hy] at e; cases e
          have hyx := beq_iff_eq.mp hy
          subst hyx
          exact ⟨v', .inl ⟨hk, by simp⟩, hr.keeps (not_frz_ext hnt k)⟩
        · rw [if_neg hy] at e
          obtain ⟨u', hp, hru⟩ := hl y u e
          refine ⟨u', ?_, hru.keeps (not_frz_ext hnt k)⟩
          rcases hp with ⟨h1, h2⟩ | ⟨h1, c, hc, oc, hcell, hd⟩
          · exact .inl ⟨h1, by show (if y = x then some v' else m y) = some u'; rw [if_neg (fun q => hy (beq_iff_eq.mpr q))]; exact h2⟩
          · exact .inr ⟨h1, c, hc, oc, k c oc (S.local_not_cell (mem_of_lookup hc)) hcell, hd⟩
      cells := fun p hp => by obtain ⟨v₀, oc, hcell, hd⟩ := S.cells p hp; exact ⟨v₀, oc, k _ _ (S.local_not_cell hp) hcell, hd⟩
      apart := S.apart
      sto := fun b ob e => (S.sto b ob e).ext (S.off b ob e).2.1 hnt k
      inOwn := S.inOwn
      ownIs := S.ownIs
      new := S.new
      off := S.off }
  · obtain ⟨v₀, hv₀⟩ := S.cells _ (mem_of_lookup hc)
    refine wpAny_storeName_cell ok.kind hk hc hv₀ fun h' hc' hs => ?_
    have hnt : ∀ o, s.heap.get? c = some o → ¬ FrzO o := fun o ho hf => frz_not_cell ho hf hv₀
    have k := hs.extBut
    have hcL : F.env.locals ≠ c := fun q => S.local_not_cell (mem_of_lookup hc) q.symm
    refine h h' s.toks ?_ ⟨fun b ob e _ ho => k b ob (fun q => ho (q ▸ hown)) e, fun b ob e => .inl ⟨ob, e, id⟩, fun b ob e => by
      by_cases hb : b = c
      · subst hb; obtain ⟨o', ho', _⟩ := hc'; exact ⟨o', ho'⟩
      · exact ⟨ob, k b ob hb e⟩, rfl⟩
    exact {
      base := fun b ob e => k b ob (fun q => by rw [q, S.new _ hown] at e; cases e) (S.base b ob e)
      frame := by
        refine ⟨m, hn.extBut k hcL, fun y u e => ?_⟩
        rw [show (σ.setLoc x v).loc = locSet σ.loc x v from rfl, locSet_lookup] at e
        by_cases hy : (y == x) = true
        · rw [if_pos hy] at e; cases e
          have hyx := beq_iff_eq.mp hy
          subst hyx
          exact ⟨v', .inr ⟨.inl hk, c, hc, hc'⟩, hr.keeps (not_frz_ext hnt k)⟩
        · rw [if_neg hy] at e
          obtain ⟨u', hp, hru⟩ := hl y u e
          refine ⟨u', ?_, hru.keeps (not_frz_ext hnt k)⟩
          rcases hp with ⟨h1, h2⟩ | ⟨h1, d, hd, oc, hcell, hdd⟩
          · exact .inl ⟨h1, h2⟩
          · refine .inr ⟨h1, d, hd, oc, k d oc (fun q => ?_) hcell, hdd⟩
            subst q
            exact hy (beq_iff_eq.mpr (name_of_addr S.apart (mem_of_lookup hd) (mem_of_lookup hc)))
      cells := fun p hp => by
        by_cases hpc : p.2 = c
        · exact ⟨some v', hpc ▸ hc'⟩
        · obtain ⟨v₀, oc, hcell, hd⟩ := S.cells p hp; exact ⟨v₀, oc, k _ _ hpc hcell, hd⟩
      apart := S.apart
      sto := fun b ob e => (S.sto b ob e).ext (fun q => (S.off b ob e).2.2 _ (mem_of_lookup hc) q.symm) hnt k
      inOwn := S.inOwn
      ownIs := S.ownIs
      new := S.new
      off := S.off }

/-- a name is read -/
theorem load_name {prog : Program} {w : World} {A : Around} {E : Value → Shared → Prop} {F : FE} {σ : St} {s : Shared} {x : Str} {v : V} {Q : Value → Shared → Prop}
    (ok : EnvOk F.env) (S : Sim GB F σ s.heap) (hx : σ.loc.lookup x = some v) (hd : (x == ("__classdict__" : Str)) = false) (h : ∀ v', Rep s.heap v v' → Q v' s) : wpAny (model prog w) A (loadName F.env x) Q E s := by
  obtain ⟨m, hn, hl⟩ := S.frame
  obtain ⟨v', hp, hr⟩ := hl x v hx
  rcases hp with ⟨h1, h2⟩ | ⟨h1 | h1, c, hc, hcell⟩
  · exact wpAny_loadName_local ok.kind h1 hn h2 (h v' hr)
  · exact wpAny_loadName_cell ok.kind h1 hc hcell (h v' hr)
  · exact wpAny_loadName_free ok.kind h1 hc hcell (h v' hr) hd

/-- an object that is neither the frame's nor the store's -/
structure Loose (GB : Heap) (F : FE) (σ : St) (h : Heap) (c : Addr) : Prop where
  new : GB.get? c = none
  loc : c ≠ F.env.locals
  cell : ∀ p ∈ F.env.cells, p.2 ≠ c
  sto : σ.sto c = none
  frz : ∀ o, h.get? c = some o → ¬ FrzO o
theorem Loose.own {F : FE} {σ : St} {h : Heap} {c : Addr} (S : Sim GB F σ h) (l : Loose GB F σ h c) : c ∉ F.own := fun hc => by
  rcases S.ownIs c hc with e | ⟨p, hp, e⟩
  · exact l.loc e
  · exact l.cell p hp e
theorem Sim.extBut {F : FE} {σ : St} {h h' : Heap} {c : Addr} (S : Sim GB F σ h) (l : Loose GB F σ h c) (k : Heap.ExtBut c h h') : Sim GB F σ h' where
  base := fun b o e => k b o (fun q => by rw [q, l.new] at e; cases e) (S.base b o e)
  frame := by
    obtain ⟨m, hn, hl⟩ := S.frame
    refine ⟨m, hn.extBut k (Ne.symm l.loc), fun x v e => ?_⟩
    obtain ⟨v', hp, hr⟩ := hl x v e
    refine ⟨v', ?_, hr.keeps (not_frz_ext l.frz k)⟩
    rcases hp with hp | ⟨hk, c, hc, oc, hcell, hd⟩
    · exact .inl hp
    · exact .inr ⟨hk, c, hc, oc, k c oc (l.cell _ (mem_of_lookup hc)) hcell, hd⟩
  cells := fun p hp => by obtain ⟨v₀, oc, hcell, hd⟩ := S.cells p hp; exact ⟨v₀, oc, k _ _ (l.cell p hp) hcell, hd⟩
  apart := S.apart
  sto := fun b o e => (S.sto b o e).ext (fun q => by rw [q, l.sto] at e; cases e) l.frz k
  inOwn := S.inOwn
  ownIs := S.ownIs
  new := S.new
  off := S.off
theorem Loose.fresh {F : FE} {σ : St} {h h' : Heap} {c : Addr} (S : Sim GB F σ h) (hc : h.get? c = none) (ht : ∀ o, h'.get? c = some o → ¬ FrzO o) : Loose GB F σ h' c where
  new := by
    cases hq : GB.get? c with
    | none => rfl
    | some o => have := S.base c o hq; rw [hc] at this; cases this
  loc := fun e => by obtain ⟨m, ⟨o, _, _, ho, _⟩, _⟩ := S.frame; rw [← e, hc] at ho; cases ho
  cell := fun p hp e => by obtain ⟨v₀, o, ho, _⟩ := S.cells p hp; rw [e, hc] at ho; cases ho
  sto := S.fresh_none hc
  frz := ht

/-- the frame of the caller, behind what left it alone -/
theorem Sim.back {F : FE} {σ : St} {h h' : Heap} {sto' : Addr → Option O} (S : Sim GB F σ h) (X : Addr → Prop) (kp : ∀ b ob, h.get? b = some ob → σ.fixed b → ¬ X b → h'.get? b = some ob)
    (xl : ¬ X F.env.locals) (xc : ∀ p ∈ F.env.cells, ¬ X p.2) (xf : ∀ b o, h.get? b = some o → FrzO o → ¬ X b) (base : ∀ b o, GB.get? b = some o → h'.get? b = some o) (sto : ∀ a o, sto' a = some o → ORep h' a o) (gb : ∀ a o, sto' a = some o → o.isMut = true → GB.get? a = none)
    (dm : ∀ b ob, sto' b = some ob → (∃ o', σ.sto b = some o') ∨ h.get? b = none) : Sim GB F ⟨σ.loc, sto'⟩ h' where
  base := base
  frame := by
    obtain ⟨m, hn, hl⟩ := S.frame
    have fixL : σ.fixed F.env.locals := fun o' e => absurd rfl (S.off _ o' e).2.1
    refine ⟨m, ?_, fun y v e => ?_⟩
    · obtain ⟨oL, es, ep, hoL, r⟩ := hn
      exact ⟨oL, es, ep, kp _ _ hoL fixL xl, r⟩
    · obtain ⟨v', hp, hr⟩ := hl y v e
      refine ⟨v', ?_, hr.keeps fun c o hoc hf => kp c o hoc (S.frz_off hoc hf).1 (xf c o hoc hf)⟩
      rcases hp with hp | ⟨hk, c, hc, oc, hoc, hdc⟩
      · exact .inl hp
      · exact .inr ⟨hk, c, hc, oc, kp c oc hoc (fun o' e => absurd rfl ((S.off _ o' e).2.2 _ (mem_of_lookup hc))) (xc _ (mem_of_lookup hc)), hdc⟩
  cells := fun p hp => by
    obtain ⟨v₀, oc, hoc, hdc⟩ := S.cells p hp
    exact ⟨v₀, oc, kp _ oc hoc (fun o' e => absurd rfl ((S.off _ o' e).2.2 _ hp)) (xc p hp), hdc⟩
  apart := S.apart
  sto := sto
  inOwn := S.inOwn
  ownIs := S.ownIs
  new := S.new
  off := fun b ob e => by
    refine ⟨gb b ob e, ?_⟩
    rcases dm b ob e with ⟨o', ho'⟩ | q
    · exact (S.off b o' ho').2
    · refine ⟨fun e' => ?_, fun p hp e' => ?_⟩
      · obtain ⟨m, ⟨oL, _, _, hoL, _⟩, _⟩ := S.frame
        rw [← e', q] at hoL; cases hoL
      · obtain ⟨v₀, oc, hoc, _⟩ := S.cells p hp
        rw [e', q] at hoc; cases hoc
/-- an object joins the store -/
theorem Sim.adopt {F : FE} {σ : St} {h : Heap} {a : Addr} {o : O} (S : Sim GB F σ h) (ho : ORep h a o) (hg : GB.get? a = none) (hl : a ≠ F.env.locals) (hc : ∀ p ∈ F.env.cells, p.2 ≠ a) : Sim GB F (σ.setSto a o) h :=
  ⟨S.base, S.frame, S.cells, S.apart, fun b ob e => by
    by_cases hb : b = a
    · subst hb; rw [setSto_same] at e; cases e; exact ho
    · rw [setSto_other _ _ hb] at e; exact S.sto b ob e, S.inOwn, S.ownIs, S.new, fun b ob e => by
    by_cases hb : b = a
    · subst hb; exact ⟨fun _ => hg, hl, hc⟩
    · rw [setSto_other _ _ hb] at e; exact S.off b ob e⟩
theorem Mod.adopt {own : List Addr} {σ σ' : St} {s s' : Shared} {a : Addr} {o : O} (x : Mod own σ σ' s s') (ha : s.heap.get? a = none) : Mod own σ (σ'.setSto a o) s s' :=
  ⟨x.keep, fun b ob e => by
    by_cases hb : b = a
    · subst hb; exact .inr ha
    · rw [setSto_other _ _ hb] at e; exact x.dom b ob e, x.alive, x.rest⟩
theorem Mod.wide {own own' : List Addr} {σ σ' : St} {s s' : Shared} (x : Mod own σ σ' s s') (h : ∀ b ∈ own, b ∈ own') : Mod own' σ σ' s s' := ⟨fun b o e f n => x.keep b o e f fun q => n (h b q), x.dom, x.alive, x.rest⟩

theorem get_size (h : Heap) : h.get? h.objs.size = none := by
  cases hq : h.get? h.objs.size with
  | none => rfl
  | some o => exact absurd (Heap.lt_size hq) (Nat.lt_irrefl _)

end Mine
namespace Mine
open PySem PySem.W PyProof.Rows

structure Cx where
  prog : Program
  w : World
  GB : Heap
  mg : Str → Option Value
  mb : Str → Option Value
  GT : List (Str × V)
  exc : Option Addr := none

structure CxOk (C : Cx) : Prop where
  g : C.GB.Ns mainGlobals C.mg
  b : C.GB.Ns builtinsNs C.mb
  nolimit : C.GB.NoLimit
  gt : ∀ x v, C.GT.lookup x = some v → ∃ v', (C.mg x = some v' ∨ (C.mg x = none ∧ C.mb x = some v')) ∧ ∀ h, Rep h v v'

/-- an exception without one behind it -/
noncomputable def Tame (o : Obj) : Prop := ∃ vs, o.data = .fields vs ∧ vs[2]? = some .none
/-- what is being handled -/
noncomputable def HOk (C : Cx) (A : Around) : Prop := match C.exc with
  | none => A.handled = none
  | some ea => A.handled = some (.ref ea) ∧ ∃ o, C.GB.get? ea = some o ∧ Tame o
theorem HOk.calm {C : Cx} {A : Around} (h : HOk C A) (hx : C.exc = none) : A.handled = none := by unfold HOk at h; rw [hx] at h; exact h
noncomputable def Room (C : Cx) (k : Nat) (F : FE) (A : Around) : Prop := HOk C A ∧ A.depth + k < recursionLimit ∧ A.units + 10 * k + 5 < cLine ∧ A.frames = some F.frames

inductive Fl where
  | next
  | brk
  | cont
  | ret (v : V)

inductive FlRep (h : Heap) : Fl → Flow → Prop
  | next : FlRep h .next .next
  | brk : FlRep h .brk .brk
  | cont : FlRep h .cont .cont
  | ret {v : V} {v' : Value} : Rep h v v' → FlRep h (.ret v) (.ret v')

/-- what holds behind a tree -/
noncomputable def Post (C : Cx) (F : FE) {α β : Type} (R : Heap → β → α → Prop) (σ : St) (s : Shared) (Q : β → St → Prop) : α → Shared → Prop :=
  fun a s' => ∃ b σ', R s'.heap b a ∧ Sim C.GB F σ' s'.heap ∧ Mod F.own σ σ' s s' ∧ Q b σ'

noncomputable abbrev No : Value → Shared → Prop := fun _ _ => False

noncomputable def TT (C : Cx) (k : Nat) (F : FE) {α β : Type} (R : Heap → β → α → Prop) (t : Sem α) (σ : St) (Q : β → St → Prop) : Prop :=
  ∀ A s, Room C k F A → Sim C.GB F σ s.heap → wpAny (model C.prog C.w) A t (Post C F R σ s Q) No s
noncomputable def T1 (C : Cx) (k : Nat) (F : FE) {α β : Type} (R : Heap → β → α → Prop) (t : Value → Sem α) (a : V) (σ : St) (Q : β → St → Prop) : Prop :=
  ∀ A s a', Room C k F A → Sim C.GB F σ s.heap → Rep s.heap a a' → wpAny (model C.prog C.w) A (t a') (Post C F R σ s Q) No s
noncomputable def T2 (C : Cx) (k : Nat) (F : FE) {α β : Type} (R : Heap → β → α → Prop) (t : Value → Value → Sem α) (a b : V) (σ : St) (Q : β → St → Prop) : Prop :=
  ∀ A s a' b', Room C k F A → Sim C.GB F σ s.heap → Rep s.heap a a' → Rep s.heap b b' → wpAny (model C.prog C.w) A (t a' b') (Post C F R σ s Q) No s
noncomputable def T3 (C : Cx) (k : Nat) (F : FE) {α β : Type} (R : Heap → β → α → Prop) (t : Value → Value → Value → Sem α) (a b c : V) (σ : St) (Q : β → St → Prop) : Prop :=
  ∀ A s a' b' c', Room C k F A → Sim C.GB F σ s.heap → Rep s.heap a a' → Rep s.heap b b' → Rep s.heap c c' → wpAny (model C.prog C.w) A (t a' b' c') (Post C F R σ s Q) No s
noncomputable abbrev REq {α : Type} : Heap → α → α → Prop := fun _ a b => a = b

noncomputable def TE (C : Cx) (k : Nat) (F : FE) (e : Expr) (σ : St) (Q : V → St → Prop) : Prop := TT C k F Rep (eval e F.env) σ Q
noncomputable def TB (C : Cx) (k : Nat) (F : FE) (e : Expr) (σ : St) (Q : Bool → St → Prop) : Prop := TT C k F REq (isTrue e F.env (eval e F.env)) σ Q
noncomputable def TEs (C : Cx) (k : Nat) (F : FE) (pos : Pos) (es : List Expr) (σ : St) (Q : List V → St → Prop) : Prop := TT C k F Reps (spliced (backTo pos (starEach es F.env))) σ Q
noncomputable def TS (C : Cx) (k : Nat) (F : FE) (s : Stmt) (σ : St) (Q : Fl → St → Prop) : Prop := TT C k F FlRep (exec s F.env) σ Q
noncomputable def TX (C : Cx) (k : Nat) (F : FE) (ss : List Stmt) (σ : St) (Q : Fl → St → Prop) : Prop := TT C k F FlRep (execs ss F.env) σ Q
noncomputable def BinOK (C : Cx) (k : Nat) (F : FE) (op : Operator) (a b : V) (σ : St) (Q : V → St → Prop) : Prop := T2 C k F Rep (binaryOp op) a b σ Q
noncomputable def IBinOK (C : Cx) (k : Nat) (F : FE) (op : Operator) (a b : V) (σ : St) (Q : V → St → Prop) : Prop := T2 C k F Rep (inplaceOp op) a b σ Q
noncomputable def CmpOK (C : Cx) (k : Nat) (F : FE) (op : CmpOp) (a b : V) (σ : St) (Q : V → St → Prop) : Prop := T2 C k F Rep (compareOp op) a b σ Q
noncomputable def UnOK (C : Cx) (k : Nat) (F : FE) (op : UnaryOp) (a : V) (σ : St) (Q : V → St → Prop) : Prop := T1 C k F Rep (unaryOp op) a σ Q
noncomputable def TruthOK (C : Cx) (k : Nat) (F : FE) (a : V) (σ : St) (Q : Bool → St → Prop) : Prop := T1 C k F REq truthy a σ Q
noncomputable def ItemOK (C : Cx) (k : Nat) (F : FE) (e sl : Expr) (a b : V) (σ : St) (Q : V → St → Prop) : Prop := T2 C k F Rep (subscriptTail e sl) a b σ Q
noncomputable def SetOK (C : Cx) (k : Nat) (F : FE) (o i v : V) (σ : St) (Q : Unit → St → Prop) : Prop := T3 C k F REq setItem o i v σ Q
noncomputable def CallOK (C : Cx) (k : Nat) (F : FE) (f : V) (vs : List V) (σ : St) (Q : V → St → Prop) : Prop :=
  ∀ A s f' vs', Room C k F A → Sim C.GB F σ s.heap → Rep s.heap f f' → Reps s.heap vs vs' → wpAny (model C.prog C.w) A (call f' vs' []) (Post C F Rep σ s Q) No s

section
variable {C : Cx} {k : Nat} {F : FE} {σ : St}

theorem Post.mono {α β : Type} {R : Heap → β → α → Prop} {s : Shared} {Q Q' : β → St → Prop} (hq : ∀ b σ', Q b σ' → Q' b σ') {a : α} {s' : Shared} (h : Post C F R σ s Q a s') : Post C F R σ s Q' a s' :=
  let ⟨b, σ', r, S, M, q⟩ := h; ⟨b, σ', r, S, M, hq b σ' q⟩
theorem TT.mono {α β : Type} {R : Heap → β → α → Prop} {t : Sem α} {Q Q' : β → St → Prop} (h : TT C k F R t σ Q) (hq : ∀ b σ', Q b σ' → Q' b σ') : TT C k F R t σ Q' :=
  fun A s hA S => wpAny_mono (h A s hA S) (fun _ _ x => x.mono hq) fun _ _ x => x
theorem TX.mono {ss : List Stmt} {Q Q' : Fl → St → Prop} (h : TX C k F ss σ Q) (hq : ∀ b σ', Q b σ' → Q' b σ') : TX C k F ss σ Q' := TT.mono h hq
theorem TE.mono {e : Expr} {Q Q' : V → St → Prop} (h : TE C k F e σ Q) (hq : ∀ b σ', Q b σ' → Q' b σ') : TE C k F e σ Q' := TT.mono h hq
/-- behind a step the next one -/
theorem go {α β : Type} {A : Around} {R : Heap → β → α → Prop} {s : Shared} {Q : β → St → Prop} {t : Sem α} {K : α → Shared → Prop} (h : wpAny (model C.prog C.w) A t (Post C F R σ s Q) No s)
    (n : ∀ b a σ₁ s₁, R s₁.heap b a → Sim C.GB F σ₁ s₁.heap → Mod F.own σ σ₁ s s₁ → Q b σ₁ → K a s₁) : wpAny (model C.prog C.w) A t K No s :=
  wpAny_mono h (fun a s₁ ⟨b, σ₁, r, S₁, M, q⟩ => n b a σ₁ s₁ r S₁ M q) fun _ _ x => x
theorem post_on {α β : Type} {R : Heap → β → α → Prop} {σ₁ : St} {s s₁ : Shared} {Q : β → St → Prop} {a : α} {s' : Shared} (S₁ : Sim C.GB F σ₁ s₁.heap) (M : Mod F.own σ σ₁ s s₁) (h : Post C F R σ₁ s₁ Q a s') : Post C F R σ s Q a s' :=
  let ⟨b, σ₂, r, S, M₂, q⟩ := h; ⟨b, σ₂, r, S, M.trans S₁ M₂, q⟩
theorem fin {α β : Type} {A : Around} {R : Heap → β → α → Prop} {σ₁ : St} {s s₁ : Shared} {Q : β → St → Prop} {t : Sem α} (S₁ : Sim C.GB F σ₁ s₁.heap) (M : Mod F.own σ σ₁ s s₁) (h : wpAny (model C.prog C.w) A t (Post C F R σ₁ s₁ Q) No s₁) :
    wpAny (model C.prog C.w) A t (Post C F R σ s Q) No s₁ := wpAny_mono h (fun _ _ x => post_on S₁ M x) fun _ _ x => x

theorem post_pure {α β : Type} {R : Heap → β → α → Prop} {s : Shared} {Q : β → St → Prop} {a : α} {b : β} (S : Sim C.GB F σ s.heap) (r : R s.heap b a) (q : Q b σ) : Post C F R σ s Q a s := ⟨b, σ, r, S, .refl, q⟩
theorem post_tok {α β : Type} {R : Heap → β → α → Prop} {s : Shared} {Q : β → St → Prop} {a : α} {b : β} {tk : Nat} (S : Sim C.GB F σ s.heap) (r : R s.heap b a) (q : Q b σ) : Post C F R σ s Q a { s with toks := tk } := ⟨b, σ, r, S, .toks tk, q⟩

-- expressions
theorem e_int {i : Int} {n : Nat} {p : Pos} {Q : V → St → Prop} (h : Q (.int i) σ) : TE C k F (.Constant (.int i) n p) σ Q :=
  fun A s _ S => wpAny_Constant_int (post_tok S (.int _ _) h)
theorem e_bool {b : Bool} {n : Nat} {p : Pos} {Q : V → St → Prop} (h : Q (.bool b) σ) : TE C k F (.Constant (.bool b) n p) σ Q :=
  fun A s _ S => wpAny_Constant_bool (post_pure S (.bool _) h)
theorem e_none {n : Nat} {p : Pos} {Q : V → St → Prop} (h : Q .none σ) : TE C k F (.Constant .none n p) σ Q :=
  fun A s _ S => wpAny_Constant_none (post_pure S .none h)
theorem e_name {x : Str} {p : Pos} {v : V} {Q : V → St → Prop} (ok : EnvOk F.env) (hx : σ.loc.lookup x = some v) (h : Q v σ)
    (hd : (x == ("__debug__" : Str)) = false := by rfl) (hc : (x == ("__classdict__" : Str)) = false := by rfl) : TE C k F (.Name x p) σ Q :=
  fun A s _ S => wpAny_Name (load_name ok S hx hc fun v' r => post_pure S r h) hd
theorem e_glob {x : Str} {p : Pos} {v : V} {Q : V → St → Prop} (cx : CxOk C) (ok : EnvOk F.env) (hx : C.GT.lookup x = some v) (h : Q v σ)
    (hk : F.env.kindOf x = some .globalImplicit := by rfl) (hd : (x == ("__debug__" : Str)) = false := by rfl) : TE C k F (.Name x p) σ Q :=
  fun A s _ S => by
    obtain ⟨v', hv, hr⟩ := cx.gt x v hx
    refine Calls.Name_function_global ok.kind hk ?_ hd
    have hg : s.heap.Ns F.env.globals C.mg := by rw [ok.globals]; exact cx.g.keeps S.base
    have hb : s.heap.Ns F.env.builtins C.mb := by rw [ok.builtins]; exact cx.b.keeps S.base
    rcases hv with hv | ⟨hm, hv⟩
    · exact Calls.loadGlobal_global hg hv (post_pure S (hr _) h)
    · exact Calls.loadGlobal_builtin hg hm hb hv (post_pure S (hr _) h)
theorem e_bin {l r : Expr} {op : Operator} {p : Pos} {Q : V → St → Prop} (h : TE C k F l σ fun a σ₁ => TE C k F r σ₁ fun b σ₂ => BinOK C k F op a b σ₂ Q) : TE C k F (.BinOp l op r p) σ Q :=
  fun A s hA S => wpAny_BinOp (go (h A s hA S) fun a a' σ₁ s₁ ra S₁ M₁ h₁ => go (h₁ A s₁ hA S₁) fun b b' σ₂ s₂ rb S₂ M₂ h₂ => fin S₂ (M₁.trans S₁ M₂) (h₂ A s₂ a' b' hA S₂ (M₂.rep S₁ ra) rb))
theorem e_un {x : Expr} {op : UnaryOp} {p : Pos} {Q : V → St → Prop} (h : TE C k F x σ fun a σ₁ => UnOK C k F op a σ₁ Q) : TE C k F (.UnaryOp op x p) σ Q :=
  fun A s hA S => wpAny_UnaryOp (go (h A s hA S) fun a a' σ₁ s₁ ra S₁ M₁ h₁ => fin S₁ M₁ (h₁ A s₁ a' hA S₁ ra))
theorem e_ifexp {t b o : Expr} {p : Pos} {Q : V → St → Prop} (h : TB C k F t σ fun c σ₁ => if c then TE C k F b σ₁ Q else TE C k F o σ₁ Q) : TE C k F (.IfExp t b o p) σ Q :=
  fun A s hA S => wpAny_IfExp (wpAny_mono (h A s hA S) (fun c s₁ ⟨b', σ₁, r, S₁, M, q⟩ => by
    cases r
    cases c <;> simp only [Bool.false_eq_true, if_false, if_true] at q ⊢ <;>
      exact wpAny_mono (q A s₁ hA S₁) (fun _ _ ⟨v, σ₂, r', S₂, M₂, q'⟩ => ⟨v, σ₂, r', S₂, M.trans S₁ M₂, q'⟩) fun _ _ x => x) fun _ _ x => x)
theorem e_sub {v sl : Expr} {p : Pos} {Q : V → St → Prop} (h : TE C k F v σ fun a σ₁ => TE C k F sl σ₁ fun b σ₂ => ItemOK C k F v sl a b σ₂ Q) : TE C k F (.Subscript v sl p) σ Q :=
  fun A s hA S => Subscript_ (go (h A s hA S) fun a a' σ₁ s₁ ra S₁ M₁ h₁ => go (h₁ A s₁ hA S₁) fun b b' σ₂ s₂ rb S₂ M₂ h₂ => fin S₂ (M₁.trans S₁ M₂) (h₂ A s₂ a' b' hA S₂ (M₂.rep S₁ ra) rb))
theorem es_nil {p : Pos} {Q : List V → St → Prop} (h : Q [] σ) : TEs C k F p [] σ Q := fun A s hA S => spliced_none (post_pure S .nil h)
theorem es_cons {p : Pos} {e : Expr} {r : List Expr} {Q : List V → St → Prop} (h : TE C k F e σ fun v σ₁ => TEs C k F p r σ₁ fun vs σ₂ => Q (v :: vs) σ₂)
    (he : starEach (e :: r) F.env = (false, eval e F.env) :: starEach r F.env := by rfl) : TEs C k F p (e :: r) σ Q :=
  fun A s hA S => spliced_more (wpAny_mono (h A s hA S) (fun a' s₁ ⟨a, σ₁, ra, S₁, M₁, h₁⟩ => wpAny_mono (h₁ A s₁ hA S₁) (fun vs' s₂ ⟨vs, σ₂, rv, S₂, M₂, h₂⟩ =>
    ⟨a :: vs, σ₂, .cons (M₂.rep S₁ ra) rv, S₂, M₁.trans S₁ M₂, h₂⟩) fun _ _ x => x) fun _ _ x => x) he

theorem keeps_push {h : Heap} (o : Obj) : ∀ b ob, h.get? b = some ob → (h.push o).get? b = some ob := fun _ _ e => Heap.get?_push_of_some _ e
theorem frz_of_keeps {h h' : Heap} (k : ∀ b ob, h.get? b = some ob → h'.get? b = some ob) : ∀ a o, h.get? a = some o → FrzO o → h'.get? a = some o := fun a o ho _ => k a o ho
theorem maxLen_le : maxLen ≤ sizeLine := by decide

/-- a new list onto the heap -/
theorem post_newList {s : Shared} {tk : Nat} {vs : List V} {vs' : List Value} {Q : V → St → Prop} (S : Sim C.GB F σ s.heap) (r : Reps s.heap vs vs') (hl : vs.length ≤ maxLen) (h : ∀ a, σ.sto a = none → Q (.ref a) (σ.setSto a (.lst vs))) :
    Post C F Rep σ s Q (.ref s.heap.objs.size) { s with heap := s.heap.push { cls := .type "list", data := .seq vs'.toArray }, toks := tk } :=
  ⟨.ref s.heap.objs.size, σ.setSto s.heap.objs.size (.lst vs), .ref _, S.alloc (keeps_push _) (get_size _) ⟨hl, vs', 0, Heap.get?_push_size _ rfl, r.keeps (frz_of_keeps (keeps_push _))⟩,
    .alloc (keeps_push _) (get_size _), h _ (S.fresh_none (get_size _))⟩

theorem e_list {es : List Expr} {p : Pos} {Q : V → St → Prop} (h : TEs C k F p es σ fun vs σ₁ => vs.length ≤ maxLen ∧ ∀ a, σ₁.sto a = none → Q (.ref a) (σ₁.setSto a (.lst vs))) : TE C k F (.List es p) σ Q :=
  fun A s hA S => wpAny_List_spliced (wpAny_mono (h A s hA S) (fun vs' s₁ ⟨vs, σ₁, rv, S₁, M₁, hl, h₁⟩ => by
    refine ⟨by rw [rv.length]; exact Nat.le_trans hl maxLen_le, ?_⟩
    obtain ⟨b, σ₂, r, S₂, M₂, q⟩ := post_newList (tk := s₁.toks) S₁ rv hl h₁
    exact ⟨b, σ₂, r, S₂, M₁.trans S₁ M₂, q⟩) fun _ _ x => x)
theorem e_tup {es : List Expr} {n : Nat} {p : Pos} {Q : V → St → Prop} (h : TEs C k F p es σ fun vs σ₁ => ∃ xs : List Int, vs = xs.map V.int ∧ xs.length ≤ maxLen ∧ Q (.tup xs) σ₁) : TE C k F (.Tuple es n p) σ Q :=
  fun A s hA S => wpAny_Tuple_spliced (wpAny_mono (h A s hA S) (fun vs' s₁ ⟨vs, σ₁, rv, S₁, M₁, xs, e, hl, h₁⟩ => by
    subst e
    refine ⟨by rw [rv.length, List.length_map]; exact Nat.le_trans hl maxLen_le, ?_⟩
    exact ⟨.tup xs, σ₁, .tup ⟨_, Heap.get?_push_size _ rfl, rfl, 0, rfl⟩ (ints_reps rv), S₁.keeps (keeps_push _), M₁.trans S₁ (.pure (tk := s₁.toks) (keeps_push _)), h₁⟩) fun _ _ x => x)

-- tests
theorem b_not {x : Expr} {p : Pos} {Q : Bool → St → Prop} (h : TB C k F x σ fun b σ₁ => Q (!b) σ₁) : TB C k F (.UnaryOp .Not x p) σ Q :=
  fun A s hA S => wpAny_isTrue_Not (wpAny_mono (h A s hA S) (fun b s₁ ⟨b', σ₁, r, S₁, M, q⟩ => by cases r; exact ⟨_, σ₁, rfl, S₁, M, q⟩) fun _ _ x => x)
theorem b_cmp {l r : Expr} {op : CmpOp} {p : Pos} {Q : Bool → St → Prop} (h : TE C k F l σ fun a σ₁ => TE C k F r σ₁ fun b σ₂ => CmpOK C k F op a b σ₂ fun v σ₃ => TruthOK C k F v σ₃ Q)
    (hm : behindInMarks op r = false := by with_unfolding_all rfl) : TB C k F (.Compare l [op] [r] p) σ Q :=
  fun A s hA S => wpAny_isTrue_Compare1 (go (h A s hA S) fun a a' σ₁ s₁ ra S₁ M₁ h₁ => go (h₁ A s₁ hA S₁) fun b b' σ₂ s₂ rb S₂ M₂ h₂ =>
    go (h₂ A s₂ a' b' hA S₂ (M₂.rep S₁ ra) rb) fun v v' σ₃ s₃ rv S₃ M₃ h₃ => fin S₃ ((M₁.trans S₁ M₂).trans S₂ M₃) (h₃ A s₃ v' hA S₃ rv)) hm
theorem b_val {e : Expr} {Q : Bool → St → Prop} (h : TE C k F e σ fun v σ₁ => TruthOK C k F v σ₁ Q)
    (he : isTrue e F.env (eval e F.env) = (do let v ← eval e F.env; standAt e.pos; holding [v] (truthy v)) := by rfl) : TB C k F e σ Q :=
  fun A s hA S => wpAny_isTrue_value (go (h A s hA S) fun v v' σ₁ s₁ rv S₁ M₁ h₁ => fin S₁ M₁ (h₁ A s₁ v' hA S₁ rv)) he
theorem b_and {x y : Expr} {p : Pos} {Q : Bool → St → Prop} (h : TB C k F x σ fun b σ₁ => if b then TB C k F y σ₁ Q else Q false σ₁) : TB C k F (.BoolOp .And [x, y] p) σ Q :=
  fun A s hA S => wpAny_isTrue_BoolOp (wpAny_allTrue_And_cons (go (h A s hA S) fun b b' σ₁ s₁ rb S₁ M₁ h₁ => by
    cases rb
    cases b with
    | true => exact wpAny_allTrue_And_cons (go (h₁ A s₁ hA S₁) fun c c' σ₂ s₂ rc S₂ M₂ h₂ => by
        cases rc
        cases c with
        | true => exact wpAny_allTrue_And_nil ⟨true, σ₂, rfl, S₂, M₁.trans S₁ M₂, h₂⟩
        | false => exact ⟨false, σ₂, rfl, S₂, M₁.trans S₁ M₂, h₂⟩)
    | false => exact ⟨false, σ₁, rfl, S₁, M₁, h₁⟩))
theorem b_or {x y : Expr} {p : Pos} {Q : Bool → St → Prop} (h : TB C k F x σ fun b σ₁ => if b then Q true σ₁ else TB C k F y σ₁ Q) : TB C k F (.BoolOp .Or [x, y] p) σ Q :=
  fun A s hA S => wpAny_isTrue_BoolOp (wpAny_allTrue_Or_cons (go (h A s hA S) fun b b' σ₁ s₁ rb S₁ M₁ h₁ => by
    cases rb
    cases b with
    | false => exact wpAny_allTrue_Or_cons (go (h₁ A s₁ hA S₁) fun c c' σ₂ s₂ rc S₂ M₂ h₂ => by
        cases rc
        cases c with
        | false => exact wpAny_allTrue_Or_nil ⟨false, σ₂, rfl, S₂, M₁.trans S₁ M₂, h₂⟩
        | true => exact ⟨true, σ₂, rfl, S₂, M₁.trans S₁ M₂, h₂⟩)
    | true => exact ⟨true, σ₁, rfl, S₁, M₁, h₁⟩))

-- calls
noncomputable def IsFun (GB : Heap) : V → Prop
  | .opq (.builtin _) => True
  | .opq (.type _) => True
  | .ref a => ∃ o fd, GB.get? a = some o ∧ o.data = .func fd
  | _ => False
theorem keeper_of {M : Model} {h : Heap} {f : V} {f' : Value} (hf : IsFun C.GB f) (r : Rep h f f') (hb : ∀ b o, C.GB.get? b = some o → h.get? b = some o) :
    ∃ k, (k = Keeper.frame ∨ k = Keeper.machine ∨ k = Keeper.boundFrame) ∧ Looks M h (keeperOf f') k := by
  cases r with
  | ref a =>
    obtain ⟨o, fd, ho, hd⟩ := hf
    refine ⟨.frame, .inl rfl, (Looks.ld (part := none) (hb _ _ ho)).andThen ?_⟩
    rw [hd]; exact .now
  | opq hn =>
    cases f' <;> first | exact hf.elim | exact ⟨.machine, .inr (.inl rfl), .of_pure rfl⟩
  | _ => exact hf.elim
theorem evalArgs_none {M : Model} {A : Around} {E : Value → Shared → Prop} {s : Shared} {f : Value} {Q : Args → Shared → Prop}
    (h : wpAny M A (spliced []) (fun vs s' => Q ⟨vs, []⟩ s') E s) : wpAny M A (evalArgs f true [] []) Q E s := by
  unfold evalArgs
  show wpAny M A (spliced [] >>= _) Q E s
  refine wpAny_bind (wpAny_mono h (fun vs s' h' => ?_) fun _ _ x => x)
  exact wpAny_bind (wpAny_pure (wpAny_holding (wpAny_bind (wpAny_pure (wpAny_bind (wpAny_pure (wpAny_pure h')))))))
theorem e_call {fe : Expr} {es : List Expr} {p : Pos} {Q : V → St → Prop} (h : TE C k F fe σ fun f σ₁ => TEs C k F p es σ₁ fun vs σ₂ => IsFun C.GB f ∧ CallOK C k F f vs σ₂ Q)
    (hn : eval (.Call fe es [] p) F.env = (do callWith p (← eval fe F.env) [] (backTo p (starEach es F.env)) (backToKw p (keywordEach [] F.env))) := by rfl)
    (hs : (starEach es F.env).all (fun x => !x.1) = true := by rfl) : TE C k F (.Call fe es [] p) σ Q :=
  fun A s hA S => by
    rw [TE] at h
    show wpAny _ A (eval (.Call fe es [] p) F.env) _ _ s
    rw [hn]
    refine wpAny_bind (go (h A s hA S) fun f f' σ₁ s₁ rf S₁ M₁ h₁ => ?_)
    have hst : ((backTo p (starEach es F.env)).any (·.1) || (backToKw p (keywordEach [] F.env)).any (·.1.isNone)) = false := by
      have : (backTo p (starEach es F.env)).any (·.1) = false := by
        rw [List.any_eq_false]
        intro x hx
        obtain ⟨y, hy, rfl⟩ := List.mem_map.mp hx
        have := List.all_eq_true.mp hs y hy
        simpa using this
      rw [this]; rfl
    refine callWith_of (P := fun h => Rep h f f' ∧ IsFun C.GB f ∧ ∀ b o, C.GB.get? b = some o → h.get? b = some o) hst (fun h ⟨r, hf, hb⟩ => keeper_of hf r hb) ?_
    have ha : wpAny (model C.prog C.w) A (spliced (backTo p (starEach es F.env))) (fun vs' s' => (Rep s'.heap f f' ∧ IsFun C.GB f ∧ ∀ b o, C.GB.get? b = some o → s'.heap.get? b = some o) ∧
        wpAny (model C.prog C.w) A (call f' vs' []) (Post C F Rep σ s Q) No s') No s₁ :=
      go (h₁ A s₁ hA S₁) fun vs vs' σ₂ s₂ rv S₂ M₂ ⟨hf, h₂⟩ => ⟨⟨M₂.rep S₁ rf, hf, S₂.base⟩, fin S₂ (M₁.trans S₁ M₂) (h₂ A s₂ f' vs' hA S₂ (M₂.rep S₁ rf) rv)⟩
    show wpAny _ A (evalArgs f' true (backTo p (starEach es F.env)) []) _ _ s₁
    cases hes : backTo p (starEach es F.env) with
    | nil =>
      rw [hes] at ha
      exact evalArgs_none ha
    | cons x r =>
      obtain ⟨b, t⟩ := x
      have hb : b = false := by
        have : ((b, t) :: r).any (·.1) = false := by rw [← hes]; simpa using (Bool.or_eq_false_iff.mp hst).1
        simpa using (List.any_eq_false.mp this (b, t) (.head _))
      subst hb
      rw [hes] at ha
      exact Calls.evalArgs_plain ha
end
end Mine
namespace Mine
open PySem PySem.W PyProof.Rows

section
variable {C : Cx} {k : Nat} {F : FE} {σ : St}

noncomputable def StoreOk (F : FE) (x : Str) : Prop := F.env.kindOf x = some .local ∨ (F.env.kindOf x = some .cell ∧ ∃ c, F.env.cells.lookup x = some c ∧ c ∈ F.own)

-- statements
theorem x_nil {Q : Fl → St → Prop} (h : Q .next σ) : TX C k F [] σ Q := fun A s _ S => wpAny_execs_nil (post_pure S .next h)
/-- behind a statement the rest -/
noncomputable def Then (C : Cx) (k : Nat) (F : FE) (r : List Stmt) (Q : Fl → St → Prop) (f : Fl) (σ₁ : St) : Prop := match f with | .next => TX C k F r σ₁ Q | f => Q f σ₁
theorem then_next {r : List Stmt} {Q : Fl → St → Prop} (h : TX C k F r σ Q) : Then C k F r Q .next σ := h
theorem then_brk {r : List Stmt} {Q : Fl → St → Prop} (h : Q .brk σ) : Then C k F r Q .brk σ := h
theorem then_cont {r : List Stmt} {Q : Fl → St → Prop} (h : Q .cont σ) : Then C k F r Q .cont σ := h
theorem then_ret {r : List Stmt} {v : V} {Q : Fl → St → Prop} (h : Q (.ret v) σ) : Then C k F r Q (.ret v) σ := h
theorem x_cons {st : Stmt} {r : List Stmt} {Q : Fl → St → Prop} (h : TS C k F st σ (Then C k F r Q)) : TX C k F (st :: r) σ Q :=
  fun A s hA S => wpAny_execs_cons (go (h A s hA S) fun f f' σ₁ s₁ rf S₁ M₁ h₁ => by
    cases rf with
    | next => exact fin S₁ M₁ (h₁ A s₁ hA S₁)
    | brk => exact ⟨_, σ₁, .brk, S₁, M₁, h₁⟩
    | cont => exact ⟨_, σ₁, .cont, S₁, M₁, h₁⟩
    | ret r => exact ⟨_, σ₁, .ret r, S₁, M₁, h₁⟩)
theorem s_assign {x : Str} {p' p : Pos} {e : Expr} {Q : Fl → St → Prop} (ok : EnvOk F.env) (h : TE C k F e σ fun v σ₁ => Q .next (σ₁.setLoc x v))
    (hk : StoreOk F x := by exact .inl rfl) (hs : swapsWith e (some (.Name x p')) p.line F.env = pure false := by rfl) : TS C k F (.Assign [.Name x p'] e p) σ Q :=
  fun A s hA S => wpAny_Assign_Name (go (h A s hA S) fun v v' σ₁ s₁ rv S₁ M₁ h₁ => store_name ok S₁ rv hk fun h' tk S₂ M₂ => ⟨_, _, .next, S₂, M₁.trans S₁ M₂, h₁⟩) hs
theorem s_setitem {o i e : Expr} {p' p : Pos} {Q : Fl → St → Prop} (h : TE C k F e σ fun v σ₁ => TE C k F o σ₁ fun ov σ₂ => TE C k F i σ₂ fun iv σ₃ => SetOK C k F ov iv v σ₃ fun _ σ₄ => Q .next σ₄)
    (hs : swapsWith e (some (.Subscript o i p')) p.line F.env = pure false := by rfl) : TS C k F (.Assign [.Subscript o i p'] e p) σ Q :=
  fun A s hA S => wpAny_Assign_Subscript (go (h A s hA S) fun v v' σ₁ s₁ rv S₁ M₁ h₁ => go (h₁ A s₁ hA S₁) fun ov ov' σ₂ s₂ ro S₂ M₂ h₂ => go (h₂ A s₂ hA S₂) fun iv iv' σ₃ s₃ ri S₃ M₃ h₃ =>
    go (h₃ A s₃ ov' iv' v' hA S₃ (M₃.rep S₂ ro) ri (M₃.rep S₂ (M₂.rep S₁ rv))) fun _ _ σ₄ s₄ _ S₄ M₄ h₄ => ⟨_, σ₄, .next, S₄, ((M₁.trans S₁ M₂).trans S₂ M₃).trans S₃ M₄, h₄⟩) hs
theorem s_expr {e : Expr} {p : Pos} {Q : Fl → St → Prop} (h : TE C k F e σ fun _ σ₁ => Q .next σ₁) (hi : interactive F.env = false := by rfl) (hs : swapsWith e none p.line F.env = pure false := by rfl) : TS C k F (.Expr e p) σ Q :=
  fun A s hA S => wpAny_Expr_any (go (h A s hA S) fun v v' σ₁ s₁ rv S₁ M₁ h₁ => ⟨_, σ₁, .next, S₁, M₁, h₁⟩) hi hs
theorem s_return {e : Expr} {p : Pos} {Q : Fl → St → Prop} (h : TE C k F e σ fun v σ₁ => Q (.ret v) σ₁) : TS C k F (.Return (some e) p) σ Q :=
  fun A s hA S => wpAny_Return_some (go (h A s hA S) fun v v' σ₁ s₁ rv S₁ M₁ h₁ => ⟨_, σ₁, .ret rv, S₁, M₁, h₁⟩)
theorem s_break {p : Pos} {Q : Fl → St → Prop} (h : Q .brk σ) : TS C k F (.Break p) σ Q := fun A s hA S => wpAny_Break (post_pure S .brk h)
theorem s_continue {p : Pos} {Q : Fl → St → Prop} (h : Q .cont σ) : TS C k F (.Continue p) σ Q := fun A s hA S => wpAny_Continue (post_pure S .cont h)
theorem s_if {t : Expr} {b o : List Stmt} {p : Pos} {Q : Fl → St → Prop} (h : TB C k F t σ fun c σ₁ => if c then TX C k F b σ₁ Q else TX C k F o σ₁ Q) : TS C k F (.If t b o p) σ Q :=
  fun A s hA S => wpAny_If (go (h A s hA S) fun c c' σ₁ s₁ rc S₁ M₁ h₁ => by
    obtain rfl := rc
    cases c <;> simp only [Bool.false_eq_true, if_false, if_true] at h₁ ⊢ <;> exact fin S₁ M₁ (h₁ A s₁ hA S₁))
theorem s_aug {x : Str} {p' p : Pos} {op : Operator} {e : Expr} {v₀ : V} {Q : Fl → St → Prop} (ok : EnvOk F.env) (hx : σ.loc.lookup x = some v₀) (h : TE C k F e σ fun v σ₁ => IBinOK C k F op v₀ v σ₁ fun r σ₂ => Q .next (σ₂.setLoc x r))
    (hk : StoreOk F x := by exact .inl rfl) (hc : (x == ("__classdict__" : Str)) = false := by rfl) : TS C k F (.AugAssign (.Name x p') op e p) σ Q :=
  fun A s hA S => wpAny_AugAssign_Name (load_name ok S hx hc fun v₀' r₀ => go (h A s hA S) fun v v' σ₁ s₁ rv S₁ M₁ h₁ => go (h₁ A s₁ v₀' v' hA S₁ (M₁.rep S r₀) rv) fun r r' σ₂ s₂ rr S₂ M₂ h₂ =>
    store_name ok S₂ rr hk fun h' tk S₃ M₃ => ⟨_, _, .next, S₃, (M₁.trans S₁ M₂).trans S₂ M₃, h₂⟩)

theorem no_mono {α : Type} {M : Model} {A : Around} {t : Sem α} {Q : α → Shared → Prop} {E : Value → Shared → Prop} {s : Shared} (h : wpAny M A t Q No s) : wpAny M A t Q E s := wpAny_mono h (fun _ _ x => x) fun _ _ x => x.elim

/-- a while by what holds between its turns -/
theorem s_while {t : Expr} {b o : List Stmt} {p : Pos} {Q : Fl → St → Prop} (Inv : Nat → St → Prop) (n : Nat) (h0 : Inv n σ)
    (turn : ∀ n σ', Inv n σ' → TB C k F t σ' fun c σ₁ => if c then TX C k F b σ₁ fun f σ₂ => (match f with
        | .next => ∃ m, m < n ∧ Inv m σ₂
        | .cont => ∃ m, m < n ∧ Inv m σ₂
        | .brk => Q .next σ₂
        | .ret v => Q (.ret v) σ₂) else TX C k F o σ₁ Q) : TS C k F (.While t b o p) σ Q :=
  fun A s hA S => wpAny_While (codeAny_whileLoop (fun n s' => ∃ σ', Sim C.GB F σ' s'.heap ∧ Mod F.own σ σ' s s' ∧ Inv n σ') (fun n s' ⟨σ', S', M', hI⟩ => by
    refine no_mono (go (turn n σ' hI A s' hA S') fun c c' σ₁ s₁ rc S₁ M₁ h₁ => ?_)
    obtain rfl := rc
    cases c with
    | true =>
      simp only [if_true] at h₁ ⊢
      refine no_mono (go (h₁ A s₁ hA S₁) fun f f' σ₂ s₂ rf S₂ M₂ h₂ => ?_)
      have M := (M'.trans S' M₁).trans S₁ M₂
      cases rf with
      | next => obtain ⟨m, hm, hI⟩ := h₂; exact ⟨m, hm, σ₂, S₂, M, hI⟩
      | cont => obtain ⟨m, hm, hI⟩ := h₂; exact ⟨m, hm, σ₂, S₂, M, hI⟩
      | brk => exact ⟨_, σ₂, .next, S₂, M, h₂⟩
      | ret r => exact ⟨_, σ₂, .ret r, S₂, M, h₂⟩
    | false =>
      simp only [Bool.false_eq_true, if_false] at h₁ ⊢
      refine no_mono (go (h₁ A s₁ hA S₁) fun f f' σ₂ s₂ rf S₂ M₂ h₂ => ?_)
      exact ⟨f, σ₂, rf, S₂, (M'.trans S' M₁).trans S₁ M₂, h₂⟩) n ⟨σ, S, .refl, h0⟩)

-- iterators
/-- what an iterator yields; none: not known -/
noncomputable abbrev Get := Nat → (Addr → Option O) → Option (Option V)
structure Iter (C : Cx) (k : Nat) (it : Addr) (get : Get) (K : Nat → Heap → Prop) : Prop where
  next : ∀ A F σ s i r₀, Room C k F A → Sim C.GB F σ s.heap → Loose C.GB F σ s.heap it → K i s.heap → get i σ.sto = some r₀ → wpAny (model C.prog C.w) A (pyNext (.ref it)) (fun r s' => Heap.ExtBut it s.heap s'.heap ∧
    s' = { s with heap := s'.heap, toks := s'.toks } ∧ match r₀ with | some v => ∃ v', r = some v' ∧ Rep s.heap v v' ∧ K (i + 1) s'.heap | none => r = none) No s
  only : ∀ i h h', K i h → (∀ o, h.get? it = some o → h'.get? it = some o) → (∀ a o, h.get? a = some o → FrzO o → h'.get? a = some o) → K i h'
  alive : ∀ i h, K i h → ∃ o, h.get? it = some o ∧ ¬ FrzO o
  again : ∀ (A : Around) (s : Shared) (i : Nat) (Q : Value → Shared → Prop), K i s.heap → Q (.ref it) s → wpAny (model C.prog C.w) A (pyIter (.ref it)) Q No s
  lot : ∀ (A : Around) (s : Shared) (i : Nat) (target : Expr) (v : Value) (Q : Unit → Shared → Prop), K i s.heap → Q () s → wpAny (model C.prog C.w) A (letOwnedTupleGo target (.ref it) v) Q No s

/-- the iterator of a value -/
noncomputable def IterOK (C : Cx) (k : Nat) (F : FE) (a : V) (σ : St) (P : Get → St → Prop) : Prop :=
  ∀ A s a', Room C k F A → Sim C.GB F σ s.heap → Rep s.heap a a' → wpAny (model C.prog C.w) A (pyIter a') (fun it s' => ∃ I get K σ', it = .ref I ∧ s.heap.get? I = none ∧ Iter C k I get K ∧ K 0 s'.heap ∧ Sim C.GB F σ' s'.heap ∧ Mod F.own σ σ' s s' ∧ σ'.sto I = none ∧ P get σ') No s

/-- the iterator of an expression -/
noncomputable def TIter (C : Cx) (k : Nat) (F : FE) (e : Expr) (σ : St) (P : Get → St → Prop) : Prop :=
  ∀ A s, Room C k F A → Sim C.GB F σ s.heap → wpAny (model C.prog C.w) A (eval e F.env) (fun x s₁ => wpAny (model C.prog C.w) A (pyIter x) (fun it s' => ∃ I get K σ', it = .ref I ∧ s.heap.get? I = none ∧ Iter C k I get K ∧ K 0 s'.heap ∧ Sim C.GB F σ' s'.heap ∧ Mod F.own σ σ' s s' ∧ σ'.sto I = none ∧ P get σ') No s₁) No s
theorem titer_of {e : Expr} {P : Get → St → Prop} (h : TE C k F e σ fun v σ₁ => IterOK C k F v σ₁ P) : TIter C k F e σ P :=
  fun A s hA S => go (h A s hA S) fun v v' σ₁ s₁ rv S₁ M₁ h₁ => wpAny_mono (h₁ A s₁ v' hA S₁ rv) (fun itv s₂ hx => ex4 hx fun I get K σ₂ hx => an8 hx fun e hI IT hK S₂ M₂ hsI hP =>
    ⟨I, get, K, σ₂, e, M₁.back hI, IT, hK, S₂, M₁.trans S₁ M₂, hsI, hP⟩) fun _ _ x => x

noncomputable def AsgOK (C : Cx) (k : Nat) (F : FE) (t : Expr) (v : V) (σ : St) (Q : St → Prop) : Prop := T1 C k F REq (assign t F.env) v σ fun (_ : Unit) σ₁ => Q σ₁

theorem not_frz_of {h : Heap} {a : Addr} {o : Obj} (ho : h.get? a = some o) (hc : ¬ FrzO o) : ∀ o', h.get? a = some o' → ¬ FrzO o' := fun o' ho' => by rw [ho] at ho'; cases ho'; exact hc

theorem Sim.sto_alive {GB : Heap} {h : Heap} (S : Sim GB F σ h) {a : Addr} {o : O} (e : σ.sto a = some o) : ∃ ob, h.get? a = some ob := by
  have r := S.sto a o e
  cases o with
  | lst vs => obtain ⟨_, _, _, e, _⟩ := r; exact ⟨_, e⟩
  | rol vs => obtain ⟨_, _, ⟨_, e, _⟩, _⟩ := r; exact ⟨_, e⟩
  | raw o => exact ⟨_, r.1⟩

theorem s_for {t it : Expr} {b o : List Stmt} {p : Pos} {Q : Fl → St → Prop} (h : TIter C k F it σ fun get σ₂ => ∃ (Inv : Nat → St → Prop) (N : Nat), Inv 0 σ₂ ∧ ∀ i σ', Inv i σ' → i ≤ N ∧ ∃ r₀, get i σ'.sto = some r₀ ∧
      match r₀ with
      | some v => AsgOK C k F t v σ' fun σ₃ => TX C k F b σ₃ fun f σ₄ => (match f with
          | .next => Inv (i + 1) σ₄
          | .cont => Inv (i + 1) σ₄
          | .brk => Q .next σ₄
          | .ret v => Q (.ret v) σ₄)
      | none => TX C k F o σ' Q)
    (hs : ∀ x, foldedSetIterable it F.env x = pure x := by intro _; rfl) : TS C k F (.For t it b o p) σ Q :=
  fun A s hA S => wpAny_For (wpAny_mono (h A s hA S) (fun x s₁ h₁ => wpAny_mono h₁ (fun itv s₂ hx => ex4 hx fun I get K σ₂ hx => an8 hx fun e hI IT hK S₂ M₂ hsI hx => by
    obtain ⟨Inv, N, h0, turn⟩ := hx
    subst e
    have L₂ : Loose C.GB F σ₂ s₂.heap I := by
      obtain ⟨ob, ho, hc⟩ := IT.alive 0 _ hK
      have l := Loose.fresh (h' := s₂.heap) S hI (not_frz_of ho hc)
      exact ⟨l.new, l.loc, l.cell, hsI, l.frz⟩
    have stoI : ∀ {σ' σ'' : St} {s' s'' : Shared} {ob : Obj}, Mod F.own σ' σ'' s' s'' → s'.heap.get? I = some ob → σ'.sto I = none → σ''.sto I = none := fun M' ho hs' => by
      cases hq : (_ : St).sto I with
      | none => rfl
      | some o₁ =>
        rcases M'.dom I o₁ hq with ⟨o', h', _⟩ | h'
        · rw [hs'] at h'; cases h'
        · rw [ho] at h'; cases h'
    refine codeAny_forLoop_any (fun n s' => ∃ i σ', n = N + 1 - i ∧ Sim C.GB F σ' s'.heap ∧ Mod (I :: F.own) σ σ' s s' ∧ K i s'.heap ∧ Loose C.GB F σ' s'.heap I ∧ Inv i σ') (fun n s' hinv => ?_) (N + 1) ⟨0, σ₂, rfl, S₂, M₂.more I, hK, L₂, h0⟩
    refine ex2 hinv fun i σ' hinv => an6 hinv fun hn S' M' hK' L' hInv => ?_
    clear hinv; clear hinv
    obtain ⟨hi, r₀, hg, ht⟩ := turn i σ' hInv
    refine no_mono (wpAny_mono (IT.next A F σ' s' i r₀ hA S' L' hK' hg) (fun r s₃ ⟨hext, hrest, hget⟩ => ?_) fun _ _ x => x)
    have S₃ : Sim C.GB F σ' s₃.heap := S'.extBut L' hext
    cases r₀ with
    | none =>
      subst hget
      refine no_mono (go (ht A s₃ hA S₃) fun f f' σ₄ s₄ rf S₄ M₄ h₄ => ?_)
      exact ⟨f, σ₄, rf, S₄, M'.endOf hI hext hrest M₄, h₄⟩
    | some v =>
      obtain ⟨v', rfl, rv', hK₃⟩ := hget
      obtain ⟨oI, hoI, hcI⟩ := IT.alive _ _ hK₃
      have M₃ : Mod (I :: F.own) σ' σ' s' s₃ := ⟨fun b o e _ nb => hext b o (fun q => nb (q ▸ .head _)) e, fun b o e => .inl ⟨o, e, id⟩, fun b o e => by
        by_cases hb : b = I
        · subst hb; exact ⟨oI, hoI⟩
        · exact ⟨o, hext b o hb e⟩, hrest⟩
      have M₁₃ := M'.trans' M₃
      refine no_mono (IT.lot A s₃ (i + 1) t v' _ hK₃ ?_)
      have L₃ : Loose C.GB F σ' s₃.heap I := ⟨L'.new, L'.loc, L'.cell, L'.sto, not_frz_of hoI hcI⟩
      refine no_mono (go (ht A s₃ v' hA S₃ (rv'.keeps (not_frz_ext L'.frz hext))) fun _ _ σ₄ s₄ _ S₄ M₄ h₄ => ?_)
      have hK₄ : K (i + 1) s₄.heap := IT.only _ _ _ hK₃ (fun o ho => M₄.keep I o ho (fun o' q => by rw [L₃.sto] at q; cases q) (L₃.own S₃)) (M₄.frz S₃)
      have hs₄ := stoI M₄ hoI L₃.sto
      refine no_mono (go (h₄ A s₄ hA S₄) fun f f' σ₅ s₅ rf S₅ M₅ h₅ => ?_)
      obtain ⟨o₄, ho₄, hc₄⟩ := IT.alive _ _ hK₄
      have L₄ : Loose C.GB F σ₄ s₄.heap I := ⟨L'.new, L'.loc, L'.cell, hs₄, not_frz_of ho₄ hc₄⟩
      have hK₅ : K (i + 1) s₅.heap := IT.only _ _ _ hK₄ (fun o ho => M₅.keep I o ho (fun o' q => by rw [L₄.sto] at q; cases q) (L₄.own S₄)) (M₅.frz S₄)
      have hs₅ := stoI M₅ ho₄ L₄.sto
      obtain ⟨o₅, ho₅, hc₅⟩ := IT.alive _ _ hK₅
      have M := (M₁₃.trans' (M₄.more I)).trans' (M₅.more I)
      cases rf with
      | next => exact ⟨N + 1 - (i + 1), hn.symm ▸ Nat.sub_succ_lt_self _ _ (Nat.lt_succ_of_le hi), i + 1, σ₅, rfl, S₅, M, hK₅, ⟨L'.new, L'.loc, L'.cell, hs₅, not_frz_of ho₅ hc₅⟩, h₅⟩
      | cont => exact ⟨N + 1 - (i + 1), hn.symm ▸ Nat.sub_succ_lt_self _ _ (Nat.lt_succ_of_le hi), i + 1, σ₅, rfl, S₅, M, hK₅, ⟨L'.new, L'.loc, L'.cell, hs₅, not_frz_of ho₅ hc₅⟩, h₅⟩
      | brk => exact ⟨_, σ₅, .next, S₅, M.less hI, h₅⟩
      | ret r => exact ⟨_, σ₅, .ret r, S₅, M.less hI, h₅⟩) fun _ _ x => x) fun _ _ x => x) hs

-- fewer names
noncomputable def restrictL (names : List Str) (l : List (Str × V)) : List (Str × V) := names.filterMap fun x => (l.lookup x).map fun v => (x, v)
noncomputable def St.restrict (σ : St) (names : List Str) : St := ⟨restrictL names σ.loc, σ.sto⟩
theorem restrictL_sub (l : List (Str × V)) : ∀ (names : List Str) (x : Str) (v : V), (restrictL names l).lookup x = some v → l.lookup x = some v
  | [], x, v, e => by simp [restrictL] at e
  | n :: r, x, v, e => by
    unfold restrictL at e
    rw [List.filterMap_cons] at e
    cases hn : l.lookup n with
    | none => rw [hn] at e; exact restrictL_sub l r x v e
    | some u =>
      rw [hn] at e
      simp only [Option.map_some] at e
      rw [List.lookup_cons] at e
      by_cases hx : (x == n) = true
      · rw [hx] at e; cases e; rw [beq_iff_eq.mp hx]; exact hn
      · have hx' : (x == n) = false := by simpa using hx
        rw [hx'] at e
        exact restrictL_sub l r x v e
theorem Sim.weak {GB : Heap} {h : Heap} {l : List (Str × V)} (S : Sim GB F σ h) (hs : ∀ x v, l.lookup x = some v → σ.loc.lookup x = some v) : Sim GB F ⟨l, σ.sto⟩ h :=
  ⟨S.base, (let ⟨m, hn, hl⟩ := S.frame; ⟨m, hn, fun x v e => hl x v (hs x v e)⟩), S.cells, S.apart, S.sto, S.inOwn, S.ownIs, S.new, S.off⟩
theorem TT.weak {α β : Type} {R : Heap → β → α → Prop} {t : Sem α} {Q : β → St → Prop} {l : List (Str × V)} (hs : ∀ x v, l.lookup x = some v → σ.loc.lookup x = some v) (h : TT C k F R t ⟨l, σ.sto⟩ Q) : TT C k F R t σ Q :=
  fun A s hA S => wpAny_mono (h A s hA (S.weak hs)) (fun a s' ⟨b, σ', r, S', M, q⟩ => ⟨b, σ', r, S', ⟨M.keep, M.dom, M.alive, M.rest⟩, q⟩) fun _ _ x => x
theorem x_weak {ss : List Stmt} {Q : Fl → St → Prop} (names : List Str) (h : TX C k F ss (σ.restrict names) Q) : TX C k F ss σ Q := TT.weak (restrictL_sub σ.loc names) h

theorem st_ext {l l' : List (Str × V)} {f f' : Addr → Option O} (h1 : l = l') (h2 : f = f') : St.mk l f = St.mk l' f' := by rw [h1, h2]
theorem q_eq {α : Type} {Q : α → St → Prop} {v : α} {l : List (Str × V)} {f f' : Addr → Option O} (h : Q v ⟨l, f⟩) (e : ∀ b, f' b = f b) : Q v ⟨l, f'⟩ := by rw [show f' = f from funext e]; exact h
/-- behind a turn of a while -/
noncomputable def TurnW (names : List Str) (Inv : Nat → St → Prop) (n : Nat) (Q : Fl → St → Prop) (f : Fl) (σ₂ : St) : Prop := match f with
  | .next => ∃ m, m < n ∧ Inv m (σ₂.restrict names)
  | .cont => ∃ m, m < n ∧ Inv m (σ₂.restrict names)
  | .brk => Q .next σ₂
  | .ret v => Q (.ret v) σ₂
theorem turnW_next {names : List Str} {Inv : Nat → St → Prop} {n : Nat} {Q : Fl → St → Prop} (h : ∃ m, m < n ∧ Inv m (σ.restrict names)) : TurnW names Inv n Q .next σ := h
theorem turnW_brk {names : List Str} {Inv : Nat → St → Prop} {n : Nat} {Q : Fl → St → Prop} (h : Q .next σ) : TurnW names Inv n Q .brk σ := h
/-- behind a turn of a for -/
noncomputable def TurnF (names : List Str) (Inv : Nat → St → Prop) (i : Nat) (Q : Fl → St → Prop) (f : Fl) (σ₂ : St) : Prop := match f with
  | .next => Inv (i + 1) (σ₂.restrict names)
  | .cont => Inv (i + 1) (σ₂.restrict names)
  | .brk => Q .next σ₂
  | .ret v => Q (.ret v) σ₂
/-- a while by what holds between its turns, of the names that are kept -/
theorem s_whileN {t : Expr} {b o : List Stmt} {p : Pos} {Q : Fl → St → Prop} (names : List Str) (Inv : Nat → St → Prop) (n : Nat) (h0 : Inv n (σ.restrict names))
    (turn : ∀ n σ', Inv n σ' → TB C k F t σ' fun c σ₁ => if c then TX C k F b σ₁ (TurnW names Inv n Q) else TX C k F o σ₁ Q) : TS C k F (.While t b o p) σ Q :=
  s_while (fun n σ' => Inv n (σ'.restrict names)) n h0 fun n σ' hI => TT.weak (restrictL_sub σ'.loc names) (TT.mono (turn n _ hI) fun c σ₁ h => by
    cases c with
    | false => exact h
    | true => exact TX.mono h fun f σ₂ h₂ => by cases f <;> exact h₂)

/-- a for, likewise -/
theorem TIter.mono {e : Expr} {P P' : Get → St → Prop} (h : TIter C k F e σ P) (hp : ∀ g σ', P g σ' → P' g σ') : TIter C k F e σ P' :=
  fun A s hA S => wpAny_mono (h A s hA S) (fun x s₁ h₁ => wpAny_mono h₁ (fun itv s₂ hx => ex4 hx fun I get K σ₂ hx => an8 hx fun e hI IT hK S₂ M₂ hsI hP => ⟨I, get, K, σ₂, e, hI, IT, hK, S₂, M₂, hsI, hp _ _ hP⟩) fun _ _ x => x) fun _ _ x => x
theorem s_forN {t it : Expr} {b o : List Stmt} {p : Pos} {Q : Fl → St → Prop} (names : List Str) (h : TIter C k F it σ fun get σ₂ => ∃ (Inv : Nat → St → Prop) (N : Nat), Inv 0 (σ₂.restrict names) ∧ ∀ i σ', Inv i σ' → i ≤ N ∧ ∃ r₀, get i σ'.sto = some r₀ ∧
      match r₀ with
      | some v => AsgOK C k F t v σ' fun σ₃ => TX C k F b σ₃ (TurnF names Inv i Q)
      | none => TX C k F o σ' Q)
    (hs : ∀ x, foldedSetIterable it F.env x = pure x := by intro _; rfl) : TS C k F (.For t it b o p) σ Q :=
  s_for (TIter.mono h fun get σ₂ ⟨Inv, N, h0, turn⟩ => ⟨fun i σ' => Inv i (σ'.restrict names), N, h0, fun i σ' hInv => by
      obtain ⟨hi, r₀, hg, ht⟩ := turn i _ hInv
      refine ⟨hi, r₀, hg, ?_⟩
      cases r₀ with
      | none => exact TT.weak (restrictL_sub σ'.loc names) ht
      | some v =>
        exact fun A s a' hA S ra => wpAny_mono (ht A s a' hA (S.weak (restrictL_sub σ'.loc names)) ra) (fun a s' ⟨b, σ', r, S', M, q⟩ => ⟨b, σ', r, S', ⟨M.keep, M.dom, M.alive, M.rest⟩, TX.mono q fun f σ₂ h₂ => by cases f <;> exact h₂⟩) fun _ _ x => x⟩) hs

/-- behind a branch that joins -/
noncomputable def JoinF (names : List Str) (J : St → Prop) (Q : Fl → St → Prop) (f : Fl) (σ₂ : St) : Prop := match f with
  | .next => J (σ₂.restrict names)
  | f => Q f σ₂
theorem join_next {names : List Str} {J : St → Prop} {Q : Fl → St → Prop} (h : J (σ.restrict names)) : JoinF names J Q .next σ := h
theorem x_ifJ {t : Expr} {b o r : List Stmt} {p : Pos} {Q : Fl → St → Prop} (names : List Str) (J : St → Prop) (h : TB C k F t σ fun c σ₁ => if c then TX C k F b σ₁ (JoinF names J Q) else TX C k F o σ₁ (JoinF names J Q))
    (h2 : ∀ σ₂, J σ₂ → TX C k F r σ₂ Q) : TX C k F (.If t b o p :: r) σ Q := by
  have hj : ∀ f σ₂, JoinF names J Q f σ₂ → Then C k F r Q f σ₂ := fun f σ₂ h => by
    cases f with
    | next => exact x_weak names (h2 _ h)
    | brk => exact h
    | cont => exact h
    | ret v => exact h
  refine x_cons (s_if (TT.mono h fun c σ₁ h₁ => ?_))
  cases c with
  | true => exact TX.mono h₁ hj
  | false => exact TX.mono h₁ hj
end
end Mine
namespace Mine
open PySem PySem.W PyProof.Rows

section
variable {C : Cx} {k : Nat} {F : FE} {σ : St}

-- a call of a def of the text's
theorem bindL_out (kd : Str → Option NameKind) (x : Str) : ∀ (l : List (Str × Value)) (m : Str → Option Value), (∀ p ∈ l, p.1 ≠ x) → bindL kd l m x = m x
  | [], m, _ => rfl
  | (n, v) :: r, m, h => by
    unfold bindL
    rw [bindL_out kd x r _ fun p hp => h p (.tail _ hp)]
    split
    · exact if_neg (fun (e : x = n) => h (n, v) (.head _) e.symm)
    · rfl
theorem bindC_out (kd : Str → Option NameKind) (x : Str) : ∀ (l : List (Str × Value)) (m : Str → Option Value), (∀ p ∈ l, p.1 ≠ x) → bindC kd l m x = m x
  | [], m, _ => rfl
  | (n, v) :: r, m, h => by
    unfold bindC
    rw [bindC_out kd x r _ fun p hp => h p (.tail _ hp)]
    split
    · rfl
    · exact if_neg (fun (e : x = n) => h (n, v) (.head _) e.symm)

theorem bind_in {h : Heap} (kd : Str → Option NameKind) : ∀ (ns : List Str) (vs : List V) (vs' : List Value) (m cm : Str → Option Value), ns.Nodup → Reps h vs vs' → ∀ x v, (ns.zip vs).lookup x = some v →
    ∃ v', Rep h v v' ∧ (kd x = some .local → bindL kd (ns.zip vs') m x = some v') ∧ (kd x ≠ some .local → bindC kd (ns.zip vs') cm x = some v')
  | [], _, _, _, _, _, _, _, _, e => by simp at e
  | n :: ns, [], _, _, _, _, _, _, _, e => by simp at e
  | n :: ns, u :: us, _, m, cm, hnd, rr, x, v, e => by
    obtain ⟨u', us', rfl, ru, rs⟩ := rr.inv_cons
    rw [List.zip_cons_cons, List.lookup_cons] at e
    obtain ⟨hn, hnd'⟩ := List.nodup_cons.mp hnd
    by_cases hx : (x == n) = true
    · rw [hx] at e
      cases e
      have hxn := beq_iff_eq.mp hx
      subst hxn
      have hout : ∀ p ∈ ns.zip us', p.1 ≠ x := fun p hp q => hn (q ▸ (List.of_mem_zip hp).1)
      refine ⟨u', ru, fun hk => ?_, fun hk => ?_⟩
      · rw [List.zip_cons_cons, bindL, bindL_out kd x _ _ hout, if_pos hk]; simp
      · rw [List.zip_cons_cons, bindC, bindC_out kd x _ _ hout, if_neg hk]; simp
    · have hx' : (x == n) = false := by simpa using hx
      rw [hx'] at e
      rw [List.zip_cons_cons, bindL, bindC]
      exact bind_in kd ns us us' _ _ hnd' rs x v e

theorem cellsFrom_names (names : List (Str × NameKind)) : ∀ (n n' : Nat) (acc acc' : List (Str × Addr)), acc.map (·.1) = acc'.map (·.1) → (cellsFrom n names acc).map (·.1) = (cellsFrom n' names acc').map (·.1) := by
  induction names with
  | nil => intro n n' acc acc' h; exact h
  | cons p r ih =>
    obtain ⟨x, kd⟩ := p
    intro n n' acc acc' h
    unfold cellsFrom
    split
    · exact ih _ _ _ _ (by simp [h])
    · exact ih _ _ _ _ h
theorem lookup_of_nodup {α : Type} : ∀ {l : List (Str × α)}, (l.map (·.1)).Nodup → ∀ p ∈ l, l.lookup p.1 = some p.2
  | q :: r, hnd, p, hp => by
    rw [List.map_cons] at hnd
    obtain ⟨h1, h2⟩ := List.nodup_cons.mp hnd
    rw [List.lookup_cons]
    rcases List.mem_cons.mp hp with e | hp
    · subst e; simp
    · have : (p.1 == q.1) = false := by
        cases hq : p.1 == q.1 with
        | false => rfl
        | true => exact absurd (List.mem_map.mpr ⟨p, hp, beq_iff_eq.mp hq⟩) h1
      rw [this]
      exact lookup_of_nodup h2 p hp

/-- the frame of a call -/
noncomputable def frameOf (fd : FuncData) (L a : Addr) (fr : List Env) : FE := ⟨callEnvC fd L a, L :: (callEnvC fd L a).cells.map (·.2), callEnvC fd L a :: fr⟩

noncomputable def retV : Fl → V
  | .ret v => v
  | _ => .none

/-- a def of the text's, as the top left it -/
structure FnAt (C : Cx) (a : Addr) (fd : FuncData) (body : List Stmt) (names : List Str) : Prop where
  obj : ∃ o, C.GB.get? a = some o ∧ o.data = .func fd
  code : C.GB.CodeRec fd.code fd.qualname
  body : fd.body = .stmts body
  clo : fd.closure = []
  globals : fd.globals = mainGlobals
  builtins : fd.builtins = builtinsNs
  kind : fd.scope.kind = .function
  co : fd.scope.isCoroutine = false
  gen : fd.scope.isGenerator = false
  nodup : names.Nodup
  cnodup : ((cellsFrom 0 fd.scope.names []).map (·.1)).Nodup
  kinds : ∀ x ∈ names, fd.scope.names.lookup x = some .local ∨ (fd.scope.names.lookup x = some .cell ∧ x ∈ (cellsFrom 0 fd.scope.names []).map (·.1))
  bind : ∀ vs : List Value, vs.length = names.length → bindArgs fd ⟨vs, []⟩ = pure (names.zip vs)

theorem FnAt.envOk {a : Addr} {fd : FuncData} {body : List Stmt} {names : List Str} (f : FnAt C a fd body names) (L : Addr) (fr : List Env) : EnvOk (frameOf fd L a fr).env := ⟨f.kind, f.globals, f.builtins⟩
theorem FnAt.isFun {a : Addr} {fd : FuncData} {body : List Stmt} {names : List Str} (f : FnAt C a fd body names) : IsFun C.GB (.ref a) := let ⟨o, h1, h2⟩ := f.obj; ⟨o, fd, h1, h2⟩

theorem call_own {a : Addr} {fd : FuncData} {body : List Stmt} {names : List Str} {vs : List V} {Q : V → St → Prop} (cx : CxOk C) (f : FnAt C a fd body names) (hlen : vs.length = names.length)
    (h : ∀ L, TX C k (frameOf fd L a F.frames) body ⟨names.zip vs, σ.sto⟩ fun fl σ' => Q (retV fl) ⟨σ.loc, σ'.sto⟩) : CallOK C (k + 1) F (.ref a) vs σ Q := by
  intro A s f' vs' hA S rf rv
  obtain rfl := rf.inv_ref
  obtain ⟨o, ho, hd⟩ := f.obj
  have hsz : ∀ b ob, s.heap.get? b = some ob → b < s.heap.objs.size := fun b ob e => Heap.lt_size e
  have hbind := f.bind vs' (by rw [rv.length, hlen])
  refine wpAny_call (codeAny_call_cells (fd := fd) (body := body) (binds := names.zip vs') (Nat.lt_of_le_of_lt (Nat.le_add_right _ _) hA.2.1) (S.base _ _ ho) hd (cx.nolimit.keeps S.base) ?hcd f.body hbind f.clo ?hkind (fun s₁ x => ?hb) f.co f.gen f.kind)
  case hcd =>
    obtain ⟨c, oc, ws, tq, h1, h2, h3⟩ := f.code
    exact ⟨c, oc, ws, tq, h1, S.base _ _ h2, h3⟩
  case hkind =>
    intro y hy
    have hyn : y.1 ∈ names := by obtain ⟨y1, y2⟩ := y; exact (List.of_mem_zip hy).1
    rcases f.kinds _ hyn with q | ⟨q, q'⟩
    · exact .inl q
    · refine .inr ⟨q, ?_⟩
      rw [cellsFrom_names fd.scope.names 0 (s.heap.objs.size + 1) [] [] rfl] at q'
      obtain ⟨p, hp, e⟩ := List.mem_map.mp q'
      have hnd : ((cellsFrom (s.heap.objs.size + 1) fd.scope.names []).map (·.1)).Nodup := by
        rw [cellsFrom_names fd.scope.names (s.heap.objs.size + 1) 0 [] [] rfl]; exact f.cnodup
      rw [← e, lookup_of_nodup hnd p hp]; rfl
  case hb =>
    have hnd : ((callEnvC fd s.heap.objs.size a).cells.map (·.1)).Nodup := by
      show ((cellsFrom (s.heap.objs.size + 1) fd.scope.names []).map (·.1)).Nodup
      rw [cellsFrom_names fd.scope.names (s.heap.objs.size + 1) 0 [] [] rfl]; exact f.cnodup
    have hab : ∀ p ∈ (callEnvC fd s.heap.objs.size a).cells, s.heap.objs.size < p.2 := fun p hp => x.above p.1 p.2 hp
    have keep := x.toInCall.keep
    have hown : ∀ b ∈ (frameOf fd s.heap.objs.size a F.frames).own, s.heap.objs.size ≤ b := fun b hb => by
      rcases List.mem_cons.mp hb with e | hb
      · exact Nat.le_of_eq e.symm
      · obtain ⟨p, hp, e⟩ := List.mem_map.mp hb
        rw [← e]; exact Nat.le_of_lt (hab p hp)
    have hnone : ∀ b, s.heap.objs.size ≤ b → s.heap.get? b = none := fun b hb => by
      cases hq : s.heap.get? b with
      | none => rfl
      | some ob => exact absurd (hsz b ob hq) (Nat.not_lt.mpr hb)
    have hgb : ∀ b, s.heap.objs.size ≤ b → C.GB.get? b = none := fun b hb => by
      cases hq : C.GB.get? b with
      | none => rfl
      | some ob => have := S.base b ob hq; rw [hnone b hb] at this; cases this
    have S0 := S.keeps keep
    have S₁ : Sim C.GB (frameOf fd s.heap.objs.size a F.frames) ⟨names.zip vs, σ.sto⟩ s₁.heap := {
      base := S0.base
      frame := by
        refine ⟨_, x.toInCall.ns, fun y v e => ?_⟩
        obtain ⟨v', r, hl, hc⟩ := bind_in (h := s.heap) (callEnvC fd s.heap.objs.size a).kindOf names vs vs' (fun _ => none) (fun _ => none) f.nodup rv y v e
        refine ⟨v', ?_, r.keeps (frz_of_keeps keep)⟩
        have hy : y ∈ names := (List.of_mem_zip (mem_of_lookup e)).1
        rcases f.kinds y hy with q | ⟨q, q'⟩
        · exact .inl ⟨q, hl q⟩
        · refine .inr ⟨.inl q, ?_⟩
          rw [cellsFrom_names fd.scope.names 0 (s.heap.objs.size + 1) [] [] rfl] at q'
          obtain ⟨p, hp, ep⟩ := List.mem_map.mp q'
          have hlk := lookup_of_nodup hnd p hp
          rw [ep] at hlk
          refine ⟨p.2, hlk, ?_⟩
          have := x.cell y p.2 hlk
          rwa [hc (by show fd.scope.names.lookup y ≠ _; rw [q]; decide)] at this
      cells := fun p hp => ⟨_, x.cell p.1 p.2 (lookup_of_nodup hnd p hp)⟩
      apart := x.apart
      sto := S0.sto
      inOwn := .head _
      ownIs := fun b hb => by
        rcases List.mem_cons.mp hb with e | hb
        · exact .inl e
        · obtain ⟨p, hp, e⟩ := List.mem_map.mp hb; exact .inr ⟨p, hp, e⟩
      new := fun b hb => hgb b (hown b hb)
      off := fun b ob e => by
        obtain ⟨o', ho'⟩ := S.sto_alive e
        have hlt := hsz b o' ho'
        exact ⟨(S.off b ob e).1, Nat.ne_of_lt hlt, fun p hp q => by have := hab p hp; rw [q] at this; exact absurd hlt (Nat.lt_asymm this)⟩ }
    have hA' : Room C k (frameOf fd s.heap.objs.size a F.frames) (A.deeper (callEnvC fd s.heap.objs.size a)) := ⟨hA.1, by have := hA.2.1; show A.depth + 1 + k < _; omega, by have := hA.2.2.1; show A.units + 3 + 10 * k + 5 < _; omega, by show A.frames.map _ = _; rw [hA.2.2.2]; rfl⟩
    refine wpAny_mono (h s.heap.objs.size _ s₁ hA' S₁) (fun fl' s' ⟨fl, σ', rfl', S', M', hq⟩ => ?_) fun _ _ z => z.elim
    have hb₁ : ∀ b ob, s.heap.get? b = some ob → b ∉ (frameOf fd s.heap.objs.size a F.frames).own := fun b ob e hb => absurd (hsz b ob e) (Nat.not_lt.mpr (hown b hb))
    have kp : ∀ b ob, s.heap.get? b = some ob → σ.fixed b → s'.heap.get? b = some ob := fun b ob e hf => M'.keep b ob (keep b ob e) hf (hb₁ b ob e)
    have tp : ∀ c o, s.heap.get? c = some o → FrzO o → s'.heap.get? c = some o := fun c o hoc hf => kp c o hoc (S.frz_off hoc hf).1
    have dm : ∀ b ob, σ'.sto b = some ob → (∃ o', σ.sto b = some o' ∧ (ob.isMut = true → o'.isMut = true)) ∨ s.heap.get? b = none := fun b ob e => by
      rcases M'.dom b ob e with q | q
      · exact .inl q
      · refine .inr ?_
        cases hq : s.heap.get? b with
        | none => rfl
        | some oo => rw [keep b oo hq] at q; cases q
    have S₂ : Sim C.GB F ⟨σ.loc, σ'.sto⟩ s'.heap := {
      base := S'.base
      frame := by
        obtain ⟨m, hn, hl⟩ := S.frame
        have fixL : σ.fixed F.env.locals := fun o' e => absurd rfl (S.off _ o' e).2.1
        refine ⟨m, ?_, fun y v e => ?_⟩
        · obtain ⟨oL, es, ep, hoL, r⟩ := hn
          exact ⟨oL, es, ep, kp _ _ hoL fixL, r⟩
        · obtain ⟨v', hp, hr⟩ := hl y v e
          refine ⟨v', ?_, hr.keeps tp⟩
          rcases hp with hp | ⟨hk, c, hc, oc, hoc, hdc⟩
          · exact .inl hp
          · exact .inr ⟨hk, c, hc, oc, kp c oc hoc (fun o' e => absurd rfl ((S.off _ o' e).2.2 _ (mem_of_lookup hc))), hdc⟩
      cells := fun p hp => by
        obtain ⟨v₀, oc, hoc, hdc⟩ := S.cells p hp
        exact ⟨v₀, oc, kp _ oc hoc (fun o' e => absurd rfl ((S.off _ o' e).2.2 _ hp)), hdc⟩
      apart := S.apart
      sto := S'.sto
      inOwn := S.inOwn
      ownIs := S.ownIs
      new := S.new
      off := fun b ob e => by
        refine ⟨(S'.off b ob e).1, ?_⟩
        rcases dm b ob e with ⟨o', ho', _⟩ | q
        · exact (S.off b o' ho').2
        · refine ⟨fun e' => ?_, fun p hp e' => ?_⟩
          · obtain ⟨m, ⟨oL, _, _, hoL, _⟩, _⟩ := S.frame
            rw [← e', q] at hoL; cases hoL
          · obtain ⟨v₀, oc, hoc, _⟩ := S.cells p hp
            rw [e', q] at hoc; cases hoc }
    have M₂ : Mod F.own σ ⟨σ.loc, σ'.sto⟩ s s' := ⟨fun b ob e hf _ => kp b ob e hf, dm, fun b ob e => M'.alive b ob (keep b ob e), by
      obtain ⟨h₁, tk, e⟩ := x.toInCall.same
      rw [M'.rest, e]⟩
    cases rfl' with
    | next => exact ⟨.none, _, .none, S₂, M₂, hq⟩
    | brk => exact ⟨.none, _, .none, S₂, M₂, hq⟩
    | cont => exact ⟨.none, _, .none, S₂, M₂, hq⟩
    | ret r => exact ⟨_, _, r, S₂, M₂, hq⟩
end
end Mine
namespace Mine
open PySem PySem.W PyProof.Rows

section
variable {C : Cx} {k : Nat} {F : FE} {σ : St}

-- ints
theorem bin_add {x y : Int} {Q : V → St → Prop} (h : Q (.int (x + y)) σ) : BinOK C k F .Add (.int x) (.int y) σ Q :=
  fun A s a' b' hA S ra rb => by obtain ⟨_, rfl⟩ := ra.inv_int; obtain ⟨_, rfl⟩ := rb.inv_int; exact PySem.P.add_int (post_tok S (.int _ _) h)
theorem bin_sub {x y : Int} {Q : V → St → Prop} (h : Q (.int (x - y)) σ) : BinOK C k F .Sub (.int x) (.int y) σ Q :=
  fun A s a' b' hA S ra rb => by obtain ⟨_, rfl⟩ := ra.inv_int; obtain ⟨_, rfl⟩ := rb.inv_int; exact PySem.P.sub_int (post_tok S (.int _ _) h)
theorem bin_mul {x y : Int} {Q : V → St → Prop} (hm : IntMulOk x y) (h : Q (.int (x * y)) σ) : BinOK C k F .Mult (.int x) (.int y) σ Q :=
  fun A s a' b' hA S ra rb => by obtain ⟨_, rfl⟩ := ra.inv_int; obtain ⟨_, rfl⟩ := rb.inv_int; exact PySem.P.mul_int (post_tok S (.int _ _) h) hm
theorem bin_mod {x y : Int} {Q : V → St → Prop} (hy : y ≠ 0) (h : Q (.int (x.fmod y)) σ) : BinOK C k F .Mod (.int x) (.int y) σ Q :=
  fun A s a' b' hA S ra rb => by obtain ⟨_, rfl⟩ := ra.inv_int; obtain ⟨_, rfl⟩ := rb.inv_int; exact mod_int' hy (post_tok S (.int _ _) h)
theorem bin_floordiv {x y : Int} {Q : V → St → Prop} (hy : y ≠ 0) (hp : Builtin.divisionGoesByPylong x y = false) (h : Q (.int (x.fdiv y)) σ) : BinOK C k F .FloorDiv (.int x) (.int y) σ Q :=
  fun A s a' b' hA S ra rb => by obtain ⟨_, rfl⟩ := ra.inv_int; obtain ⟨_, rfl⟩ := rb.inv_int; exact floordiv_int hy (post_tok S (.int _ _) h) (.inl hp)
theorem bin_rshift1 {x : Int} {Q : V → St → Prop} (hx : 0 ≤ x) (h : Q (.int (x / 2)) σ) : BinOK C k F .RShift (.int x) (.int 1) σ Q :=
  fun A s a' b' hA S ra rb => by obtain ⟨_, rfl⟩ := ra.inv_int; obtain ⟨_, rfl⟩ := rb.inv_int; exact wpAny_rshift1_int hx (post_tok S (.int _ _) h)
theorem ibin_add {x y : Int} {Q : V → St → Prop} (h : Q (.int (x + y)) σ) : IBinOK C k F .Add (.int x) (.int y) σ Q :=
  fun A s a' b' hA S ra rb => by obtain ⟨_, rfl⟩ := ra.inv_int; obtain ⟨_, rfl⟩ := rb.inv_int; exact PySem.P.iadd_int (post_tok S (.int _ _) h)
theorem ibin_sub {x y : Int} {Q : V → St → Prop} (h : Q (.int (x - y)) σ) : IBinOK C k F .Sub (.int x) (.int y) σ Q :=
  fun A s a' b' hA S ra rb => by obtain ⟨_, rfl⟩ := ra.inv_int; obtain ⟨_, rfl⟩ := rb.inv_int; exact PySem.P.isub_int (post_tok S (.int _ _) h)
theorem un_neg {x : Int} {Q : V → St → Prop} (h : Q (.int (-x)) σ) : UnOK C k F .USub (.int x) σ Q :=
  fun A s a' hA S ra => by obtain ⟨_, rfl⟩ := ra.inv_int; exact PySem.P.neg_int (post_tok S (.int _ _) h)
theorem cmp_lt {x y : Int} {Q : V → St → Prop} (h : Q (.bool (decide (x < y))) σ) : CmpOK C k F .Lt (.int x) (.int y) σ Q :=
  fun A s a' b' hA S ra rb => by obtain ⟨_, rfl⟩ := ra.inv_int; obtain ⟨_, rfl⟩ := rb.inv_int; exact PySem.P.lt_int (post_pure S (.bool _) h)
theorem cmp_gt {x y : Int} {Q : V → St → Prop} (h : Q (.bool (decide (y < x))) σ) : CmpOK C k F .Gt (.int x) (.int y) σ Q :=
  fun A s a' b' hA S ra rb => by obtain ⟨_, rfl⟩ := ra.inv_int; obtain ⟨_, rfl⟩ := rb.inv_int; exact PySem.P.gt_int (post_pure S (.bool _) h)
theorem cmp_ge {x y : Int} {Q : V → St → Prop} (h : Q (.bool (decide (y ≤ x))) σ) : CmpOK C k F .GtE (.int x) (.int y) σ Q :=
  fun A s a' b' hA S ra rb => by obtain ⟨_, rfl⟩ := ra.inv_int; obtain ⟨_, rfl⟩ := rb.inv_int; exact PySem.P.ge_int (post_pure S (.bool _) h)
theorem cmp_eq {x y : Int} {Q : V → St → Prop} (h : Q (.bool (x == y)) σ) : CmpOK C k F .Eq (.int x) (.int y) σ Q :=
  fun A s a' b' hA S ra rb => by obtain ⟨_, rfl⟩ := ra.inv_int; obtain ⟨_, rfl⟩ := rb.inv_int; exact PySem.P.eq_int (post_pure S (.bool _) h)
theorem truth_bool {b : Bool} {Q : Bool → St → Prop} (h : Q b σ) : TruthOK C k F (.bool b) σ Q :=
  fun A s a' hA S ra => by obtain rfl := ra.inv_bool; exact wpAny_truthy_bool (post_pure S rfl h)
noncomputable def isNoneV : V → Bool
  | .none => true
  | _ => false
theorem rep_none {h : Heap} {a : V} {a' : Value} (r : Rep h a a') (hq : ∀ v, a ≠ .opq v) : (a' == Value.none) = isNoneV a := by
  cases r <;> first | rfl | exact absurd rfl (hq _)
theorem cmp_is_none {a : V} {Q : V → St → Prop} (hq : ∀ v, a ≠ .opq v) (h : Q (.bool (isNoneV a)) σ) : CmpOK C k F .Is a .none σ Q :=
  fun A s a' b' hA S ra rb => by obtain rfl := rb.inv_none; exact is_none_gen (by rw [rep_none ra hq]; exact post_pure S (.bool _) h)
-- lists
theorem Sim.list {GB : Heap} {h : Heap} (S : Sim GB F σ h) {a : Addr} {vs : List V} (hs : (σ.sto a).bind O.items = some vs) : vs.length ≤ maxLen ∧ ∃ vs', h.IsList a vs'.toArray ∧ Reps h vs vs' := by
  cases e : σ.sto a with
  | none => rw [e] at hs; cases hs
  | some o =>
    rw [e] at hs
    have r := S.sto a o e
    cases o with
    | lst us => cases hs; obtain ⟨h1, vs', n, ho, hr⟩ := r; exact ⟨h1, vs', ⟨_, ho, rfl, n, rfl⟩, hr⟩
    | rol us => cases hs; exact r
    | raw o => cases hs
theorem maxLen_lt : (maxLen : Int) < 2 ^ 63 := by decide

theorem item_at {e sl : Expr} {a : Addr} {vs : List V} {i : Int} {v : V} {Q : V → St → Prop} (hs : (σ.sto a).bind O.items = some vs) (h0 : 0 ≤ i) (hv : vs[i.toNat]? = some v) (h : Q v σ)
    (hsl : ∀ o i, subscripted sl false o i = operate [o, i] (getItem o i) := by intro _ _; with_unfolding_all rfl) : ItemOK C k F e sl (.ref a) (.int i) σ Q :=
  fun A s a' b' hA S ra rb => by
    obtain rfl := ra.inv_ref; obtain ⟨_, rfl⟩ := rb.inv_int
    obtain ⟨hl, vs', hL, hr⟩ := S.list hs
    obtain ⟨v', hv', rv⟩ := hr.get hv
    have hlt : i.toNat < vs.length := by
      rcases Nat.lt_or_ge i.toNat vs.length with q | q
      · exact q
      · rw [List.getElem?_eq_none q] at hv; cases hv
    have hm := maxLen_lt
    exact tail_any hL.typeIs slot_list_getitem.lookup (wpAny_getItem_list hL h0 (by omega) (by simpa using hv') (post_pure S rv h)) (hsl _ _)
theorem ints_get : ∀ {vs' : List Value} {xs : List Int}, IntsAre vs' xs → ∀ {i : Nat} {x : Int}, xs[i]? = some x → ∃ t, vs'[i]? = some (.int x t)
  | _, [], r, i, x, h => by simp at h
  | _, n :: _, r, 0, x, h => by obtain ⟨t, _, rfl, _⟩ := ints_cons r; exact ⟨t, Option.some.inj h ▸ rfl⟩
  | _, n :: _, r, i + 1, x, h => by obtain ⟨t, _, rfl, r'⟩ := ints_cons r; exact ints_get (i := i) r' h
theorem item_tup {e sl : Expr} {xs : List Int} {i : Int} {x : Int} {Q : V → St → Prop} (h0 : 0 ≤ i) (hx : xs[i.toNat]? = some x) (hb : i < 2 ^ 63) (h : Q (.int x) σ)
    (hsl : ∀ o i, subscripted sl false o i = operate [o, i] (getItem o i) := by intro _ _; with_unfolding_all rfl) : ItemOK C k F e sl (.tup xs) (.int i) σ Q :=
  fun A s a' b' hA S ra rb => by
    obtain ⟨_, rfl⟩ := rb.inv_int
    obtain ⟨_, _, rfl, ht, hi⟩ := ra.inv_tup
    exact by
      obtain ⟨t, hv⟩ := ints_get hi hx
      have hlt : i.toNat < xs.length := by
        rcases Nat.lt_or_ge i.toNat xs.length with q | q
        · exact q
        · rw [List.getElem?_eq_none q] at hx; cases hx
      refine item_tupleT ht (by omega) hb (j := i.toNat) ?_ hv (post_pure S (.int _ _) h) (hsl _ _)
      rw [hi.length]
      unfold seqIndex?
      simp only [show ¬ i < 0 by omega, if_false, decide_false, Bool.false_eq_true]
      first | (rw [if_pos (by omega)]) | (simp; omega)
theorem set_at {a : Addr} {vs : List V} {i : Int} {v : V} {Q : Unit → St → Prop} (hs : σ.sto a = some (.lst vs)) (h0 : 0 ≤ i) (hi : i < vs.length) (h : Q () (σ.setSto a (.lst (vs.set i.toNat v)))) : SetOK C k F (.ref a) (.int i) v σ Q :=
  fun A s a' b' c' hA S ra rb rc => by
    obtain rfl := ra.inv_ref; obtain ⟨_, rfl⟩ := rb.inv_int
    obtain ⟨hl, vs', n, ho, hr⟩ := S.sto a _ hs
    have hm := maxLen_lt
    have hlen := hr.length
    refine ki_setAt ho h0 (by omega) (by simp; omega) ?_
    have hq := PySem.IsL.update ho (·.setIfInBounds i.toNat c')
    have k' : Heap.ExtBut a s.heap (s.heap.update a (Obj.mapSeq (·.setIfInBounds i.toNat c'))) := (Heap.SameBut.update ..).extBut
    have hnt := (S.sto a _ hs).not_frz
    refine ⟨(), σ.setSto a (.lst (vs.set i.toNat v)), rfl, S.change hs rfl k' ⟨by simpa using hl, vs'.set i.toNat c', n, ?_, (hr.set rc _).keeps (not_frz_ext hnt k')⟩, Mod.change (tk := s.toks) S hs rfl k' ⟨_, hq⟩, h⟩
    simpa using hq
end
end Mine
namespace Mine
open PySem PySem.W PyProof.Rows

section
variable {C : Cx} {k : Nat} {F : FE} {σ : St}

-- methods of lists
theorem e_meth {oe : Expr} {name : Str} {ap p : Pos} {es : List Expr} {id : String} {Q : V → St → Prop} (slot : Slot "list" name id) (hty : typeOf (.builtin id) = pure (.type "method_descriptor"))
    (h : TE C k F oe σ fun ov σ₁ => ∃ a vs, ov = .ref a ∧ σ₁.sto a = some (.lst vs) ∧ TEs C k F p es σ₁ fun us σ₂ => CallOK C k F (.opq (.builtin id)) (.ref a :: us) σ₂ Q)
    (hbase : attributeBase oe name F.env (eval oe F.env) = eval oe F.env := by rfl)
    (hfew : ((backTo p (starEach es F.env)).all (fun x => !x.1) && (backToKw p (keywordEach [] F.env)).all (fun x => x.1.isSome) && decide (es.length + ([] : List Keyword).length + (if ([] : List Keyword).isEmpty then 0 else 1) < 30)) = true := by rfl)
    (hline : (ap.endLine == p.line) = true := by rfl) (hs : (starEach es F.env).all (fun x => !x.1) = true := by rfl) : TE C k F (.Call (.Attribute oe name ap) es [] p) σ Q :=
  fun A s hA S => wpAny_Call_method_lateS hbase hfew hline (go (h A s hA S) fun ov ov' σ₁ s₁ ro S₁ M₁ ⟨a, vs, e, hsto, h₁⟩ => by
    subst e
    obtain rfl := ro.inv_ref
    obtain ⟨hl, vs', n, ho, hr⟩ := S₁.sto a _ hsto
    refine ⟨"list", id, PySem.F.plainAttrs_list, slot, hty, ⟨_, ho, rfl⟩, fun b e => by cases e; exact ⟨_, ho, rfl⟩, ?_⟩
    have hst : (backTo p (starEach es F.env)).any (·.1) = false := by
      rw [List.any_eq_false]
      intro x hx
      obtain ⟨y, hy, rfl⟩ := List.mem_map.mp hx
      have := List.all_eq_true.mp hs y hy
      simpa using this
    refine Calls.callWith_builtin hst ?_
    have ha : wpAny (model C.prog C.w) A (spliced (backTo p (starEach es F.env))) (fun us' s' => wpAny (model C.prog C.w) A (call (.builtin id) ([.ref a] ++ us') []) (Post C F Rep σ s Q) No s') No s₁ :=
      go (h₁ A s₁ hA S₁) fun us us' σ₂ s₂ ru S₂ M₂ h₂ => fin S₂ (M₁.trans S₁ M₂) (h₂ A s₂ (.builtin id) (.ref a :: us') hA S₂ (.opq fun a e => by cases e) (.cons (.ref a) ru))
    cases hes : backTo p (starEach es F.env) with
    | nil => rw [hes] at ha; exact evalArgs_none ha
    | cons x r =>
      obtain ⟨b, t⟩ := x
      have hb : b = false := by
        rw [hes] at hst
        simpa using (List.any_eq_false.mp hst (b, t) (.head _))
      subst hb
      rw [hes] at ha
      exact Calls.evalArgs_plain ha)

theorem call_len {a : Addr} {vs : List V} {Q : V → St → Prop} (hs : (σ.sto a).bind O.items = some vs) (h : Q (.int vs.length) σ) : CallOK C k F (.opq (.builtin "len")) [.ref a] σ Q :=
  fun A s f' us' hA S rf ru => by
    obtain rfl := rf.inv_opq
    obtain ⟨_, rfl, ra⟩ := ru.inv1; obtain rfl := ra.inv_ref
    obtain ⟨hb, vs', hL, hr⟩ := S.list hs
    have hm := maxLen_lt
    have hlen := hr.length
    refine len_list hL (by simp; omega) ?_
    have e : (vs'.toArray.size : Int) = vs.length := by simp [hlen]
    rw [e]
    exact ⟨_, σ, .int _ _, S, .toks _, h⟩

theorem truth_list {a : Addr} {vs : List V} {Q : Bool → St → Prop} (hs : (σ.sto a).bind O.items = some vs) (h : Q (!vs.isEmpty) σ) : TruthOK C k F (.ref a) σ Q :=
  fun A s a' hA S ra => by
    obtain rfl := ra.inv_ref
    obtain ⟨hb, vs', hL, hr⟩ := S.list hs
    have hm := maxLen_lt
    have hlen := hr.length
    refine wpAny_truthy_list hL (by simp; omega) ?_
    have e : vs'.toArray.isEmpty = vs.isEmpty := by
      cases vs <;> cases vs' <;> simp at hlen ⊢
    rw [e]
    exact ⟨_, σ, rfl, S, .toks _, h⟩
end
end Mine
namespace Mine
open PySem PySem.W PyProof.Rows

section
variable {C : Cx} {k : Nat} {F : FE} {σ : St}

-- targets
theorem asg_name {x : Str} {p : Pos} {v : V} {Q : St → Prop} (ok : EnvOk F.env) (h : Q (σ.setLoc x v)) (hk : StoreOk F x := by exact .inl rfl) : AsgOK C k F (.Name x p) v σ Q :=
  fun A s a' hA S ra => wpAny_assign_Name (store_name ok S ra hk fun h' tk S' M' => ⟨(), _, rfl, S', M', h⟩)

/-- several targets in order -/
noncomputable def Asgs (C : Cx) (k : Nat) (F : FE) : List Expr → List V → St → (St → Prop) → Prop
  | [], [], σ, Q => Q σ
  | t :: ts, v :: vs, σ, Q => AsgOK C k F t v σ fun σ₁ => Asgs C k F ts vs σ₁ Q
  | _, _, _, _ => False
theorem asgs_go {A : Around} (hA : Room C k F A) : ∀ (ts : List Expr) (vs : List V) (vs' : List Value) (σ : St) (s : Shared) (Q : St → Prop), Sim C.GB F σ s.heap → Reps s.heap vs vs' → Asgs C k F ts vs σ Q →
    wpAny (model C.prog C.w) A (assignInOrder (ts.map fun t => assign t F.env) vs') (Post C F REq σ s fun (_ : Unit) σ₁ => Q σ₁) No s
  | [], [], _, σ, s, Q, S, .nil, h => wpAny_pure (post_pure S rfl h)
  | t :: ts, v :: vs, _, σ, s, Q, S, .cons (v' := v') (vs' := vs') rv rvs, h =>
    wpAny_assignInOrder_more (go (h A s v' hA S rv) fun _ _ σ₁ s₁ _ S₁ M₁ h₁ => fin S₁ M₁ (asgs_go hA ts vs vs' σ₁ s₁ Q S₁ (M₁.reps S rvs) h₁))
  | [], _ :: _, _, _, _, _, _, _, h => h.elim
  | _ :: _, [], _, _, _, _, _, _, h => h.elim

theorem asg_tup {es : List Expr} {n : Nat} {p : Pos} {xs : List Int} {Q : St → Prop} (hl : es.length = xs.length) (h : Asgs C k F es (xs.map V.int) σ Q)
    (he : assignEach es F.env = es.map (fun t => (false, assign t F.env)) := by rfl) (hcalm : C.exc = none := by assumption) : AsgOK C k F (.Tuple es n p) (.tup xs) σ Q :=
  fun A s a' hA S ra => by
    obtain ⟨a, vs', rfl, ht, hi⟩ := ra.inv_tup
    exact by
      refine wpAny_assign_Tuple (hA.1.calm hcalm) ht (by rw [he]; simp [hi.length, hl]) ?_ fun h' hext => ?_
      · rw [he, List.findIdx?_eq_none_iff]
        intro x hx
        obtain ⟨t, _, rfl⟩ := List.mem_map.mp hx
        rfl
      · have kp : ∀ b ob, s.heap.get? b = some ob → h'.get? b = some ob := fun b ob e => hext b ob (Nat.ne_of_lt (Heap.lt_size e)) e
        have S' : Sim C.GB F σ h' := S.keeps kp
        have M' : Mod F.own σ σ s { s with heap := h' } := .pure (tk := s.toks) kp
        rw [he]
        simp only [List.map_map, Function.comp_def]
        exact fin (s₁ := { s with heap := h' }) S' M' (asgs_go hA es _ vs' σ { s with heap := h' } Q S' (reps_ints hi) h)

-- iterators
theorem lot_tup {A : Around} {s : Shared} {it : Addr} {o : Obj} {n : String} {es : List Expr} {m : Nat} {p : Pos} {v : Value} {Q : Unit → Shared → Prop} {M : Model} {E : Value → Shared → Prop} (ho : s.heap.get? it = some o) (hc : o.cls = .type n)
    (hn : (["enumerate", "zip", "dict_itemiterator", "dict_reverseitemiterator", "odict_iterator", "itertools.zip_longest", "itertools.pairwise"] : List String).contains n = false) (h : Q () s) : wpAny M A (letOwnedTupleGo (.Tuple es m p) (.ref it) v) Q E s := by
  cases v with
  | ref a =>
    refine wpAny_bind (wpAny_load ho ?_)
    rw [hc]
    generalize o.data = dt
    cases dt with
    | fields vs =>
      show wpAny M A (if (_ && _) = true then _ else _) Q E s
      rw [hn]
      exact wpAny_pure h
    | _ => exact wpAny_pure h
  | _ => exact wpAny_pure h
theorem lot_plain {A : Around} {s : Shared} {it : Addr} {o : Obj} {n : String} {target : Expr} {v : Value} {Q : Unit → Shared → Prop} {M : Model} {E : Value → Shared → Prop} (ho : s.heap.get? it = some o) (hc : o.cls = .type n)
    (hn : (["enumerate", "zip", "dict_itemiterator", "dict_reverseitemiterator", "odict_iterator", "itertools.zip_longest", "itertools.pairwise"] : List String).contains n = false) (h : Q () s) : wpAny M A (letOwnedTupleGo target (.ref it) v) Q E s := by
  cases target <;> first | exact wpAny_pure h | exact lot_tup (es := []) (m := 0) (p := default) ho hc hn h
theorem not_frz_cls {o : Obj} {n : String} (hc : o.cls = .type n) (h1 : n ≠ "tuple") (h2 : n ≠ "range") : ¬ FrzO o := by
  rintro (⟨h, _⟩ | ⟨h, _⟩) <;> rw [hc] at h <;> cases h <;> contradiction

noncomputable def getList (l : Addr) : Get := fun i sto => ((sto l).bind O.items).map fun vs => vs[i]?
theorem iter_list {l : Addr} {vs : List V} {P : Get → St → Prop} (hs : (σ.sto l).bind O.items = some vs) (h : P (getList l) σ) (hcalm : C.exc = none := by assumption) : IterOK C k F (.ref l) σ P :=
  fun A s a' hA S ra => by
    obtain rfl := ra.inv_ref
    obtain ⟨hb, vs', hL, hr⟩ := S.list hs
    refine wpAny_pyIter_list hL ?_
    refine ⟨_, getList l, fun i h => h.IsListIter s.heap.objs.size l i, σ, rfl, get_size _, ?_, ⟨_, Heap.get?_push_size _ rfl, rfl, rfl⟩, S.keeps (keeps_push _), .pure (tk := s.toks) (keeps_push _), S.fresh_none (get_size _), h⟩
    refine ⟨fun A F σ s i r₀ hA S hL hK hg => ?_, fun i h h' hK hk _ => ?_, fun i h hK => ?_, fun A s i Q hK hq => ?_, fun A s i target v Q hK hq => ?_⟩
    · unfold getList at hg
      cases hi : (σ.sto l).bind O.items with
      | none => rw [hi] at hg; cases hg
      | some us =>
        rw [hi] at hg
        obtain ⟨hb, us', hL', hr⟩ := S.list hi
        cases r₀ with
        | none =>
          have hn : us'.toArray[i]? = none := by
            have : us[i]? = none := by simpa using hg
            rw [List.getElem?_eq_none_iff] at this
            simp [hr.length, this]
          refine wpAny_pyNext_list_end (hA.1.calm hcalm) hK hL' hn fun h' hext => ⟨hext, rfl, rfl⟩
        | some v =>
          have hv : us[i]? = some v := by simpa using hg
          obtain ⟨v', hv', rv⟩ := hr.get hv
          refine wpAny_pyNext_list_item hK hL' (by simpa using hv') fun h' hK' hsb => ⟨hsb.extBut, rfl, v', rfl, rv, hK'⟩
    · obtain ⟨o, ho, r⟩ := hK; exact ⟨o, hk o ho, r⟩
    · obtain ⟨o, ho, hc, _⟩ := hK; exact ⟨o, ho, not_frz_cls hc (by decide) (by decide)⟩
    · exact wpAny_pyIter_listiter hK hq
    · obtain ⟨o, ho, hc, _⟩ := hK; exact lot_plain ho hc (by decide) hq

theorem entry_unchain : entryFor table "proto.unchain" = some Builtin.«proto.unchain» := entryFor_of_tree (by kernel_rfl)
/-- StopIteration comes, whatever is being handled -/
theorem raise_stop {α : Type} {A : Around} {s : Shared} {Q : α → Shared → Prop} {E : Value → Shared → Prop} (hh : HOk C A) (hb : ∀ b o, C.GB.get? b = some o → s.heap.get? b = some o)
    (h : ∀ h' e, (∀ b o, s.heap.get? b = some o → h'.get? b = some o) → (∃ o, h'.get? e = some o ∧ o.cls = .type "StopIteration") → E (.ref e) { s with heap := h' }) :
    wpAny (model C.prog C.w) A (newExc (.type "StopIteration") [] >>= fun e => (raiseNew e : Sem α)) Q E s := by
  refine wpAny_bind ?_
  simp only [newExc, newTuple]
  refine wpAny_bind (wpAny_newObj_type ?_ (by size_fits))
  refine wpAny_bind (m := firstArgMember _ _) (wpAny_of_eq (a := Value.none) (by first | rfl | (simp only [firstArgMember]; rfl)) ?_)
  refine wpAny_newObj_type ?_ (by size_fits)
  simp only [raiseNew]
  refine wpAny_bind (wpAny_handled ?_)
  generalize hs1 : (s.heap.push _) = h1
  have k1 : ∀ b o, s.heap.get? b = some o → h1.get? b = some o := fun b o e => by rw [← hs1]; exact Heap.get?_push_of_some _ e
  unfold HOk at hh
  cases hx : C.exc with
  | none =>
    rw [hx] at hh
    rw [show A.handled = none from hh]
    refine wpAny_bind (wpAny_pure (wpAny_throw ?_))
    exact h _ _ (fun b o e => Heap.get?_push_of_some _ (k1 b o e)) ⟨_, Heap.get?_push_size _ rfl, rfl⟩
  | some ea =>
    rw [hx] at hh
    obtain ⟨hh, o, ho, vs, hd, hv⟩ := hh
    rw [hh]
    have hoa := k1 ea o (hb ea o ho)
    have hne : ea ≠ h1.objs.size := fun q => by rw [q, get_size] at hoa; cases hoa
    show wpAny _ A (if (Value.ref ea != Value.ref h1.objs.size) = true then _ else _) Q E _
    rw [if_pos (by simpa using hne)]
    have hoa' : (h1.push { cls := Value.type "StopIteration", data := Data.fields (#[Value.ref s.heap.objs.size, Value.none, Value.none, Value.none, Value.bool false, Value.none] ++ ownMembersOf (Value.type "StopIteration") []) }).get? ea = some o := Heap.get?_push_of_some _ hoa
    refine wpAny_bind (wpAny_holding (wpAny_runValue (codeAny_builtin entry_unchain ?_)))
    unfold Builtin.«proto.unchain»
    dsimp only
    refine wpAny_bind (wpAny_field hoa' hd hv ?_)
    rw [if_pos (show (Value.none == Value.none) = true by rfl)]
    refine wpAny_pure ?_
    show wpAny _ A (setField (.ref h1.objs.size) 2 (.ref ea) >>= fun _ => throw _) Q E _
    refine wpAny_bind (wpAny_setField (Heap.get?_push_size _ rfl) rfl (by rw [Array.size_append]; exact Nat.lt_of_lt_of_le (by decide : 2 < 6) (Nat.le_add_right 6 _)) (wpAny_throw ?_))
    refine h _ _ (fun b o e => ?_) ⟨_, Heap.get?_update_self _ (Heap.get?_push_size _ rfl) (Obj.isFreed_of_fields (Obj.data_mapFields rfl _)), Obj.cls_mapFields ..⟩
    have e1 := k1 b o e
    have nb : b ≠ h1.objs.size := fun q => by rw [q, get_size] at e1; cases e1
    exact (Heap.SameBut.update ..).extBut b o nb (Heap.get?_push_of_some _ e1)
theorem range_end {it : Addr} {A : Around} {s : Shared} {x left step : Int} {Q : Option Value → Shared → Prop} {E : Value → Shared → Prop} (hh : HOk C A) (hb : ∀ b o, C.GB.get? b = some o → s.heap.get? b = some o) (hit : IsRangeIter s.heap it x left step) (hleft : left ≤ 0)
    (hQ : ∀ h', Heap.ExtBut it s.heap h' → Q none { s with heap := h' }) : wpAny (model C.prog C.w) A (pyNext (.ref it)) Q E s := by
  have hT : s.TypeIs (.ref it) "range_iterator" := ⟨_, hit, rfl⟩
  unfold pyNext
  refine wpAny_bind (wpAny_attempt (wpAny_callSpecial?_slot (name := Str.ofString "__next__") hT PySem.F.slot_range_iterator_next
    (wpAny_call_entry PySem.F.slot_range_iterator_next hT PySem.F.entry_range_iterator_next ?_ (PySem.F.args_range_iterator_next_1 _))))
  show wpAny _ _ (field (.ref it) 0 >>= _) _ _ s
  refine wpAny_bind (wpAny_field hit rfl (x := rawInt x) rfl ?_)
  show wpAny _ _ (field (.ref it) 1 >>= _) _ _ s
  refine wpAny_bind (wpAny_field hit rfl (x := rawInt left) rfl ?_)
  show wpAny _ _ (field (.ref it) 2 >>= _) _ _ s
  refine wpAny_bind (wpAny_field hit rfl (x := rawInt step) rfl ?_)
  show wpAny _ _ (if left ≤ 0 then _ else _) _ _ s
  rw [if_pos hleft]
  refine wpAny_bind (wpAny_rule ?_)
  refine wpAny_bind (raise_stop (C := C) (A := A.in1) hh hb fun h' e kp ⟨o, ho, hc⟩ => ?_)
  refine wpAny_bind (wpAny_isInstance (T := "StopIteration") (b := true) ⟨_, ho, hc⟩ isSubtype_stop ?_)
  exact wpAny_pure (hQ _ fun b o _ e => kp b o e)
noncomputable def getRange (x : Int) (n : Nat) (st : Int) : Get := fun i _ => some (if i < n then some (.int (x + i * st)) else none)
theorem iter_rangeiter {I : Addr} {x : Int} {n : Nat} {st : Int} : Iter C k I (getRange x n st) fun i h => IsRangeIter h I (x + i * st) ((n : Int) - i) st := by
  refine ⟨fun A F σ s i r₀ hA S hL hK hg => ?_, fun i h h' hK hk _ => hk _ hK, fun i h hK => ⟨_, hK, not_frz_cls rfl (by decide) (by decide)⟩, fun A s i Q hK hq => wpAny_pyIter_rangeiter hK hq, fun A s i target v Q hK hq => lot_plain hK rfl (by decide) hq⟩
  unfold getRange at hg
  cases hg
  by_cases hi : i < n
  · rw [if_pos hi]
    refine wpAny_pyNext_range_item hK (by omega) fun h' hK' hsb => ⟨hsb.extBut, rfl, _, rfl, .int _ _, ?_⟩
    have e1 : x + (i : Int) * st + st = x + ((i + 1 : Nat) : Int) * st := by push_cast; rw [Int.add_mul]; omega
    have e2 : (n : Int) - i - 1 = (n : Int) - ((i + 1 : Nat) : Int) := by push_cast; omega
    rw [e1, e2] at hK'
    exact hK'
  · rw [if_neg hi]
    exact range_end hA.1 (fun b o e => S.base b o e) hK (by omega) fun h' hext => ⟨hext, rfl, rfl⟩
theorem call_range1 {n : Int} {Q : V → St → Prop} (h : Q (.rng 0 n 1) σ) : CallOK C k F (.opq (.type "range")) [.int n] σ Q :=
  fun A s f' us' hA S rf ru => by
    obtain rfl := rf.inv_opq
    obtain ⟨_, rfl, ra⟩ := ru.inv1; obtain ⟨_, rfl⟩ := ra.inv_int
    exact call_range_1 ⟨_, σ, .rng (IsRange.new ..), S.keeps (keeps_push _), .pure (keeps_push _), h⟩
theorem call_range3 {a b c : Int} {Q : V → St → Prop} (hc : c ≠ 0) (hp : Builtin.divisionGoesByPylong (b - a) c = false) (h : Q (.rng a b c) σ) : CallOK C k F (.opq (.type "range")) [.int a, .int b, .int c] σ Q :=
  fun A s f' us' hA S rf ru => by
    obtain rfl := rf.inv_opq
    obtain ⟨_, _, _, rfl, ra, rb, rc⟩ := ru.inv3; obtain ⟨_, rfl⟩ := ra.inv_int; obtain ⟨_, rfl⟩ := rb.inv_int; obtain ⟨_, rfl⟩ := rc.inv_int
    exact call_range_3 hc ⟨_, σ, .rng (IsRange.new ..), S.keeps (keeps_push _), .pure (keeps_push _), h⟩ (.inl hp)
end
end Mine
namespace Mine
open PySem PySem.W PyProof.Rows

section
variable {C : Cx} {k : Nat} {F : FE} {σ : St}

theorem fixed_none {b : Addr} (h : σ.sto b = none) : σ.fixed b := fun o e => by rw [h] at e; cases e
/-- the frame of a comprehension -/
noncomputable def compF (scope : Scope) (cl : List (Str × Addr)) (c : Addr) (F : FE) : FE := ⟨compEnvC scope cl c F.env, [c], F.frames⟩

/-- the tests of a comprehension -/
noncomputable def Tests (C : Cx) (k : Nat) (F : FE) : List Expr → St → (Bool → St → Prop) → Prop
  | [], σ, Q => Q true σ
  | [c], σ, Q => TB C k F c σ Q
  | _, _, _ => False
theorem tests_go {A : Around} {s : Shared} {ifs : List Expr} {Q : Bool → St → Prop} (hA : Room C k F A) (S : Sim C.GB F σ s.heap) (h : Tests C k F ifs σ Q) :
    wpAny (model C.prog C.w) A (forIn ifs true fun c r => if r = true then do let ok ← isTrue c F.env (eval c F.env); pure (ForInStep.yield ok) else pure (ForInStep.yield r)) (Post C F REq σ s Q) No s := by
  match ifs, h with
  | [], h => exact wpAny_tests_nil (post_pure S rfl h)
  | [c], h => exact wpAny_tests_one (h A s hA S)

/-- behind a comprehension's element -/
noncomputable def CompPush (loc0 : List (Str × V)) (Inv : Nat → List V → (Addr → Option O) → Prop) (i : Nat) (out : List V) (y : V) (σ' : St) : Prop :=
  out.length < maxLen ∧ restrictL (loc0.map (·.1)) σ'.loc = loc0 ∧ Inv (i + 1) (out ++ [y]) σ'.sto
noncomputable def CompSkip (loc0 : List (Str × V)) (Inv : Nat → List V → (Addr → Option O) → Prop) (i : Nat) (out : List V) (σ' : St) : Prop :=
  restrictL (loc0.map (·.1)) σ'.loc = loc0 ∧ Inv (i + 1) out σ'.sto

/-- what a free name of a comprehension needs -/
noncomputable def FreeOk (F : FE) (scope : Scope) (cl : List (Str × Addr)) (loc0 loc : List (Str × V)) : Prop :=
  ∀ x v, loc0.lookup x = some v → loc.lookup x = some v ∧ (F.env.kindOf x = some .cell ∨ F.env.kindOf x = some .free) ∧ ((relabel scope F.env).names.lookup x = some .cell ∨ (relabel scope F.env).names.lookup x = some .free) ∧ cl.lookup x = F.env.cells.lookup x

theorem comp_loop {A : Around} {elt target iter : Expr} {ifs : List Expr} {scope : Scope} {pos : Pos} {cl : List (Str × Addr)} {s s₂ s₄ : Shared} {I D c : Addr} {get : Get} {K : Nat → Heap → Prop} {σ₂ : St} {loc0 : List (Str × V)} {Inv : Nat → List V → (Addr → Option O) → Prop} {N : Nat} {Fin' : List V → (Addr → Option O) → Prop} {R : Result → Shared → Prop}
    (hA : Room C k F A) (S : Sim C.GB F σ s.heap) (hI : s.heap.get? I = none) (IT : Iter C k I get K) (S₂ : Sim C.GB F σ₂ s₂.heap) (M₂ : Mod F.own σ σ₂ s s₂) (hsI : σ₂.sto I = none)
    (hD : s₂.heap.get? D = none) (hc : s₂.heap.get? c = none) (hDc : D ≠ c) (hoI : ∃ o, s₂.heap.get? I = some o) (L₂ : ∀ o, s₂.heap.get? I = some o → ¬ FrzO o) (hcl : ∀ p ∈ cl, p ∈ F.env.cells)
    (turn : ∀ i out sto', Inv i out sto' → i ≤ N ∧ ∃ r₀, get i sto' = some r₀ ∧ match r₀ with
      | some v => AsgOK C k (compF scope cl c F) target v ⟨loc0, sto'⟩ fun σ₅ => Tests C k (compF scope cl c F) ifs σ₅ fun b σ₆ => if b then TE C k (compF scope cl c F) elt σ₆ (CompPush loc0 Inv i out) else CompSkip loc0 Inv i out σ₆
      | none => Fin' out sto')
    (done : ∀ s₅ out sto', Sim C.GB F (St.setSto ⟨σ₂.loc, sto'⟩ D (.lst out)) s₅.heap → Mod (c :: F.own) σ (St.setSto ⟨σ₂.loc, sto'⟩ D (.lst out)) s s₅ → Loose C.GB F (St.setSto ⟨σ₂.loc, sto'⟩ D (.lst out)) s₅.heap c → (∃ m, s₅.heap.Ns c m) → sto' D = none → Fin' out sto' → R (.ok .next) s₅)
    (S₄ : Sim C.GB (compF scope cl c F) ⟨loc0, σ₂.sto⟩ s₄.heap) (kp₄ : ∀ b ob, s₂.heap.get? b = some ob → s₄.heap.get? b = some ob) (hD₄ : s₄.heap.get? D = some (listOf #[] 0)) (hK₄ : K 0 s₄.heap) (r₄ : s₄ = { s₂ with heap := s₄.heap, toks := s₄.toks }) (h0 : Inv 0 [] σ₂.sto) :
    codeAny (model C.prog C.w) A (.compLoop (.ListComp elt [⟨target, iter, ifs, 0⟩] scope pos) 0 (.ref I) (.ref D) (compEnvC scope cl c F.env)) R s₄ := by
  obtain ⟨oI, hoI⟩ := hoI
  have hID : I ≠ D := fun e => by rw [e, hD] at hoI; cases hoI
  have hIc : I ≠ c := fun e => by rw [e, hc] at hoI; cases hoI
  have cellO : ∀ p ∈ F.env.cells, p.2 ≠ D ∧ p.2 ≠ c ∧ p.2 ≠ I := fun p hp => by
    obtain ⟨v₀, oc, hoc, _⟩ := S₂.cells p hp
    obtain ⟨v₀', oc', hoc', _⟩ := S.cells p hp
    refine ⟨fun e => ?_, fun e => ?_, fun e => ?_⟩
    · rw [e, hD] at hoc; cases hoc
    · rw [e, hc] at hoc; cases hoc
    · rw [e, hI] at hoc'; cases hoc'
  have locO : F.env.locals ≠ D ∧ F.env.locals ≠ c ∧ F.env.locals ≠ I := by
    obtain ⟨m, ⟨oL, _, _, hoL, _⟩, _⟩ := S₂.frame
    obtain ⟨m', ⟨oL', _, _, hoL', _⟩, _⟩ := S.frame
    refine ⟨fun e => ?_, fun e => ?_, fun e => ?_⟩
    · rw [e, hD] at hoL; cases hoL
    · rw [e, hc] at hoL; cases hoL
    · rw [e, hI] at hoL'; cases hoL'
  have gbn : ∀ b, s₂.heap.get? b = none → C.GB.get? b = none := fun b hb => by
    cases hq : C.GB.get? b with
    | none => rfl
    | some o => have := S₂.base b o hq; rw [hb] at this; cases this
  have gbI : C.GB.get? I = none := by
    cases hq : C.GB.get? I with
    | none => rfl
    | some o => have := S.base I o hq; rw [hI] at this; cases this
  have looseI : ∀ {sto' : Addr → Option O} {l : List (Str × V)} {i : Nat} {h : Heap}, K i h → sto' I = none → Loose C.GB (compF scope cl c F) ⟨l, sto'⟩ h I := fun hK hs => by
    obtain ⟨o, ho, hf⟩ := IT.alive _ _ hK
    exact ⟨gbI, hIc, fun p hp => (cellO p (hcl p hp)).2.2, hs, not_frz_of ho hf⟩
  have looseD : ∀ {sto' : Addr → Option O} {l : List (Str × V)} {its : Array Value} {e : Nat} {h : Heap}, h.get? D = some (listOf its e) → sto' D = none → Loose C.GB (compF scope cl c F) ⟨l, sto'⟩ h D := fun ho hs =>
    ⟨gbn D hD, hDc, fun p hp => (cellO p (hcl p hp)).1, hs, not_frz_of ho (not_frz_list rfl)⟩
  have stoX : ∀ {x : Addr} {own : List Addr} {σ' σ'' : St} {s' s'' : Shared} {ob : Obj}, Mod own σ' σ'' s' s'' → s'.heap.get? x = some ob → σ'.sto x = none → σ''.sto x = none := fun M' ho hs' => by
    cases hq : (_ : St).sto _ with
    | none => rfl
    | some o₁ =>
      rcases M'.dom _ o₁ hq with ⟨o', h', _⟩ | h'
      · rw [hs'] at h'; cases h'
      · rw [ho] at h'; cases h'
  refine codeAny_loop rfl (fun n s' => ∃ i out out' e sto', n = N + 1 - i ∧ Sim C.GB (compF scope cl c F) ⟨loc0, sto'⟩ s'.heap ∧ Mod (c :: I :: D :: []) σ₂ ⟨loc0, sto'⟩ s₂ s' ∧ K i s'.heap ∧ s'.heap.get? D = some (listOf (List.toArray out') e) ∧
    Reps s'.heap out out' ∧ out.length ≤ maxLen ∧ sto' I = none ∧ sto' D = none ∧ Inv i out sto') (fun n s' hinv => ?_) (N + 1)
    ⟨0, [], [], 0, σ₂.sto, rfl, S₄, ⟨fun b o e _ _ => kp₄ b o e, fun b o e => .inl ⟨o, e, id⟩, fun b o e => ⟨o, kp₄ b o e⟩, r₄⟩, hK₄, hD₄, .nil, Nat.zero_le _, hsI, S₂.fresh_none hD, h0⟩
  refine ex5 hinv fun i out out' e sto' hinv => an10 hinv fun hn S' M' hK' hD' hr hlen hsI' hsD' hInv => ?_
  clear hinv; clear hinv
  obtain ⟨hi, r₀, hg, ht⟩ := turn i out sto' hInv
  show wpAny _ A ((compTurn (.ListComp elt [⟨target, iter, ifs, 0⟩] scope pos) 0 (.ref I) (.ref D) (compEnvC scope cl c F.env)).onRaise (fun x => do noteFrame x (compEnvC scope cl c F.env); theTreesLotGoes x)) _ _ s'
  refine wpAny_noted ?_
  rw [compTurn_list]
  refine wpAny_bind (wpAny_standAt (wpAny_bind ?_))
  refine no_mono (wpAny_mono (IT.next A (compF scope cl c F) ⟨loc0, sto'⟩ s' i r₀ hA S' (looseI hK' hsI') hK' hg) (fun r s₅ ⟨hext, hrest, hget⟩ => ?_) fun _ _ x => x)
  have S₅ : Sim C.GB (compF scope cl c F) ⟨loc0, sto'⟩ s₅.heap := S'.extBut (looseI hK' hsI') hext
  have hD₅ := hext D _ hID.symm hD'
  have fz₅ := not_frz_ext (looseI (l := loc0) hK' hsI').frz hext
  cases r₀ with
  | none =>
    subst hget
    refine wpAny_pure ?_
    obtain ⟨m, hm, _⟩ := S₅.frame
    have kpAll : ∀ b ob, s₂.heap.get? b = some ob → σ₂.fixed b → ¬ (b = I) → s₅.heap.get? b = some ob := fun b ob eb fb hbI => by
      have hbc : b ≠ c := fun q => by rw [q, hc] at eb; cases eb
      have hbD : b ≠ D := fun q => by rw [q, hD] at eb; cases eb
      refine hext b ob hbI (M'.keep b ob eb fb fun hm => ?_)
      rcases List.mem_cons.mp hm with q | hm
      · exact hbc q
      · rcases List.mem_cons.mp hm with q | hm
        · exact hbI q
        · rcases List.mem_cons.mp hm with q | hm
          · exact hbD q
          · cases hm
    have SB : Sim C.GB F ⟨σ₂.loc, sto'⟩ s₅.heap := by
      refine S₂.back (fun b => b = I) kpAll locO.2.2 (fun p hp => (cellO p hp).2.2) (fun b o ho hf q => ?_) S₅.base S₅.sto (fun a o ea hm => (S₅.off a o ea).1 hm) (fun b ob eb => ?_)
      · subst q
        exact (L₂ o ho) hf
      · rcases M'.dom b ob eb with ⟨o', q, _⟩ | q
        · exact .inl ⟨o', q⟩
        · exact .inr q
    have SF : Sim C.GB F (St.setSto ⟨σ₂.loc, sto'⟩ D (.lst out)) s₅.heap := SB.adopt ⟨hlen, out', e, hD₅, hr.keeps fz₅⟩ (gbn D hD) locO.1.symm fun p hp => (cellO p hp).1
    have MA : Mod (I :: D :: c :: F.own) σ ⟨loc0, sto'⟩ s s' := (M₂.wide fun b hb => .tail _ (.tail _ (.tail _ hb))).trans' (M'.wide fun b hb => by
      rcases List.mem_cons.mp hb with q | hb
      · exact q ▸ .tail _ (.tail _ (.head _))
      · rcases List.mem_cons.mp hb with q | hb
        · exact q ▸ .head _
        · rcases List.mem_cons.mp hb with q | hb
          · exact q ▸ .tail _ (.head _)
          · cases hb)
    have MB : Mod (D :: c :: F.own) σ ⟨loc0, sto'⟩ s s₅ := MA.endOf hI hext hrest .refl
    have MC : Mod (c :: F.own) σ ⟨σ₂.loc, sto'⟩ s s₅ := let x := MB.less (M₂.back hD); ⟨x.keep, x.dom, x.alive, x.rest⟩
    have hsc : sto' c = none := by
      cases hq : sto' c with
      | none => rfl
      | some o => exact absurd rfl (S₅.off c o hq).2.1
    exact done s₅ out sto' SF (MC.adopt (M₂.back hD)) ⟨gbn c hc, locO.2.1.symm, fun p hp => (cellO p hp).2.1, by
      rw [setSto_other _ _ (Ne.symm hDc)]; exact hsc, fun o ho hf => frz_not_dict ho hf hm⟩ ⟨m, hm⟩ hsD' ht
  | some v =>
    obtain ⟨v', rfl, rv', hK₅⟩ := hget
    obtain ⟨oI', hoI', hcI⟩ := IT.alive _ _ hK₅
    have M₅ : Mod (c :: I :: D :: []) (⟨loc0, sto'⟩ : St) ⟨loc0, sto'⟩ s' s₅ := ⟨fun b o eb _ nb => hext b o (fun q => nb (q ▸ .tail _ (.head _))) eb, fun b o eb => .inl ⟨o, eb, id⟩, fun b o eb => by
      by_cases hb : b = I
      · subst hb; exact ⟨oI', hoI'⟩
      · exact ⟨o, hext b o hb eb⟩, hrest⟩
    refine wpAny_bind (no_mono (IT.lot A s₅ (i + 1) target v' _ hK₅ ?_))
    refine wpAny_bind (no_mono (go (ht A s₅ v' hA S₅ (rv'.keeps fz₅)) fun _ _ σ₆ s₆ _ S₆ M₆ h₆ => ?_))
    have LI₅ := looseI (l := loc0) hK₅ hsI'
    have LD₅ := looseD (l := loc0) hD₅ hsD'
    have hK₆ : K (i + 1) s₆.heap := IT.only _ _ _ hK₅ (fun o ho => M₆.keep I o ho (fixed_none hsI') (LI₅.own S₅)) (M₆.frz S₅)
    have hD₆ := M₆.keep D _ hD₅ (fixed_none hsD') (LD₅.own S₅)
    have hsI₆ := stoX (x := I) M₆ hoI' hsI'
    have hsD₆ := stoX (x := D) M₆ hD₅ hsD'
    have wid : ∀ b ∈ (compF scope cl c F).own, b ∈ c :: I :: D :: [] := fun b hb => by
      rcases List.mem_cons.mp hb with q | hb
      · exact q ▸ .head _
      · cases hb
    have M₂₆ := (M'.trans' M₅).trans' (M₆.wide wid)
    refine wpAny_bind (no_mono (go (tests_go (F := compF scope cl c F) hA S₆ h₆) fun b b' σ₇ s₇ rb S₇ M₇ h₇ => ?_))
    obtain rfl := rb
    obtain ⟨o₆, ho₆, hf₆⟩ := IT.alive _ _ hK₆
    have LI₆ : Loose C.GB (compF scope cl c F) σ₆ s₆.heap I := looseI (l := σ₆.loc) hK₆ hsI₆
    have LD₆ : Loose C.GB (compF scope cl c F) σ₆ s₆.heap D := looseD (l := σ₆.loc) hD₆ hsD₆
    have hK₇ : K (i + 1) s₇.heap := IT.only _ _ _ hK₆ (fun o ho => M₇.keep I o ho (fixed_none hsI₆) (LI₆.own S₆)) (M₇.frz S₆)
    have hD₇ := M₇.keep D _ hD₆ (fixed_none hsD₆) (LD₆.own S₆)
    have hsI₇ := stoX (x := I) M₇ ho₆ hsI₆
    have hsD₇ := stoX (x := D) M₇ hD₆ hsD₆
    have M₂₇ := M₂₆.trans' (M₇.wide wid)
    have hr₇ : Reps s₇.heap out out' := M₇.reps S₆ (M₆.reps S₅ (hr.keeps fz₅))
    cases b with
    | false =>
      obtain ⟨hl0, hInv'⟩ := h₇
      refine wpAny_pure ⟨rfl, N + 1 - (i + 1), hn.symm ▸ Nat.sub_succ_lt_self _ _ (Nat.lt_succ_of_le hi), i + 1, out, out', e, σ₇.sto, rfl, ?_, ⟨M₂₇.keep, M₂₇.dom, M₂₇.alive, M₂₇.rest⟩, hK₇, hD₇, hr₇, hlen, hsI₇, hsD₇, hInv'⟩
      have := S₇.weak (l := loc0) (by intro x v hx; rw [← hl0] at hx; exact restrictL_sub _ _ x v hx)
      exact this
    | true =>
      refine wpAny_bind (wpAny_bind (no_mono (go (h₇ A s₇ hA S₇) fun y y' σ₈ s₈ ry S₈ M₈ h₈ => ?_)))
      obtain ⟨hlt, hl0, hInv'⟩ := h₈
      obtain ⟨o₇, ho₇, hf₇⟩ := IT.alive _ _ hK₇
      have LI₇ : Loose C.GB (compF scope cl c F) σ₇ s₇.heap I := looseI (l := σ₇.loc) hK₇ hsI₇
      have LD₇ : Loose C.GB (compF scope cl c F) σ₇ s₇.heap D := looseD (l := σ₇.loc) hD₇ hsD₇
      have hK₈ : K (i + 1) s₈.heap := IT.only _ _ _ hK₇ (fun o ho => M₈.keep I o ho (fixed_none hsI₇) (LI₇.own S₇)) (M₈.frz S₇)
      have hD₈ := M₈.keep D _ hD₇ (fixed_none hsD₇) (LD₇.own S₇)
      have hsI₈ := stoX (x := I) M₈ ho₇ hsI₇
      have hsD₈ := stoX (x := D) M₈ hD₇ hsD₇
      have M₂₈ := M₂₇.trans' (M₈.wide wid)
      have hr₈ : Reps s₈.heap out out' := M₈.reps S₇ hr₇
      have hz : (List.toArray out').size ≤ sizeLine := by rw [List.size_toArray, hr₈.length]; exact Nat.le_trans hlen maxLen_le
      refine wpAny_bind (append_at (hsz := hz) hD₈ fun h' hsb hD' => wpAny_pure (wpAny_pure ?_))
      have LD₈ : Loose C.GB (compF scope cl c F) σ₈ s₈.heap D := looseD (l := σ₈.loc) hD₈ hsD₈
      have S₉ : Sim C.GB (compF scope cl c F) σ₈ h' := S₈.extBut LD₈ hsb.extBut
      have fz₉ := not_frz_ext LD₈.frz hsb.extBut
      refine ⟨rfl, N + 1 - (i + 1), hn.symm ▸ Nat.sub_succ_lt_self _ _ (Nat.lt_succ_of_le hi), i + 1, out ++ [y], out' ++ [y'], e + 1, σ₈.sto, rfl, ?_, ?_, ?_, ?_, ?_, ?_, hsI₈, hsD₈, hInv'⟩
      · exact S₉.weak (l := loc0) (by intro x v hx; rw [← hl0] at hx; exact restrictL_sub _ _ x v hx)
      · have M₉ : Mod (c :: I :: D :: []) σ₈ σ₈ s₈ { s₈ with heap := h' } := ⟨fun b o eb _ nb => hsb.extBut b o (fun q => nb (q ▸ .tail _ (.tail _ (.head _)))) eb, fun b o eb => .inl ⟨o, eb, id⟩, fun b o eb => by
          by_cases hb : b = D
          · subst hb; exact ⟨_, hD'⟩
          · exact ⟨o, hsb.extBut b o hb eb⟩, rfl⟩
        have := M₂₈.trans' M₉
        exact ⟨this.keep, this.dom, this.alive, this.rest⟩
      · exact IT.only _ _ _ hK₈ (fun o ho => hsb.extBut I o hID ho) fz₉
      · show h'.get? D = _
        rw [hD']
        simp
      · exact (hr₈.append (.cons ry .nil)).keeps fz₉
      · simp; omega

/-- the head of a comprehension -/
theorem comp_head {A : Around} {elt target iter : Expr} {ifs : List Expr} {scope : Scope} {pos : Pos} {cl : List (Str × Addr)} {s s₂ : Shared} {I : Addr} {get : Get} {K : Nat → Heap → Prop} {σ₂ : St} {loc0 : List (Str × V)} {Inv : Nat → List V → (Addr → Option O) → Prop} {N : Nat} {Fin' : List V → (Addr → Option O) → Prop}
    {RR : Value → Addr → Result → Shared → Prop} (ok : EnvOk F.env) (hkind : scope.kind = .function) (hcell : ∀ y ∈ scope.names, y.2 ≠ .cell) (hcl : ∀ p ∈ cl, p ∈ F.env.cells) (hap : cl.Pairwise fun x y => x.2 ≠ y.2)
    (hA : Room C k F A) (S : Sim C.GB F σ s.heap) (hI : s.heap.get? I = none) (IT : Iter C k I get K) (hK : K 0 s₂.heap) (S₂ : Sim C.GB F σ₂ s₂.heap) (M₂ : Mod F.own σ σ₂ s s₂) (hsI : σ₂.sto I = none) (fr : FreeOk F scope cl loc0 σ₂.loc)
    (turn : ∀ c i out sto', Inv i out sto' → i ≤ N ∧ ∃ r₀, get i sto' = some r₀ ∧ match r₀ with
      | some v => AsgOK C k (compF scope cl c F) target v ⟨loc0, sto'⟩ fun σ₅ => Tests C k (compF scope cl c F) ifs σ₅ fun b σ₆ => if b then TE C k (compF scope cl c F) elt σ₆ (CompPush loc0 Inv i out) else CompSkip loc0 Inv i out σ₆
      | none => Fin' out sto') (h0 : Inv 0 [] σ₂.sto)
    (done : ∀ D c s₅ out sto', Sim C.GB F (St.setSto ⟨σ₂.loc, sto'⟩ D (.lst out)) s₅.heap → Mod (c :: F.own) σ (St.setSto ⟨σ₂.loc, sto'⟩ D (.lst out)) s s₅ → Loose C.GB F (St.setSto ⟨σ₂.loc, sto'⟩ D (.lst out)) s₅.heap c → (∃ m, s₅.heap.Ns c m) → s.heap.get? c = none → sto' D = none → Fin' out sto' → RR (.ref D) c (.ok .next) s₅) :
    wpAny (model C.prog C.w) A (newList []) (fun acc s₃ => wpAny (model C.prog C.w) A (newFunctionEnv scope F.env.globals cl [] F.env.qual none .none (some F.env)) (fun cenv s₄ =>
      codeAny (model C.prog C.w) A (.compStart (.ListComp elt [⟨target, iter, ifs, 0⟩] scope pos) 0 (.ref I) acc { cenv with scope := relabel scope F.env }) (RR acc cenv.locals) s₄) No s₃) No s₂ := by
  refine wpAny_newList ?_ (by show 0 ≤ _; exact Nat.zero_le _)
  refine wpAny_newFunctionEnv hcell (fun x hx => nomatch hx) (fun h' hns hsb => ?_) hkind
  have hD : s₂.heap.get? s₂.heap.objs.size = none := get_size _
  have hsz : (s₂.heap.push { cls := .type "list", data := .seq ([] : List Value).toArray }).objs.size = s₂.heap.objs.size + 1 := Heap.size_push ..
  have hc : s₂.heap.get? (s₂.heap.objs.size + 1) = none := by
    cases hq : s₂.heap.get? (s₂.heap.objs.size + 1) with
    | none => rfl
    | some o => exact absurd (Heap.lt_size hq) (Nat.not_lt.mpr (Nat.le_succ _))
  obtain ⟨oI, hoI, hfI⟩ := IT.alive _ _ hK
  have kp : ∀ b ob, s₂.heap.get? b = some ob → h'.get? b = some ob := fun b ob e =>
    hsb.extBut b ob (by have := Heap.lt_size e; show b ≠ (s₂.heap.push _).objs.size; rw [hsz]; exact Nat.ne_of_lt (Nat.lt_succ_of_lt this)) (Heap.get?_push_of_some _ (Heap.get?_push_of_some _ e))
  have hDh : h'.get? s₂.heap.objs.size = some (listOf #[] 0) := hsb.extBut _ _ (by show s₂.heap.objs.size ≠ (s₂.heap.push _).objs.size; rw [hsz]; exact Nat.ne_of_lt (Nat.lt_succ_self _)) (Heap.get?_push_of_some _ (Heap.get?_push_size _ rfl))
  have gbn : ∀ b, s₂.heap.get? b = none → C.GB.get? b = none := fun b hb => by
    cases hq : C.GB.get? b with
    | none => rfl
    | some o => have := S₂.base b o hq; rw [hb] at this; cases this
  have S0 := S₂.keeps kp
  have hns' : h'.Ns (s₂.heap.objs.size + 1) (fun x => ([] : List (Str × Value)).reverse.lookup x) := by rw [← hsz]; exact hns
  have S₄ : Sim C.GB (compF scope cl (s₂.heap.objs.size + 1) F) ⟨loc0, σ₂.sto⟩ h' := {
    base := S0.base
    frame := by
      refine ⟨_, hns', fun x v e => ?_⟩
      obtain ⟨h1, h2, h3, h4⟩ := fr x v e
      obtain ⟨m, hn, hl⟩ := S0.frame
      obtain ⟨v', hp, hr⟩ := hl x v h1
      refine ⟨v', .inr ⟨h3, ?_⟩, hr⟩
      rcases hp with ⟨hp, _⟩ | ⟨_, cc, hcc, hce⟩
      · rcases h2 with h2 | h2 <;> rw [h2] at hp <;> cases hp
      · exact ⟨cc, h4.trans hcc, hce⟩
    cells := fun p hp => S0.cells p (hcl p hp)
    apart := hap
    sto := S0.sto
    inOwn := .head _
    ownIs := fun b hb => by
      rcases List.mem_cons.mp hb with q | hb
      · exact .inl q
      · cases hb
    new := fun b hb => by
      rcases List.mem_cons.mp hb with q | hb
      · rw [q]; exact gbn _ hc
      · cases hb
    off := fun a o e => by
      refine ⟨(S₂.off a o e).1, fun q => ?_, fun p hp q => (S₂.off a o e).2.2 p (hcl p hp) q⟩
      obtain ⟨ob, hob⟩ := S₂.sto_alive e
      rw [show a = s₂.heap.objs.size + 1 from q, hc] at hob; cases hob }
  have hK' : K 0 h' := IT.only _ _ _ hK (fun o ho => kp _ _ ho) fun a o ho _ => kp a o ho
  have loop := comp_loop (s := s) (s₂ := s₂) (s₄ := { s₂ with heap := h' }) (elt := elt) (target := target) (iter := iter) (ifs := ifs) (scope := scope) (pos := pos) (cl := cl) (D := s₂.heap.objs.size) (c := s₂.heap.objs.size + 1) (R := RR (.ref s₂.heap.objs.size) (s₂.heap.objs.size + 1)) hA S hI IT S₂ M₂ hsI hD hc (Nat.ne_of_lt (Nat.lt_succ_self _)) ⟨oI, hoI⟩ (not_frz_of hoI hfI) hcl
    (turn _) (fun s₅ out sto' a1 a2 a3 a4 a5 a6 => done _ _ s₅ out sto' a1 a2 a3 a4 (M₂.back hc) a5 a6) S₄ kp hDh hK' rfl h0
  have e1 : ({ newEnv scope (s₂.heap.push { cls := .type "list", data := .seq ([] : List Value).toArray }).objs.size F.env.globals cl F.env.qual none .none (some F.env) 0 with scope := relabel scope F.env } : Env) = compEnvC scope cl (s₂.heap.objs.size + 1) F.env := by rw [hsz]; rfl
  show codeAny _ A (.compStart _ 0 (.ref I) (.ref s₂.heap.objs.size) { newEnv scope (s₂.heap.push { cls := .type "list", data := .seq ([] : List Value).toArray }).objs.size F.env.globals cl F.env.qual none .none (some F.env) 0 with scope := relabel scope F.env }) (RR (.ref s₂.heap.objs.size) (s₂.heap.push { cls := .type "list", data := .seq ([] : List Value).toArray }).objs.size) { s₂ with heap := h' }
  rw [e1, hsz]
  exact codeAny_compStart_list loop (no_mono (IT.again A _ 0 _ hK' loop))

theorem comp_ok {scope : Scope} {cl : List (Str × Addr)} {c : Addr} (ok : EnvOk F.env) (hkind : scope.kind = .function) : EnvOk (compF scope cl c F).env := ⟨hkind, ok.globals, ok.builtins⟩
noncomputable def CompOK (C : Cx) (k : Nat) (F : FE) (elt target : Expr) (ifs : List Expr) (scope : Scope) (cl : List (Str × Addr)) (loc0 : List (Str × V)) (get : Get) (σ₁ : St) (Q : V → St → Prop) : Prop :=
  FreeOk F scope cl loc0 σ₁.loc ∧ ∃ (Inv : Nat → List V → (Addr → Option O) → Prop) (N : Nat), Inv 0 [] σ₁.sto ∧ ∀ c i out sto', EnvOk (compF scope cl c F).env → Inv i out sto' → i ≤ N ∧ ∃ r₀, get i sto' = some r₀ ∧ match r₀ with
      | some v => AsgOK C k (compF scope cl c F) target v ⟨loc0, sto'⟩ fun σ₅ => Tests C k (compF scope cl c F) ifs σ₅ fun b σ₆ => if b then TE C k (compF scope cl c F) elt σ₆ (CompPush loc0 Inv i out) else CompSkip loc0 Inv i out σ₆
      | none => ∀ D, sto' D = none → Q (.ref D) (St.setSto ⟨σ₁.loc, sto'⟩ D (.lst out))

theorem e_comp {elt target iter : Expr} {ifs : List Expr} {scope : Scope} {pos : Pos} {Q : V → St → Prop} (ok : EnvOk F.env) (cl : List (Str × Addr)) (loc0 : List (Str × V)) (h : TIter C k F iter σ fun get σ₁ => CompOK C k F elt target ifs scope cl loc0 get σ₁ Q)
    (hclos : closureFor scope F.env = pure cl := by rfl) (hcl : ∀ p ∈ cl, p ∈ F.env.cells := by intro p hp; first | exact (nomatch hp) | simpa using hp) (hap : cl.Pairwise fun x y => x.2 ≠ y.2 := by first | exact List.Pairwise.nil | simp)
    (hkind : scope.kind = .function := by rfl) (hcell : ∀ y ∈ scope.names, y.2 ≠ .cell := by decide) (hnames : ∀ x ∈ scope.names, x.2 = .local → scope.names.lookup x.1 = some .local := by decide)
    (hs : ∀ x, foldedSetIterable iter F.env x = pure x := by intro _; rfl) : TE C k F (.ListComp elt [⟨target, iter, ifs, 0⟩] scope pos) σ Q :=
  fun A s hA S => by
    show wpAny _ A (eval (.ListComp elt [⟨target, iter, ifs, 0⟩] scope pos) F.env) _ _ s
    rw [eval_ListComp]
    refine wpAny_comprehension_free (use := none) rfl hs hclos hkind hnames (wpAny_mono (h A s hA S) (fun x s₁ h₁ => wpAny_mono h₁ (fun itv s₂ hx => ?_) fun _ _ x => x) fun _ _ x => x)
    refine ex4 hx fun I get K σ₂ hx => an8 hx fun e hI IT hK S₂ M₂ hsI hx => ?_
    obtain ⟨fr, Inv, N, h0, turn⟩ := hx
    subst e
    refine comp_head (RR := fun acc c => compPost (model C.prog C.w) A No none (Post C F Rep σ s Q) acc c) ok hkind hcell hcl hap hA S hI IT hK S₂ M₂ hsI fr (fun c i out sto' hi => turn c i out sto' (comp_ok ok hkind) hi) h0 fun D c s₅ out sto' SF MC LC ⟨m, hm⟩ hsc hsD hq => ?_
    refine ⟨m, hm, fun h' hsb => ?_⟩
    exact ⟨.ref D, _, .ref D, SF.extBut LC hsb.extBut, MC.endOf (s₃ := { s₅ with heap := h' }) hsc hsb.extBut rfl .refl, hq D hsD⟩
end
end Mine
namespace Mine
open PySem PySem.W PyProof.Rows PySem.SeqAt PyProof.V

section
variable {C : Cx} {k : Nat} {F : FE} {σ : St}

-- a comprehension stored at once
-- slices
noncomputable def pickV (vs : List V) (lo hi st : Option Int) : List V :=
  (sliceRange (sliceBounds lo hi st vs.length).1 (sliceBounds lo hi st vs.length).2.1 (sliceBounds lo hi st vs.length).2.2).filterMap fun i => vs[i]?
theorem reps_pick {h : Heap} {vs : List V} {vs' : List Value} (r : Reps h vs vs') : ∀ l : List Nat, Reps h (l.filterMap fun i => vs[i]?) (l.filterMap fun i => vs'[i]?)
  | [] => .nil
  | i :: l => by
    rw [List.filterMap_cons, List.filterMap_cons]
    cases hv : vs[i]? with
    | none =>
      have : vs'[i]? = none := by
        rw [List.getElem?_eq_none_iff] at hv ⊢
        rw [r.length]; exact hv
      rw [this]; exact reps_pick r l
    | some v =>
      obtain ⟨v', hv', rv⟩ := r.get hv
      rw [hv']; exact .cons rv (reps_pick r l)
noncomputable def PartOK (C : Cx) (k : Nat) (F : FE) : Option Expr → St → (Option Int → St → Prop) → Prop
  | none, σ, Q => Q none σ
  | some e, σ, Q => TE C k F e σ fun v σ₁ => ∃ i, v = .int i ∧ Q (some i) σ₁
theorem part_go {A : Around} {s : Shared} {e : Option Expr} {Q : Option Int → St → Prop} (hA : Room C k F A) (S : Sim C.GB F σ s.heap) (h : PartOK C k F e σ Q) : wpAny (model C.prog C.w) A (evalPart e F.env) (Post C F (fun _ p v => IsPart v p) σ s Q) No s := by
  cases e with
  | none => exact wpAny_pure (post_pure S .none h)
  | some e => exact go (h A s hA S) fun v v' σ₁ s₁ rv S₁ M₁ ⟨i, e, h₁⟩ => by subst e; obtain ⟨_, rfl⟩ := rv.inv_int; exact ⟨some i, σ₁, .int _ _, S₁, M₁, h₁⟩
theorem e_slice {ve : Expr} {lo hi st : Option Expr} {p q : Pos} {Q : V → St → Prop}
    (h : TE C k F ve σ fun v σ₁ => PartOK C k F lo σ₁ fun l σ₂ => PartOK C k F hi σ₂ fun u σ₃ => PartOK C k F st σ₃ fun c σ₄ => ∃ a vs, v = .ref a ∧ (σ₄.sto a).bind O.items = some vs ∧ c ≠ some 0 ∧ (pickV vs l u c).length ≤ maxLen ∧
      ∀ b, σ₄.sto b = none → Q (.ref b) (σ₄.setSto b (.lst (pickV vs l u c)))) : TE C k F (.Subscript ve (.Slice lo hi st p) q) σ Q :=
  fun A s hA S => Subscript_ (go (h A s hA S) fun v v' σ₁ s₁ rv S₁ M₁ h₁ => wpAny_Slice (go (part_go hA S₁ h₁) fun l l' σ₂ s₂ rl S₂ M₂ h₂ => go (part_go hA S₂ h₂) fun u u' σ₃ s₃ ru S₃ M₃ h₃ => go (part_go hA S₃ h₃) fun c c' σ₄ s₄ rc S₄ M₄ ⟨a, vs, e, hs, hc, hlen, hq⟩ => by
    subst e
    obtain rfl := rv.inv_ref
    obtain ⟨hb, vs', hL, hr⟩ := S₄.list hs
    have kp := keeps_push (h := s₄.heap) { cls := .type "slice", data := .fields #[l', u', c'] }
    have hL' : (s₄.heap.push { cls := .type "slice", data := .fields #[l', u', c'] }).IsList a vs'.toArray := hL.push _
    have hz : vs'.toArray.size ≤ sizeLine := by rw [List.size_toArray, hr.length]; exact Nat.le_trans hb maxLen_le
    have S₅ : Sim C.GB F σ₄ (s₄.heap.push { cls := .type "slice", data := .fields #[l', u', c'] }) := S₄.keeps kp
    have M₅ : Mod F.own σ₄ σ₄ s₄ { s₄ with heap := s₄.heap.push { cls := .type "slice", data := .fields #[l', u', c'] } } := .pure (tk := s₄.toks) kp
    have hg : wpAny (model C.prog C.w) A (getItem (.ref a) (.ref s₄.heap.objs.size)) (Post C F Rep σ s Q) No { s₄ with heap := s₄.heap.push { cls := .type "slice", data := .fields #[l', u', c'] } } := by
      refine wpAny_getItem_list_slice hL' ⟨_, Heap.get?_push_size _ rfl, rfl, rfl⟩ rl ru rc hc ?_ hz
      have e2 : slicePick vs'.toArray l u c = ((sliceRange (sliceBounds l u c vs.length).1 (sliceBounds l u c vs.length).2.1 (sliceBounds l u c vs.length).2.2).filterMap fun i => vs'[i]?).toArray := by
        unfold slicePick
        rw [List.size_toArray, hr.length]
        congr 1
        simp
      have hP := post_newList (s := { s₄ with heap := s₄.heap.push { cls := .type "slice", data := .fields #[l', u', c'] } }) (tk := s₄.toks) (vs := pickV vs l u c) S₅ ((reps_pick hr _).keeps (frz_of_keeps kp)) hlen hq
      rw [e2]
      exact post_on S₁ M₁ (post_on S₂ M₂ (post_on S₃ M₃ (post_on S₄ M₄ (post_on (s₁ := { s₄ with heap := s₄.heap.push { cls := .type "slice", data := .fields #[l', u', c'] } }) S₅ M₅ hP))))
    cases st with
    | none => exact tail_any hL'.typeIs slot_list_getitem.lookup hg rfl
    | some e => exact tail_any hL'.typeIs slot_list_getitem.lookup hg rfl))

-- + of lists
theorem bin_cat {a b : Addr} {us vs : List V} {Q : V → St → Prop} (ha : (σ.sto a).bind O.items = some us) (hb : (σ.sto b).bind O.items = some vs) (hl : us.length + vs.length ≤ maxLen) (h : ∀ c, σ.sto c = none → Q (.ref c) (σ.setSto c (.lst (us ++ vs)))) :
    BinOK C k F .Add (.ref a) (.ref b) σ Q :=
  fun A s a' b' hA S ra rb => by
    obtain rfl := ra.inv_ref; obtain rfl := rb.inv_ref
    obtain ⟨h1, us', hL, hr⟩ := S.list ha
    obtain ⟨h2, vs', hL2, hr2⟩ := S.list hb
    obtain ⟨⟨cls, dd, data, sl⟩, ho, hc, n, hd⟩ := id hL
    obtain ⟨⟨cls2, dd2, data2, sl2⟩, ho2, hc2, n2, hd2⟩ := id hL2
    simp only at hc hd hc2 hd2
    subst hc hd hc2 hd2
    have hz : us'.toArray.size + vs'.toArray.size ≤ sizeLine := by rw [List.size_toArray, List.size_toArray, hr.length, hr2.length]; exact Nat.le_trans hl maxLen_le
    refine wpAny_binaryOp_concat hL.typeIs hL2.typeIs noFill_list_add seq_list_add (call_meets PySem.F.slot_list_add hL.typeIs PySem.F.entry_list_add (PySem.F.args_list_add_2 _ _) (list_addW a b _ _ n n2 dd dd2 sl sl2 hz) ⟨ho, ho2, ?_⟩)
    have hP := post_newList (C := C) (F := F) (σ := σ) (s := s) (tk := s.toks) (vs := us ++ vs) (vs' := us' ++ vs') (Q := Q) S (hr.append hr2) (by simpa using hl) h
    simpa using hP

-- == and != of lists and tuples
theorem room64 {A : Around} (hA : Room C k F A) (hk : 7 ≤ k) : A.units + 64 < cLine := by have := hA.2.2.1; omega

theorem cmp_ne_ints {a b : Addr} {xs ys : List Int} {Q : V → St → Prop} (hk : 7 ≤ k) (ha : (σ.sto a).bind O.items = some (xs.map V.int)) (hb : (σ.sto b).bind O.items = some (ys.map V.int)) (h : Q (.bool (!decide (xs = ys))) σ) : CmpOK C k F .NotEq (.ref a) (.ref b) σ Q :=
  fun A s a' b' hA S ra rb => by
    obtain rfl := ra.inv_ref; obtain rfl := rb.inv_ref
    obtain ⟨_, us', hL, hr⟩ := S.list ha
    obtain ⟨_, vs', hL2, hr2⟩ := S.list hb
    exact ne_intsK hL (ints_reps hr) hL2 (ints_reps hr2) (room64 hA hk) (post_pure S (.bool _) h)
-- < of tuples
theorem tuple_ltAt (l b : Addr) (items items2 : Array Value) (n n2 : Nat) (dd dd2 : Option Addr) (sl sl2 : Array (Option Value)) (xs ys : List Int) (hx : IntsAre items.toList xs) (hy : IntsAre items2.toList ys) :
    Meets (Builtin.«tuple.__lt__» ⟨[.ref l, .ref b], []⟩)
      (fun A R s => s.heap.get? l = some { cls := .type "tuple", dict := dd, data := .seq items n, slots := sl } ∧ s.heap.get? b = some { cls := .type "tuple", dict := dd2, data := .seq items2 n2, slots := sl2 } ∧
        R (.ok (.ret (.bool (decide (xs < ys))))) s) :=
  .of_wp fun prog w A R s h => by
    obtain ⟨hp, g, d, tk, os⟩ := s; obtain ⟨hl, hb, h⟩ := h
    have f2 := AutoSeq1.sub_tuple_tuple
    wp_walk using wpAny_loadPart' hl, wpAny_loadPart' hb, wpAny_forIn_list _ (fun rest b s' => b.1 = none ∧ s' = ⟨hp, g, d, tk, os⟩ ∧ ∃ (us vs : List Value) (xs' ys' : List Int) (j : Nat), rest = us.zip vs ∧ IntsAre us xs' ∧ IntsAre vs ys' ∧ (xs' < ys' ↔ xs < ys) ∧ items.size = j + us.length ∧ items2.size = j + vs.length) _
    case turn =>
      rintro ⟨y, x⟩ rest b s' ⟨hb', rfl, us, vs, xs', ys', j, hz, hus, hvs, hlt, hj1, hj2⟩
      cases hus with
      | nil => simp at hz
      | cons nx tx hus' =>
        cases hvs with
        | nil => simp at hz
        | cons ny ty hvs' =>
          rename_i us0 xs0 vs0 ys0
          rw [List.zip_cons_cons] at hz
          injection hz with hyx hrest
          injection hyx with hy hx'
          subst hy hx'
          refine wpAny_bind (wpAny_eqBool_int ?_)
          by_cases hn : nx = ny
          · subst hn
            simp only [beq_self_eq_true]
            wp_walk
            refine ⟨rfl, rfl, us0, vs0, xs0, ys0, j + 1, hrest, hus', hvs', ?_, by simp at hj1; omega, by simp at hj2; omega⟩
            rw [← hlt, List.cons_lt_cons_iff]
            simp
          · have e : (nx == ny) = false := by simpa using hn
            rw [e]
            refine wpAny_bind (wpAny_rule (wpAny_bind (show wpAny _ _ (compareOp .Lt (.int nx tx) (.int ny ty)) _ _ _ from PySem.P.lt_int ?_)))
            refine wpAny_bind (wpAny_pure (wpAny_pure ?_))
            refine wpAny_pure ⟨_, rfl, ?_⟩
            have e2 : decide (nx < ny) = decide (xs < ys) := by
              rw [decide_eq_decide, ← hlt, List.cons_lt_cons_iff]
              simp [hn]
            rw [e2]; exact h
    case fin =>
      rintro ⟨b1, b2⟩ s' ⟨hb', rfl, us, vs, xs', ys', j, hz, hus, hvs, hlt, hj1, hj2⟩
      simp only at hb'
      subst hb'
      wp_walk
      refine ⟨_, rfl, ?_⟩
      have e2 : decide (items.size < items2.size) = decide (xs < ys) := by
        rw [decide_eq_decide, ← hlt]
        cases hus with
        | nil =>
          cases hvs with
          | nil => simp at hj1 hj2; simp [hj1, hj2]
          | cons ny ty hvs' => simp at hj1 hj2; simp [hj1, hj2]
        | cons nx tx hus' =>
          cases hvs with
          | nil => simp at hj1 hj2; simp [hj1, hj2]
          | cons ny ty hvs' => simp at hz
      show R (.ok (.ret (.bool (decide (items.size < items2.size))))) _
      rw [e2]; exact h
    case h =>
      exact ⟨rfl, rfl, items.toList, items2.toList, xs, ys, 0, rfl, hx, hy, Iff.rfl, by simp, by simp⟩
theorem cmp_lt_tup {xs ys : List Int} {Q : V → St → Prop} (h : Q (.bool (decide (xs < ys))) σ) : CmpOK C k F .Lt (.tup xs) (.tup ys) σ Q :=
  fun A s a' b' hA S ra rb => by
    obtain ⟨_, _, rfl, ht, hi⟩ := ra.inv_tup; obtain ⟨_, _, rfl, ht2, hi2⟩ := rb.inv_tup
    obtain ⟨⟨cls, dd, data, sl⟩, ho, hc, n, hd⟩ := id ht
    obtain ⟨⟨cls2, dd2, data2, sl2⟩, ho2, hc2, n2, hd2⟩ := id ht2
    simp only at hc hd hc2 hd2
    subst hc hd hc2 hd2
    have hu : A.units < cLine := by have := hA.2.2.1; omega
    exact richCompare_meets_room (op := .Lt) ⟨_, ho, rfl⟩ ⟨_, ho2, rfl⟩ PySem.F.slot_tuple_lt PySem.F.entry_tuple_lt (PySem.F.args_tuple_lt_2 _ _) (tuple_ltAt _ _ _ _ n n2 dd dd2 sl sl2 xs ys (by simpa using hi) (by simpa using hi2))
      ⟨ho, ho2, show Value.bool (decide (xs < ys)) ≠ Value.notImplemented ∧ Post C F Rep σ s Q (.bool (decide (xs < ys))) s from ⟨(fun x => nomatch x), post_pure S (.bool _) h⟩⟩ hu
end
end Mine
namespace Mine
open PySem PySem.W PyProof.Rows

-- the whole heap as a ledger
noncomputable def allNews (h : Heap) (L : Addr) : List (Addr × Obj) := (List.range h.objs.size).filterMap fun b => if b = L then none else (h.get? b).map fun o => (b, o)
theorem allNews_mem {h : Heap} {L b : Addr} {o : Obj} (hb : b ≠ L) (ho : h.get? b = some o) : (b, o) ∈ allNews h L :=
  List.mem_filterMap.mpr ⟨b, List.mem_range.mpr (Heap.lt_size ho), by rw [if_neg hb, ho]; rfl⟩
theorem allNews_of {h : Heap} {L : Addr} {p : Addr × Obj} (hp : p ∈ allNews h L) : h.get? p.1 = some p.2 ∧ p.1 ≠ L := by
  obtain ⟨b, _, e⟩ := List.mem_filterMap.mp hp
  by_cases hb : b = L
  · rw [if_pos hb] at e; cases e
  · rw [if_neg hb] at e
    obtain ⟨o, ho, e⟩ := Option.map_eq_some_iff.mp e
    subst e
    exact ⟨ho, hb⟩
theorem empty_get (b : Addr) : ({} : Heap).get? b = none := by
  show (match (#[] : Array Obj)[b]? with | some ⟨_, _, .freed, _⟩ => none | o => o) = none
  simp
theorem fr_empty {h : Heap} {L : Addr} {m : Str → Option Value} (hn : h.Ns L m) : Fr {} L h m := ⟨hn, (fun b o e => by rw [empty_get] at e; cases e), Nat.zero_le _⟩
theorem news_all (h : Heap) (L : Addr) : News {} L h (allNews h L) := fun p hp => ⟨(allNews_of hp).1, (allNews_of hp).2, empty_get _⟩

section
variable {C : Cx} {k : Nat} {F : FE} {σ : St}

/-- behind a rule of the ledger's -/
theorem Sim.ledger {s : Shared} {h' : Heap} {m : Str → Option Value} (S : Sim C.GB F σ s.heap) (hn : s.heap.Ns F.env.locals m) (hl : ∀ x v, σ.loc.lookup x = some v → ∃ v', Place F.env m s.heap x v' ∧ Rep s.heap v v')
    (F' : Fr {} F.env.locals h' m) (N' : News {} F.env.locals h' (allNews s.heap F.env.locals)) : Sim C.GB F σ h' ∧ (∀ b o, b ≠ F.env.locals → s.heap.get? b = some o → h'.get? b = some o) := by
  have kp : ∀ b o, b ≠ F.env.locals → s.heap.get? b = some o → h'.get? b = some o := fun b o hb e => (N' (b, o) (allNews_mem hb e)).1
  have ext : Heap.ExtBut F.env.locals s.heap h' := fun b o hb e => kp b o hb e
  have hnt : ∀ o, s.heap.get? F.env.locals = some o → ¬ FrzO o := fun o ho hf => frz_not_dict ho hf hn
  refine ⟨{
    base := fun b o e => kp b o (fun q => by rw [q, S.new _ S.inOwn] at e; cases e) (S.base b o e)
    frame := by
      refine ⟨m, F'.ns, fun x v e => ?_⟩
      obtain ⟨v', hp, hr⟩ := hl x v e
      refine ⟨v', ?_, hr.keeps (not_frz_ext hnt ext)⟩
      rcases hp with hp | ⟨hk, c, hc, oc, hoc, hd⟩
      · exact .inl hp
      · exact .inr ⟨hk, c, hc, oc, kp c oc (S.local_not_cell (mem_of_lookup hc)) hoc, hd⟩
    cells := fun p hp => by obtain ⟨v₀, oc, hoc, hd⟩ := S.cells p hp; exact ⟨v₀, oc, kp _ _ (S.local_not_cell hp) hoc, hd⟩
    apart := S.apart
    sto := fun b o e => (S.sto b o e).ext (S.off b o e).2.1 hnt ext
    inOwn := S.inOwn
    ownIs := S.ownIs
    new := S.new
    off := S.off }, kp⟩
theorem Mod.ledger {s : Shared} {h' : Heap} {tk : Nat} {m : Str → Option Value} (S : Sim C.GB F σ s.heap) (hn' : h'.Ns F.env.locals m) (kp : ∀ b o, b ≠ F.env.locals → s.heap.get? b = some o → h'.get? b = some o) : Mod F.own σ σ s { s with heap := h', toks := tk } :=
  ⟨fun b o e _ nb => kp b o (fun q => nb (q ▸ S.inOwn)) e, fun b o e => .inl ⟨o, e, id⟩, fun b o e => by
    by_cases hb : b = F.env.locals
    · subst hb; obtain ⟨o', _, _, ho', _⟩ := hn'; exact ⟨o', ho'⟩
    · exact ⟨o, kp b o hb e⟩, rfl⟩

end
end Mine
namespace Mine
open PySem PySem.W PyProof.Rows

-- the text's defs
noncomputable def isDef (n : Str) : Stmt → Bool
  | .FunctionDef m _ _ _ _ _ _ _ _ _ => m == n
  | _ => false
noncomputable def stOf (p : Program) (n : Str) : Stmt := (p.main.body.find? (isDef n)).getD (.Pass ⟨0, 0, 0, 0⟩)
noncomputable def bodyOf : Stmt → List Stmt
  | .FunctionDef _ _ b _ _ _ _ _ _ _ => b
  | _ => []
noncomputable def scopeOf : Stmt → Scope
  | .FunctionDef _ _ _ _ _ _ s _ _ _ => s
  | _ => default
noncomputable def paramsOf : Stmt → Arguments
  | .FunctionDef _ a _ _ _ _ _ _ _ _ => a
  | _ => default
noncomputable def nameOf : Stmt → Str
  | .FunctionDef n _ _ _ _ _ _ _ _ _ => n
  | _ => Str.empty
noncomputable def fdOf (st : Stmt) (pm cd doc : Value) : FuncData := Calls.docDef (nameOf st) (paramsOf st) (bodyOf st) (scopeOf st) pm cd doc
noncomputable def namesOf (st : Stmt) : List Str := (paramsOf st).args.map (·.arg)
/-- a def of the text stands under its name -/
noncomputable def Fn (C : Cx) (p : Program) (n : Str) (a : Addr) : Prop := ∃ pm cd doc, FnAt C a (fdOf (stOf p n) pm cd doc) (bodyOf (stOf p n)) (namesOf (stOf p n))

/-- what the elements' order is -/
structure Ord (C : Cx) (E : V → Prop) (lt : V → V → Bool) (P : (Addr → Option O) → Prop) : Prop where
  cmp : ∀ (k : Nat) (F : FE) (σ : St) (x y : V) (Q : V → St → Prop), P σ.sto → E x → E y → Q (.bool (lt x y)) σ → CmpOK C k F .Lt x y σ Q

theorem getD_mem {l : List V} {i : Nat} (h : i < l.length) : l.getD i .none ∈ l := by simp [h]
noncomputable def sdGo (lt : V → V → Bool) (x : V) (sp p : Nat) (vs : List V) : List V :=
  if h : sp < p then
    if lt x (vs.getD ((p - 1) / 2) .none) then sdGo lt x sp ((p - 1) / 2) (vs.set p (vs.getD ((p - 1) / 2) .none)) else vs.set p x
  else vs.set p x
termination_by p
decreasing_by omega
theorem sdGo_length (lt : V → V → Bool) (x : V) (sp p : Nat) (vs : List V) : (sdGo lt x sp p vs).length = vs.length := by
  induction p using Nat.strongRecOn generalizing vs with
  | ind p ih =>
    rw [sdGo]
    split
    · split
      · rw [ih _ (by omega)]; simp
      · simp
    · simp
theorem sdGo_mem (lt : V → V → Bool) (x : V) (sp p : Nat) (vs : List V) (E : V → Prop) (hx : E x) (hp : p < vs.length) (h : ∀ v ∈ vs, E v) : ∀ v ∈ sdGo lt x sp p vs, E v := by
  induction p using Nat.strongRecOn generalizing vs with
  | ind p ih =>
    rw [sdGo]
    have hset : ∀ (y : V) (q : Nat), E y → ∀ v ∈ vs.set q y, E v := fun y q hy v hv => by
      rcases List.mem_or_eq_of_mem_set hv with a | a
      · exact h v a
      · exact a ▸ hy
    split
    · split
      · exact ih _ (by omega) _ (by simp; omega) (hset _ _ (h _ (getD_mem (by omega))))
      · exact hset _ _ hx
    · exact hset _ _ hx

/-- the lesser child -/
noncomputable def suPick (lt : V → V → Bool) (n : Nat) (vs : List V) (p : Nat) : Nat :=
  if 2 * p + 2 < n ∧ lt (vs.getD (2 * p + 1) .none) (vs.getD (2 * p + 2) .none) = false then 2 * p + 2 else 2 * p + 1
theorem suPick_lt (lt : V → V → Bool) (n : Nat) (vs : List V) (p : Nat) (h : 2 * p + 1 < n) : suPick lt n vs p < n ∧ p < suPick lt n vs p := by
  unfold suPick
  split <;> omega
noncomputable def suGo (lt : V → V → Bool) (n p : Nat) (vs : List V) : List V × Nat :=
  if h : 2 * p + 1 < n then suGo lt n (suPick lt n vs p) (vs.set p (vs.getD (suPick lt n vs p) .none)) else (vs, p)
termination_by n - p
decreasing_by have := suPick_lt lt n vs p h; omega
noncomputable def siftup (lt : V → V → Bool) (vs : List V) (p : Nat) : List V :=
  sdGo lt (vs.getD p .none) p (suGo lt vs.length p vs).2 ((suGo lt vs.length p vs).1.set (suGo lt vs.length p vs).2 (vs.getD p .none))
end Mine
namespace Mine
open PySem PySem.W PyProof.Rows

section
variable {C : Cx} {k : Nat} {F : FE} {σ : St}

-- several targets
theorem s_asgtup {es : List Expr} {n : Nat} {tp p : Pos} {e : Expr} {Q : Fl → St → Prop} (h : TE C k F e σ fun v σ₁ => AsgOK C k F (.Tuple es n tp) v σ₁ fun σ₂ => Q .next σ₂)
    (hs : swapsWithSole [.Tuple es n tp] e p.line F.env = pure false := by rfl) (hw : swappedStores [.Tuple es n tp] e F.env = pure none := by rfl) : TS C k F (.Assign [.Tuple es n tp] e p) σ Q :=
  fun A s hA S => Assign_Tuple (go (h A s hA S) fun v v' σ₁ s₁ rv S₁ M₁ h₁ => go (h₁ A s₁ v' hA S₁ rv) fun _ _ σ₂ s₂ _ S₂ M₂ h₂ => ⟨_, σ₂, .next, S₂, M₁.trans S₁ M₂, h₂⟩) hs hw
-- the law's own call
/-- the facts about a def that its text decides -/
structure DefOk (st : Stmt) : Prop where
  kind : (scopeOf st).kind = .function
  co : (scopeOf st).isCoroutine = false
  gen : (scopeOf st).isGenerator = false
  nodup : (namesOf st).Nodup
  cnodup : ((cellsFrom 0 (scopeOf st).names []).map (·.1)).Nodup
  kinds : ∀ x ∈ namesOf st, (scopeOf st).names.lookup x = some .local ∨ ((scopeOf st).names.lookup x = some .cell ∧ x ∈ (cellsFrom 0 (scopeOf st).names []).map (·.1))
  bind : ∀ (pm cd doc : Value) (vs : List Value), vs.length = (namesOf st).length → bindArgs (fdOf st pm cd doc) ⟨vs, []⟩ = pure ((namesOf st).zip vs)

theorem fn_of_top {p pw : Program} {loose : List Str} {mean : ExcName → Option Value} {mg mb : Str → Option Value} {h : Heap} {n : Str} (T : Top p loose mean mg mb h) (d : DefRec) (hd : d ∈ recsOf p)
    (h1 : d.name = n) (h2 : d.params = paramsOf (stOf pw n)) (h3 : d.body = bodyOf (stOf pw n)) (h4 : d.scope = scopeOf (stOf pw n)) (h5 : nameOf (stOf pw n) = n) (ok : DefOk (stOf pw n)) :
    ∃ a, mg n = some (.ref a) ∧ ∀ prog w GT, Fn ⟨prog, w, h, mg, mb, GT, none⟩ pw n a := by
  obtain ⟨a, o, pm, cd, doc, e1, e2, e3, e4⟩ := T.fn d hd
  rw [h1] at e1
  refine ⟨a, e1, fun prog w GT => ⟨pm, cd, doc, ⟨o, e2, ?_⟩, ?_, rfl, rfl, rfl, rfl, ok.kind, ok.co, ok.gen, ok.nodup, ok.cnodup, ok.kinds, ok.bind pm cd doc⟩⟩
  · rw [e3, h1, h2, h3, h4]; unfold fdOf; rw [h5]
  · show h.CodeRec cd (nameOf (stOf pw n))
    rw [h5, ← h1]; exact e4
end
end Mine
namespace Mine
open PySem PySem.W PyProof.Rows

/-- an order on the elements -/
structure SWO (E : V → Prop) (lt : V → V → Bool) : Prop where
  asymm : ∀ x y, E x → E y → lt x y = true → lt y x = false
  trans : ∀ x y z, E x → E y → E z → lt y x = false → lt z y = false → lt z x = false
theorem SWO.lt_le {E : V → Prop} {lt : V → V → Bool} (o : SWO E lt) {x y z : V} (hx : E x) (hy : E y) (hz : E z) (h1 : lt x y = true) (h2 : lt z y = false) : lt z x = false :=
  o.trans x y z hx hy hz (o.asymm x y hx hy h1) h2
theorem SWO.refl {E : V → Prop} {lt : V → V → Bool} (o : SWO E lt) {x : V} (hx : E x) : lt x x = false := by
  cases h : lt x x with
  | false => rfl
  | true => have q := o.asymm x x hx hx h; rw [h] at q; exact q

noncomputable abbrev gt (vs : List V) (i : Nat) : V := vs.getD i .none
theorem gt_set (vs : List V) (i j : Nat) (x : V) : gt (vs.set i x) j = if j = i ∧ i < vs.length then x else gt vs j := by
  unfold gt
  simp only [List.getD_eq_getElem?_getD, List.getElem?_set]
  by_cases h : i = j
  · subst h
    by_cases hl : i < vs.length
    · simp [hl]
    · simp [hl]
  · simp [h, Ne.symm h]
theorem gt_set_same {vs : List V} {i : Nat} {x : V} (h : i < vs.length) : gt (vs.set i x) i = x := by rw [gt_set, if_pos ⟨rfl, h⟩]
theorem gt_set_ne {vs : List V} {i j : Nat} {x : V} (h : j ≠ i) : gt (vs.set i x) j = gt vs j := by rw [gt_set, if_neg (fun q => h q.1)]
theorem gt_mem {vs : List V} {i : Nat} (h : i < vs.length) : gt vs i ∈ vs := getD_mem h

/-- the heap's order from a place on -/
noncomputable def Heapd (lt : V → V → Bool) (s : Nat) (vs : List V) : Prop := ∀ i, i < vs.length → 0 < i → s ≤ (i - 1) / 2 → lt (gt vs i) (gt vs ((i - 1) / 2)) = false
inductive Desc (s : Nat) : Nat → Prop
  | here : Desc s s
  | down {p : Nat} : 0 < p → Desc s ((p - 1) / 2) → Desc s p
theorem Desc.le {s p : Nat} (d : Desc s p) : s ≤ p := by
  induction d with
  | here => exact Nat.le_refl _
  | down _ _ ih => omega
theorem Desc.up {s p : Nat} (d : Desc s p) (h : s < p) : Desc s ((p - 1) / 2) := by
  cases d with
  | here => omega
  | down _ d => exact d
section
variable {E : V → Prop} {lt : V → V → Bool}

theorem swap_perm {vs : List V} {q c : Nat} {x : V} (hq : q < vs.length) (hc : c < vs.length) (hne : c ≠ q) : ((vs.set q (gt vs c)).set c x).Perm (vs.set q x) := by
  have h := (Array.swap_perm (xs := (vs.set q x).toArray) (i := q) (j := c) (by simpa using hq) (by simpa using hc)).toList
  simp only [Array.swap_def, Array.toList_set, List.getElem_toArray] at h
  have e1 : (vs.set q x)[q]'(by simpa using hq) = x := by simp
  have e2 : (vs.set q x)[c]'(by simpa using hc) = gt vs c := by
    rw [List.getElem_set_ne (Ne.symm hne)]; unfold gt; simp [hc]
  simp only [e1, e2, List.set_set] at h
  exact h

theorem sdGo_perm (x : V) (sp : Nat) : ∀ (p : Nat) (vs : List V), p < vs.length → (sdGo lt x sp p vs).Perm (vs.set p x) := by
  intro p
  induction p using Nat.strongRecOn with
  | ind p ih =>
    intro vs hp
    rw [sdGo]
    split
    · split
      · refine (ih _ (by omega) _ (by simp; omega)).trans ?_
        exact swap_perm hp (by omega) (by omega)
      · exact .refl _
    · exact .refl _

theorem par_lt {i : Nat} (h : 0 < i) : (i - 1) / 2 < i := Nat.lt_of_le_of_lt (Nat.div_le_self _ _) (Nat.sub_lt h Nat.one_pos)
theorem par_cases {i p : Nat} (h0 : 0 < i) (h : (i - 1) / 2 = p) : i = 2 * p + 1 ∨ i = 2 * p + 2 := by
  have e := Nat.div_add_mod (i - 1) 2
  rw [h] at e
  have e2 : i = (i - 1) + 1 := (Nat.sub_add_cancel h0).symm
  rcases Nat.mod_two_eq_zero_or_one (i - 1) with q | q
  · rw [q] at e; exact .inl (e2.trans (congrArg (· + 1) e.symm))
  · rw [q] at e; exact .inr (e2.trans (congrArg (· + 1) e.symm))
theorem par_one (p : Nat) : (2 * p + 1 - 1) / 2 = p := Nat.mul_div_cancel_left p (Nat.le.step Nat.le.refl)
theorem par_two (p : Nat) : (2 * p + 2 - 1) / 2 = p := Nat.mul_add_div (Nat.le.step Nat.le.refl) p 1
theorem suPick_par (lt : V → V → Bool) (n : Nat) (vs : List V) (p : Nat) : (suPick lt n vs p - 1) / 2 = p := by
  unfold suPick
  split
  · exact par_two p
  · exact par_one p
theorem sdGo_heap (o : SWO E lt) {x : V} (hx : E x) (sp : Nat) : ∀ (p : Nat) (vs : List V), (∀ v ∈ vs, E v) → p < vs.length → Desc sp p →
    (∀ i, i < vs.length → 0 < i → sp ≤ (i - 1) / 2 → i ≠ p → (i - 1) / 2 ≠ p → lt (gt vs i) (gt vs ((i - 1) / 2)) = false) →
    (∀ i, i < vs.length → 0 < i → (i - 1) / 2 = p → lt (gt vs i) x = false ∧ (sp < p → lt (gt vs i) (gt vs ((p - 1) / 2)) = false)) →
    Heapd lt sp (sdGo lt x sp p vs) := by
  intro p
  induction p using Nat.strongRecOn with
  | ind p ih =>
    intro vs hE hp hd hA hB
    have hEi : ∀ i, i < vs.length → E (gt vs i) := fun i hi => hE _ (gt_mem hi)
    have last : (sp < p → lt x (gt vs ((p - 1) / 2)) = false) → Heapd lt sp (vs.set p x) := by
      intro hlast i hi h0 hs
      rw [List.length_set] at hi
      by_cases hip : i = p
      · subst hip
        rw [gt_set_same hp, gt_set_ne (Nat.ne_of_lt (par_lt h0))]
        exact hlast (Nat.lt_of_le_of_lt hs (par_lt h0))
      · rw [gt_set_ne hip]
        by_cases hpp : (i - 1) / 2 = p
        · rw [hpp, gt_set_same hp]
          exact (hB i hi h0 hpp).1
        · rw [gt_set_ne hpp]
          exact hA i hi h0 hs hip hpp
    rw [sdGo]
    split
    · rename_i hsp
      have hq : (p - 1) / 2 < p := par_lt (Nat.zero_lt_of_lt hsp)
      have hdq := hd.up hsp
      have hsq := hdq.le
      split
      · rename_i hlt
        have hlt' : lt x (gt vs ((p - 1) / 2)) = true := hlt
        have hmove : vs.getD ((p - 1) / 2) .none = gt vs ((p - 1) / 2) := rfl
        rw [hmove]
        refine ih _ hq _ ?_ (by rw [List.length_set]; exact Nat.lt_trans hq hp) hdq ?_ ?_
        · intro v hv
          rcases List.mem_or_eq_of_mem_set hv with a | a
          · exact hE v a
          · exact a ▸ hEi _ (Nat.lt_trans hq hp)
        · intro i hi h0 hs hi1 hi2
          rw [List.length_set] at hi
          have hip : i ≠ p := fun e => hi2 (by rw [e])
          rw [gt_set_ne hip]
          by_cases hpp : (i - 1) / 2 = p
          · rw [hpp, gt_set_same hp]
            exact (hB i hi h0 hpp).2 hsp
          · rw [gt_set_ne hpp]
            exact hA i hi h0 hs hip hpp
        · intro i hi h0 hpar
          rw [List.length_set] at hi
          by_cases hip : i = p
          · subst hip
            rw [gt_set_same hp]
            refine ⟨o.asymm _ _ hx (hEi _ (Nat.lt_trans hq hp)) hlt', fun hs2 => ?_⟩
            rw [gt_set_ne (Nat.ne_of_lt (Nat.lt_trans (par_lt (Nat.zero_lt_of_lt hs2)) hq))]
            exact (hA _ (Nat.lt_trans hq hp) (Nat.zero_lt_of_lt hs2) (hdq.up hs2).le (Nat.ne_of_lt hq) (Nat.ne_of_lt (Nat.lt_trans (par_lt (Nat.zero_lt_of_lt hs2)) hq)))
          · rw [gt_set_ne hip]
            have h1 : lt (gt vs i) (gt vs ((p - 1) / 2)) = false := by
              have := hA i hi h0 (hpar.symm ▸ hsq) hip (hpar.symm ▸ Nat.ne_of_lt hq)
              rwa [hpar] at this
            refine ⟨o.lt_le hx (hEi _ (Nat.lt_trans hq hp)) (hEi _ hi) hlt' h1, fun hs2 => ?_⟩
            rw [gt_set_ne (Nat.ne_of_lt (Nat.lt_trans (par_lt (Nat.zero_lt_of_lt hs2)) hq))]
            exact o.trans _ _ _ (hEi _ (Nat.lt_trans (Nat.lt_trans (par_lt (Nat.zero_lt_of_lt hs2)) hq) hp)) (hEi _ (Nat.lt_trans hq hp)) (hEi _ hi) (hA _ (Nat.lt_trans hq hp) (Nat.zero_lt_of_lt hs2) (hdq.up hs2).le (Nat.ne_of_lt hq) (Nat.ne_of_lt (Nat.lt_trans (par_lt (Nat.zero_lt_of_lt hs2)) hq))) h1
      · rename_i hlt
        exact last fun _ => by simpa using hlt
    · rename_i hsp
      exact last fun h => absurd h hsp

theorem suGo_spec (o : SWO E lt) (n : Nat) (x : V) (sp : Nat) : ∀ (m p : Nat) (vs : List V), m = n - p → (∀ v ∈ vs, E v) → vs.length = n → p < n → Desc sp p →
    (suGo lt n p vs).1.length = n ∧ (suGo lt n p vs).2 < n ∧ n ≤ 2 * (suGo lt n p vs).2 + 1 ∧ Desc sp (suGo lt n p vs).2 ∧ (∀ v ∈ (suGo lt n p vs).1, E v) ∧ ((suGo lt n p vs).1.set (suGo lt n p vs).2 x).Perm (vs.set p x) ∧
    ((∀ i, i < n → 0 < i → sp ≤ (i - 1) / 2 → i ≠ p → (i - 1) / 2 ≠ p → lt (gt vs i) (gt vs ((i - 1) / 2)) = false) →
      (∀ i, i < n → 0 < i → (i - 1) / 2 = p → sp < p → lt (gt vs i) (gt vs ((p - 1) / 2)) = false) →
      ∀ i, i < n → 0 < i → sp ≤ (i - 1) / 2 → i ≠ (suGo lt n p vs).2 → (i - 1) / 2 ≠ (suGo lt n p vs).2 → lt (gt (suGo lt n p vs).1 i) (gt (suGo lt n p vs).1 ((i - 1) / 2)) = false) := by
  intro m
  induction m using Nat.strongRecOn with
  | ind m ih =>
    intro p vs hm hE hlen hp hd
    by_cases h : 2 * p + 1 < n
    · rw [suGo, dif_pos h]
      have hpk := suPick_lt lt n vs p h
      have hmin : ∀ i, i < n → 0 < i → (i - 1) / 2 = p → lt (gt vs i) (gt vs (suPick lt n vs p)) = false := by
        intro i hi h0 hpar
        have hEl := hE _ (gt_mem (i := 2 * p + 1) (hlen.symm ▸ h))
        unfold suPick
        by_cases hr : 2 * p + 2 < n
        · have hEr := hE _ (gt_mem (i := 2 * p + 2) (hlen.symm ▸ hr))
          cases hb : lt (vs.getD (2 * p + 1) .none) (vs.getD (2 * p + 2) .none) with
          | true =>
            rw [if_neg (by simp)]
            rcases par_cases h0 hpar with e | e
            · subst e; exact o.refl hEl
            · subst e; exact o.asymm _ _ hEl hEr hb
          | false =>
            rw [if_pos ⟨hr, rfl⟩]
            rcases par_cases h0 hpar with e | e
            · subst e; exact hb
            · subst e; exact o.refl hEr
        · rw [if_neg (fun q => hr q.1)]
          have : i = 2 * p + 1 := (par_cases h0 hpar).resolve_right (fun e => hr (e ▸ hi))
          subst this; exact o.refl hEl
      have hpar : (suPick lt n vs p - 1) / 2 = p := suPick_par lt n vs p
      generalize suPick lt n vs p = c at hpk hmin hpar ⊢
      have hE2 : ∀ v ∈ vs.set p (vs.getD c .none), E v := fun v hv => by
        rcases List.mem_or_eq_of_mem_set hv with a | a
        · exact hE v a
        · exact a ▸ hE _ (getD_mem (hlen.symm ▸ hpk.1))
      obtain ⟨h1, h2, h3, h4, h5, h6, h7⟩ := ih (n - c) (hm.symm ▸ Nat.sub_lt_sub_left hp hpk.2) c (vs.set p (vs.getD c .none)) rfl hE2 (by simpa using hlen) hpk.1 (.down (Nat.zero_lt_of_lt hpk.2) (by rw [hpar]; exact hd))
      refine ⟨h1, h2, h3, h4, h5, h6.trans (swap_perm (hlen.symm ▸ hp) (hlen.symm ▸ hpk.1) (Nat.ne_of_gt hpk.2)), fun hA hB => h7 ?_ ?_⟩
      · intro i hi h0 hs hi1 hi2
        have hmove : vs.getD c .none = gt vs c := rfl
        rw [hmove]
        by_cases hip : i = p
        · subst hip
          rw [gt_set_same (hlen.symm ▸ hp), gt_set_ne (Nat.ne_of_lt (par_lt h0))]
          exact hB c hpk.1 (Nat.zero_lt_of_lt hpk.2) hpar (Nat.lt_of_le_of_lt hs (par_lt h0))
        · rw [gt_set_ne hip]
          by_cases hpp : (i - 1) / 2 = p
          · rw [hpp, gt_set_same (hlen.symm ▸ hp)]
            exact hmin i hi h0 hpp
          · rw [gt_set_ne hpp]
            exact hA i hi h0 hs hip hpp
      · intro i hi h0 hpi hs
        rw [hpar]
        have hmove : vs.getD c .none = gt vs c := rfl
        have hci : c < i := hpi ▸ par_lt h0
        rw [hmove, gt_set_same (hlen.symm ▸ hp), gt_set_ne (Nat.ne_of_gt (Nat.lt_trans hpk.2 hci))]
        have := hA i hi h0 (hpi.symm ▸ Nat.le_trans hd.le (Nat.le_of_lt hpk.2)) (Nat.ne_of_gt (Nat.lt_trans hpk.2 hci)) (hpi.symm ▸ Nat.ne_of_gt hpk.2)
        rwa [hpi] at this
    · rw [suGo, dif_neg h]
      exact ⟨hlen, hp, Nat.le_of_not_lt h, hd, hE, .refl _, fun hA _ => hA⟩

theorem siftup_perm (o : SWO E lt) {vs : List V} {p : Nat} (hE : ∀ v ∈ vs, E v) (hp : p < vs.length) : (siftup lt vs p).Perm vs := by
  obtain ⟨h1, h2, h3, h4, h5, h6, h7⟩ := suGo_spec o vs.length (vs.getD p .none) p _ p vs rfl hE rfl hp .here
  unfold siftup
  refine (sdGo_perm _ _ _ _ (by simp; omega)).trans ?_
  rw [List.set_set]
  refine h6.trans ?_
  have e : vs.set p (vs.getD p .none) = vs := by
    rw [List.getD_eq_getElem?_getD, List.getElem?_eq_getElem hp]; simp
  rw [e]
theorem siftup_heap (o : SWO E lt) {vs : List V} {p : Nat} (hE : ∀ v ∈ vs, E v) (hp : p < vs.length) (hh : Heapd lt (p + 1) vs) : Heapd lt p (siftup lt vs p) := by
  obtain ⟨h1, h2, h3, h4, h5, h6, h7⟩ := suGo_spec o vs.length (vs.getD p .none) p _ p vs rfl hE rfl hp .here
  unfold siftup
  have hx := hE _ (getD_mem hp)
  refine sdGo_heap o hx p _ _ ?_ (by simp; omega) h4 ?_ ?_
  · intro v hv
    rcases List.mem_or_eq_of_mem_set hv with a | a
    · exact h5 v a
    · exact a ▸ hx
  · intro i hi h0 hs hi1 hi2
    rw [gt_set_ne hi1, gt_set_ne hi2]
    rw [List.length_set, h1] at hi
    exact h7 (fun i hi h0 hs hi1 hi2 => hh i hi h0 (by omega)) (fun i _ _ _ hs => absurd hs (by omega)) i hi h0 hs hi1 hi2
  · intro i hi h0 hpar
    rw [List.length_set, h1] at hi
    omega
theorem heap_min (o : SWO E lt) {vs : List V} (hE : ∀ v ∈ vs, E v) (hh : Heapd lt 0 vs) : ∀ i, i < vs.length → lt (gt vs i) (gt vs 0) = false := by
  intro i
  induction i using Nat.strongRecOn with
  | ind i ih =>
    intro hi
    cases i with
    | zero => exact o.refl (hE _ (gt_mem hi))
    | succ i =>
      have hq : (i + 1 - 1) / 2 < i + 1 := par_lt (Nat.succ_pos i)
      have h1 := hh (i + 1) hi (Nat.succ_pos i) (Nat.zero_le _)
      exact o.trans _ _ _ (hE _ (gt_mem (Nat.lt_of_le_of_lt (Nat.zero_le _) hi))) (hE _ (gt_mem (Nat.lt_trans hq hi))) (hE _ (gt_mem hi)) (ih _ hq (Nat.lt_trans hq hi)) h1
theorem heap_min' (o : SWO E lt) {vs : List V} (hE : ∀ v ∈ vs, E v) (hh : Heapd lt 0 vs) : ∀ v ∈ vs, lt v (gt vs 0) = false := by
  intro v hv
  obtain ⟨i, hi, e⟩ := List.getElem_of_mem hv
  have := heap_min o hE hh i hi
  unfold gt at this
  rw [List.getD_eq_getElem?_getD, List.getElem?_eq_getElem hi] at this
  simpa [e] using this

theorem heapd_replace {vs : List V} {v l : V} (h : Heapd lt 0 (v :: vs)) : Heapd lt 1 (l :: vs) := by
  intro i hi h0 hs
  have := h i (by simpa using hi) h0 (by omega)
  obtain ⟨i, rfl⟩ : ∃ j, i = j + 1 := ⟨i - 1, by omega⟩
  obtain ⟨j, hj⟩ : ∃ j, (i + 1 - 1) / 2 = j + 1 := ⟨(i + 1 - 1) / 2 - 1, by omega⟩
  rw [hj] at this ⊢
  simpa [gt] using this
theorem replace_heap (o : SWO E lt) {vs : List V} {v l : V} (hE : ∀ u ∈ v :: vs, E u) (hl : E l) (h : Heapd lt 0 (v :: vs)) : Heapd lt 0 (siftup lt (l :: vs) 0) :=
  siftup_heap o (fun u hu => by
    rcases List.mem_cons.mp hu with e | e
    · exact e ▸ hl
    · exact hE u (.tail _ e)) (by simp) (heapd_replace h)
theorem replace_perm (o : SWO E lt) {vs : List V} {l : V} (hE : ∀ u ∈ vs, E u) (hl : E l) : (siftup lt (l :: vs) 0).Perm (l :: vs) :=
  siftup_perm o (fun u hu => by
    rcases List.mem_cons.mp hu with e | e
    · exact e ▸ hl
    · exact hE u e) (by simp)
/-- what is a rearrangement of an image -/
theorem perm_map_inv {α β : Type} {f : α → β} {xs : List α} {ws : List β} (h : ws.Perm (xs.map f)) : ∃ ys : List α, ys.Perm xs ∧ ws = ys.map f := by
  generalize e : xs.map f = zs at h
  induction h generalizing xs with
  | nil => 
    cases xs with
    | nil => exact ⟨[], .refl _, rfl⟩
    | cons _ _ => cases e
  | cons z _ ih =>
    cases xs with
    | nil => cases e
    | cons x xs =>
      simp at e
      obtain ⟨e1, e2⟩ := e
      obtain ⟨ys, h1, h2⟩ := ih e2
      exact ⟨x :: ys, .cons _ h1, by simp [h2, e1]⟩
  | swap a b l =>
    match xs, e with
    | x :: y :: xs, e =>
      simp at e
      obtain ⟨e1, e2, e3⟩ := e
      exact ⟨y :: x :: xs, .swap _ _ _, by simp [e1, e2, e3]⟩
  | trans _ _ ih1 ih2 =>
    obtain ⟨ys, h1, h2⟩ := ih2 e
    obtain ⟨zs, h3, h4⟩ := ih1 h2.symm
    exact ⟨zs, h3.trans h1, h4⟩
end
end Mine
namespace Mine
open PySem PySem.W PyProof.Rows

noncomputable def ltV : V → V → Bool
  | .int a, .int b => decide (a < b)
  | .tup a, .tup b => decide (a < b)
  | _, _ => false
noncomputable def isT (v : V) : Prop := ∃ xs, v = .tup xs
theorem ord_tup {C : Cx} : Ord C isT ltV (fun _ => True) := ⟨fun k F σ x y Q _ hx hy h => by
  obtain ⟨i, rfl⟩ := hx
  obtain ⟨j, rfl⟩ := hy
  exact cmp_lt_tup h⟩
theorem swo_tup : SWO isT ltV where
  asymm := by
    rintro _ _ ⟨i, rfl⟩ ⟨j, rfl⟩ h
    simp only [ltV, decide_eq_true_eq, decide_eq_false_iff_not] at *
    exact fun q => List.lt_irrefl i (List.lt_trans h q)
  trans := by
    rintro _ _ _ ⟨i, rfl⟩ ⟨j, rfl⟩ ⟨l, rfl⟩ h1 h2
    simp only [ltV, decide_eq_false_iff_not] at *
    rw [List.not_lt] at *
    exact List.le_trans h1 h2
theorem tups_isT (xs : List (List Int)) : ∀ v ∈ xs.map V.tup, isT v := fun v hv => by
  obtain ⟨i, _, e⟩ := List.mem_map.mp hv; exact ⟨i, e.symm⟩
-- lists of ints
end Mine
namespace Mine
open PySem PySem.W PyProof.Rows

section
variable {C : Cx} {k : Nat} {F : FE} {σ : St}
-- ranges
theorem getList_at {l : Addr} {vs : List V} {sto : Addr → Option O} {i : Nat} (h : (sto l).bind O.items = some vs) : getList l i sto = some vs[i]? := by simp [getList, h]
-- slices
theorem part_none {Q : Option Int → St → Prop} (h : Q none σ) : PartOK C k F none σ Q := h
theorem part_some {e : Expr} {Q : Option Int → St → Prop} (h : TE C k F e σ fun v σ₁ => ∃ i, v = .int i ∧ Q (some i) σ₁) : PartOK C k F (some e) σ Q := h
theorem pickV_run (vs : List V) (lo hi : Option Int) : pickV vs lo hi none = (vs.drop (kms_lo lo vs.length)).take (kms_hi hi vs.length - kms_lo lo vs.length) := by
  unfold pickV
  rw [kms_bounds]
  simp only [sliceRange_one]
  have := pick_run vs.toArray (kms_lo lo vs.length) (kms_hi hi vs.length - kms_lo lo vs.length)
  simpa using this
theorem pickV_upto (vs : List V) {y : Int} (h : 0 ≤ y) : pickV vs none (some y) none = vs.take y.toNat := by
  rw [pickV_run]
  simp only [kms_lo, kms_hi, List.drop_zero, Nat.sub_zero]
  rw [if_neg (by omega), List.take_eq_take_iff]
  exact Nat.min_eq_left (Nat.min_le_right _ _)
theorem pickV_from (vs : List V) {x : Int} (h : 0 ≤ x) : pickV vs (some x) none none = vs.drop x.toNat := by
  rw [pickV_run]
  simp only [kms_lo, kms_hi]
  rw [if_neg (by omega)]
  rcases Nat.le_total x.toNat vs.length with q | q
  · rw [Nat.min_eq_left q, List.take_of_length_le (by simp)]
  · rw [Nat.min_eq_right q, List.drop_eq_nil_of_le (Nat.le_refl _), List.drop_eq_nil_of_le q]; simp
theorem pickV_len_run (vs : List V) (lo hi : Option Int) : (pickV vs lo hi none).length ≤ vs.length := by
  rw [pickV_run, List.length_take, List.length_drop]; exact Nat.le_trans (Nat.min_le_right _ _) (Nat.sub_le _ _)
end

-- medians
end Mine
namespace Mine
open PySem PySem.W PyProof.Rows

theorem fn_top {p pw : Program} {loose : List Str} {mean : ExcName → Option Value} {mg mb : Str → Option Value} {h : Heap} {n : Str} (T : Top p loose mean mg mb h)
    (hf : ((recsOf p).find? (fun e => e.name == n)).map (fun d => (d.name, d.params, d.body, d.scope)) = some (n, paramsOf (stOf pw n), bodyOf (stOf pw n), scopeOf (stOf pw n))) (h5 : nameOf (stOf pw n) = n) (ok : DefOk (stOf pw n)) :
    ∃ a, mg n = some (.ref a) ∧ ∀ prog w GT, Fn ⟨prog, w, h, mg, mb, GT, none⟩ pw n a := by
  cases hq : (recsOf p).find? (fun e => e.name == n) with
  | none => rw [hq] at hf; cases hf
  | some d =>
    rw [hq] at hf
    simp only [Option.map_some, Option.some.injEq, Prod.mk.injEq] at hf
    obtain ⟨h1, h2, h3, h4⟩ := hf
    exact fn_of_top T d (List.mem_of_find?_eq_some hq) h1 h2 h3 h4 h5 ok

/-- the globals that a text reads -/
noncomputable def GtOk (mg mb : Str → Option Value) (GT : List (Str × V)) : Prop := ∀ x v, GT.lookup x = some v → ∃ v', (mg x = some v' ∨ (mg x = none ∧ mb x = some v')) ∧ ∀ h, Rep h v v'
theorem gt_nil {mg mb : Str → Option Value} : GtOk mg mb [] := fun x v e => by simp at e
theorem gt_fn {mg mb : Str → Option Value} {GT : List (Str × V)} {n : Str} {a : Addr} (hm : mg n = some (.ref a)) (r : GtOk mg mb GT) : GtOk mg mb ((n, .ref a) :: GT) := fun x v e => by
  rw [List.lookup_cons] at e
  by_cases hx : (x == n) = true
  · rw [hx] at e; cases e; rw [beq_iff_eq.mp hx]; exact ⟨_, .inl hm, fun _ => .ref a⟩
  · rw [show (x == n) = false by simpa using hx] at e; exact r x v e
theorem gt_bi {p : Program} {loose : List Str} {mean : ExcName → Option Value} {mg mb : Str → Option Value} {h : Heap} {GT : List (Str × V)} {n : Str} {v : Value} (T : Top p loose mean mg mb h)
    (hfree : (startupNames.contains n || loose.contains n || ((recsOf p).map (·.name)).contains n || ((litsOf p).map (·.1)).contains n || ((clssOf p loose).map (·.name)).contains n || (n == ("__name__" : Str))) = false) (hv : bootBuiltins n = some v) (hr : ∀ a, v ≠ .ref a) (r : GtOk mg mb GT) :
    GtOk mg mb ((n, .opq v) :: GT) := fun x u e => by
  rw [List.lookup_cons] at e
  by_cases hx : (x == n) = true
  · rw [hx] at e; cases e; rw [beq_iff_eq.mp hx]
    simp only [Bool.or_eq_false_iff] at hfree
    obtain ⟨⟨⟨⟨⟨h1, h2⟩, h3⟩, h4⟩, h5⟩, h6⟩ := hfree
    have nin : ∀ {l : List Str}, l.contains n = false → n ∉ l := fun hl hq => by
      rw [List.contains_iff_mem.mpr hq] at hl; cases hl
    exact ⟨v, .inr ⟨T.free n (nin h1) (nin h2) (nin h3) (nin h4) (nin h5), by rw [T.builtins n (fun e => by rw [e] at h6; simp at h6)]; exact hv⟩, fun _ => .opq hr⟩
  · rw [show (x == n) = false by simpa using hx] at e; exact r x u e
theorem script_sto {h : Heap} {sc : Addr} {xs : List Int} {vs : List Value} (hL : h.IsList sc vs.toArray) (hI : IntsAre vs xs) (hl : xs.length ≤ maxLen) :
    ∀ b o, (fun b => if b = sc then some (O.rol (xs.map V.int)) else none) b = some o → o.isMut = false ∧ ORep h b o := fun b o e => by
  by_cases hb : b = sc
  · subst hb
    simp at e
    subst e
    exact ⟨rfl, by simpa using hl, vs, hL, reps_ints hI⟩
  · simp [hb] at e
end Mine
namespace Mine
open PySem PySem.W PyProof.Rows

-- reversed(range(..))
section
variable {prog : Program} {w : World} {A : Around} {E : Value → Shared → Prop} {s : Shared}
noncomputable def ritObj (x left st : Int) : Obj := { cls := .type "range_iterator", data := .fields #[rawInt x, rawInt left, rawInt st] }
noncomputable def revSmall (a b c : Int) : Bool := Builtin.Range.rangeFitsLong a && Builtin.Range.rangeFitsLong b && Builtin.Range.rangeFitsLong c && Builtin.Range.rangeFitsLong (-c) && Builtin.Range.rangeFitsLong (a - c) && Builtin.Range.rangeFitsLong (Builtin.Range.rangeSize a b c)
theorem meets_range_reversed (r : Addr) (a b c : Int) (t u v : Tok) (hs : revSmall a b c = true) :
    Meets (Builtin.«range.__reversed__» ⟨[.ref r], []⟩) (fun _ R s => s.heap.get? r = some { cls := .type "range", dict := none, data := .fields #[.int a t, .int b u, .int c v], slots := #[] } ∧
      R (.ok (.ret (Value.ref s.heap.objs.size))) { s with heap := s.heap.push (ritObj (a + (Builtin.Range.rangeSize a b c - 1) * c) (Builtin.Range.rangeSize a b c) (-c)), toks := s.toks }) :=
  .of_wp fun prog w A R s h => by
    obtain ⟨hp, g, d, tk, os⟩ := s
    obtain ⟨hl, h⟩ := h
    unfold revSmall at hs
    wp_walk
    all_goals first
      | exact ⟨_, rfl, h⟩
      | (simp only [hs, if_true] at *; exact ⟨_, rfl, h⟩)
      | (simp [hs] at *; done)
theorem call_range_reversed {r : Addr} {a b c : Int} {t u v : Tok} {Q : Value → Shared → Prop} (hr : IsRange s.heap r a b c t u v) (hs : revSmall a b c = true)
    (h : Q (.ref s.heap.objs.size) { s with heap := s.heap.push (ritObj (a + (Builtin.Range.rangeSize a b c - 1) * c) (Builtin.Range.rangeSize a b c) (-c)) }) : wpAny (model prog w) A (call (.builtin "range.__reversed__") [.ref r]) Q E s :=
  call_meets PySem.F.slot_range_reversed ⟨_, hr, rfl⟩ PySem.F.entry_range_reversed (PySem.F.args_range_reversed_1 _) (meets_range_reversed r a b c t u v hs) ⟨hr, h⟩
theorem sub_rit_reversed : isSubtype (.type "range_iterator") (.type "reversed") = pure false := by rw [isSubtype_type]; kernel_rfl
theorem code_reversed_rng {r : Addr} {a b c : Int} {t u v : Tok} {Q₁ : Value → Shared → Prop} (hr : IsRange s.heap r a b c t u v) (hs : revSmall a b c = true)
    (h : Q₁ (.ref s.heap.objs.size) { s with heap := s.heap.push (ritObj (a + (Builtin.Range.rangeSize a b c - 1) * c) (Builtin.Range.rangeSize a b c) (-c)) }) :
    codeAny (model prog w) A (.call (.builtin "reversed.__new__") ⟨[.type "reversed", .ref r], []⟩) (wants Q₁ E) s := by
  refine codeAny_of_tree ?_
  show wpAny _ A.in1 (do checkBuiltinCall "reversed.__new__" ⟨[.type "reversed", .ref r], []⟩; again (.builtin "reversed.__new__" ⟨[.type "reversed", .ref r], []⟩)) _ _ s
  refine wpAny_bind (wpAny_of_eq (PySem.F.newCall_reversed_1 _) (wpAny_pure ⟨plainId_quiet PySem.F.plain_reversed_new _, codeAny_builtin PySem.F.entry_reversed_new ?_⟩))
  rw [Around.under_plainId PySem.F.plain_reversed_new _]
  unfold Builtin.«reversed.__new__»
  refine wpAny_bind (wpAny_of_eq (newClass_reversed _) ?_)
  try dsimp only
  refine wpAny_bind (wpAny_of_eq (a := ()) (by first | rfl | kernel_rfl) ?_)
  refine wpAny_bind (wpAny_of_eq (a := ()) (by first | rfl | kernel_rfl) ?_)
  try dsimp only
  refine wpAny_bind (wpAny_specialOf (T := "range") ⟨_, hr, rfl⟩ PySem.F.slot_range_reversed.lookup ?_)
  try dsimp only
  refine wpAny_bind (wpAny_of_eq (PySem.F.slot_range_reversed.bind _) ?_)
  try dsimp only
  first
  | rw [if_neg (show ¬ ((Value.builtin "range.__reversed__" == Value.none) = true) from Bool.false_ne_true)]
  | (show wpAny _ _ (if (Value.builtin "range.__reversed__" == Value.none) = true then _ else _) _ _ _; rw [if_neg (show ¬ ((Value.builtin "range.__reversed__" == Value.none) = true) from Bool.false_ne_true)])
  refine wpAny_bind (wpAny_rule ?_)
  refine wpAny_bind (m := runValue (.call (.builtin "range.__reversed__") ⟨[.ref r], []⟩)) (show wpAny _ _ (call (.builtin "range.__reversed__") [.ref r]) _ _ _ from call_range_reversed hr hs ?_)
  first
  | exact wpAny_pure h
  | exact wpAny_bind (wpAny_pure (wpAny_pure h))
theorem call_reversed_rng {r : Addr} {a b c : Int} {t u v : Tok} {Q : Value → Shared → Prop} (hr : IsRange s.heap r a b c t u v) (hs : revSmall a b c = true)
    (h : Q (.ref s.heap.objs.size) { s with heap := s.heap.push (ritObj (a + (Builtin.Range.rangeSize a b c - 1) * c) (Builtin.Range.rangeSize a b c) (-c)) }) : wpAny (model prog w) A (call (.type "reversed") [.ref r]) Q E s := by
  refine callType_other (U := "range_iterator") (Q₁ := fun obj s₁ => obj = .ref s.heap.objs.size ∧ s₁ = { s with heap := s.heap.push (ritObj (a + (Builtin.Range.rangeSize a b c - 1) * c) (Builtin.Range.rangeSize a b c) (-c)) }) (by decide +kernel) PySem.F.create_reversed ⟨_, _, PySem.F.mro_reversed⟩ PySem.F.made_reversed sub_rit_reversed (PySem.F.typeCall_reversed_1 _) (code_reversed_rng hr hs ⟨rfl, rfl⟩) ?_
  rintro obj s₁ ⟨rfl, rfl⟩
  exact ⟨⟨_, Heap.get?_push_size _ rfl, rfl⟩, h⟩
end

section
variable {C : Cx} {k : Nat} {F : FE} {σ : St}
noncomputable def St.delSto (σ : St) (a : Addr) : St := { σ with sto := fun b => if b = a then none else σ.sto b }
theorem Sim.del {GB h : Heap} {a : Addr} (S : Sim GB F σ h) : Sim GB F (σ.delSto a) h :=
  ⟨S.base, S.frame, S.cells, S.apart, fun b ob e => by
    by_cases hb : b = a
    · simp [St.delSto, hb] at e
    · simp [St.delSto, hb] at e; exact S.sto b ob e, S.inOwn, S.ownIs, S.new, fun b ob e => by
    by_cases hb : b = a
    · simp [St.delSto, hb] at e
    · simp [St.delSto, hb] at e; exact S.off b ob e⟩
theorem Mod.del {own : List Addr} {σ σ' : St} {s s' : Shared} {a : Addr} (x : Mod own σ σ' s s') : Mod own σ (σ'.delSto a) s s' :=
  ⟨x.keep, fun b ob e => by
    by_cases hb : b = a
    · simp [St.delSto, hb] at e
    · simp [St.delSto, hb] at e; exact x.dom b ob e, x.alive, x.rest⟩
theorem call_reversed {lo hi st : Int} {n : Nat} {Q : V → St → Prop} (hs : revSmall lo hi st = true) (hn : Builtin.Range.rangeSize lo hi st = n) (h : ∀ I, σ.sto I = none → Q (.ref I) (σ.setSto I (.raw (ritObj (lo + ((n : Int) - 1) * st) n (-st))))) : CallOK C k F (.opq (.type "reversed")) [.rng lo hi st] σ Q :=
  fun A s f' us' hA S rf ru => by
    obtain rfl := rf.inv_opq
    obtain ⟨_, rfl, ra⟩ := ru.inv1; obtain ⟨_, _, _, _, rfl, hr⟩ := ra.inv_rng
    refine call_reversed_rng hr hs ?_
    rw [hn]
    exact ⟨.ref s.heap.objs.size, σ.setSto s.heap.objs.size (.raw (ritObj (lo + ((n : Int) - 1) * st) n (-st))), .ref _, S.alloc (keeps_push _) (get_size _) ⟨Heap.get?_push_size _ rfl, not_frz_cls rfl (by decide) (by decide)⟩, .alloc (tk := s.toks) (keeps_push _) (get_size _), h _ (S.fresh_none (get_size _))⟩
/-- an iterator that was made within the expression -/
theorem titer_rit {e : Expr} {P : Get → St → Prop} (h : TE C k F e σ fun v σ₁ => ∃ I x n st, v = .ref I ∧ σ.sto I = none ∧ σ₁.sto I = some (.raw (ritObj x ((n : Nat) : Int) st)) ∧ P (getRange x n st) (σ₁.delSto I)) : TIter C k F e σ P :=
  fun A s hA S => go (h A s hA S) fun v v' σ₁ s₁ rv S₁ M₁ hx => ex4 hx fun I x n st hx => an4 hx fun e h0 hI hP => by
    subst e
    obtain rfl := rv.inv_ref
    obtain ⟨ho, hf⟩ := S₁.sto I _ hI
    have hIr : IsRangeIter s₁.heap I x n st := ho
    have hfresh : s.heap.get? I = none := by
      rcases M₁.dom I _ hI with ⟨o', q, _⟩ | q
      · rw [h0] at q; cases q
      · exact q
    refine wpAny_pyIter_rangeiter hIr ⟨I, getRange x n st, _, σ₁.delSto I, rfl, hfresh, iter_rangeiter, ?_, S₁.del, M₁.del, by simp [St.delSto], hP⟩
    simpa using hIr
end
end Mine
namespace Mine
open PySem PySem.W PyProof.Rows

-- heapify
theorem revSmall_of {n : Nat} (h : n ≤ maxLen) : revSmall 0 n 1 = true := by
  have hm : (maxLen : Int) = 1048576 := by decide
  simp [revSmall, Builtin.Range.rangeFitsLong, Builtin.Range.rangeSize]
  omega
theorem rangeSize_nat (n : Nat) : Builtin.Range.rangeSize 0 n 1 = n := by simp [Builtin.Range.rangeSize]; omega
noncomputable def hfyGo (lt : V → V → Bool) : Nat → List V → List V
  | 0, vs => vs
  | m + 1, vs => hfyGo lt m (siftup lt vs m)
section
variable {E : V → Prop} {lt : V → V → Bool}
theorem suGo_plain (n : Nat) : ∀ (m p : Nat) (vs : List V), m = n - p → vs.length = n → p < n → (∀ v ∈ vs, E v) → (suGo lt n p vs).1.length = n ∧ (suGo lt n p vs).2 < n ∧ ∀ v ∈ (suGo lt n p vs).1, E v := by
  intro m
  induction m using Nat.strongRecOn with
  | ind m ih =>
    intro p vs hm hlen hp hE
    by_cases h : 2 * p + 1 < n
    · rw [suGo, dif_pos h]
      have hpk := suPick_lt lt n vs p h
      refine ih (n - suPick lt n vs p) (by omega) _ _ rfl (by simpa using hlen) hpk.1 fun v hv => ?_
      rcases List.mem_or_eq_of_mem_set hv with a | a
      · exact hE v a
      · exact a ▸ hE _ (getD_mem (by omega))
    · rw [suGo, dif_neg h]; exact ⟨hlen, hp, hE⟩
theorem siftup_length (vs : List V) (p : Nat) : (siftup lt vs p).length = vs.length := by
  unfold siftup
  rw [sdGo_length, List.length_set]
  by_cases hp : p < vs.length
  · exact (suGo_plain (E := fun _ => True) (lt := lt) vs.length _ p vs rfl rfl hp fun _ _ => trivial).1
  · rw [suGo, dif_neg (by omega)]
theorem siftup_mem {vs : List V} {p : Nat} (hp : p < vs.length) (hE : ∀ v ∈ vs, E v) : ∀ v ∈ siftup lt vs p, E v := by
  obtain ⟨h1, h2, h3⟩ := suGo_plain (lt := lt) vs.length _ p vs rfl rfl hp hE
  have hx := hE _ (getD_mem hp)
  unfold siftup
  refine sdGo_mem _ _ _ _ _ E hx (by simp; omega) fun v hv => ?_
  rcases List.mem_or_eq_of_mem_set hv with a | a
  · exact h3 v a
  · exact a ▸ hx
theorem hfyGo_spec (o : SWO E lt) : ∀ (m : Nat) (vs : List V), m ≤ vs.length → (∀ v ∈ vs, E v) → Heapd lt m vs → (hfyGo lt m vs).Perm vs ∧ Heapd lt 0 (hfyGo lt m vs)
  | 0, vs, _, _, h => ⟨.refl _, h⟩
  | m + 1, vs, hm, hE, h => by
    have hp := siftup_perm o hE (p := m) (by omega)
    have hh := siftup_heap o hE (p := m) (by omega) h
    obtain ⟨h1, h2⟩ := hfyGo_spec o m (siftup lt vs m) (by rw [siftup_length]; omega) (siftup_mem (by omega) hE) hh
    exact ⟨h1.trans hp, h2⟩
theorem heapd_half (vs : List V) : Heapd lt (vs.length / 2) vs := fun i hi h0 hs => by omega
theorem heapify_spec (o : SWO E lt) {vs : List V} (hE : ∀ v ∈ vs, E v) : (hfyGo lt (vs.length / 2) vs).Perm vs ∧ Heapd lt 0 (hfyGo lt (vs.length / 2) vs) := hfyGo_spec o _ vs (by omega) hE (heapd_half vs)
end

-- the other way round
structure OrdM (C : Cx) (E : V → Prop) (lt : V → V → Bool) (P : (Addr → Option O) → Prop) : Prop where
  cmp : ∀ (k : Nat) (F : FE) (σ : St) (x y : V) (Q : V → St → Prop), P σ.sto → E x → E y → Q (.bool (lt y x)) σ → CmpOK C k F .Lt x y σ Q
noncomputable def gtV (x y : V) : Bool := ltV y x
theorem ordM_tup {C : Cx} : OrdM C isT gtV (fun _ => True) := ⟨fun k F σ x y Q hp hx hy h => ord_tup.cmp k F σ x y Q hp hx hy h⟩
theorem SWO.flip {E : V → Prop} {lt : V → V → Bool} (o : SWO E lt) : SWO E (fun x y => lt y x) := ⟨fun x y hx hy h => o.asymm y x hy hx h, fun x y z hx hy hz h1 h2 => o.trans z y x hz hy hx h2 h1⟩
theorem swo_gt_tup : SWO isT gtV := swo_tup.flip
end Mine
namespace Mine
open PySem PySem.W PyProof.Rows

-- an exception on its way: what it leaves alone
section
variable {M : Model} {A : Around} {E : Value → Shared → Prop} {s : Shared}
end
end Mine
namespace Mine
open PySem PySem.W PyProof.Rows

section
variable {C : Cx} {k : Nat} {F : FE} {σ : St}
-- what raises
end
end Mine
namespace Mine
open PySem PySem.W PyProof.Rows

section
variable {C : Cx} {k : Nat} {F : FE} {σ : St}
theorem e_vt {es : List Expr} {n : Nat} {p : Pos} {Q : V → St → Prop} (h : TEs C k F p es σ fun vs σ₁ => vs.length ≤ maxLen ∧ Q (.vt vs) σ₁) : TE C k F (.Tuple es n p) σ Q :=
  fun A s hA S => wpAny_Tuple_spliced (wpAny_mono (h A s hA S) (fun vs' s₁ ⟨vs, σ₁, rv, S₁, M₁, hl, h₁⟩ => by
    refine ⟨by rw [rv.length]; exact Nat.le_trans hl maxLen_le, ?_⟩
    exact ⟨.vt vs, σ₁, .vt ⟨_, Heap.get?_push_size _ rfl, rfl, 0, rfl⟩ (rv.keeps (frz_of_keeps (keeps_push _))), S₁.keeps (keeps_push _), M₁.trans S₁ (.pure (tk := s₁.toks) (keeps_push _)), h₁⟩) fun _ _ x => x)
end

-- the greatest
end Mine
namespace Mine
open PySem PySem.W PyProof.Rows

-- the sort's tree of questions, answered by an order
noncomputable def KOk (lt : Nat → Nat → Bool) (N : Nat) {α : Type} : KasT α → (α → Prop) → Prop
  | .ret a, Q => Q a
  | .ask i j k, Q => i < N ∧ j < N ∧ KOk lt N (k (lt i j)) Q
section
variable {lt : Nat → Nat → Bool} {N : Nat}
theorem KOk.mono {α : Type} {Q Q' : α → Prop} (hq : ∀ a, Q a → Q' a) : ∀ (t : KasT α), KOk lt N t Q → KOk lt N t Q'
  | .ret a, h => hq a h
  | .ask i j k, h => ⟨h.1, h.2.1, KOk.mono hq (k (lt i j)) h.2.2⟩
theorem KOk.bind {α β : Type} {f : α → KasT β} {Q : β → Prop} : ∀ (t : KasT α), KOk lt N t (fun a => KOk lt N (f a) Q) → KOk lt N (t.bind f) Q
  | .ret a, h => h
  | .ask i j k, h => ⟨h.1, h.2.1, KOk.bind (k (lt i j)) h.2.2⟩
theorem KOk.wp {α : Type} {cmp : Nat → Nat → (Bool → Shared → Prop) → Shared → Prop} {Q : α → Prop} {s : Shared} (hc : ∀ i j (C : Bool → Shared → Prop), i < N → j < N → C (lt i j) s → cmp i j C s) :
    ∀ (t : KasT α) {R : α → Shared → Prop}, KOk lt N t Q → (∀ a, Q a → R a s) → t.kasWp cmp R s
  | .ret a, R, h, hr => hr a h
  | .ask i j k, R, h, hr => hc i j _ h.1 h.2.1 (KOk.wp hc (k (lt i j)) h.2.2 hr)

noncomputable abbrev ga (p : Array Nat) (i : Nat) : Nat := p.getD i 0
structure GoodP (N : Nat) (p : Array Nat) : Prop where
  size : p.size = N
  perm : p.toList.Perm (List.range N)
theorem GoodP.ltN {p : Array Nat} (g : GoodP N p) {i : Nat} (hi : i < N) : ga p i < N := by
  have h : i < p.size := by rw [g.size]; exact hi
  have e : ga p i = p[i] := by simp [ga, Array.getD, h]
  rw [e]
  have : p[i] ∈ p.toList := by simp
  exact List.mem_range.mp (g.perm.mem_iff.mp this)
theorem ga_of {p q : Array Nat} {i j : Nat} (h : p[i]? = q[j]?) : ga p i = ga q j := by
  unfold ga
  rw [Array.getD_eq_getD_getElem?, Array.getD_eq_getD_getElem?, h]
theorem GoodP.rev {p : Array Nat} (g : GoodP N p) (i j : Nat) : GoodP N (kas_rev p i j) := ⟨(mirror_size ..).trans g.size, (mirror_perm p i j _).toList.trans g.perm⟩
theorem GoodP.bub {p : Array Nat} (g : GoodP N p) (i j : Nat) : GoodP N (bubble p i j) := ⟨(bubble_size ..).trans g.size, (bubble_perm p i j).toList.trans g.perm⟩
theorem ga_rev {p : Array Nat} {i j : Nat} (hj : j ≤ p.size) (k : Nat) : ga (kas_rev p i j) k = if i ≤ k ∧ k < j then ga p (i + j - 1 - k) else ga p k := by
  have := getElem?_mirror_all (xs := p) (i := i) hj k
  split at this
  · rename_i h; rw [if_pos h]; exact ga_of this
  · rename_i h; rw [if_neg h]; exact ga_of this
theorem ga_bub {p : Array Nat} {src : Nat} (hs : src < p.size) {d : Nat} (hd : d ≤ src) (k : Nat) : ga (bubble p src d) k = if k = src - d then ga p src else if src - d < k ∧ k ≤ src then ga p (k - 1) else ga p k := by
  have := getElem?_bubble hs d hd k
  by_cases h1 : k = src - d
  · rw [if_pos h1] at this ⊢; exact ga_of this
  · rw [if_neg h1] at this ⊢
    by_cases h2 : src - d < k ∧ k ≤ src
    · rw [if_pos h2] at this ⊢; exact ga_of this
    · rw [if_neg h2] at this ⊢; exact ga_of this

/-- a strict order -/
structure SO (lt : Nat → Nat → Bool) : Prop where
  asymm : ∀ a b, lt a b = true → lt b a = false
  trans : ∀ a b c, lt b a = false → lt c b = false → lt c a = false
noncomputable def UpTo (lt : Nat → Nat → Bool) (p : Array Nat) (n : Nat) : Prop := ∀ i j, i < j → j < n → lt (ga p j) (ga p i) = false
theorem SO.refl (o : SO lt) (a : Nat) : lt a a = false := by
  cases h : lt a a with
  | false => rfl
  | true => have q := o.asymm a a h; rw [h] at q; exact q

/-- a block of equals -/
noncomputable def EqOn (lt : Nat → Nat → Bool) (p : Array Nat) (a b : Nat) : Prop := ∀ i j, a ≤ i → i < b → a ≤ j → j < b → lt (ga p i) (ga p j) = false
theorem place_ok (o : SO lt) {p : Array Nat} {k : Nat} (g : GoodP N p) (hk : k < N) (hu : UpTo lt p k) : ∀ (f l r : Nat), l ≤ r → r ≤ k → r ≤ l + f → (∀ i, i < l → lt (ga p k) (ga p i) = false) → (∀ i, r ≤ i → i < k → lt (ga p k) (ga p i) = true) →
    KOk lt N (kas_place p k f l r) fun m => m ≤ k ∧ (∀ i, i < m → lt (ga p k) (ga p i) = false) ∧ ∀ i, m ≤ i → i < k → lt (ga p k) (ga p i) = true
  | 0, l, r, h1, h2, h3, hl, hr => ⟨by omega, hl, fun i a b => hr i (by omega) b⟩
  | f + 1, l, r, h1, h2, h3, hl, hr => by
    unfold kas_place
    split
    · exact ⟨by omega, hl, fun i a b => hr i (by omega) b⟩
    · refine ⟨g.ltN hk, g.ltN (by omega), ?_⟩
      show KOk lt N (if lt (ga p k) (ga p ((l + r) / 2)) = true then _ else _) _
      cases hc : lt (ga p k) (ga p ((l + r) / 2)) with
      | true =>
        rw [if_pos rfl]
        refine place_ok o g hk hu f l _ (by omega) (by omega) (by omega) hl fun i a b => ?_
        rcases Nat.lt_or_ge ((l + r) / 2) i with q | q
        · cases hq : lt (ga p k) (ga p i) with
          | true => rfl
          | false =>
            have := o.trans _ _ _ (hu _ i q b) hq
            rw [hc] at this; exact this.symm
        · have : i = (l + r) / 2 := by omega
          subst this; exact hc
      | false =>
        rw [if_neg (by simp)]
        refine place_ok o g hk hu f _ r (by omega) h2 (by omega) (fun i a => ?_) hr
        rcases Nat.lt_or_ge i ((l + r) / 2) with q | q
        · exact o.trans _ _ _ (hu i _ q (by omega)) hc
        · have : i = (l + r) / 2 := by omega
          subst this; exact hc
theorem good_range (N : Nat) : GoodP N (List.toArray (List.range N)) := ⟨by simp, .refl _⟩
end
end Mine
namespace Mine
open PySem PySem.W PyProof.Rows

section
variable {prog : Program} {w : World} {A : Around} {E : Value → Shared → Prop} {s : Shared}
-- tuples of ints, compared by the sort
theorem kat_ints {Q : Bool → Shared → Prop} {fin : Bool} : ∀ {us vs : List Value} {xs ys : List Int} {i : Nat}, IntsAre us xs → IntsAre vs ys → ((xs.length < ys.length) ↔ fin = true) → Q (decide (xs < ys)) s → KatLex prog w A true fin Q (us.zip vs) i s
  | _, _, [], [], i, h1, h2, hf, h => by
    obtain rfl := ints_nil h1; obtain rfl := ints_nil h2
    have : fin = false := by cases fin with | false => rfl | true => simp at hf
    subst this; simpa [KatLex] using h
  | _, _, [], _ :: _, i, h1, h2, hf, h => by
    obtain rfl := ints_nil h1; obtain ⟨_, _, rfl, _⟩ := ints_cons h2
    have : fin = true := by simpa using hf
    subst this; simpa [KatLex] using h
  | _, _, _ :: _, [], i, h1, h2, hf, h => by
    obtain ⟨_, _, rfl, _⟩ := ints_cons h1; obtain rfl := ints_nil h2
    have : fin = false := by cases fin with | false => rfl | true => simp at hf
    subst this; simpa [KatLex] using h
  | _, _, nx :: xs, ny :: ys, i, h1, h2, hf, h => by
    obtain ⟨tx, us, rfl, hus⟩ := ints_cons h1; obtain ⟨ty, vs, rfl, hvs⟩ := ints_cons h2
    refine kat_cons (wpAny_eqBool_int ?_)
    by_cases hn : nx = ny
    · subst hn
      rw [beq_self_eq_true]
      refine kat_yes (kat_ints hus hvs (by simpa using hf) ?_)
      have e : decide (nx :: xs < nx :: ys) = decide (xs < ys) := decide_eq_decide.mpr (by rw [List.cons_lt_cons_iff]; simp)
      rw [e] at h
      exact h
    · have e : (nx == ny) = false := by simpa using hn
      rw [e]
      have e2 : decide (nx :: xs < ny :: ys) = decide (nx < ny) := decide_eq_decide.mpr (by rw [List.cons_lt_cons_iff]; simp [hn])
      rw [e2] at h
      refine kat_no ?_
      by_cases hi : (i == 0) = true
      · rw [hi]; exact oneLt_int h
      · rw [show (i == 0) = false by simpa using hi]
        exact kat_one _ _ (PySem.P.lt_int h)
end

noncomputable def ltTab (xs : List (List Int)) (i j : Nat) : Bool := decide (xs.getD i [] < xs.getD j [])
theorem so_tab (xs : List (List Int)) : SO (ltTab xs) where
  asymm := fun a b h => by
    simp only [ltTab, decide_eq_true_eq, decide_eq_false_iff_not] at *
    exact fun q => List.lt_irrefl _ (List.lt_trans h q)
  trans := fun a b c h1 h2 => by
    simp only [ltTab, decide_eq_false_iff_not] at *
    rw [List.not_lt] at *
    exact List.le_trans h1 h2
noncomputable def sortT (xs : List (List Int)) : List (List Int) := xs.mergeSort fun a b => decide (a ≤ b)
theorem sortT_perm (xs : List (List Int)) : (sortT xs).Perm xs := List.mergeSort_perm _ _
theorem sortT_sorted (xs : List (List Int)) : (sortT xs).Pairwise (· ≤ ·) := by
  have := List.pairwise_mergeSort (le := fun a b : List Int => decide (a ≤ b)) (by intro a b c h1 h2; simp only [decide_eq_true_eq] at *; exact List.le_trans h1 h2) (by intro a b; simp only [Bool.or_eq_true, decide_eq_true_eq]; exact List.le_total a b) xs
  exact this.imp fun h => by simpa using h
theorem sortT_uniq {xs ys : List (List Int)} (p : ys.Perm xs) (o : ys.Pairwise (· ≤ ·)) : ys = sortT xs :=
  (p.trans (sortT_perm xs).symm).eq_of_pairwise (fun a b _ _ h1 h2 => List.le_antisymm h1 h2) o (sortT_sorted xs)
theorem sortT_length (xs : List (List Int)) : (sortT xs).length = xs.length := (sortT_perm xs).length_eq
theorem sortT_cong {xs ys : List (List Int)} (p : xs.Perm ys) : sortT xs = sortT ys := sortT_uniq ((sortT_perm xs).trans p) (sortT_sorted xs)
end Mine
namespace Mine
open PySem PySem.W PyProof.Rows

theorem reps_tup_at {h : Heap} {xs : List (List Int)} {vs' : List Value} (r : Reps h (xs.map V.tup) vs') {i : Nat} (hi : i < xs.length) : ∃ a us, vs'.getD i Value.none = .ref a ∧ vs'[i]? = some (.ref a) ∧ IsTup h a (List.toArray us) ∧ IntsAre us (xs.getD i []) := by
  obtain ⟨v', hv, rv⟩ := r.get (i := i) (v := .tup xs[i]) (by simp [hi])
  obtain ⟨a, us, rfl, ht, hI⟩ := rv.inv_tup
  exact ⟨a, us, by simp [List.getD_eq_getElem?_getD, hv], hv, ht, by rw [List.getD_eq_getElem?_getD, List.getElem?_eq_getElem hi]; exact hI⟩
theorem kat_tups_of {h : Heap} : ∀ {xs : List (List Int)} {vs' : List Value}, Reps h (xs.map V.tup) vs' → (∀ x ∈ xs, x ≠ []) → ∃ fs, KatTups h vs' fs ∧ fs.length = xs.length ∧ ∀ f ∈ fs, ∃ i t, f = Value.int i t
  | [], _, r, _ => ⟨[], by obtain rfl := r.inv_nil; exact .nil, rfl, fun f hf => nomatch hf⟩
  | x :: xs, _, r, hne => by
    obtain ⟨_, _, rfl, rx, r'⟩ := r.inv_cons
    obtain ⟨_, _, rfl, ht, hI⟩ := rx.inv_tup
    obtain ⟨fs, h1, h2, h3⟩ := kat_tups_of r' fun y hy => hne y (.tail _ hy)
    match x, hI, hne with
    | [], _, hne => exact absurd rfl (hne [] (.head _))
    | n :: x', hI, hne =>
      obtain ⟨t, us, rfl, hI'⟩ := ints_cons hI
      obtain ⟨o, ho, hc, m, hd⟩ := ht
      refine ⟨.int n t :: fs, KatTups.cons ho hc hd (by simp) h1, by simp [h2], fun f hf => ?_⟩
      rcases List.mem_cons.mp hf with e | hf
      · exact ⟨n, t, e⟩
      · exact h3 f hf
theorem map_range_getD (xs : List (List Int)) : (List.range xs.length).map (fun i => xs.getD i []) = xs := by
  refine List.ext_getElem (by simp) fun i h1 h2 => ?_
  simp [h2]
theorem good_sorts {xs : List (List Int)} {p : Array Nat} (g : GoodP xs.length p) (u : UpTo (ltTab xs) p xs.length) : p.toList.map (fun i => xs.getD i []) = sortT xs := by
  refine sortT_uniq ?_ ?_
  · have := g.perm.map (fun i => xs.getD i [])
    rwa [map_range_getD] at this
  · rw [List.pairwise_map, List.pairwise_iff_getElem]
    intro i j hi hj hij
    have hs := g.size
    simp at hi hj
    have := u i j hij (by omega)
    have e1 : ga p i = p[i] := by simp [ga, Array.getD, hi]
    have e2 : ga p j = p[j] := by simp [ga, Array.getD, hj]
    rw [e1, e2] at this
    simp only [ltTab, decide_eq_false_iff_not] at this
    rw [List.not_lt] at this
    simpa using this
theorem reps_pickTup {h : Heap} {xs : List (List Int)} {vs' : List Value} (r : Reps h (xs.map V.tup) vs') : ∀ (l : List Nat), (∀ i ∈ l, i < xs.length) → Reps h ((l.map fun i => xs.getD i []).map V.tup) (l.map fun i => vs'.getD i Value.none)
  | [], _ => .nil
  | i :: l, hl => by
    obtain ⟨a, us, e1, e2, ht, hI⟩ := reps_tup_at r (hl i (.head _))
    rw [List.map_cons, List.map_cons, List.map_cons, e1]
    exact .cons (.tup ht hI) (reps_pickTup r l fun j hj => hl j (.tail _ hj))

section
variable {C : Cx} {k : Nat} {F : FE} {σ : St}
end
end Mine
namespace Mine
open PySem PySem.W PyProof.Rows

section
variable {C : Cx} {k : Nat} {F : FE} {σ : St}
end
end Mine
namespace Mine
open PySem PySem.W PyProof.Rows

section
variable {C : Cx} {k : Nat} {F : FE} {σ : St}
end

-- order of short tuples
-- merging of rows
section
variable (R : List (List Int))
end
section
variable {R : List (List Int)}
end
end Mine
namespace Mine
open PySem PySem.W PyProof.Rows

-- heaps of tuples
theorem topT {x : List Int} {xs : List (List Int)} (hh : Heapd ltV 0 ((x :: xs).map V.tup)) : ∀ z ∈ x :: xs, x ≤ z := fun z hz => by
  have := heap_min' swo_tup (tups_isT (x :: xs)) hh (.tup z) (List.mem_map_of_mem hz)
  simpa [gt, ltV] using this
theorem replaceT {v x : List Int} {r : List (List Int)} (hh : Heapd ltV 0 ((v :: r).map V.tup)) : ∃ hs : List (List Int), siftup ltV (.tup x :: r.map V.tup) 0 = hs.map V.tup ∧ hs.Perm (x :: r) ∧ Heapd ltV 0 (hs.map V.tup) := by
  have hp : (siftup ltV (.tup x :: r.map V.tup) 0).Perm ((x :: r).map V.tup) := replace_perm swo_tup (tups_isT r) ⟨x, rfl⟩
  obtain ⟨hs, h1, h2⟩ := perm_map_inv hp
  exact ⟨hs, h2, h1, h2 ▸ replace_heap swo_tup (tups_isT (v :: r)) ⟨x, rfl⟩ hh⟩
theorem heapifyT (xs : List (List Int)) : ∃ hs : List (List Int), hfyGo ltV ((xs.map V.tup).length / 2) (xs.map V.tup) = hs.map V.tup ∧ hs.Perm xs ∧ Heapd ltV 0 (hs.map V.tup) := by
  obtain ⟨h1, h2⟩ := heapify_spec swo_tup (tups_isT xs)
  obtain ⟨hs, q1, q2⟩ := perm_map_inv h1
  exact ⟨hs, q2, q1, q2 ▸ h2⟩
-- slices by a step
end Mine
namespace Mine
open PySem PySem.W PyProof.Rows
end Mine
namespace Mine
open PySem PySem.W PyProof.Rows

-- lists without like ones
section
variable {C : Cx} {k : Nat} {F : FE} {σ : St}

-- dicts of places to numbers
end
end Mine
namespace Mine
open PySem PySem.W PyProof.Rows

-- the mathematics of the shortest ways
section
variable (ws : List Way)
variable {ws}
end
end Mine
namespace Mine
open PySem PySem.W PyProof.Rows
section
variable {C : Cx} {k : Nat} {F : FE} {σ : St}
theorem sortT_head {xs : List (List Int)} {m : List Int} {r : List (List Int)} (hp : xs.Perm (m :: r)) (hm : ∀ z ∈ xs, m ≤ z) : sortT xs = m :: sortT r := by
  refine (sortT_uniq (xs := xs) ?_ ?_).symm
  · exact ((sortT_perm r).cons m).trans hp.symm
  · refine List.pairwise_cons.mpr ⟨fun z hz => hm z (hp.mem_iff.mpr (.tail _ ((sortT_perm r).mem_iff.mp hz))), sortT_sorted r⟩
end
end Mine
namespace Mine
open PySem PySem.W PyProof.Rows
section
variable {C : Cx} {k : Nat} {F : FE} {σ : St}
end
end Mine
namespace Mine
open PySem PySem.W PyProof.Rows

-- the mathematics of the lightest nets
-- the sum over the part of 0
end Mine
namespace Mine
open PySem PySem.W PyProof.Rows

-- the heap while the net grows
-- how many are yet to come
end Mine
namespace Mine
open PySem PySem.W PyProof.Rows
section
variable {C : Cx} {k : Nat} {F : FE} {σ : St}
/-- the state cut down to what is known -/
theorem x_cut {ss : List Stmt} {Q : Fl → St → Prop} (names : List Str) (l : List (Str × V)) (P : (Addr → Option O) → Prop) (he : restrictL names σ.loc = l) (hp : P σ.sto) (h : ∀ sto', P sto' → TX C k F ss ⟨l, sto'⟩ Q) : TX C k F ss σ Q :=
  x_weak names (by unfold St.restrict; rw [he]; exact h _ hp)
theorem free1 {scope : Scope} {cl : List (Str × Addr)} {x : Str} {u : V} {loc : List (Str × V)} (h1 : loc.lookup x = some u ∧ (F.env.kindOf x = some .cell ∨ F.env.kindOf x = some .free) ∧ ((relabel scope F.env).names.lookup x = some .cell ∨ (relabel scope F.env).names.lookup x = some .free) ∧ cl.lookup x = F.env.cells.lookup x) :
    FreeOk F scope cl [(x, u)] loc := fun z w e => by
  rw [List.lookup_cons] at e
  by_cases q : (z == x) = true
  · rw [q] at e; cases e; rw [beq_iff_eq.mp q]; exact h1
  · rw [show (z == x) = false by simpa using q] at e; simp at e
theorem free0 {scope : Scope} {cl : List (Str × Addr)} {loc : List (Str × V)} : FreeOk F scope cl [] loc := fun z w e => by simp at e
theorem ne_new {s : Addr → Option O} {a b : Addr} {o : O} (ha : s a = some o) (hb : s b = none) : a ≠ b := fun e => by rw [e, hb] at ha; cases ha
end
-- lists of nine by place
end Mine
namespace Mine
open PySem PySem.W PyProof.Rows
section
variable {C : Cx} {k : Nat} {F : FE} {σ : St}
theorem call_list_list {l : Addr} {vs : List V} {Q : V → St → Prop} (hs : (σ.sto l).bind O.items = some vs) (h : ∀ D, σ.sto D = none → Q (.ref D) (σ.setSto D (.lst vs))) : CallOK C k F (.opq (.type "list")) [.ref l] σ Q :=
  fun A s f' us' hA S rf ru => by
    obtain rfl := rf.inv_opq
    obtain ⟨_, rfl, ra⟩ := ru.inv1; obtain rfl := ra.inv_ref
    obtain ⟨hb, vs', hL, hr⟩ := S.list hs
    obtain ⟨m, hn, hl⟩ := S.frame
    refine list_copyK (fr_empty hn) (news_all s.heap F.env.locals) hL (fun D c h' F' N' hlt => ?_) (by rw [List.size_toArray, hr.length]; exact Nat.le_trans hb maxLen_le)
    obtain ⟨S', kp⟩ := S.ledger hn hl F' fun p hp => N' p (.tail _ hp)
    have ho := (N' _ (.head _)).1
    have hDL := (N' _ (.head _)).2.1
    have hDn : s.heap.get? D = none := by
      cases hq : s.heap.get? D with
      | none => rfl
      | some o => exact absurd (hlt (D, o) (allNews_mem hDL hq)) (Nat.lt_irrefl _)
    have hgb : C.GB.get? D = none := by
      cases hq : C.GB.get? D with
      | none => rfl
      | some o => have := S.base D o hq; rw [hDn] at this; cases this
    refine ⟨.ref D, σ.setSto D (.lst vs), .ref D, S'.adopt ⟨hb, vs', c, ho, hr.keeps fun b o e hf => kp b o (fun q => by
      subst q; exact frz_not_dict e hf hn) e⟩ hgb hDL fun p hp q => ?_, (Mod.ledger (tk := s.toks) S F'.ns kp).adopt hDn, h D (S.fresh_none hDn)⟩
    obtain ⟨v₀, oc, hoc, _⟩ := S.cells p hp
    rw [q, hDn] at hoc; cases hoc
-- tuples are gone through
noncomputable def getTup (us : List V) : Get := fun i _ => some us[i]?
theorem iter_tupK {I t : Addr} {us : List V} {us' : List Value} (hcalm : C.exc = none) : Iter C k I (getTup us) fun i h => IsTupIter h I t i ∧ IsTup h t us'.toArray ∧ Reps h us us' := by
  refine ⟨fun A F σ s i r₀ hA S hL hK hg => ?_, fun i h h' hK hk hz => ?_, fun i h hK => ?_, fun A s i Q hK hq => ?_, fun A s i target v Q hK hq => ?_⟩
  · obtain ⟨k1, k2, k3⟩ := hK
    unfold getTup at hg
    cases hg
    cases hi : us[i]? with
    | none =>
      refine next_tuple_end (hA.1.calm hcalm) k1 k2 (by
        rw [List.getElem?_eq_none_iff] at hi
        simp [k3.length, hi]) fun h' hext => ⟨hext, rfl, rfl⟩
    | some v =>
      obtain ⟨v', hv', rv⟩ := k3.get hi
      have hnt := hL.frz
      refine next_tuple_item k1 k2 (by simpa using hv') fun h' hK' hsb => ⟨hsb.extBut, rfl, v', rfl, rv, hK', tup_keeps k2 (not_frz_ext hnt hsb.extBut), k3.keeps (not_frz_ext hnt hsb.extBut)⟩
  · obtain ⟨⟨o, ho, r⟩, k2, k3⟩ := hK; exact ⟨⟨o, hk o ho, r⟩, tup_keeps k2 hz, k3.keeps hz⟩
  · obtain ⟨⟨o, ho, hc, _⟩, _, _⟩ := hK; exact ⟨o, ho, not_frz_cls hc (by decide) (by decide)⟩
  · exact wpAny_pyIter_tupleiter hK.1 hq
  · obtain ⟨⟨o, ho, hc, _⟩, _, _⟩ := hK; exact lot_plain ho hc (by decide) hq
theorem iter_vt {us : List V} {P : Get → St → Prop} (h : P (getTup us) σ) (hcalm : C.exc = none := by assumption) : IterOK C k F (.vt us) σ P :=
  fun A s a' hA S ra => by
    obtain ⟨_, _, rfl, ht, hi⟩ := ra.inv_vt
    refine iter_tuple ht ?_
    exact ⟨_, getTup us, _, σ, rfl, get_size _, iter_tupK hcalm, ⟨⟨_, Heap.get?_push_size _ rfl, rfl, rfl⟩, tup_keeps ht fun a o ho _ => keeps_push _ a o ho, hi.keeps fun a o ho _ => keeps_push _ a o ho⟩, S.keeps (keeps_push _), .pure (tk := s.toks) (keeps_push _), S.fresh_none (get_size _), h⟩
end
end Mine
namespace Mine
open PySem PySem.W PyProof.Rows

-- a heap that falls apart and is made again
section
variable {E : V → Prop} {lt : V → V → Bool}
end

-- the way up from a place
-- the heap is laid
end Mine
namespace Mine
open PySem PySem.W PyProof.Rows
/-- what is known of the store stays known -/
noncomputable def KeepA (sto sto' : Addr → Option O) : Prop := ∀ b o, sto b = some o → sto' b = some o
theorem KeepA.refl {sto : Addr → Option O} : KeepA sto sto := fun _ _ h => h
theorem KeepA.upd {sto s : Addr → Option O} {D : Addr} {o : O} (h : KeepA sto s) (hD : sto D = none) : KeepA sto (fun b => if b = D then some o else s b) := fun b o' hb => by
  have : b ≠ D := ne_new hb hD
  simp [this, h b o' hb]
-- the pairs
end Mine
namespace Mine
open PySem PySem.W PyProof.Rows PySem.SeqAt PySem.MeetsSeq3
section
variable {C : Cx} {k : Nat} {F : FE} {σ : St}
-- lists of one number are compared
-- sets of numbers
end
end Mine
namespace Mine
open PySem PySem.W PyProof.Rows
section
variable {lt : V → V → Bool}
-- the way down and what is due on it
-- only what is seen counts
end
end Mine
namespace Mine
open PySem PySem.W PyProof.Rows
section
variable {C : Cx} {k : Nat} {F : FE} {σ : St}
-- lists of one number each
end
end Mine
set_option maxRecDepth 100000
namespace Mine
open PySem PySem.W PyProof.Rows

-- a part of a heap
open Classical in
noncomputable def partH (h : Heap) (P : Addr → Prop) : Heap := ⟨h.objs.mapIdx fun i o => if P i then o else { cls := .none, data := .freed }, h.life⟩
theorem part_in {h : Heap} {P : Addr → Prop} {b : Addr} (hb : P b) : (partH h P).get? b = h.get? b := by
  unfold partH Heap.get?
  simp only [Array.getElem?_mapIdx]
  cases h.objs[b]? with
  | none => rfl
  | some o => simp [hb]
theorem part_out {h : Heap} {P : Addr → Prop} {b : Addr} (hb : ¬ P b) : (partH h P).get? b = none := by
  unfold partH Heap.get?
  simp only [Array.getElem?_mapIdx]
  cases h.objs[b]? with
  | none => rfl
  | some o => simp [hb]

section
variable {C : Cx} {k : Nat} {F : FE} {σ : St}
theorem CxOk.more {GB' : Heap} {x : Option Addr} (cx : CxOk C) (hk : ∀ b o, C.GB.get? b = some o → GB'.get? b = some o) : CxOk { C with GB := GB', exc := x } := ⟨cx.g.keeps hk, cx.b.keeps hk, cx.nolimit.keeps hk, cx.gt⟩
theorem FnAt.more {GB' : Heap} {x : Option Addr} {a : Addr} {fd : FuncData} {body : List Stmt} {names : List Str} (f : FnAt C a fd body names) (hk : ∀ b o, C.GB.get? b = some o → GB'.get? b = some o) : FnAt { C with GB := GB', exc := x } a fd body names :=
  ⟨let ⟨o, h1, h2⟩ := f.obj; ⟨o, hk _ _ h1, h2⟩, f.code.keeps hk, f.body, f.clo, f.globals, f.builtins, f.kind, f.co, f.gen, f.nodup, f.cnodup, f.kinds, f.bind⟩
theorem Fn.more {GB' : Heap} {x : Option Addr} {p : Program} {n : Str} {a : Addr} (f : Fn C p n a) (hk : ∀ b o, C.GB.get? b = some o → GB'.get? b = some o) : Fn { C with GB := GB', exc := x } p n a := let ⟨pm, cd, doc, g⟩ := f; ⟨pm, cd, doc, g.more hk⟩
-- what raises, with its words
end
end Mine
set_option maxRecDepth 100000
namespace Mine
open PySem PySem.W PyProof.Rows
section
variable {C : Cx} {k : Nat} {F : FE} {σ : St}
end
end Mine
namespace Mine
open PySem PySem.W PyProof.Rows
section
variable {lt : Nat → Nat → Bool} {N : Nat}
-- the sort keeps the order of like ones
theorem sub01 (n : Nat) : n + 1 - (0 + 1) = n := rfl
theorem sub02 (n q : Nat) : n + 1 - (q + 1 + 1) = n - (q + 1) := Nat.add_sub_add_right n 1 (q + 1)
theorem rv1 {b n i j : Nat} (h : i < j) (hj : j < n) : b + n - 1 - j < b + n - 1 - i := by omega
theorem rv2 {b n j : Nat} (h : b ≤ j) (hj : j < n) : b + n - 1 - j < n := by omega
theorem rv3 {b n j : Nat} (hj : j < n) : b ≤ b + n - 1 - j := by omega
theorem pred1 {n q : Nat} (h : q + 1 ≤ n) : n - 1 < n := Nat.sub_one_lt_of_lt (Nat.lt_of_lt_of_le (Nat.succ_pos q) h)
theorem predeq {i n : Nat} (h : i < n) (q : n - 1 ≤ i) : i = n - 1 := Nat.le_antisymm (Nat.le_sub_one_of_lt h) q
theorem pred2 {n q : Nat} (h : q + 1 ≤ n) : n - (q + 1) ≤ n - 1 := Nat.sub_le_sub_left (Nat.succ_le_succ (Nat.zero_le q)) n
structure Tl (N : Nat) (p : Array Nat) (n : Nat) : Prop where
  pre : ∀ i, i < n → ga p i < n
  post : ∀ j, n ≤ j → j < N → ga p j = j
theorem Tl.more {p : Array Nat} {n : Nat} (t : Tl N p n) (hn : n < N) : Tl N p (n + 1) :=
  ⟨fun i hi => by
    rcases Nat.lt_or_ge i n with q | q
    · have := t.pre i q; omega
    · have : i = n := by omega
      subst this; rw [t.post i (Nat.le_refl _) hn]; omega, fun j h1 h2 => t.post j (by omega) h2⟩
theorem Tl.rev {p : Array Nat} {n : Nat} (t : Tl N p n) (g : GoodP N p) (b : Nat) (hn : n ≤ N) : Tl N (kas_rev p b n) n := by
  have hr := ga_rev (p := p) (i := b) (j := n) (by rw [g.size]; exact hn)
  refine ⟨fun i hi => ?_, fun j h1 h2 => ?_⟩
  · rw [hr i]
    split
    · rename_i q; exact t.pre _ (rv2 q.1 q.2)
    · exact t.pre i hi
  · rw [hr j, if_neg (by omega)]; exact t.post j h1 h2
noncomputable def Up2 (lt : Nat → Nat → Bool) (p : Array Nat) (n : Nat) : Prop := ∀ i j, i < j → j < n → lt (ga p j) (ga p i) = false ∧ (lt (ga p i) (ga p j) = false → ga p i < ga p j)
noncomputable def Dn2 (lt : Nat → Nat → Bool) (p : Array Nat) (n b : Nat) : Prop := ∀ i j, i < j → j < n → lt (ga p i) (ga p j) = false ∧ (lt (ga p j) (ga p i) = false → if b ≤ i then ga p i < ga p j else ga p j < ga p i)
noncomputable def Bd (lt : Nat → Nat → Bool) (p : Array Nat) (n b : Nat) : Prop := ∀ i j, i < b → b ≤ j → j < n → lt (ga p j) (ga p i) = true
theorem Up2.upTo {p : Array Nat} {n : Nat} (h : Up2 lt p n) : UpTo lt p n := fun i j h1 h2 => (h i j h1 h2).1
/-- strict and then not less -/
theorem SO.lt_nl (o : SO lt) {a b c : Nat} (h1 : lt a b = true) (h2 : lt c b = false) : lt a c = true := by
  cases h : lt a c with
  | true => rfl
  | false => have := o.trans b c a h2 h; rw [h1] at this; cases this
theorem SO.nl_lt (o : SO lt) {a b c : Nat} (h1 : lt b a = false) (h2 : lt b c = true) : lt a c = true := by
  cases h : lt a c with
  | true => rfl
  | false => have := o.trans c a b h h1; rw [h2] at this; cases this

theorem asc2 (o : SO lt) {p : Array Nat} (g : GoodP N p) : ∀ (f n : Nat), 1 ≤ n → n + f ≤ N → Up2 lt p n → Tl N p n → KOk lt N (kas_asc p f n) fun m => n ≤ m ∧ m ≤ n + f ∧ Up2 lt p m ∧ Tl N p m ∧ (m < n + f → lt (ga p m) (ga p (m - 1)) = true)
  | 0, n, _, _, hu, ht => ⟨by omega, by omega, hu, ht, fun h => by omega⟩
  | f + 1, n, h1, h2, hu, ht => by
    refine ⟨g.ltN (by omega), g.ltN (by omega), ?_⟩
    show KOk lt N (if lt (ga p n) (ga p (n - 1)) = true then .ret n else kas_asc p f (n + 1)) _
    cases hc : lt (ga p n) (ga p (n - 1)) with
    | true => rw [if_pos rfl]; exact ⟨by omega, by omega, hu, ht, fun _ => hc⟩
    | false =>
      rw [if_neg (by simp)]
      refine KOk.mono (fun m ⟨a1, a2, a3, a4, a5⟩ => ⟨by omega, by omega, a3, a4, fun h => a5 (by omega)⟩) _ (asc2 o g f (n + 1) (by omega) (by omega) ?_ (ht.more (by omega)))
      intro i j hij hj
      rcases Nat.lt_or_ge j n with q | q
      · exact hu i j hij q
      · have : j = n := by omega
        subst this
        refine ⟨?_, fun _ => by rw [ht.post j (Nat.le_refl _) (by omega)]; exact ht.pre i hij⟩
        rcases Nat.lt_or_ge i (j - 1) with r | r
        · exact o.trans _ _ _ (hu i (j - 1) r (by omega)).1 hc
        · have : i = j - 1 := by omega
          subst this; exact hc
/-- the last block of equals is turned -/
theorem turn_blk {p : Array Nat} {n b : Nat} (g : GoodP N p) (hn : n ≤ N) (hb : b ≤ n) (hd : Dn2 lt p n b) (he : EqOn lt p b n) (hbd : Bd lt p n b) : Dn2 lt (kas_rev p b n) n n := by
  have hr := ga_rev (p := p) (i := b) (j := n) (by rw [g.size]; exact hn)
  intro i j hij hj
  rw [if_neg (Nat.not_le.mpr (Nat.lt_trans hij hj)), hr i, hr j]
  by_cases hib : b ≤ i ∧ i < n
  · have hbj : b ≤ j := Nat.le_trans hib.1 (Nat.le_of_lt hij)
    have hq := he _ _ (rv3 hib.2) (rv2 hib.1 hib.2) (rv3 hj) (rv2 hbj hj)
    rw [if_pos hib, if_pos ⟨hbj, hj⟩]
    refine ⟨hq, fun _ => ?_⟩
    have := (hd (b + n - 1 - j) (b + n - 1 - i) (rv1 hij hj) (rv2 hib.1 hib.2)).2 hq
    rw [if_pos (rv3 hj)] at this; exact this
  · have hib' : i < b := Nat.lt_of_not_le (fun q => hib ⟨q, Nat.lt_trans hij hj⟩)
    rw [if_neg hib]
    by_cases hjb : b ≤ j ∧ j < n
    · rw [if_pos hjb]
      refine ⟨(hd i _ (Nat.lt_of_lt_of_le hib' (rv3 hj)) (rv2 hjb.1 hjb.2)).1, fun q => ?_⟩
      have := hbd i (b + n - 1 - j) hib' (rv3 hj) (rv2 hjb.1 hjb.2)
      rw [q] at this; cases this
    · rw [if_neg hjb]
      refine ⟨(hd i j hij hj).1, fun q => ?_⟩
      have := (hd i j hij hj).2 q
      rw [if_neg (Nat.not_le.mpr hib')] at this; exact this
/-- a lesser one behind -/
theorem Dn2.less {p : Array Nat} {n : Nat} (o : SO lt) (hd : Dn2 lt p n n) (hs : ∀ i, i < n → lt (ga p n) (ga p i) = true) : Dn2 lt p (n + 1) n ∧ EqOn lt p n (n + 1) ∧ Bd lt p (n + 1) n := by
  refine ⟨fun i j hij hj => ?_, fun i j a1 a2 a3 a4 => ?_, fun i j h1 h2 h3 => ?_⟩
  · rw [if_neg (by omega)]
    rcases Nat.lt_or_ge j n with q | q
    · have := hd i j hij q
      rw [if_neg (by omega)] at this; exact this
    · have : j = n := by omega
      subst this
      exact ⟨o.asymm _ _ (hs i hij), fun z => by rw [hs i hij] at z; cases z⟩
  · have : i = j := by omega
    subst this; exact o.refl _
  · have : j = n := by omega
    subst this; exact hs i h1
theorem desc2 (o : SO lt) : ∀ (f : Nat) (p : Array Nat) (n q : Nat), GoodP N p → q + 1 ≤ n → n + f ≤ N → Dn2 lt p n (n - (q + 1)) → EqOn lt p (n - (q + 1)) n → Bd lt p n (n - (q + 1)) → Tl N p n →
    KOk lt N (kas_desc f p n q) fun r => GoodP N r.1 ∧ Dn2 lt r.1 r.2.1 (r.2.1 - (r.2.2 + 1)) ∧ n ≤ r.2.1 ∧ r.2.1 ≤ n + f ∧ r.2.2 + 1 ≤ r.2.1 ∧ EqOn lt r.1 (r.2.1 - (r.2.2 + 1)) r.2.1 ∧ Bd lt r.1 r.2.1 (r.2.1 - (r.2.2 + 1)) ∧ Tl N r.1 r.2.1
  | 0, p, n, q, g, h1, h2, hd, he, hb, ht => ⟨g, hd, Nat.le_refl n, Nat.le_refl n, h1, he, hb, ht⟩
  | f + 1, p, n, q, g, h1, h2, hd, he, hb, ht => by
    refine ⟨g.ltN (Nat.lt_of_lt_of_le (Nat.lt_add_of_pos_right (Nat.succ_pos f)) h2), g.ltN (Nat.lt_trans (pred1 h1) (Nat.lt_of_lt_of_le (Nat.lt_add_of_pos_right (Nat.succ_pos f)) h2)), ?_⟩
    have fin1 : ∀ {p' : Array Nat} {q' : Nat}, KOk lt N (kas_desc f p' (n + 1) q') (fun r => GoodP N r.1 ∧ Dn2 lt r.1 r.2.1 (r.2.1 - (r.2.2 + 1)) ∧ n + 1 ≤ r.2.1 ∧ r.2.1 ≤ n + 1 + f ∧ r.2.2 + 1 ≤ r.2.1 ∧ EqOn lt r.1 (r.2.1 - (r.2.2 + 1)) r.2.1 ∧ Bd lt r.1 r.2.1 (r.2.1 - (r.2.2 + 1)) ∧ Tl N r.1 r.2.1) →
        KOk lt N (kas_desc f p' (n + 1) q') (fun r => GoodP N r.1 ∧ Dn2 lt r.1 r.2.1 (r.2.1 - (r.2.2 + 1)) ∧ n ≤ r.2.1 ∧ r.2.1 ≤ n + (f + 1) ∧ r.2.2 + 1 ≤ r.2.1 ∧ EqOn lt r.1 (r.2.1 - (r.2.2 + 1)) r.2.1 ∧ Bd lt r.1 r.2.1 (r.2.1 - (r.2.2 + 1)) ∧ Tl N r.1 r.2.1) := fun h =>
      KOk.mono (fun r ⟨a1, a2, a3, a4, a5, a6, a7, a8⟩ => ⟨a1, a2, by omega, by omega, a5, a6, a7, a8⟩) _ h
    show KOk lt N (if lt (ga p n) (ga p (n - 1)) = true then (if q > 0 then kas_desc f (kas_rev p (n - (q + 1)) n) (n + 1) 0 else kas_desc f p (n + 1) 0) else _) _
    cases hc : lt (ga p n) (ga p (n - 1)) with
    | true =>
      rw [if_pos rfl]
      have hle : ∀ i, i < n → lt (ga p n) (ga p i) = true := fun i hi => by
        rcases Nat.lt_or_ge i (n - 1) with r | r
        · exact o.lt_nl hc (hd i (n - 1) r (pred1 h1)).1
        · have : i = n - 1 := predeq hi r
          subst this; exact hc
      have hr := ga_rev (p := p) (i := n - (q + 1)) (j := n) (by rw [g.size]; omega)
      have hle' : ∀ i, i < n → lt (ga (kas_rev p (n - (q + 1)) n) n) (ga (kas_rev p (n - (q + 1)) n) i) = true := fun i hi => by
        rw [hr n, if_neg (fun q => Nat.lt_irrefl _ q.2), hr i]
        split
        · rename_i z; exact hle _ (rv2 z.1 z.2)
        · exact hle _ hi
      have htb := turn_blk g (by omega) (by omega) hd he hb
      split
      · obtain ⟨d1, d2, d3⟩ := htb.less o hle'
        have := desc2 o f _ (n + 1) 0 (g.rev _ _) (by omega) (by omega) (by rw [sub01]; exact d1) (by rw [sub01]; exact d2) (by rw [sub01]; exact d3) ((ht.rev g _ (by omega)).more (by omega))
        exact fin1 this
      · have hq : q = 0 := by omega
        subst hq
        have hd' : Dn2 lt p n n := fun i j hij hj => by
          rw [if_neg (by omega)]
          refine ⟨(hd i j hij hj).1, fun z => ?_⟩
          have := (hd i j hij hj).2 z
          rw [if_neg (by omega)] at this; exact this
        obtain ⟨d1, d2, d3⟩ := hd'.less o hle
        exact fin1 (desc2 o f p (n + 1) 0 g (by omega) (by omega) (by rw [sub01]; exact d1) (by rw [sub01]; exact d2) (by rw [sub01]; exact d3) (ht.more (by omega)))
    | false =>
      rw [if_neg (by simp)]
      refine ⟨g.ltN (Nat.lt_trans (pred1 h1) (Nat.lt_of_lt_of_le (Nat.lt_add_of_pos_right (Nat.succ_pos f)) h2)), g.ltN (Nat.lt_of_lt_of_le (Nat.lt_add_of_pos_right (Nat.succ_pos f)) h2), ?_⟩
      show KOk lt N (if lt (ga p (n - 1)) (ga p n) = true then _ else _) _
      cases hdd : lt (ga p (n - 1)) (ga p n) with
      | true => rw [if_pos rfl]; exact ⟨g, hd, Nat.le_refl n, Nat.le_add_right n (f + 1), h1, he, hb, ht⟩
      | false =>
        rw [if_neg (by simp)]
        have eqn : ∀ m, n - (q + 1) ≤ m → m < n → lt (ga p m) (ga p n) = false ∧ lt (ga p n) (ga p m) = false := fun m b1 b2 =>
          ⟨o.trans _ _ _ hdd (he _ _ b1 b2 (pred2 h1) (pred1 h1)), o.trans _ _ _ (he (n - 1) m (pred2 h1) (pred1 h1) b1 b2) hc⟩
        have hbn : ∀ i, i < n - (q + 1) → lt (ga p n) (ga p i) = true := fun i hi => o.nl_lt hdd (hb i (n - 1) hi (pred2 h1) (pred1 h1))
        refine fin1 (desc2 o f p (n + 1) (q + 1) g (by omega) (by omega) ?_ ?_ ?_ (ht.more (by omega)))
        · rw [sub02]
          intro i j hij hj
          rcases Nat.lt_or_ge j n with r | r
          · exact hd i j hij r
          · have : j = n := by omega
            subst this
            by_cases hib : j - (q + 1) ≤ i
            · rw [if_pos hib]
              exact ⟨(eqn i hib hij).1, fun _ => by rw [ht.post j (Nat.le_refl _) (by omega)]; exact ht.pre i hij⟩
            · rw [if_neg hib]
              have := hbn i (by omega)
              exact ⟨o.asymm _ _ this, fun z => by rw [this] at z; cases z⟩
        · rw [sub02]
          intro i j a1 a2 a3 a4
          rcases Nat.lt_or_ge i n with r1 | r1
          · rcases Nat.lt_or_ge j n with r2 | r2
            · exact he i j (by omega) r1 (by omega) r2
            · have : j = n := by omega
              subst this; exact (eqn i (by omega) r1).1
          · have : i = n := by omega
            subst this
            rcases Nat.lt_or_ge j i with r2 | r2
            · exact (eqn j (by omega) r2).2
            · have : j = i := by omega
              subst this; exact o.refl _
        · rw [sub02]
          intro i j a1 a2 a3
          rcases Nat.lt_or_ge j n with r2 | r2
          · exact hb i j a1 a2 r2
          · have : j = n := by omega
            subst this; exact hbn i a1
theorem tail2 (o : SO lt) {p : Array Nat} {n : Nat} (g : GoodP N p) (h1 : 1 ≤ n) (hn : n ≤ N) (hd : Dn2 lt p n n) (ht : Tl N p n) : KOk lt N (kas_tail3 n N p) fun r => GoodP N r.2 ∧ Up2 lt r.2 r.1 ∧ Tl N r.2 r.1 ∧ 1 ≤ r.1 ∧ r.1 ≤ N := by
  unfold kas_tail3
  have hr := ga_rev (p := p) (i := 0) (j := n) (by rw [g.size]; omega)
  refine KOk.bind _ (KOk.mono (fun m hx => an5 hx fun a1 a2 a3 a4 _ => ⟨g.rev _ _, a3, a4, Nat.le_trans h1 a1, (by clear hx; omega : m ≤ N)⟩) _ (asc2 o (g.rev 0 n) (N - n) n h1 (by omega) ?_ (ht.rev g 0 hn)))
  intro i j hij hj
  rw [hr i, hr j, if_pos ⟨Nat.zero_le _, hj⟩, if_pos ⟨Nat.zero_le _, Nat.lt_trans hij hj⟩]
  have := hd (0 + n - 1 - j) (0 + n - 1 - i) (rv1 hij hj) (rv2 (Nat.zero_le _) (Nat.lt_trans hij hj))
  rw [if_neg (Nat.not_le.mpr (rv2 (Nat.zero_le _) hj))] at this
  exact this
theorem descPart2 (o : SO lt) {p : Array Nat} {n : Nat} (g : GoodP N p) (h1 : 1 ≤ n) (hn : n + 1 ≤ N) (hd : Dn2 lt p (n + 1) n) (he : EqOn lt p n (n + 1)) (hb : Bd lt p (n + 1) n) (ht : Tl N p (n + 1)) : KOk lt N (kas_descPart n N p) fun r => GoodP N r.2 ∧ Up2 lt r.2 r.1 ∧ Tl N r.2 r.1 ∧ 1 ≤ r.1 ∧ r.1 ≤ N := by
  unfold kas_descPart
  refine KOk.bind _ (KOk.mono (fun r hx => an8 hx fun a1 a2 a3 a4 a5 a6 a7 a8 => ?_) _ (desc2 o (N - (n + 1)) p (n + 1) 0 g (by omega) (by omega) (by rw [sub01]; exact hd) (by rw [sub01]; exact he) (by rw [sub01]; exact hb) ht))
  clear hx
  split
  · exact tail2 o (a1.rev _ _) (by omega) (by omega) (turn_blk a1 (by omega) (by omega) a2 a6 a7) (a8.rev a1 _ (by omega))
  · refine tail2 o a1 (by omega) (by omega) (fun i j hij hj => ?_) a8
    rw [if_neg (by omega)]
    refine ⟨(a2 i j hij hj).1, fun z => ?_⟩
    have := (a2 i j hij hj).2 z
    rw [if_neg (by omega)] at this; exact this
theorem count2 (o : SO lt) {p : Array Nat} (g : GoodP N p) (hN : 1 ≤ N) (h0 : ∀ j, j < N → ga p j = j) : KOk lt N (kas_count N p) fun r => GoodP N r.2 ∧ Up2 lt r.2 r.1 ∧ Tl N r.2 r.1 ∧ 1 ≤ r.1 ∧ r.1 ≤ N := by
  unfold kas_count
  have t1 : Tl N p 1 := ⟨fun i hi => by rw [h0 i (by omega)]; exact hi, fun j _ h => h0 j h⟩
  refine KOk.bind _ (KOk.mono (fun n hx => an5 hx fun a1 a2 a3 a4 a5 => ?_) _ (asc2 o g (N - 1) 1 (by omega) (by omega) (fun i j h1 h2 => by omega) t1))
  clear hx
  split
  · rename_i h
    exact ⟨g, a3, a4, a1, (by omega : n ≤ N)⟩
  · rename_i h
    have hnN : n < N := by
      have : n ≠ N := by simpa using h
      omega
    have hst := a5 (by omega)
    split
    · rename_i h1
      refine ⟨g.ltN (by omega), g.ltN (by omega), ?_⟩
      show KOk lt N (if lt (ga p 0) (ga p (n - 1)) = true then _ else _) _
      cases hc : lt (ga p 0) (ga p (n - 1)) with
      | true => rw [if_pos rfl]; exact ⟨g, a3, a4, a1, Nat.le_of_lt hnN⟩
      | false =>
        rw [if_neg (by simp)]
        have hr := ga_rev (p := p) (i := 0) (j := n) (by rw [g.size]; omega)
        have hall : ∀ i j, i < n → j < n → lt (ga p i) (ga p j) = false := fun i j hi hj => by
          have up : ∀ i, i < n → lt (ga p (n - 1)) (ga p i) = false := fun i hi => by
            rcases Nat.lt_or_ge i (n - 1) with r | r
            · exact (a3 i (n - 1) r (pred1 a1)).1
            · have : i = n - 1 := predeq hi r
              subst this; exact o.refl _
          have dn : ∀ j, j < n → lt (ga p j) (ga p 0) = false := fun j hj => by
            rcases Nat.eq_zero_or_pos j with r | r
            · subst r; exact o.refl _
            · exact (a3 0 j r hj).1
          have zero : ∀ j, j < n → lt (ga p 0) (ga p j) = false := fun j hj => o.trans _ _ _ (up j hj) hc
          exact o.trans _ _ _ (zero j hj) (dn i hi)
        have hle : ∀ i, i < n → lt (ga p n) (ga p i) = true := fun i hi => o.lt_nl hst (hall _ _ hi (by omega))
        have hd : Dn2 lt (kas_rev p 0 n) n n := fun i j hij hj => by
          have hin := Nat.lt_trans hij hj
          have ri : 0 + n - 1 - i < n := rv2 (Nat.zero_le _) hin
          have rj : 0 + n - 1 - j < n := rv2 (Nat.zero_le _) hj
          rw [if_neg (Nat.not_le.mpr hin), hr i, hr j, if_pos ⟨Nat.zero_le _, hin⟩, if_pos ⟨Nat.zero_le _, hj⟩]
          exact ⟨hall _ _ ri rj, fun _ => (a3 (0 + n - 1 - j) (0 + n - 1 - i) (rv1 hij hj) ri).2 (hall _ _ rj ri)⟩
        obtain ⟨d1, d2, d3⟩ := hd.less o fun i hi => by
          rw [hr n, if_neg (fun q => Nat.lt_irrefl _ q.2), hr i, if_pos ⟨Nat.zero_le _, hi⟩]
          exact hle _ (rv2 (Nat.zero_le _) hi)
        exact descPart2 o (g.rev _ _) (by omega) (by omega) d1 d2 d3 ((a4.rev g 0 (by omega)).more (by omega))
    · rename_i h1
      have : n = 1 := by omega
      subst this
      have hd : Dn2 lt p 1 1 := fun i j h1 h2 => by omega
      obtain ⟨d1, d2, d3⟩ := hd.less o fun i hi => by
        have : i = 0 := by omega
        subst this; exact hst
      exact descPart2 o g (by omega) (by omega) d1 d2 d3 (a4.more (by omega))
theorem bin2 (o : SO lt) : ∀ (f : Nat) (p : Array Nat) (k : Nat), GoodP N p → k + f = N → Up2 lt p k → Tl N p k → KOk lt N (kas_bin f p k) fun q => GoodP N q ∧ Up2 lt q N
  | 0, p, k, g, h, hu, _ => ⟨g, by rw [← h]; exact hu⟩
  | f + 1, p, k, g, h, hu, ht => by
    unfold kas_bin
    refine KOk.bind _ (KOk.mono (fun l hx => an3 hx fun a1 a2 a3 => ?_) _ (place_ok o g (by omega) hu.upTo k 0 k (by omega) (by omega) (by omega) (fun i h => by omega) fun i a b => by omega))
    clear hx
    have hkN : k < N := h ▸ Nat.lt_add_of_pos_right (Nat.succ_pos f)
    have hb := ga_bub (p := p) (src := k) (by rw [g.size]; exact hkN) (d := k - l) (Nat.sub_le k l)
    rw [Nat.sub_sub_self a1] at hb
    have hpk := ht.post k (Nat.le_refl _) hkN
    refine bin2 o f _ (k + 1) (g.bub _ _) (by omega) ?_ ⟨fun i hi => ?_, fun j h1 h2 => ?_⟩
    · intro i j hij hj
      have hjk : j ≤ k := Nat.le_of_lt_succ hj
      rw [hb i, hb j]
      by_cases hjl : j = l
      · subst hjl
        rw [if_pos rfl, if_neg (Nat.ne_of_lt hij), if_neg (fun q => Nat.lt_asymm q.1 hij)]
        exact ⟨a2 i hij, fun _ => by rw [hpk]; exact ht.pre i (Nat.lt_of_lt_of_le hij hjk)⟩
      · rw [if_neg hjl]
        by_cases hj2 : l < j ∧ j ≤ k
        · have hj1 : j - 1 < k := Nat.lt_of_lt_of_le (Nat.sub_one_lt_of_lt hij) hjk
          rw [if_pos hj2]
          by_cases hil : i = l
          · rw [if_pos hil]
            have := a3 (j - 1) (Nat.le_sub_one_of_lt hj2.1) hj1
            exact ⟨o.asymm _ _ this, fun z => by rw [this] at z; cases z⟩
          · rw [if_neg hil]
            by_cases hi2 : l < i ∧ i ≤ k
            · rw [if_pos hi2]; exact hu _ _ (Nat.lt_of_lt_of_le (Nat.sub_one_lt_of_lt hi2.1) (Nat.le_sub_one_of_lt hij)) hj1
            · rw [if_neg hi2]
              have hli : i < l := Nat.lt_of_le_of_ne (Nat.le_of_not_lt fun q => hi2 ⟨q, Nat.le_trans (Nat.le_of_lt hij) hjk⟩) hil
              exact hu _ _ (Nat.lt_of_lt_of_le hli (Nat.le_sub_one_of_lt hj2.1)) hj1
        · have hjl2 : j < l := Nat.lt_of_le_of_ne (Nat.le_of_not_lt fun q => hj2 ⟨q, hjk⟩) hjl
          rw [if_neg hj2, if_neg (Nat.ne_of_lt (Nat.lt_trans hij hjl2)), if_neg (fun q => Nat.lt_asymm q.1 (Nat.lt_trans hij hjl2))]
          exact hu _ _ hij (Nat.lt_of_lt_of_le hjl2 a1)
    · rw [hb i]
      split
      · rw [hpk]; exact Nat.lt_succ_self k
      · split
        · rename_i q; exact Nat.lt_succ_of_lt (ht.pre (i - 1) (Nat.lt_of_lt_of_le (Nat.sub_one_lt_of_lt q.1) q.2))
        · rename_i q1 q; exact Nat.lt_succ_of_lt (ht.pre i (Nat.lt_of_lt_of_le (Nat.lt_of_le_of_ne (Nat.le_of_not_lt fun z => q ⟨z, Nat.le_of_lt_succ hi⟩) q1) a1))
    · rw [hb j, if_neg (fun q : j = l => Nat.not_le.mpr h1 (q ▸ a1)), if_neg (fun q : l < j ∧ j ≤ k => Nat.not_le.mpr h1 q.2)]
      exact ht.post j (Nat.le_of_succ_le h1) h2
theorem ga_range (N j : Nat) (h : j < N) : ga (List.toArray (List.range N)) j = j := by simp [ga, Array.getD, h]
theorem sort2 (o : SO lt) (hN : 1 ≤ N) : KOk lt N (kas_sort N) fun p => GoodP N p ∧ Up2 lt p N := by
  unfold kas_sort
  refine KOk.bind _ (KOk.mono (fun r hx => an5 hx fun a1 a2 a3 a4 a5 => ?_) _ (count2 o (good_range N) hN (ga_range N)))
  clear hx
  split
  · refine bin2 o _ _ _ a1 (by rw [Nat.max_eq_left a4]; exact Nat.add_sub_cancel' a5) ?_ ?_
    · rw [Nat.max_eq_left a4]; exact a2
    · rw [Nat.max_eq_left a4]; exact a3
  · exact ⟨a1, by rw [show N = r.1 by omega]; exact a2⟩
end
end Mine
namespace Mine
open PySem PySem.W PyProof.Rows

-- the first ones of a stable sort
noncomputable def insG (g : Int → Int) : List Int → Int → List Int
  | [], x => [x]
  | y :: T, x => if g y ≤ g x then y :: insG g T x else x :: y :: T
theorem insG_length (g : Int → Int) (x : Int) : ∀ T, (insG g T x).length = T.length + 1
  | [] => rfl
  | y :: T => by unfold insG; split <;> simp [insG_length g x T]
theorem insG_take (g : Int → Int) (x : Int) : ∀ (T : List Int) (n : Nat), (insG g T x).take n = (insG g (T.take n) x).take n
  | [], n => by simp
  | y :: T, 0 => by simp
  | y :: T, n + 1 => by
    rw [List.take_succ_cons]
    unfold insG
    split
    · rw [List.take_succ_cons, List.take_succ_cons, insG_take g x T n]
    · rw [List.take_succ_cons, List.take_succ_cons]
      congr 1
      cases n with
      | zero => rfl
      | succ n => rw [List.take_succ_cons, List.take_succ_cons, List.take_take]; congr 2; omega
theorem insG_before {g : Int → Int} {x l : Int} (h : ¬ g l ≤ g x) : ∀ D, insG g (D ++ [l]) x = insG g D x ++ [l]
  | [] => by simp [insG, h]
  | y :: D => by
    show (if g y ≤ g x then y :: insG g (D ++ [l]) x else x :: y :: (D ++ [l])) = (if g y ≤ g x then y :: insG g D x else x :: y :: D) ++ [l]
    split
    · rw [insG_before h D]; rfl
    · rfl
theorem insG_behind {g : Int → Int} {x : Int} : ∀ {T : List Int}, (∀ y ∈ T, g y ≤ g x) → insG g T x = T ++ [x]
  | [], _ => rfl
  | y :: T, h => by
    show (if g y ≤ g x then y :: insG g T x else x :: y :: T) = _
    rw [if_pos (h y (.head _)), insG_behind fun z hz => h z (.tail _ hz)]
    rfl
/-- a new one among the first n -/
theorem insG_first {g : Int → Int} {x l : Int} {D : List Int} (hs : ∀ y ∈ D, g y ≤ g l) : (insG g (D ++ [l]) x).take (D.length + 1) = if g x < g l then insG g D x else D ++ [l] := by
  by_cases h : g x < g l
  · rw [if_pos h, insG_before (by omega), List.take_append_of_le_length (by rw [insG_length]; omega), List.take_of_length_le (by rw [insG_length]; omega)]
  · rw [if_neg h, insG_behind (by
      intro y hy
      rcases List.mem_append.mp hy with q | q
      · have := hs y q; omega
      · rw [List.mem_singleton.mp q]; omega)]
    rw [List.take_append_of_le_length (by simp), List.take_of_length_le (by simp)]
-- tuples of a key, an order and more
theorem tup_le {k o k' o' : Int} {r r' : List Int} (h : k < k' ∨ (k = k' ∧ o < o')) : (k :: o :: r : List Int) ≤ k' :: o' :: r' := by
  rw [← List.not_lt, List.cons_lt_cons_iff, List.cons_lt_cons_iff]
  rintro (q | ⟨q, q | ⟨q', _⟩⟩) <;> omega
theorem tup_key {k o k' o' : Int} {r r' : List Int} (h : (k :: o :: r : List Int) ≤ k' :: o' :: r') : k ≤ k' := by
  rw [← List.not_lt, List.cons_lt_cons_iff] at h
  have : ¬ k' < k := fun q => h (.inl q)
  omega
noncomputable def Keyed2 (g : Int → Int) (pr : List Int → Int) (o' : Int) (t : List Int) : Prop := ∃ o r, t = g (pr t) :: o :: r ∧ o < o'
noncomputable def insT (g : Int → Int) (pr : List Int → Int) : List (List Int) → List Int → List (List Int)
  | [], t => [t]
  | u :: L, t => if g (pr u) ≤ g (pr t) then u :: insT g pr L t else t :: u :: L
theorem insT_perm (g : Int → Int) (pr : List Int → Int) (t : List Int) : ∀ L, (insT g pr L t).Perm (t :: L)
  | [] => .refl _
  | u :: L => by
    unfold insT
    split
    · exact ((insT_perm g pr t L).cons u).trans (List.Perm.swap t u L)
    · exact .refl _
theorem insT_map (g : Int → Int) (pr : List Int → Int) (t : List Int) : ∀ L, (insT g pr L t).map pr = insG g (L.map pr) (pr t)
  | [] => rfl
  | u :: L => by
    show (if g (pr u) ≤ g (pr t) then u :: insT g pr L t else t :: u :: L).map pr = if g (pr u) ≤ g (pr t) then pr u :: insG g (L.map pr) (pr t) else pr t :: pr u :: L.map pr
    split
    · rw [List.map_cons, insT_map g pr t L]
    · rfl
theorem insT_sorted {g : Int → Int} {pr : List Int → Int} {t : List Int} {o' : Int} {r' : List Int} (ht : t = g (pr t) :: o' :: r') : ∀ {L : List (List Int)}, (∀ u ∈ L, Keyed2 g pr o' u) → L.Pairwise (· ≤ ·) → (insT g pr L t).Pairwise (· ≤ ·)
  | [], _, _ => List.pairwise_singleton _ _
  | u :: L, hk, hs => by
    obtain ⟨h1, h2⟩ := List.pairwise_cons.mp hs
    obtain ⟨o, r, hu, ho⟩ := hk u (.head _)
    unfold insT
    split
    · rename_i hle
      refine List.pairwise_cons.mpr ⟨fun z hz => ?_, insT_sorted ht (fun v hv => hk v (.tail _ hv)) h2⟩
      rcases List.mem_cons.mp ((insT_perm g pr t L).mem_iff.mp hz) with e | q
      · rw [e, hu, ht]; exact tup_le (by omega)
      · exact h1 z q
    · rename_i hle
      have htu : t ≤ u := by rw [hu, ht]; exact tup_le (by omega)
      refine List.pairwise_cons.mpr ⟨fun z hz => ?_, hs⟩
      rcases List.mem_cons.mp hz with e | q
      · rw [e]; exact htu
      · exact List.le_trans htu (h1 z q)
/-- a new tuple with the greatest order -/
theorem sort_ins {g : Int → Int} {pr : List Int → Int} {t : List Int} {o' : Int} {r' : List Int} (ht : t = g (pr t) :: o' :: r') {L H : List (List Int)} (hk : ∀ u ∈ L, Keyed2 g pr o' u) (hp : H.Perm (t :: L)) : (sortT H).map pr = insG g ((sortT L).map pr) (pr t) := by
  have e : sortT H = insT g pr (sortT L) t := by
    refine (sortT_uniq ?_ (insT_sorted ht (fun u hu => hk u ((sortT_perm L).mem_iff.mp hu)) (sortT_sorted L))).symm
    exact (insT_perm g pr t _).trans (((sortT_perm L).cons t).trans hp.symm)
  rw [e, insT_map]

-- the stable sort
noncomputable def tri (g : Int → Int) (xs : List Int) : List (List Int) := (List.range xs.length).map fun (i : Nat) => [g (xs.getD i 0), (i : Int), xs.getD i 0]
noncomputable def thr (t : List Int) : Int := t.getD 2 0
noncomputable def srtK (g : Int → Int) (xs : List Int) : List Int := (sortT (tri g xs)).map thr
theorem tri_length (g : Int → Int) (xs : List Int) : (tri g xs).length = xs.length := by simp [tri]
theorem srtK_length (g : Int → Int) (xs : List Int) : (srtK g xs).length = xs.length := by simp [srtK, sortT_length, tri_length]
theorem tri_append (g : Int → Int) (xs : List Int) (x : Int) : tri g (xs ++ [x]) = tri g xs ++ [[g x, (xs.length : Int), x]] := by
  unfold tri
  rw [List.length_append, List.length_singleton, List.range_succ, List.map_append]
  congr 1
  · refine List.map_congr_left fun i hi => ?_
    have hi' : i < xs.length := List.mem_range.mp hi
    have : (xs ++ [x]).getD i 0 = xs.getD i 0 := by simp [List.getD_eq_getElem?_getD, List.getElem?_append_left hi']
    rw [this]
  · simp [List.getD_eq_getElem?_getD]
theorem tri_keyed (g : Int → Int) (xs : List Int) : ∀ u ∈ tri g xs, Keyed2 g thr xs.length u := fun u hu => by
  obtain ⟨i, hi, rfl⟩ := List.mem_map.mp hu
  exact ⟨(i : Int), [xs.getD i 0], rfl, by have := List.mem_range.mp hi; omega⟩
theorem srtK_append (g : Int → Int) (xs : List Int) (x : Int) : srtK g (xs ++ [x]) = insG g (srtK g xs) x := by
  unfold srtK
  rw [tri_append]
  exact sort_ins (t := [g x, (xs.length : Int), x]) (o' := xs.length) rfl (tri_keyed g xs) List.perm_append_comm
theorem srtK_sorted (g : Int → Int) (xs : List Int) : (srtK g xs).Pairwise fun a b => g a ≤ g b := by
  unfold srtK
  rw [List.pairwise_map]
  refine (sortT_sorted (tri g xs)).imp_of_mem fun {a b} ha hb h => ?_
  obtain ⟨o, r, ea, _⟩ := tri_keyed g xs a ((sortT_perm _).mem_iff.mp ha)
  obtain ⟨o2, r2, eb, _⟩ := tri_keyed g xs b ((sortT_perm _).mem_iff.mp hb)
  rw [ea, eb] at h
  exact tup_key h
theorem srtK_perm (g : Int → Int) (xs : List Int) : (srtK g xs).Perm xs := by
  unfold srtK
  refine ((sortT_perm (tri g xs)).map thr).trans (List.Perm.of_eq ?_)
  unfold tri
  rw [List.map_map]
  apply List.ext_getElem (by simp)
  intro i h1 h2
  simp [thr, h2]
/-- the first n, step by step -/
noncomputable def firstN (g : Int → Int) (n : Nat) (xs : List Int) : List Int := (srtK g xs).take n
theorem firstN_step (g : Int → Int) (n : Nat) (xs : List Int) (x : Int) : firstN g n (xs ++ [x]) = (insG g (firstN g n xs) x).take n := by
  unfold firstN
  rw [srtK_append, insG_take]
/-- a heap that holds the first n -/
structure Best (g : Int → Int) (pr : List Int → Int) (n : Nat) (ys : List Int) (o' : Int) (H : List (List Int)) : Prop where
  len : H.length = n
  key : ∀ u ∈ H, Keyed2 g pr o' u
  is : (sortT H).map pr = firstN g n ys
theorem sort_last_max {top : List Int} {rest H : List (List Int)} (hp : H.Perm (top :: rest)) (hm : ∀ z ∈ rest, z ≤ top) : sortT H = sortT rest ++ [top] := by
  refine (sortT_uniq ?_ ?_).symm
  · exact (List.perm_append_comm.trans ((sortT_perm rest).cons top)).trans hp.symm
  · rw [List.pairwise_append]
    refine ⟨sortT_sorted rest, List.pairwise_singleton _ _, fun a ha b hb => ?_⟩
    rw [List.mem_singleton.mp hb]
    exact hm a ((sortT_perm rest).mem_iff.mp ha)
theorem Best.step {g : Int → Int} {pr : List Int → Int} {n : Nat} {ys : List Int} {o' : Int} {H rest H' : List (List Int)} {top t : List Int} {r' : List Int} (b : Best g pr n ys o' H) (hp : H.Perm (top :: rest)) (hm : ∀ z ∈ rest, z ≤ top) (ht : t = g (pr t) :: o' :: r') (hlt : g (pr t) < g (pr top)) (hp' : H'.Perm (t :: rest)) :
    Best g pr n (ys ++ [pr t]) (o' + 1) H' := by
  have hl := b.len
  have hl2 := hp.length_eq
  have hsl := sort_last_max hp hm
  have hk : ∀ u ∈ rest, Keyed2 g pr o' u := fun u hu => b.key u (hp.mem_iff.mpr (.tail _ hu))
  refine ⟨by rw [hp'.length_eq, ← hl, hl2]; simp, fun u hu => ?_, ?_⟩
  · rcases List.mem_cons.mp (hp'.mem_iff.mp hu) with e | q
    · rw [e]; exact ⟨o', r', ht, by omega⟩
    · obtain ⟨o, r, e1, e2⟩ := hk u q; exact ⟨o, r, e1, by omega⟩
  · rw [firstN_step, ← b.is, hsl, List.map_append, List.map_singleton]
    have hn : n = ((sortT rest).map pr).length + 1 := by rw [List.length_map, sortT_length, ← hl, hl2]; simp
    rw [hn, insG_first, if_pos hlt]
    · exact sort_ins ht hk hp'
    · intro y hy
      obtain ⟨u, hu, e⟩ := List.mem_map.mp hy
      have hu' := (sortT_perm rest).mem_iff.mp hu
      obtain ⟨o, r, e1, _⟩ := hk u hu'
      obtain ⟨o2, r2, e3, _⟩ := b.key top (hp.mem_iff.mpr (.head _))
      have := hm u hu'
      rw [e1, e3] at this
      have q := tup_key this
      rw [← e]; exact q
theorem Best.skip {g : Int → Int} {pr : List Int → Int} {n : Nat} {ys : List Int} {o' : Int} {H rest : List (List Int)} {top : List Int} {x : Int} (b : Best g pr n ys o' H) (hp : H.Perm (top :: rest)) (hm : ∀ z ∈ rest, z ≤ top) (hlt : ¬ g x < g (pr top)) :
    Best g pr n (ys ++ [x]) o' H := by
  have hl := b.len
  have hl2 := hp.length_eq
  have hsl := sort_last_max hp hm
  refine ⟨hl, b.key, ?_⟩
  rw [firstN_step, ← b.is, hsl, List.map_append, List.map_singleton]
  have hn : n = ((sortT rest).map pr).length + 1 := by rw [List.length_map, sortT_length, ← hl, hl2]; simp
  rw [hn, insG_first, if_neg hlt]
  intro y hy
  obtain ⟨u, hu, e⟩ := List.mem_map.mp hy
  have hu' := (sortT_perm rest).mem_iff.mp hu
  obtain ⟨o, r, e1, _⟩ := b.key u (hp.mem_iff.mpr (.tail _ hu'))
  obtain ⟨o2, r2, e3, _⟩ := b.key top (hp.mem_iff.mpr (.head _))
  have := hm u hu'
  rw [e1, e3] at this
  have q := tup_key this
  rw [← e]; exact q
end Mine
namespace Mine
open PySem PySem.W PyProof.Rows
section
variable {C : Cx} {k : Nat} {F : FE} {σ : St}
-- calls with keywords
noncomputable def TKs (C : Cx) (k : Nat) (F : FE) (p : Pos) (kws : List Keyword) (σ : St) (Q : List V → St → Prop) : Prop := TT C k F Reps (evalAll ((backToKw p (keywordEach kws F.env)).map (·.2))) σ Q
theorem ks_nil {p : Pos} {Q : List V → St → Prop} (h : Q [] σ) : TKs C k F p [] σ Q := fun A s hA S => wpAny_evalAll_nil (post_pure S .nil h)
theorem ks_cons {p : Pos} {n : Option Str} {e : Expr} {q : Pos} {r : List Keyword} {Q : List V → St → Prop} (h : TE C k F e σ fun v σ₁ => TKs C k F p r σ₁ fun vs σ₂ => Q (v :: vs) σ₂) : TKs C k F p (⟨n, e, q⟩ :: r) σ Q :=
  fun A s hA S => by
    show wpAny _ A (evalAll ((do let v ← eval e F.env; standAt p; pure v) :: (backToKw p (keywordEach r F.env)).map (·.2))) _ _ s
    refine wpAny_evalAll_cons (wpAny_bind (go (h A s hA S) fun v v' σ₁ s₁ rv S₁ M₁ h₁ => wpAny_bind (wpAny_standAt (wpAny_pure ?_))))
    exact wpAny_mono (h₁ A s₁ hA S₁) (fun vs' s₂ ⟨vs, σ₂, rvs, S₂, M₂, h₂⟩ => ⟨v :: vs, σ₂, .cons (M₂.rep S₁ rv) rvs, S₂, M₁.trans S₁ M₂, h₂⟩) fun _ _ x => x
noncomputable def CallKW (C : Cx) (k : Nat) (F : FE) (f : V) (vs : List V) (ns : List Str) (ks : List V) (σ : St) (Q : V → St → Prop) : Prop :=
  ∀ A s f' vs' ks', Room C k F A → Sim C.GB F σ s.heap → Rep s.heap f f' → Reps s.heap vs vs' → Reps s.heap ks ks' → wpAny (model C.prog C.w) A (call f' vs' (ns.zip ks')) (Post C F Rep σ s Q) No s
theorem e_callkw {fe : Expr} {es : List Expr} {kws : List Keyword} {p : Pos} {ns : List Str} {Q : V → St → Prop} (h : TE C k F fe σ fun f σ₁ => TEs C k F p es σ₁ fun vs σ₂ => TKs C k F p kws σ₂ fun ks σ₃ => IsFun C.GB f ∧ CallKW C k F f vs ns ks σ₃ Q)
    (hn : eval (.Call fe es kws p) F.env = (do callWith p (← eval fe F.env) [] (backTo p (starEach es F.env)) (backToKw p (keywordEach kws F.env))) := by rfl)
    (hs : (starEach es F.env).all (fun x => !x.1) = true := by rfl) (hks : (backToKw p (keywordEach kws F.env)).all (·.1.isSome) = true := by rfl) (hns : (backToKw p (keywordEach kws F.env)).filterMap (·.1) = ns := by rfl)
    (hes : ∃ t r', backTo p (starEach es F.env) = (false, t) :: r' := by exact ⟨_, _, rfl⟩) : TE C k F (.Call fe es kws p) σ Q :=
  fun A s hA S => by
    rw [TE] at h
    show wpAny _ A (eval (.Call fe es kws p) F.env) _ _ s
    rw [hn]
    refine wpAny_bind (go (h A s hA S) fun f f' σ₁ s₁ rf S₁ M₁ h₁ => ?_)
    have hst : ((backTo p (starEach es F.env)).any (·.1) || (backToKw p (keywordEach kws F.env)).any (·.1.isNone)) = false := by
      have h1 : (backTo p (starEach es F.env)).any (·.1) = false := by
        rw [List.any_eq_false]
        intro x hx
        obtain ⟨y, hy, rfl⟩ := List.mem_map.mp hx
        have := List.all_eq_true.mp hs y hy
        simpa using this
      have h2 : (backToKw p (keywordEach kws F.env)).any (·.1.isNone) = false := by
        rw [List.any_eq_false]
        intro x hx
        have := List.all_eq_true.mp hks x hx
        cases hq : x.1 <;> simp [hq] at this ⊢
      rw [h1, h2]; rfl
    refine callWith_of (P := fun h => Rep h f f' ∧ IsFun C.GB f ∧ ∀ b o, C.GB.get? b = some o → h.get? b = some o) hst (fun h ⟨r, hf, hb⟩ => keeper_of hf r hb) ?_
    obtain ⟨t, r', het⟩ := hes
    rw [het]
    refine PySem.evalArgs_kw hks ?_
    rw [← het, hns]
    refine go (h₁ A s₁ hA S₁) fun vs vs' σ₂ s₂ rv S₂ M₂ h₂ => go (h₂ A s₂ hA S₂) fun ks ks' σ₃ s₃ rk S₃ M₃ ⟨hf, h₃⟩ => ?_
    refine ⟨⟨(M₃.rep S₂ (M₂.rep S₁ rf)), hf, S₃.base⟩, ?_⟩
    exact fin S₃ ((M₁.trans S₁ M₂).trans S₂ M₃) (h₃ A s₃ f' vs' ks' hA S₃ (M₃.rep S₂ (M₂.rep S₁ rf)) (M₃.reps S₂ rv) rk)
end
end Mine
namespace Mine
open PySem PySem.W PyProof.Rows

-- the sort by a key, plain
theorem stab_list {n : Nat} {r : List Nat} {g : Int → Int} {zs : List Int} (hn : zs.length = n) (hr : r.Perm (List.range n)) (hs : r.Pairwise fun a b => g (zs.getD a 0) < g (zs.getD b 0) ∨ (g (zs.getD a 0) = g (zs.getD b 0) ∧ a < b)) : r.map (fun i => zs.getD i 0) = srtK g zs := by
  have e : r.map (fun (i : Nat) => [g (zs.getD i 0), (i : Int), zs.getD i 0]) = sortT (tri g zs) := by
    refine sortT_uniq ?_ ?_
    · unfold tri; rw [hn]; exact hr.map _
    · rw [List.pairwise_map]
      exact hs.imp fun h => tup_le (by omega)
  unfold srtK
  rw [← e, List.map_map]
  rfl
noncomputable def negF (kf : Int → Int) : Int → Int := fun y => -(kf (-y))
noncomputable def negL (xs : List Int) : List Int := xs.map fun x => -x
theorem negL_negL (xs : List Int) : negL (negL xs) = xs := by
  unfold negL
  rw [List.map_map]
  exact List.map_id'' (fun x => Int.neg_neg x) xs
noncomputable def srtB (b : Bool) (kf : Int → Int) (xs : List Int) : List Int := if b then negL (srtK (negF kf) (negL xs)) else srtK kf xs
theorem srtB_length (b : Bool) (kf : Int → Int) (xs : List Int) : (srtB b kf xs).length = xs.length := by
  unfold srtB
  split
  · simp [negL, srtK_length]
  · exact srtK_length _ _
theorem getD_neg (xs : List Int) (i : Nat) : (negL xs).getD i 0 = -(xs.getD i 0) := by
  unfold negL
  rw [List.getD_eq_getElem?_getD, List.getD_eq_getElem?_getD, List.getElem?_map]
  cases xs[i]? <;> simp
theorem katRev_perm {α : Type} (b : Bool) (l : List α) : (katRev b l).Perm l := by
  unfold katRev
  split
  · exact List.reverse_perm l
  · exact .refl _
theorem srtB_of {b : Bool} {kf : Int → Int} {xs : List Int} {p : Array Nat} (g : GoodP xs.length p) (u : Up2 (fun i j => decide (kf ((katRev b xs).getD i 0) < kf ((katRev b xs).getD j 0))) p xs.length) :
    katRev b (p.toList.map fun i => (katRev b xs).getD i 0) = srtB b kf xs := by
  have hsz : p.toList.length = xs.length := by rw [Array.length_toList, g.size]
  have hga : ∀ i (hi : i < p.toList.length), p.toList[i] = ga p i := fun i hi => by
    have hi' : i < p.size := by simpa using hi
    simp [ga, Array.getD, hi']
  cases b with
  | false =>
    show p.toList.map (fun i => xs.getD i 0) = srtK kf xs
    refine stab_list rfl g.perm ?_
    rw [List.pairwise_iff_getElem]
    intro i j hi hj hij
    obtain ⟨h1, h2⟩ := u i j hij (by omega)
    rw [hga i hi, hga j hj]
    have h1' : ¬ kf (xs.getD (ga p j) 0) < kf (xs.getD (ga p i) 0) := by simpa [katRev] using h1
    have h2' : ¬ kf (xs.getD (ga p i) 0) < kf (xs.getD (ga p j) 0) → ga p i < ga p j := fun q => h2 (by simpa [katRev] using q)
    by_cases q : kf (xs.getD (ga p i) 0) < kf (xs.getD (ga p j) 0)
    · exact .inl q
    · exact .inr ⟨by omega, h2' q⟩
  | true =>
    have hrev : ∀ i, i < xs.length → xs.reverse.getD i 0 = xs.getD (xs.length - 1 - i) 0 := fun i hi => by
      rw [List.getD_eq_getElem?_getD, List.getD_eq_getElem?_getD, List.getElem?_reverse hi]
    have hlt : ∀ i (hi : i < xs.length), ga p i < xs.length := fun i hi => g.ltN hi
    show (p.toList.map fun i => xs.reverse.getD i 0).reverse = negL (srtK (negF kf) (negL xs))
    have key : ((p.toList.map fun i => xs.length - 1 - i).reverse).map (fun i => (negL xs).getD i 0) = srtK (negF kf) (negL xs) := by
      refine stab_list (n := xs.length) (by simp [negL]) ?_ ?_
      · refine (List.reverse_perm _).trans ((g.perm.map _).trans ?_)
        refine (List.perm_ext_iff_of_nodup ?_ List.nodup_range).mpr fun a => ?_
        · rw [List.Nodup, List.pairwise_map]
          refine List.nodup_range.imp_of_mem fun {a b} ha hb h e => h ?_
          have ha := List.mem_range.mp ha
          have hb := List.mem_range.mp hb
          exact (Nat.sub_sub_self (Nat.le_sub_one_of_lt ha)).symm.trans ((congrArg (xs.length - 1 - ·) e).trans (Nat.sub_sub_self (Nat.le_sub_one_of_lt hb)))
        · rw [List.mem_map, List.mem_range]
          constructor
          · rintro ⟨c, hc, e⟩; have := List.mem_range.mp hc; omega
          · intro ha; exact ⟨xs.length - 1 - a, List.mem_range.mpr (Nat.lt_of_le_of_lt (Nat.sub_le _ _) (Nat.sub_one_lt_of_lt ha)), Nat.sub_sub_self (Nat.le_sub_one_of_lt ha)⟩
      · rw [List.pairwise_reverse, List.pairwise_map, List.pairwise_iff_getElem]
        intro i j hi hj hij
        obtain ⟨h1, h2⟩ := u i j hij (by omega)
        rw [hga i hi, hga j hj]
        have li := hlt i (by omega)
        have lj := hlt j (by omega)
        simp only [katRev, if_true, hrev _ li, hrev _ lj] at h1 h2
        simp only [negF, getD_neg, Int.neg_neg]
        have h1' : ¬ kf (xs.getD (xs.length - 1 - ga p j) 0) < kf (xs.getD (xs.length - 1 - ga p i) 0) := by simpa using h1
        have h2' : ¬ kf (xs.getD (xs.length - 1 - ga p i) 0) < kf (xs.getD (xs.length - 1 - ga p j) 0) → ga p i < ga p j := fun q => h2 (by simpa using q)
        by_cases q : kf (xs.getD (xs.length - 1 - ga p i) 0) < kf (xs.getD (xs.length - 1 - ga p j) 0)
        · left; omega
        · right; have h3 := h2' q; exact ⟨by omega, Nat.sub_lt_sub_left (Nat.lt_of_lt_of_le h3 (Nat.le_sub_one_of_lt lj)) h3⟩
    rw [← key]
    unfold negL
    rw [List.map_map, List.map_reverse, List.map_map]
    congr 1
    refine List.map_congr_left fun i hi => ?_
    have hi' : i < xs.length := List.mem_range.mp (g.perm.mem_iff.mp hi)
    show xs.reverse.getD i 0 = -((negL xs).getD (xs.length - 1 - i) 0)
    rw [hrev i hi', getD_neg]; omega
theorem srtB_perm (b : Bool) (kf : Int → Int) (xs : List Int) : (srtB b kf xs).Perm xs := by
  unfold srtB
  split
  · have := (srtK_perm (negF kf) (negL xs)).map (fun x : Int => -x)
    have e : (negL xs).map (fun x : Int => -x) = xs := negL_negL xs
    rw [e] at this
    exact this
  · exact srtK_perm _ _
theorem srtB_short {b : Bool} {kf : Int → Int} {xs ys : List Int} (h : xs.length < 2) (hp : ys.Perm xs) : ys = srtB b kf xs := by
  have q := srtB_perm b kf xs
  rcases Nat.lt_succ_iff_lt_or_eq.mp h with h | h
  · obtain rfl := List.length_eq_zero_iff.mp (Nat.lt_one_iff.mp h)
    rw [hp.eq_nil, q.eq_nil]
  · obtain ⟨x, rfl⟩ := List.length_eq_one_iff.mp h
    rw [List.perm_singleton.mp hp, List.perm_singleton.mp q]
theorem srtB_id {b : Bool} {xs ys : List Int} (hp : ys.Perm xs) (ho : ys.Pairwise fun x y => if b then y ≤ x else x ≤ y) : ys = srtB b (fun x => x) xs := by
  cases b with
  | false =>
    have hs := srtK_sorted (fun x => x) xs
    exact ksm_same (hp.trans (srtK_perm _ xs).symm) ho hs
  | true =>
    show ys = negL (srtK (negF fun x => x) (negL xs))
    have hs := srtK_sorted (negF fun x => x) (negL xs)
    have e : negL ys = srtK (negF fun x => x) (negL xs) := by
      refine ksm_same ?_ ?_ ?_
      · exact (hp.map _).trans (srtK_perm _ (negL xs)).symm
      · unfold negL
        rw [List.pairwise_map]
        exact ho.imp fun h => by simp at h; omega
      · exact hs.imp fun h => by simp [negF] at h; exact h
    rw [← e, negL_negL]
end Mine
namespace Mine
open PySem PySem.W PyProof.Rows
/-- what a call of the key gives -/
noncomputable def KeyCall (C : Cx) (a : Addr) (kf : Int → Int) : Prop := ∀ (A : Around) (s : Shared) (x : Int) (t : Tok) (Q : Value → Shared → Prop) (E : Value → Shared → Prop), (∀ b o, C.GB.get? b = some o → s.heap.get? b = some o) → A.depth + 2 < recursionLimit → A.units + 20 < cLine →
  (∀ h' tk t', (∀ b o, s.heap.get? b = some o → h'.get? b = some o) → Q (.int (kf x) t') { s with heap := h', toks := tk }) → wpAny (model C.prog C.w) A (call (.ref a) [.int x t]) Q E s
section
variable {C : Cx} {k : Nat} {F : FE} {σ : St}
theorem ints_append {vs us : List Value} {xs ys : List Int} (h1 : IntsAre vs xs) (h2 : IntsAre us ys) : IntsAre (vs ++ us) (xs ++ ys) := by
  induction h1 with
  | nil => exact h2
  | cons n t _ ih => exact .cons n t ih
theorem ints_rev {vs : List Value} {xs : List Int} (h : IntsAre vs xs) : IntsAre vs.reverse xs.reverse := by
  induction h with
  | nil => exact .nil
  | cons n t _ ih => rw [List.reverse_cons, List.reverse_cons]; exact ints_append ih (.cons n t .nil)
theorem ints_katRev {b : Bool} {vs : List Value} {xs : List Int} (h : IntsAre vs xs) : IntsAre (katRev b vs) (katRev b xs) := by
  unfold katRev
  split
  · exact ints_rev h
  · exact h
theorem ints_pick {vs : List Value} {xs : List Int} (h : IntsAre vs xs) : ∀ (l : List Nat), (∀ i ∈ l, i < xs.length) → IntsAre (l.map fun i => vs.getD i Value.none) (l.map fun i => xs.getD i 0)
  | [], _ => .nil
  | i :: l, hl => by
    have hi := hl i (.head _)
    obtain ⟨t, e⟩ := ints_get h (List.getElem?_eq_getElem hi)
    have e1 : vs.getD i Value.none = .int xs[i] t := by rw [List.getD_eq_getElem?_getD, e]; rfl
    have e2 : xs.getD i 0 = xs[i] := by simp [hi]
    rw [List.map_cons, List.map_cons, e1, e2]
    exact .cons _ _ (ints_pick h l fun j hj => hl j (.tail _ hj))
theorem ints_short {vs out : List Value} {xs : List Int} (hi : IntsAre vs xs) (h2 : xs.length < 2) (hp : out.Perm vs) : ∃ ys, IntsAre out ys ∧ ys.Perm xs := by
  cases hi with
  | nil => rw [hp.eq_nil]; exact ⟨[], .nil, .refl _⟩
  | cons n t hi =>
    cases hi with
    | nil => rw [List.perm_singleton.mp hp]; exact ⟨[n], .cons n t .nil, .refl _⟩
    | cons _ _ _ => simp at h2; omega
theorem keys_go {a kS L : Addr} {kf : Int → Int} {A : Around} {m : Str → Option Value} {rest : List (Addr × Obj)} (kc : KeyCall C a kf) (hd : A.depth + 2 < recursionLimit) (hu : A.units + 20 < cLine) (hx : ∀ p ∈ rest, p.1 ≠ kS) {Fin : List Value → Nat → Shared → Prop} :
    ∀ (r : List Value) (ys : List Int) (ks : List Value) (e : Nat) (st : Shared), IntsAre r ys → Fr {} L st.heap m → News {} L st.heap ((kS, seqObj "list" (List.toArray ks) e) :: rest) → (∀ b o, C.GB.get? b = some o → ∃ p ∈ rest, p = (b, o)) →
      (∀ ks2 e2 h2 tk2, IntsAre ks2 (ys.map kf) → Fr {} L h2 m → News {} L h2 ((kS, seqObj "list" (List.toArray (ks ++ ks2)) e2) :: rest) → Fin (ks ++ ks2) e2 { st with heap := h2, toks := tk2 }) →
      KatKeys C.prog C.w A {} L m kS (.ref a) Fin r ks e st
  | [], ys, ks, e, st, hi, F', N, hb, fin => by
    cases hi
    have := fin [] e st.heap st.toks .nil F' (by simpa using N)
    simp at this
    exact KatKeys.nil this
  | v :: r, ys, ks, e, st, hi, F', N, hb, fin => by
    cases hi with
    | cons n t hi =>
      rename_i ys'
      refine KatKeys.cons (kc A st n t _ _ (fun b o hbo => by obtain ⟨p, hp, rfl⟩ := hb b o hbo; exact (N _ (.tail _ hp)).1) hd hu fun h' tk t' kp => ?_)
      refine KatBack.intro (s := { st with heap := h', toks := tk }) (F'.kept kp) (N.grown kp) (.head hx) fun h2 c F2 N2 => ?_
      refine keys_go kc hd hu hx r ys' (ks ++ [.int (kf n) t']) c { st with heap := h2, toks := tk } hi F2 N2 hb fun ks2 e2 h3 tk3 hk2 F3 N3 => ?_
      have := fin (.int (kf n) t' :: ks2) e2 h3 tk3 (.cons _ _ hk2) F3 (by simpa using N3)
      simpa using this
set_option maxHeartbeats 4000000 in
theorem call_sorted_key {l a : Addr} {xs : List Int} {kf : Int → Int} {b : Bool} {kw : List (Str × Value)} {A : Around} {s : Shared} {Q : V → St → Prop} (hA : Room C k F A) (hk : 3 ≤ k) (S : Sim C.GB F σ s.heap) (hs : (σ.sto l).bind O.items = some (xs.map V.int)) (h64 : xs.length < 64) (kc : KeyCall C a kf)
    (ha1 : argsOk "sorted" ⟨[.ref l], kw⟩) (ha2 : ∀ x, argsOk "list.sort" ⟨[.ref x], kw⟩) (ht : ∀ x, Builtin.«list.sort» ⟨[.ref x], kw⟩ = ksk_tree x (.ref a) b)
    (hgl : C.GB.get? F.env.locals = none) (h : ∀ D, σ.sto D = none → Q (.ref D) (σ.setSto D (.lst ((srtB b kf xs).map V.int)))) : wpAny (model C.prog C.w) A (call (.builtin "sorted") [.ref l] kw) (Post C F Rep σ s Q) No s := by
  obtain ⟨hb, vs', hL, hr⟩ := S.list hs
  have hi := ints_reps hr
  have hlen : vs'.length = xs.length := by simpa using hr.length
  obtain ⟨m, hn, hl⟩ := S.frame
  have hd : A.depth + 2 < recursionLimit := by have := hA.2.1; omega
  have hu : A.units + 24 < cLine := by have := hA.2.2.1; omega
  have done : ∀ D h' tk c (out : List Value), Fr {} F.env.locals h' m → News {} F.env.locals h' ((D, seqObj "list" (List.toArray out) c) :: allNews s.heap F.env.locals) → (∀ q ∈ allNews s.heap F.env.locals, q.1 < D) → IntsAre out (srtB b kf xs) → Post C F Rep σ s Q (.ref D) { s with heap := h', toks := tk } := fun D h' tk c out F' N' hlt hio => by
    obtain ⟨S', kp⟩ := S.ledger hn hl F' fun p hp => N' p (.tail _ hp)
    have ho := (N' _ (.head _)).1
    have hDL := (N' _ (.head _)).2.1
    have hDn : s.heap.get? D = none := by
      cases hq : s.heap.get? D with
      | none => rfl
      | some o => exact absurd (hlt (D, o) (allNews_mem hDL hq)) (Nat.lt_irrefl _)
    have hgb : C.GB.get? D = none := by
      cases hq : C.GB.get? D with
      | none => rfl
      | some o => have := S.base D o hq; rw [hDn] at this; cases this
    refine ⟨.ref D, σ.setSto D (.lst ((srtB b kf xs).map V.int)), .ref D, S'.adopt ⟨by rw [List.length_map, srtB_length]; simpa using hb, out, c, ho, reps_ints hio⟩ hgb hDL fun p hp q => ?_, (Mod.ledger (tk := tk) S F'.ns kp).adopt hDn, h D (S.fresh_none hDn)⟩
    obtain ⟨v₀, oc, hoc, _⟩ := S.cells p hp
    rw [q, hDn] at hoc; cases hoc
  have hbase : ∀ b o, C.GB.get? b = some o → ∃ p ∈ allNews s.heap F.env.locals, p = (b, o) := fun b o e => ⟨(b, o), allNews_mem (fun q => by rw [q, hgl] at e; cases e) (S.base b o e), rfl⟩
  by_cases h2 : xs.length < 2
  · refine ksk_sorted (kz := xs.map kf) (b := b) (fr_empty hn) (news_all s.heap F.env.locals) hL (by rw [List.length_map, hlen]) (by omega) ha1 ha2 ht (fun i v kk hv hk h' tk own F' N' => ?_) fun D h' tk out c F' N' hlt hout => ?_
    · obtain ⟨x, hx⟩ : ∃ x, xs[i]? = some x := by
        cases q : xs[i]? with
        | none => rw [List.getElem?_map, q] at hk; cases hk
        | some x => exact ⟨x, rfl⟩
      obtain ⟨t, ht'⟩ := ints_get hi hx
      rw [hv] at ht'; cases ht'
      have ek : kk = kf x := by rw [List.getElem?_map, hx] at hk; simpa using hk.symm
      subst ek
      exact kc A.in1.in1 { s with heap := h', toks := tk } x t _ _ (fun b o e => by obtain ⟨p, hp, rfl⟩ := hbase b o e; exact (N' _ (List.mem_append_left _ hp)).1) hd (by show A.units + 1 + 1 + 20 < cLine; omega) fun h2 tk2 t2 kp => KskEnd.intro (F'.kept kp) (N'.grown kp) fun p hp => hp
    · obtain ⟨ps, hp1, hp2, _⟩ := hout
      have hout2 : out.toList.Perm vs' := by
        rw [hp2]
        refine (hp1.map Prod.snd).trans (List.Perm.of_eq ?_)
        rw [List.map_snd_zip (by rw [List.length_map, hlen]; exact Nat.le_refl _)]
      obtain ⟨ys, hy1, hy2⟩ := ints_short hi h2 hout2
      have := srtB_short (b := b) (kf := kf) h2 hy2
      subst this
      exact done D h' tk c out.toList F' (by simpa using N') hlt hy1
  · refine kat_sortedK (b := b) (fr_empty hn) (news_all s.heap F.env.locals) hL (by omega) (by omega) ha1 ha2 ht fun D kS e1 h' F' N' hDk hlt => ?_
    refine keys_go kc (A := A.in1.in1) hd (by show A.units + 1 + 1 + 20 < cLine; omega) (fun p hp => ?_) vs' xs [] 0 { s with heap := h' } hi F' N' (fun b o e => by obtain ⟨p, hp, e'⟩ := hbase b o e; exact ⟨p, .tail _ hp, e'⟩) fun ks e2 h2' tk2 hks F2 N2 => ?_
    · rcases List.mem_cons.mp hp with e | hp
      · rw [e]; exact Nat.ne_of_lt hDk
      · exact Nat.ne_of_lt (Nat.lt_trans (hlt p hp) hDk)
    · rw [List.nil_append] at N2 ⊢
      have hkl : ks.length = xs.length := by have := hks.length; simpa using this
      refine wpAny_of_eq (ksk_kind (by simpa using hks) (by rw [List.size_toArray]; omega)) ?_
      rw [hlen]
      have hkr := ints_katRev (b := b) hks
      have egd : ∀ i, (katRev b (xs.map kf)).getD i 0 = if i < xs.length then kf ((katRev b xs).getD i 0) else 0 := fun i => by
        unfold katRev
        by_cases hix : i < xs.length
        · rw [if_pos hix]
          split
          · rw [← List.map_reverse, List.getD_eq_getElem?_getD, List.getElem?_map, List.getElem?_eq_getElem (by simpa using hix)]; simp [hix, List.getD_eq_getElem?_getD]
          · rw [List.getD_eq_getElem?_getD, List.getElem?_map, List.getElem?_eq_getElem hix]; simp [hix]
        · rw [if_neg hix]
          split
          · simp [List.getD_eq_getElem?_getD, Nat.le_of_not_lt hix]
          · simp [List.getD_eq_getElem?_getD, Nat.le_of_not_lt hix]
      refine KOk.wp (lt := fun i j => decide (kf ((katRev b xs).getD i 0) < kf ((katRev b xs).getD j 0))) (N := xs.length) (fun i j Cc hii hjj hC => ?_) _ (sort2 ⟨fun x y q => by simp at q ⊢; omega, fun x y z q1 q2 => by simp at q1 q2 ⊢; omega⟩ (by omega)) fun p ⟨g, u⟩ => ?_
      · unfold kas_ask
        have hii' : i < (katRev b (xs.map kf)).length := by rw [kat_len, List.length_map]; exact hii
        have hjj' : j < (katRev b (xs.map kf)).length := by rw [kat_len, List.length_map]; exact hjj
        obtain ⟨t1, e1'⟩ := ints_get hkr (List.getElem?_eq_getElem hii')
        obtain ⟨t2, e2'⟩ := ints_get hkr (List.getElem?_eq_getElem hjj')
        have f1 : (katRev b ks).getD i Value.none = .int (kf ((katRev b xs).getD i 0)) t1 := by
          rw [List.getD_eq_getElem?_getD, e1']
          have := egd i
          rw [if_pos hii] at this
          rw [← this]; simp [hii']
        have f2 : (katRev b ks).getD j Value.none = .int (kf ((katRev b xs).getD j 0)) t2 := by
          rw [List.getD_eq_getElem?_getD, e2']
          have := egd j
          rw [if_pos hjj] at this
          rw [← this]; simp [hjj']
        rw [f1, f2]
        exact kat_lt_int hC
      · have hio : IntsAre (katRev b (p.toList.map fun i => (katRev b vs').getD i Value.none)) (srtB b kf xs) := by
          rw [← srtB_of g u]
          exact ints_katRev (ints_pick (ints_katRev hi) _ fun i hi' => by rw [kat_len]; exact List.mem_range.mp (g.perm.mem_iff.mp hi'))
        refine KatFin.intro (s := { s with heap := h2', toks := tk2 }) F2 N2 (.head fun p hp => ?_) fun h3 c3 F3 N3 => ?_
        · rcases List.mem_cons.mp hp with e | hp
          · rw [e]; exact Nat.ne_of_lt hDk
          · exact Nat.ne_of_lt (Nat.lt_trans (hlt p hp) hDk)
        · refine KasFin.intro (s := { s with heap := h3, toks := tk2 }) F3 (fun p hp => N3 p (.tail _ hp)) (.head fun q hq => Nat.ne_of_lt (hlt q hq)) fun h4 c4 F4 N4 => ?_
          exact done D h4 tk2 c4 _ F4 N4 hlt hio
end
end Mine
set_option maxRecDepth 100000
namespace Mine
open PySem PySem.W PyProof.Rows
section
variable {C : Cx} {k : Nat} {F : FE} {σ : St}
theorem sort_none1 (x : Addr) : Builtin.«list.sort» ⟨[.ref x], [(Str.ofString "key", .none)]⟩ = Builtin.«list.sort» ⟨[.ref x], [(Str.ofString "reverse", .bool false)]⟩ := by kernel_rfl
theorem sort_none2 (x : Addr) (b : Bool) : Builtin.«list.sort» ⟨[.ref x], [(Str.ofString "key", .none), (Str.ofString "reverse", .bool b)]⟩ = Builtin.«list.sort» ⟨[.ref x], [(Str.ofString "reverse", .bool b)]⟩ := by kernel_rfl
set_option maxHeartbeats 1000000 in
theorem call_sorted_none {l : Addr} {xs : List Int} {b : Bool} {kw : List (Str × Value)} {A : Around} {s : Shared} {Q : V → St → Prop} (S : Sim C.GB F σ s.heap) (hs : (σ.sto l).bind O.items = some (xs.map V.int)) (h64 : xs.length < 64)
    (ha1 : argsOk "sorted" ⟨[.ref l], kw⟩) (ha2 : ∀ x, argsOk "list.sort" ⟨[.ref x], kw⟩) (ht : ∀ x, Builtin.«list.sort» ⟨[.ref x], kw⟩ = Builtin.«list.sort» ⟨[.ref x], [(Str.ofString "reverse", .bool b)]⟩)
    (h : ∀ D, σ.sto D = none → Q (.ref D) (σ.setSto D (.lst ((srtB b (fun x => x) xs).map V.int)))) : wpAny (model C.prog C.w) A (call (.builtin "sorted") [.ref l] kw) (Post C F Rep σ s Q) No s := by
  obtain ⟨hb, vs, hl, hr⟩ := S.list hs
  have hI := ints_reps hr
  have hlen : vs.length = xs.length := by simpa using hr.length
  refine call_function_entry_kw kind_sorted plain_sorted entry_sorted ha1 ?_
  unfold Builtin.«sorted»
  refine wpAny_bind (m := checkCount "sorted" 1 1 _) (wpAny_pure ?_)
  refine wpAny_bind (collect_list hl ?_ (by rw [sizeLine_eq]; omega))
  refine wpAny_bind (wpAny_newList ?_ (by rw [sizeLine_eq]; omega))
  have hsz : ((s.heap.push (seqObj "list" #[] 0)).update s.heap.objs.size (Obj.mapSeq (· ++ vs.toArray))).objs.size = s.heap.objs.size + 1 := by
    rw [Heap.size_update, size_push']
  have hoL : (((s.heap.push (seqObj "list" #[] 0)).update s.heap.objs.size (Obj.mapSeq (· ++ vs.toArray))).push (seqObj "list" vs.toArray 0)).get? (s.heap.objs.size + 1) = some (seqObj "list" vs.toArray 0) := by
    rw [← hsz]; exact Heap.get?_push_size _ rfl
  show wpAny _ _ _ _ _ { s with heap := ((s.heap.push (seqObj "list" #[] 0)).update s.heap.objs.size (Obj.mapSeq (· ++ vs.toArray))).push (seqObj "list" vs.toArray 0) }
  rw [hsz]
  refine wpAny_bind (wpAny_holding (wpAny_call_entry_kw slot_list_sort ⟨_, hoL, rfl⟩ entry_list_sort (b := Builtin.«list.sort») ?body (ha2 _)))
  case body =>
    rw [ht]
    refine list_sort_tree_rev hoL hI (by omega) fun out ns' a1 a2 a3 => ⟨_, rfl, ?_⟩
    refine wpAny_pure ⟨_, rfl, ?_⟩
    obtain ⟨e, he⟩ := sortedAll_at s.heap vs out
    have kp : ∀ b o, s.heap.get? b = some o → (sortedAll s.heap vs out).get? b = some o := fun _ _ => sortedAll_old
    have hDn : s.heap.get? (s.heap.objs.size + 1) = none := by
      cases hq : s.heap.get? (s.heap.objs.size + 1) with
      | none => rfl
      | some o => exact absurd (Heap.lt_size hq) (Nat.not_lt.mpr (Nat.le_succ _))
    have es : ns' = srtB b (fun x => x) xs := srtB_id a2 (by cases b <;> exact a3)
    subst es
    exact ⟨.ref (s.heap.objs.size + 1), σ.setSto (s.heap.objs.size + 1) (.lst ((srtB b (fun x => x) xs).map V.int)), .ref _, S.alloc kp hDn ⟨by rw [List.length_map, srtB_length]; simpa using hb, out.toList, e, by rw [Array.toArray_toList]; exact he, reps_ints a1⟩, .alloc (tk := s.toks) kp hDn, h _ (S.fresh_none hDn)⟩
/-- a key: None, or a function -/
noncomputable def KeyV (C : Cx) (kv : V) (kf : Int → Int) : Prop := (kv = .none ∧ kf = fun x => x) ∨ ∃ a, kv = .ref a ∧ KeyCall C a kf
theorem ckw_sorted1 {l : Addr} {xs : List Int} {kv : V} {kf : Int → Int} {Q : V → St → Prop} (hk : 3 ≤ k) (hs : (σ.sto l).bind O.items = some (xs.map V.int)) (h64 : xs.length < 64) (hkv : KeyV C kv kf)
    (h : ∀ D, σ.sto D = none → Q (.ref D) (σ.setSto D (.lst ((srtB false kf xs).map V.int)))) : CallKW C k F (.opq (.builtin "sorted")) [.ref l] [Str.ofString "key"] [kv] σ Q :=
  fun A s f' vs' ks' hA S rf rv rk => by
    obtain rfl := rf.inv_opq
    obtain ⟨_, rfl, ra⟩ := rv.inv1; obtain rfl := ra.inv_ref
    obtain ⟨_, rfl, rk1⟩ := rk.inv1
    rcases hkv with ⟨rfl, rfl⟩ | ⟨a, rfl, kc⟩
    · obtain rfl := rk1.inv_none
      exact call_sorted_none S hs h64 (ksk_s1 _ _) (fun x => ksk_l1 _ _) sort_none1 h
    · obtain rfl := rk1.inv_ref
      exact call_sorted_key hA hk S hs h64 kc (ksk_s1 _ _) (fun x => ksk_l1 _ _) (fun x => ksk_t1 _ _) (S.new _ S.inOwn) h
theorem ckw_sorted2 {l : Addr} {xs : List Int} {kv : V} {kf : Int → Int} {b : Bool} {Q : V → St → Prop} (hk : 3 ≤ k) (hs : (σ.sto l).bind O.items = some (xs.map V.int)) (h64 : xs.length < 64) (hkv : KeyV C kv kf)
    (h : ∀ D, σ.sto D = none → Q (.ref D) (σ.setSto D (.lst ((srtB b kf xs).map V.int)))) : CallKW C k F (.opq (.builtin "sorted")) [.ref l] [Str.ofString "key", Str.ofString "reverse"] [kv, .bool b] σ Q :=
  fun A s f' vs' ks' hA S rf rv rk => by
    obtain rfl := rf.inv_opq
    obtain ⟨_, rfl, ra⟩ := rv.inv1; obtain rfl := ra.inv_ref
    obtain ⟨_, _, rfl, rk1, rk2⟩ := rk.inv2; obtain rfl := rk2.inv_bool
    rcases hkv with ⟨rfl, rfl⟩ | ⟨a, rfl, kc⟩
    · obtain rfl := rk1.inv_none
      exact call_sorted_none S hs h64 (ksk_s2 _ _ _) (fun x => ksk_l2 _ _ _) (fun x => sort_none2 x b) h
    · obtain rfl := rk1.inv_ref
      exact call_sorted_key hA hk S hs h64 kc (ksk_s2 _ _ _) (fun x => ksk_l2 _ _ _) (fun x => ksk_t2 _ _ _) (S.new _ S.inOwn) h
end
end Mine
set_option maxRecDepth 100000
namespace Mine
open PySem PySem.W PyProof.Rows
section
variable {prog : Program} {w : World} {A : Around} {E : Value → Shared → Prop} {s : Shared}
set_option maxHeartbeats 1000000 in
theorem lsort_b {a : Addr} {vs : List Value} {n : Nat} {b : Bool} {κ : SortKind} {lt : Nat → Nat → Bool} {P : PySem.Fin → Shared → Prop} (ho : s.heap.get? a = some (seqObj "list" vs.toArray n)) (h2 : 2 ≤ vs.length) (h64 : vs.length < 64) (so : SO lt)
    (hkind : ∀ h3 Q E', (∀ b o, b ≠ a → s.heap.get? b = some o → h3.get? b = some o) → Q κ { s with heap := h3 } → wpAny (model prog w) A (keyKind' vs.toArray) Q E' { s with heap := h3 })
    (hcmp : ∀ h3, (∀ b o, b ≠ a → s.heap.get? b = some o → h3.get? b = some o) → ∀ i j (Cc : Bool → Shared → Prop), i < vs.length → j < vs.length → Cc (lt i j) { s with heap := h3 } → kas_ask prog w A κ (katRev b vs) i j Cc { s with heap := h3 })
    (h : ∀ p, GoodP vs.length p → Up2 lt p vs.length → P (.done (.ret .none)) { s with heap := sortedHeap s.heap a vs (List.toArray (katRev b (p.toList.map fun i => (katRev b vs).getD i Value.none))) }) :
    wpAny (model prog w) A (Builtin.«list.sort» ⟨[.ref a], [(Str.ofString "reverse", .bool b)]⟩) P E s := by
  have ha : a < s.heap.objs.size := Heap.lt_size ho
  obtain ⟨e1, ho1⟩ : ∃ e1, (s.heap.update a (Obj.mapSeq fun _ => (#[] : Array Value))).get? a = some (seqObj "list" #[] e1) := ⟨_, get?_update_seq ho fun _ => #[]⟩
  have ho6 : (((s.heap.update a (Obj.mapSeq fun _ => (#[] : Array Value))).push (seqObj "tuple" vs.toArray 0)).push (seqObj "list" #[] 0)).get? a = some (seqObj "list" #[] e1) := Heap.get?_push_of_some _ (Heap.get?_push_of_some _ ho1)
  have kp : ∀ b o, b ≠ a → s.heap.get? b = some o → (((s.heap.update a (Obj.mapSeq fun _ => (#[] : Array Value))).push (seqObj "tuple" vs.toArray 0)).push (seqObj "list" #[] 0)).get? b = some o := fun b o hb e =>
    Heap.get?_push_of_some _ (Heap.get?_push_of_some _ ((Heap.SameBut.update ..).extBut b o hb e))
  rw [list_sort_rev]
  refine wpAny_bind (listItems_at ho rfl ?_)
  refine wpAny_bind (listUpdate_at ho rfl ?_ (by rw [List.size_toArray, sizeLine_eq]; omega) (Nat.zero_le _))
  refine wpAny_bind (seqEpoch_at ho1 rfl ?_)
  refine wpAny_bind (wpAny_newTuple ?_ (by show vs.length ≤ _; rw [sizeLine_eq]; omega))
  refine wpAny_bind (wpAny_newList ?_ (Nat.zero_le _))
  refine wpAny_holding ?_
  show wpAny (model prog w) A _ P E { s with heap := ((s.heap.update a (Obj.mapSeq fun _ => (#[] : Array Value))).push (seqObj "tuple" vs.toArray 0)).push (seqObj "list" #[] 0) }
  have step : ∀ t : Sem PySem.Fin, wpAny (model prog w) A t P E { s with heap := ((s.heap.update a (Obj.mapSeq fun _ => (#[] : Array Value))).push (seqObj "tuple" vs.toArray 0)).push (seqObj "list" #[] 0) } →
      wpAny (model prog w) A (if b = true then (do let _ ← rule "list.sort.reverse"; t) else t) P E { s with heap := ((s.heap.update a (Obj.mapSeq fun _ => (#[] : Array Value))).push (seqObj "tuple" vs.toArray 0)).push (seqObj "list" #[] 0) } := by
    intro t ht
    split
    · exact wpAny_bind (wpAny_rule ht)
    · exact ht
  try dsimp only
  refine step _ ?_
  have hn2 : ¬ vs.toArray.size < 2 := by rw [List.size_toArray]; omega
  rw [if_neg hn2, if_neg hn2]
  refine wpAny_bind (hkind _ _ _ kp ?_)
  rw [kat_pairs b rfl]
  have hk : (kas_sort (katRev b vs).length).kasWp (kas_ask prog w A κ (katRev b vs)) (fun p s' => s' = { s with heap := ((s.heap.update a (Obj.mapSeq fun _ => (#[] : Array Value))).push (seqObj "tuple" vs.toArray 0)).push (seqObj "list" #[] 0) } ∧ GoodP vs.length p ∧ Up2 lt p vs.length) { s with heap := ((s.heap.update a (Obj.mapSeq fun _ => (#[] : Array Value))).push (seqObj "tuple" vs.toArray 0)).push (seqObj "list" #[] 0) } := by
    rw [kat_len]
    exact KOk.wp (lt := lt) (N := vs.length) (fun i j Cc hi hj hC => hcmp _ kp i j Cc hi hj hC) _ (sort2 so (by omega)) fun p hp => ⟨rfl, hp.1, hp.2⟩
  refine wpAny_bind (wpAny_mono (kat_run (ks := katRev b vs) (vs := katRev b vs) (Q := fun st' s' => ∃ p : Array Nat, arrOf st' = p.map (kas_item ((List.toArray (katRev b vs)).zip (List.toArray (katRev b vs)))) ∧ failedOf st' = none ∧ s' = { s with heap := ((s.heap.update a (Obj.mapSeq fun _ => (#[] : Array Value))).push (seqObj "tuple" vs.toArray 0)).push (seqObj "list" #[] 0) } ∧ GoodP vs.length p ∧ Up2 lt p vs.length)
    rfl (by rw [kat_len]; exact h2) (by rw [kat_len]; exact h64) (fun p' st' s' a1 a2 a3 a4 => ⟨p', a2, a3, a4⟩) hk) ?_ fun _ _ x => x)
  rintro ⟨⟨⟩, st'⟩ s' ⟨p, har, hf, es, g, u⟩
  subst es
  try dsimp only
  have hout := kat_snds (ks := katRev b vs) (vs := katRev b vs) rfl har
  rw [hout, kat_outs]
  refine wpAny_bind (seqEpoch_at ho6 rfl ?_)
  refine wpAny_bind (listUpdate_at ho6 rfl ?_ (Nat.zero_le _) (by rw [List.size_toArray, kat_len, List.length_map, Array.length_toList, g.size, sizeLine_eq]; omega))
  rw [hf]
  simp only [bne_self_eq_false, Bool.false_eq_true, if_false]
  exact wpAny_pure (h p g u)
end
end Mine
set_option maxRecDepth 100000
namespace Mine
open PySem PySem.W PyProof.Rows
section
variable {prog : Program} {w : World} {A : Around} {E : Value → Shared → Prop} {s : Shared}
/-- the iterator of a range, small or large -/
noncomputable def RI (h : Heap) (it : Addr) (x left st : Int) : Prop := IsRangeIter h it x left st ∨ IsLongIter h it x left st
theorem RI.at {h h' : Heap} {it : Addr} {x left st : Int} (r : RI h it x left st) (k : ∀ o, h.get? it = some o → h'.get? it = some o) : RI h' it x left st := by
  rcases r with r | r
  · exact .inl (k _ r)
  · exact .inr (k _ r)
theorem nextOf_rng_item {it : Addr} {x left st : Int} {Q : Value → Shared → Prop} (hit : RI s.heap it x left st) (hl : 0 < left)
    (hQ : ∀ h', RI h' it (x + st) (left - 1) st → Heap.SameBut it s.heap h' → Q (.int x s.toks) { s with heap := h', toks := s.toks + 1 }) : wpAny (model prog w) A (Builtin.SmallTypes.nextOf (.ref it)) Q E s := by
  unfold Builtin.SmallTypes.nextOf
  rcases hit with hit | hit
  · have hT : s.TypeIs (.ref it) "range_iterator" := ⟨_, hit, rfl⟩
    refine wpAny_bind (wpAny_callSpecial?_slot (name := Str.ofString "__next__") hT PySem.F.slot_range_iterator_next
      (call_meets PySem.F.slot_range_iterator_next hT PySem.F.entry_range_iterator_next (PySem.F.args_range_iterator_next_1 _) (AutoRange.range_iterator___next___range_iterator_1 it x left st (by omega)) ⟨hit, ?_⟩))
    exact wpAny_pure (hQ _ (.inl (Heap.get?_update_self _ (Heap.get?_update_self _ hit rfl) rfl)) ((Heap.SameBut.update ..).trans (Heap.SameBut.update ..)))
  · have hT : s.TypeIs (.ref it) "longrange_iterator" := ⟨_, hit, rfl⟩
    refine wpAny_bind (wpAny_callSpecial?_slot (name := Str.ofString "__next__") hT PySem.F.slot_longrange_iterator_next
      (call_meets PySem.F.slot_longrange_iterator_next hT PySem.F.entry_longrange_iterator_next (PySem.F.args_longrange_iterator_next_1 _) (AutoLong.next_1 it x left st (by omega)) ⟨hit, ?_⟩))
    exact wpAny_pure (hQ _ (.inr (Heap.get?_update_self _ (Heap.get?_update_self _ hit rfl) rfl)) ((Heap.SameBut.update ..).trans (Heap.SameBut.update ..)))
theorem stop_new {α : Type} {Q : α → Shared → Prop} (hh : A.handled = none) (h : ∀ h' e, (∀ b o, s.heap.get? b = some o → h'.get? b = some o) → (∃ o, h'.get? e = some o ∧ o.cls = .type "StopIteration") → E (.ref e) { s with heap := h' }) :
    wpAny (model prog w) A (newExc (.type "StopIteration") [] >>= fun e => (raiseNew e : Sem α)) Q E s := by
  refine wpAny_bind ?_
  simp only [newExc, newTuple]
  refine wpAny_bind (wpAny_newObj_type ?_ (by size_fits))
  refine wpAny_bind (m := firstArgMember _ _) (wpAny_of_eq (a := Value.none) (by first | rfl | (simp only [firstArgMember]; rfl)) ?_)
  refine wpAny_newObj_type ?_ (by size_fits)
  simp only [raiseNew]
  refine wpAny_bind (wpAny_handled ?_)
  rw [show A.handled = none from hh]
  refine wpAny_bind (wpAny_pure (wpAny_throw ?_))
  exact h _ _ (fun b o e => Heap.get?_push_of_some _ (Heap.get?_push_of_some _ e)) ⟨_, Heap.get?_push_size _ rfl, rfl⟩
theorem stop_new2 {α β : Type} {f : α → Sem β} {Q : β → Shared → Prop} (hh : A.handled = none) (h : ∀ h' e, (∀ b o, s.heap.get? b = some o → h'.get? b = some o) → (∃ o, h'.get? e = some o ∧ o.cls = .type "StopIteration") → E (.ref e) { s with heap := h' }) :
    wpAny (model prog w) A (newExc (.type "StopIteration") []) (fun e s' => wpAny (model prog w) A ((raiseNew e : Sem α) >>= f) Q E s') E s := by
  simp only [newExc, newTuple]
  refine wpAny_bind (wpAny_newObj_type ?_ (by size_fits))
  refine wpAny_bind (m := firstArgMember _ _) (wpAny_of_eq (a := Value.none) (by first | rfl | (simp only [firstArgMember]; rfl)) ?_)
  refine wpAny_newObj_type ?_ (by size_fits)
  simp only [raiseNew]
  refine wpAny_bind (wpAny_bind (wpAny_handled ?_))
  rw [show A.handled = none from hh]
  refine wpAny_bind (wpAny_pure (wpAny_throw ?_))
  exact h _ _ (fun b o e => Heap.get?_push_of_some _ (Heap.get?_push_of_some _ e)) ⟨_, Heap.get?_push_size _ rfl, rfl⟩
theorem nextOf_rng_end {it : Addr} {x left st : Int} {Q : Value → Shared → Prop} (hh : A.handled = none) (hit : RI s.heap it x left st) (hl : left ≤ 0)
    (hE : ∀ h' e, (∀ b o, s.heap.get? b = some o → h'.get? b = some o) → (∃ o, h'.get? e = some o ∧ o.cls = .type "StopIteration") → E (.ref e) { s with heap := h' }) : wpAny (model prog w) A (Builtin.SmallTypes.nextOf (.ref it)) Q E s := by
  unfold Builtin.SmallTypes.nextOf
  rcases hit with hit | hit
  · have hT : s.TypeIs (.ref it) "range_iterator" := ⟨_, hit, rfl⟩
    refine wpAny_bind (wpAny_callSpecial?_slot (name := Str.ofString "__next__") hT PySem.F.slot_range_iterator_next
      (wpAny_call_entry PySem.F.slot_range_iterator_next hT PySem.F.entry_range_iterator_next ?_ (PySem.F.args_range_iterator_next_1 _)))
    show wpAny _ _ (field (.ref it) 0 >>= _) _ _ s
    refine wpAny_bind (wpAny_field hit rfl (x := rawInt x) rfl ?_)
    show wpAny _ _ (field (.ref it) 1 >>= _) _ _ s
    refine wpAny_bind (wpAny_field hit rfl (x := rawInt left) rfl ?_)
    show wpAny _ _ (field (.ref it) 2 >>= _) _ _ s
    refine wpAny_bind (wpAny_field hit rfl (x := rawInt st) rfl ?_)
    show wpAny _ _ (if left ≤ 0 then _ else _) _ _ s
    rw [if_pos hl]
    refine wpAny_bind (wpAny_rule ?_)
    exact wpAny_bind (stop_new (A := A.in1) hh hE)
  · have hT : s.TypeIs (.ref it) "longrange_iterator" := ⟨_, hit, rfl⟩
    refine wpAny_bind (wpAny_callSpecial?_slot (name := Str.ofString "__next__") hT PySem.F.slot_longrange_iterator_next
      (wpAny_call_entry PySem.F.slot_longrange_iterator_next hT PySem.F.entry_longrange_iterator_next ?_ (PySem.F.args_longrange_iterator_next_1 _)))
    show wpAny _ _ (bound "longrange_iterator.__next__" ⟨[.ref it], []⟩ >>= _) _ _ s
    rw [bound_longnext]
    refine wpAny_bind (wpAny_pure ?_)
    show wpAny _ _ (Builtin.Iterators_pickling.intField _ (.ref it) 0 >>= _) _ _ s
    refine wpAny_bind (wpAny_intField hit rfl rfl ?_)
    show wpAny _ _ (Builtin.Iterators_pickling.intField _ (.ref it) 1 >>= _) _ _ s
    refine wpAny_bind (wpAny_intField hit rfl rfl ?_)
    show wpAny _ _ (Builtin.Iterators_pickling.intField _ (.ref it) 2 >>= _) _ _ s
    refine wpAny_bind (wpAny_intField hit rfl rfl ?_)
    show wpAny _ _ (if left ≤ 0 then _ else _) _ _ s
    rw [if_pos hl]
    refine wpAny_bind (wpAny_rule ?_)
    exact wpAny_bind (stop_new2 (A := A.in1) hh hE)
theorem zipR_item {z TI TO i1 i2 l2 : Addr} {k2 : Nat} {ys : Array Value} {n left st : Int} {y a b : Value} {Q : Option Value → Shared → Prop} (D : ZipApart z TI TO i1 i2 l2 l2)
    (hz : IsZip s.heap z TI TO .none) (hTI : IsPair s.heap TI (.ref i1) (.ref i2)) (hTO : IsPair s.heap TO a b)
    (h1 : RI s.heap i1 n left st) (hleft : 0 < left) (h2 : s.heap.IsListIter i2 l2 k2) (hl2 : s.heap.IsList l2 ys) (hy : ys[k2]? = some y)
    (hQ : ∀ h', IsZip h' z TI TO (rawInt s.heap.objs.size) → IsPair h' TO (.int n s.toks) y → RI h' i1 (n + st) (left - 1) st → h'.IsListIter i2 l2 (k2 + 1) → IsPair h' s.heap.objs.size (.int n s.toks) y → h'.objs.size = s.heap.objs.size + 1 →
      (∀ c o, c ≠ z → c ≠ TO → c ≠ i1 → c ≠ i2 → s.heap.get? c = some o → h'.get? c = some o) → Q (some (.ref s.heap.objs.size)) { s with heap := h', toks := s.toks + 1 }) :
    wpAny (model prog w) A (pyNext (.ref z)) Q E s := by
  have hT : s.TypeIs (.ref z) "zip" := ⟨_, hz, rfl⟩
  unfold pyNext
  refine wpAny_bind (wpAny_attempt (wpAny_callSpecial?_slot (name := Str.ofString "__next__") hT PySem.F.slot_zip_next
    (wpAny_call_entry PySem.F.slot_zip_next hT PySem.F.entry_zip_next ?_ (PySem.F.args_zip_next_1 _))))
  show wpAny _ _ (field (.ref z) 2 >>= _) _ _ _
  refine wpAny_bind (wpAny_field hz rfl (x := .bool false) rfl ?_)
  show wpAny _ _ (field (.ref z) 3 >>= _) _ _ _
  refine wpAny_bind (wpAny_field hz rfl (x := .ref TI) rfl ?_)
  refine wpAny_bind (wpAny_seqItems hTI rfl ?_)
  show wpAny _ _ (Builtin.SmallTypes.ownedTupleIsFree (.ref z) >>= _) _ _ _
  refine wpAny_bind ?_
  unfold Builtin.SmallTypes.ownedTupleIsFree
  refine wpAny_bind (wpAny_field hz rfl (x := .none) rfl (wpAny_pure ?_))
  simp only [if_true]
  refine wpAny_bind (wpAny_rule ?_)
  refine wpAny_bind (wpAny_field hz rfl (x := .ref TO) rfl ?_)
  refine wpAny_bind (wpAny_setField_rec hz (by simp) fun h₁ hz₁ hs₁ => ?_)
  replace hz₁ : IsZip h₁ z TI TO .ellipsis := hz₁
  refine wpAny_bind ?_
  simp only [List.zipIdx_cons, List.zipIdx_nil, List.forIn_cons, List.forIn_nil]
  refine wpAny_bind (wpAny_bind (wpAny_onRaise ?_))
  show wpAny _ _ (Builtin.SmallTypes.nextOf (.ref i1) >>= _) _ _ _
  refine wpAny_bind (nextOf_rng_item (s := { s with heap := h₁ }) (h1.at fun o e => hs₁.extBut _ o D.i1z e) hleft fun h₂ h1₂ hs₂ => wpAny_pure ?_)
  have hTO₂ : IsPair h₂ TO a b := hs₂.extBut _ _ D.TOi1 (hs₁.extBut _ _ D.TOz hTO)
  refine wpAny_bind (wpAny_seqItems hTO₂ rfl ?_)
  refine wpAny_bind (wpAny_updateSeq_pair hTO₂ fun h₃ hTO₃ hs₃ => ?_)
  replace hTO₃ : IsPair h₃ TO (.int n s.toks) b := hTO₃
  refine wpAny_bind (wpAny_letGo (wpAny_pure ?_))
  refine wpAny_bind (wpAny_bind (wpAny_onRaise ?_))
  show wpAny _ _ (Builtin.SmallTypes.nextOf (.ref i2) >>= _) _ _ _
  refine wpAny_bind (wpAny_nextOf_list_item (((h2.extBut hs₁.extBut D.i2z).extBut hs₂.extBut D.i12.symm).extBut hs₃.extBut D.TOi2.symm)
    (((hl2.extBut hs₁.extBut D.l2z).extBut hs₂.extBut D.l2i1).extBut hs₃.extBut D.l2TO) hy fun h₄ h2₄ hs₄ => wpAny_pure ?_)
  have hTO₄ : IsPair h₄ TO (.int n s.toks) b := hs₄.extBut _ _ D.TOi2 hTO₃
  refine wpAny_bind (wpAny_seqItems hTO₄ rfl ?_)
  refine wpAny_bind (wpAny_updateSeq_pair hTO₄ fun h₅ hTO₅ hs₅ => ?_)
  replace hTO₅ : IsPair h₅ TO (.int n s.toks) y := hTO₅
  refine wpAny_bind (wpAny_letGo (wpAny_pure (wpAny_pure ?_)))
  refine wpAny_bind (wpAny_seqItems hTO₅ rfl ?_)
  refine wpAny_bind (wpAny_newTuple ?_)
  have hsz : h₅.objs.size = s.heap.objs.size := by rw [hs₅.1, hs₄.1, hs₃.1, hs₂.1, hs₁.1]
  have hz₅ : IsZip h₅ z TI TO .ellipsis := hs₅.extBut _ _ D.TOz.symm (hs₄.extBut _ _ D.i2z.symm (hs₃.extBut _ _ D.TOz.symm (hs₂.extBut _ _ D.i1z.symm hz₁)))
  have hk₅ : ∀ c o, c ≠ z → c ≠ TO → c ≠ i1 → c ≠ i2 → s.heap.get? c = some o → h₅.get? c = some o := fun c o c1 c2 c3 c4 e =>
    hs₅.extBut _ _ c2 (hs₄.extBut _ _ c4 (hs₃.extBut _ _ c2 (hs₂.extBut _ _ c3 (hs₁.extBut _ _ c1 e))))
  have h1₅ : RI h₅ i1 (n + st) (left - 1) st := ((h1₂.at fun o e => hs₃.extBut _ o D.TOi1.symm e).at fun o e => hs₄.extBut _ o D.i12 e).at fun o e => hs₅.extBut _ o D.TOi1.symm e
  have h2₅ : h₅.IsListIter i2 l2 (k2 + 1) := h2₄.extBut hs₅.extBut D.TOi2.symm
  have hzlt : z < h₅.objs.size := Heap.lt_size hz₅
  show wpAny _ _ (Builtin.SmallTypes.ownedTupleHandOut (.ref z) (.ref h₅.objs.size) >>= _) _ _ _
  refine wpAny_bind ?_
  unfold Builtin.SmallTypes.ownedTupleHandOut
  have hz₆ : IsZip (h₅.push { cls := .type "tuple", data := .seq #[.int n s.toks, y] }) z TI TO .ellipsis := Heap.get?_push_of_some _ hz₅
  refine wpAny_bind (wpAny_setField_rec hz₆ (by simp) fun h₇ hz₇ hs₇ => ?_)
  replace hz₇ : IsZip h₇ z TI TO (rawInt h₅.objs.size) := hz₇
  refine wpAny_setField_rec hz₇ (by simp) fun h₈ hz₈ hs₈ => ?_
  replace hz₈ : IsZip h₈ z TI TO (rawInt h₅.objs.size) := hz₈
  have up : ∀ c o, c ≠ z → h₅.get? c = some o → h₈.get? c = some o := fun c o c1 e => hs₈.extBut _ _ c1 (hs₇.extBut _ _ c1 (Heap.get?_push_of_some _ e))
  have hT₈ : IsPair h₈ h₅.objs.size (.int n s.toks) y := hs₈.extBut _ _ (Nat.ne_of_gt hzlt) (hs₇.extBut _ _ (Nat.ne_of_gt hzlt) (Heap.get?_push_size _ rfl))
  have hz8 : h₈.objs.size = h₅.objs.size + 1 := by rw [hs₈.1, hs₇.1, Heap.size_push]
  rw [hsz] at hz₈ hT₈ hz8
  refine wpAny_pure ⟨_, rfl, wpAny_pure ?_⟩
  show Q (some (.ref h₅.objs.size)) _
  rw [hsz]
  exact hQ h₈ hz₈ (up _ _ D.TOz hTO₅) (h1₅.at fun o e => up _ o D.i1z e) (h2₅.at fun o e => up _ o D.i2z e) hT₈ hz8 fun c o c1 c2 c3 c4 e => up c o c1 (hk₅ c o c1 c2 c3 c4 e)
theorem zipR_end {z TI TO i1 i2 : Addr} {n left st : Int} {a b : Value} {Q : Option Value → Shared → Prop} (hh : A.handled = none) (hi1z : i1 ≠ z)
    (hz : IsZip s.heap z TI TO .none) (hTI : IsPair s.heap TI (.ref i1) (.ref i2)) (h1 : RI s.heap i1 n left st) (hleft : left ≤ 0)
    (hQ : ∀ h', (∀ c o, c ≠ z → s.heap.get? c = some o → h'.get? c = some o) → Q none { s with heap := h' }) :
    wpAny (model prog w) A (pyNext (.ref z)) Q E s := by
  have hT : s.TypeIs (.ref z) "zip" := ⟨_, hz, rfl⟩
  unfold pyNext
  refine wpAny_bind (wpAny_attempt (wpAny_callSpecial?_slot (name := Str.ofString "__next__") hT PySem.F.slot_zip_next
    (wpAny_call_entry PySem.F.slot_zip_next hT PySem.F.entry_zip_next ?_ (PySem.F.args_zip_next_1 _))))
  show wpAny _ _ (field (.ref z) 2 >>= _) _ _ _
  refine wpAny_bind (wpAny_field hz rfl (x := .bool false) rfl ?_)
  show wpAny _ _ (field (.ref z) 3 >>= _) _ _ _
  refine wpAny_bind (wpAny_field hz rfl (x := .ref TI) rfl ?_)
  refine wpAny_bind (wpAny_seqItems hTI rfl ?_)
  show wpAny _ _ (Builtin.SmallTypes.ownedTupleIsFree (.ref z) >>= _) _ _ _
  refine wpAny_bind ?_
  unfold Builtin.SmallTypes.ownedTupleIsFree
  refine wpAny_bind (wpAny_field hz rfl (x := .none) rfl (wpAny_pure ?_))
  simp only [if_true]
  refine wpAny_bind (wpAny_rule ?_)
  refine wpAny_bind (wpAny_field hz rfl (x := .ref TO) rfl ?_)
  refine wpAny_bind (wpAny_setField_rec hz (by simp) fun h₁ hz₁ hs₁ => ?_)
  replace hz₁ : IsZip h₁ z TI TO .ellipsis := hz₁
  refine wpAny_bind ?_
  simp only [List.zipIdx_cons, List.zipIdx_nil, List.forIn_cons, List.forIn_nil]
  refine wpAny_bind (wpAny_bind (wpAny_onRaise ?_))
  show wpAny _ _ (Builtin.SmallTypes.nextOf (.ref i1) >>= _) _ _ _
  refine wpAny_bind (nextOf_rng_end (s := { s with heap := h₁ }) (A := A.in1) hh (h1.at fun o e => hs₁.extBut _ o hi1z e) hleft fun h₂ e hs₂ he => ?_)
  obtain ⟨oe, hoe, hce⟩ := he
  have hz₂ : IsZip h₂ z TI TO .ellipsis := hs₂ _ _ hz₁
  have hez : e ≠ z := fun x => by subst x; rw [hz₂] at hoe; cases hoe; simp at hce
  refine wpAny_setField_rec hz₂ (by simp) fun h₃ _ hs₃ => ?_
  refine wpAny_bind (wpAny_isInstance (T := "StopIteration") (b := true) ⟨oe, hs₃.extBut _ _ hez hoe, hce⟩ isSubtype_stop ?_)
  exact wpAny_pure (hQ _ fun c o c1 x => hs₃.extBut _ _ c1 (hs₂ _ _ (hs₁.extBut _ _ c1 x)))
end
end Mine
set_option maxRecDepth 100000
namespace Mine
open PySem PySem.W PyProof.Rows
/-- the object of a range's iterator -/
noncomputable def riObj (lo hi st : Int) : Obj := if Builtin.Range.small lo hi st = true then { cls := .type "range_iterator", data := .fields #[rawInt lo, rawInt (Builtin.Range.rangeSize lo hi st), rawInt st] } else { cls := .type "longrange_iterator", data := .fields #[rawInt lo, rawInt (Builtin.Range.rangeSize lo hi st), rawInt st] }
theorem ri_obj {h : Heap} {a : Addr} {lo hi st : Int} (ho : h.get? a = some (riObj lo hi st)) : RI h a lo (Builtin.Range.rangeSize lo hi st) st := by
  unfold riObj at ho
  split at ho
  · exact .inl ho
  · exact .inr ho
theorem ri_freed (lo hi st : Int) : (riObj lo hi st).isFreed = false := by unfold riObj; split <;> rfl
section
variable {prog : Program} {w : World} {A : Around} {E : Value → Shared → Prop} {s : Shared}
theorem iter_range_any {r : Addr} {lo hi st : Int} {t u v : Tok} {Q : Value → Shared → Prop} (hr : IsRange s.heap r lo hi st t u v) (hQ : Q (.ref s.heap.objs.size) { s with heap := s.heap.push (riObj lo hi st) }) : wpAny (model prog w) A (pyIter (.ref r)) Q E s := by
  cases hs : Builtin.Range.small lo hi st with
  | true =>
    refine wpAny_pyIter_range hr hs ?_
    unfold riObj at hQ; rw [if_pos hs] at hQ; exact hQ
  | false =>
    refine wpAny_pyIter_longrange hr hs ?_
    unfold riObj at hQ; rw [if_neg (by rw [hs]; decide)] at hQ; exact hQ
end
noncomputable abbrev zrH1 (h : Heap) (lo hi st : Int) : Heap := h.push (riObj lo hi st)
noncomputable abbrev zrH2 (h : Heap) (lo hi st : Int) (I : Addr) : Heap := (zrH1 h lo hi st).push { cls := .type "tuple", data := .seq #[.ref h.objs.size, .ref I] }
noncomputable abbrev zrH3 (h : Heap) (lo hi st : Int) (I : Addr) : Heap := (zrH2 h lo hi st I).push { cls := .type "tuple", data := .seq #[.none, .none] }
noncomputable abbrev zrH4 (h : Heap) (lo hi st : Int) (I : Addr) : Heap := (zrH3 h lo hi st I).push { cls := .type "zip", data := .fields #[.none, .bool false, .bool false, .ref (zrH1 h lo hi st).objs.size, .ref (zrH2 h lo hi st I).objs.size] }
theorem meets_zipR_new (r I l : Addr) (k : Nat) (lo hi st : Int) (t u v : Tok) :
    Meets (Builtin.«zip.__new__» ⟨[.type "zip", .ref r, .ref I], []⟩) (fun _ R s => IsRange s.heap r lo hi st t u v ∧ s.heap.IsListIter I l k ∧
      R (.ok (.ret (.ref (zrH3 s.heap lo hi st I).objs.size))) { s with heap := zrH4 s.heap lo hi st I }) :=
  .of_wp fun prog w A R s h => by
    obtain ⟨hp, g, d, tk, os⟩ := s; obtain ⟨hl1, hl2, h⟩ := h
    have hsub := sub_zip
    have hL1 : IsRange (Shared.heap ⟨hp, g, d, tk, os⟩) r lo hi st t u v := hl1
    have hL2 : Heap.IsListIter (Shared.heap ⟨hp.push (riObj lo hi st), g, d, tk, os⟩) I l k := hl2.at fun o e => Heap.get?_push_of_some _ e
    wp_walk using iter_range_any hL1, wpAny_pyIter_listiter hL2
    exact ⟨_, rfl, h⟩
section
variable {prog : Program} {w : World} {A : Around} {E : Value → Shared → Prop} {s : Shared}
theorem call_zipR {r I l : Addr} {k : Nat} {lo hi st : Int} {t u v : Tok} {Q : Value → Shared → Prop} (hr : IsRange s.heap r lo hi st t u v) (hI : s.heap.IsListIter I l k)
    (h : ∀ h', IsZip h' (s.heap.objs.size + 3) (s.heap.objs.size + 1) (s.heap.objs.size + 2) .none → IsPair h' (s.heap.objs.size + 1) (.ref s.heap.objs.size) (.ref I) →
      IsPair h' (s.heap.objs.size + 2) .none .none → RI h' s.heap.objs.size lo (Builtin.Range.rangeSize lo hi st) st → h'.objs.size = s.heap.objs.size + 4 →
      (∀ c o, s.heap.get? c = some o → h'.get? c = some o) → Q (.ref (s.heap.objs.size + 3)) { s with heap := h' }) :
    wpAny (model prog w) A (call (.type "zip") [.ref r, .ref I]) Q E s := by
  refine callType_new PySem.F.called_zip (by decide) (PySem.F.typeCall_zip_2 _ _) (PySem.F.newCall_zip_2 _ _) (fun obj => PySem.F.args_object_init_3 obj _ _) PySem.F.entry_zip_new
    (meets_zipR_new r I l k lo hi st t u v) ⟨hr, hI, ?_⟩
  have z1 : (zrH1 s.heap lo hi st).objs.size = s.heap.objs.size + 1 := size_push' ..
  have z2 : (zrH2 s.heap lo hi st I).objs.size = s.heap.objs.size + 2 := by rw [Heap.size_push, z1]
  have z3 : (zrH3 s.heap lo hi st I).objs.size = s.heap.objs.size + 3 := by rw [Heap.size_push, z2]
  have z4 : (zrH4 s.heap lo hi st I).objs.size = s.heap.objs.size + 4 := by rw [Heap.size_push, z3]
  have g4 : (zrH4 s.heap lo hi st I).get? (zrH3 s.heap lo hi st I).objs.size = some _ := Heap.get?_push_size _ rfl
  have g3 : (zrH4 s.heap lo hi st I).get? (zrH2 s.heap lo hi st I).objs.size = some _ := Heap.get?_push_of_some _ (Heap.get?_push_size _ rfl)
  have g2 : (zrH4 s.heap lo hi st I).get? (zrH1 s.heap lo hi st).objs.size = some _ := Heap.get?_push_of_some _ (Heap.get?_push_of_some _ (Heap.get?_push_size _ rfl))
  have g1 : (zrH4 s.heap lo hi st I).get? s.heap.objs.size = some (riObj lo hi st) := Heap.get?_push_of_some _ (Heap.get?_push_of_some _ (Heap.get?_push_of_some _ (Heap.get?_push_size _ (ri_freed ..))))
  show _ ∧ _
  rw [z1, z2, z3] at g4
  rw [z1] at g2
  rw [z2] at g3
  rw [z3]
  exact ⟨⟨_, g4, rfl⟩, h _ g4 g2 g3 (ri_obj g1) z4 fun c o x =>
    Heap.get?_push_of_some _ (Heap.get?_push_of_some _ (Heap.get?_push_of_some _ (Heap.get?_push_of_some _ x)))⟩
end
section
variable {C : Cx} {k : Nat} {F : FE} {σ : St}
/-- a call's tree, for any end -/
theorem call_at {fe : Expr} {es : List Expr} {p : Pos} {A : Around} {s : Shared} {R : Value → Shared → Prop} (hA : Room C k F A) (S : Sim C.GB F σ s.heap)
    (h : TE C k F fe σ fun f σ₁ => TEs C k F p es σ₁ fun vs σ₂ => IsFun C.GB f ∧ ∀ s₂ f' vs', Sim C.GB F σ₂ s₂.heap → Mod F.own σ σ₂ s s₂ → Rep s₂.heap f f' → Reps s₂.heap vs vs' → wpAny (model C.prog C.w) A (call f' vs' []) R No s₂)
    (hn : eval (.Call fe es [] p) F.env = (do callWith p (← eval fe F.env) [] (backTo p (starEach es F.env)) (backToKw p (keywordEach [] F.env))) := by rfl)
    (hs : (starEach es F.env).all (fun x => !x.1) = true := by rfl) : wpAny (model C.prog C.w) A (eval (.Call fe es [] p) F.env) R No s := by
    rw [TE] at h
    rw [hn]
    refine wpAny_bind (go (h A s hA S) fun f f' σ₁ s₁ rf S₁ M₁ h₁ => ?_)
    have hst : ((backTo p (starEach es F.env)).any (·.1) || (backToKw p (keywordEach [] F.env)).any (·.1.isNone)) = false := by
      have : (backTo p (starEach es F.env)).any (·.1) = false := by
        rw [List.any_eq_false]
        intro x hx
        obtain ⟨y, hy, rfl⟩ := List.mem_map.mp hx
        have := List.all_eq_true.mp hs y hy
        simpa using this
      rw [this]; rfl
    refine callWith_of (P := fun h => Rep h f f' ∧ IsFun C.GB f ∧ ∀ b o, C.GB.get? b = some o → h.get? b = some o) hst (fun h ⟨r, hf, hb⟩ => keeper_of hf r hb) ?_
    have ha : wpAny (model C.prog C.w) A (spliced (backTo p (starEach es F.env))) (fun vs' s' => (Rep s'.heap f f' ∧ IsFun C.GB f ∧ ∀ b o, C.GB.get? b = some o → s'.heap.get? b = some o) ∧
        wpAny (model C.prog C.w) A (call f' vs' []) R No s') No s₁ :=
      go (h₁ A s₁ hA S₁) fun vs vs' σ₂ s₂ rv S₂ M₂ ⟨hf, h₂⟩ => ⟨⟨M₂.rep S₁ rf, hf, S₂.base⟩, h₂ s₂ f' vs' S₂ (M₁.trans S₁ M₂) (M₂.rep S₁ rf) rv⟩
    show wpAny _ A (evalArgs f' true (backTo p (starEach es F.env)) []) _ _ s₁
    cases hes : backTo p (starEach es F.env) with
    | nil =>
      rw [hes] at ha
      exact evalArgs_none ha
    | cons x r =>
      obtain ⟨b, t⟩ := x
      have hb : b = false := by
        have : ((b, t) :: r).any (·.1) = false := by rw [← hes]; simpa using (Bool.or_eq_false_iff.mp hst).1
        simpa using (List.any_eq_false.mp this (b, t) (.head _))
      subst hb
      rw [hes] at ha
      exact Calls.evalArgs_plain ha
end
end Mine
set_option maxRecDepth 100000
namespace Mine
open PySem PySem.W PyProof.Rows
/-- a list's iterator as an object -/
noncomputable def IterO (o : Obj) (l : Addr) (i : Nat) : Prop := o.cls = .type "list_iterator" ∧ o.data = .fields #[.ref l, .int i 0]
theorem IterO.not_frz {o : Obj} {l : Addr} {i : Nat} (h : IterO o l i) : ¬ FrzO o := not_frz_cls h.1 (by decide) (by decide)
/-- tuples of numbers that are new -/
inductive TR (h : Heap) (c : Addr) : List (List Int) → List Value → Prop
  | nil : TR h c [] []
  | cons {t : List Int} {ts : List (List Int)} {a : Addr} {us : List Value} {vs : List Value} : c < a → IsTup h a us.toArray → IntsAre us t → TR h c ts vs → TR h c (t :: ts) (.ref a :: vs)
theorem off_ne {a b s i j : Nat} (ha : a = s + i) (hb : b = s + j) (h : (i == j) = false) : ¬ @Eq Nat a b := fun e => by
  rw [ha, hb] at e
  exact absurd (Nat.add_left_cancel e) (ne_of_beq_false h)
theorem off_lt {a b s i : Nat} (hb : b < s) (ha : a = s + i) : ¬ @Eq Nat b a := fun e => by
  rw [e, ha] at hb
  exact absurd hb (Nat.not_lt.mpr (Nat.le_add_right _ _))
theorem off_up {z b c s i j : Nat} (hc : c = s + j) (hz : z = s + i) (h : Nat.ble i j = true) (hb : c < b) : ¬ @Eq Nat b z := fun e => by
  rw [e, hc, hz] at hb
  exact absurd hb (Nat.not_lt.mpr (Nat.add_le_add_left (Nat.le_of_ble_eq_true h) _))
theorem off_upI {I b c s j : Nat} (hI : I < s) (hc : c = s + j) (hb : c < b) : ¬ @Eq Nat b I := fun e => by
  rw [e, hc] at hb
  exact absurd (Nat.lt_trans hI (Nat.lt_of_le_of_lt (Nat.le_add_right _ _) hb)) (Nat.lt_irrefl _)
theorem TR.keeps {h h' : Heap} {c : Addr} (k : ∀ b o, c < b → h.get? b = some o → h'.get? b = some o) {ts : List (List Int)} {vs : List Value} (r : TR h c ts vs) : TR h' c ts vs := by
  induction r with
  | nil => exact .nil
  | cons ha ht hi _ ih => obtain ⟨o, ho, hc, n, hd⟩ := ht; exact .cons ha ⟨o, k _ o ha ho, hc, n, hd⟩ hi ih
theorem TR.append {h : Heap} {c : Addr} {us : List (List Int)} {ws : List Value} (y : TR h c us ws) {ts : List (List Int)} {vs : List Value} (r : TR h c ts vs) : TR h c (ts ++ us) (vs ++ ws) := by
  induction r with
  | nil => exact y
  | cons ha ht hi _ ih => exact .cons ha ht hi ih
theorem TR.reps {h : Heap} {c : Addr} {ts : List (List Int)} {vs : List Value} (r : TR h c ts vs) : Reps h (ts.map V.tup) vs := by
  induction r with
  | nil => exact .nil
  | cons ha ht hi _ ih => exact .cons (.tup ht hi) ih
theorem TR.length {h : Heap} {c : Addr} {ts : List (List Int)} {vs : List Value} (r : TR h c ts vs) : vs.length = ts.length := by
  induction r with
  | nil => rfl
  | cons ha ht hi _ ih => exact congrArg (· + 1) ih
section
variable {C : Cx} {k : Nat} {F : FE} {σ : St}
/-- the frame of a comprehension whose free names are references -/
theorem comp_sim {scope : Scope} {cl : List (Str × Addr)} {c I : Addr} {loc0 : List (Str × V)} {h h' : Heap} {m : Str → Option Value} (S : Sim C.GB F σ h) (hcl : ∀ p ∈ cl, p ∈ F.env.cells) (hap : cl.Pairwise fun x y => x.2 ≠ y.2) (fr : FreeOk F scope cl loc0 σ.loc) (hloc : ∀ x v, loc0.lookup x = some v → ∃ a, v = .ref a)
    (hI : ∀ p ∈ F.env.cells, p.2 ≠ I) (hIg : C.GB.get? I = none) (kp : ∀ b o, b ≠ I → h.get? b = some o → h'.get? b = some o) (hc : h.get? c = none) (hns : h'.Ns c m) : Sim C.GB (compF scope cl c F) ⟨loc0, fun _ => none⟩ h' where
  base := fun b o e => kp b o (fun q => by rw [q, hIg] at e; cases e) (S.base b o e)
  frame := by
    refine ⟨m, hns, fun x v e => ?_⟩
    obtain ⟨h1, h2, h3, h4⟩ := fr x v e
    obtain ⟨m', hn, hl⟩ := S.frame
    obtain ⟨v', hp, hr⟩ := hl x v h1
    obtain ⟨a, rfl⟩ := hloc x v e
    cases hr
    refine ⟨.ref a, .inr ⟨h3, ?_⟩, .ref a⟩
    rcases hp with ⟨hp, _⟩ | ⟨_, cc, hcc, oc, hoc, hdc⟩
    · rcases h2 with h2 | h2 <;> rw [h2] at hp <;> cases hp
    · exact ⟨cc, h4.trans hcc, oc, kp _ _ (hI _ (mem_of_lookup hcc)) hoc, hdc⟩
  cells := fun p hp => by obtain ⟨v₀, oc, hoc, hdc⟩ := S.cells p (hcl p hp); exact ⟨v₀, oc, kp _ _ (hI p (hcl p hp)) hoc, hdc⟩
  apart := hap
  sto := fun a o e => by cases e
  inOwn := .head _
  ownIs := fun b hb => by
    rcases List.mem_cons.mp hb with q | hb
    · exact .inl q
    · cases hb
  new := fun b hb => by
    rcases List.mem_cons.mp hb with q | hb
    · rw [q]
      cases hq : C.GB.get? c with
      | none => rfl
      | some o => have := S.base c o hq; rw [hc] at this; cases this
    · cases hb
  off := fun a o e => by cases e
noncomputable def zipG (g : Nat → Int → List Int) (xs : List Int) (n : Nat) : List (List Int) := (xs.take n).mapIdx g
theorem zipG_succ (g : Nat → Int → List Int) {xs : List Int} {n : Nat} {x : Int} (h : xs[n]? = some x) : zipG g xs (n + 1) = zipG g xs n ++ [g n x] := by
  unfold zipG
  obtain ⟨hn, e⟩ := List.getElem?_eq_some_iff.mp h
  rw [List.take_add_one, h]
  simp [List.mapIdx_append, Nat.min_eq_left (Nat.le_of_lt hn)]
theorem zipG_length (g : Nat → Int → List Int) {xs : List Int} {n : Nat} (h : n ≤ xs.length) : (zipG g xs n).length = n := by simp [zipG, h]
theorem ane {a b : Nat} (h : ¬ @Eq Nat a b) : @Ne Addr a b := h
theorem zip_loop {A : Around} {es targets : List Expr} {ne nt : Nat} {pe pt : Pos} {iter : Expr} {scope : Scope} {pos : Pos} {cl : List (Str × Addr)} {s₂ s₄ : Shared} {z TI TO R0 I l D c : Nat} {o₀ : Obj} {lo st : Int} {n : Nat} {xs : List Int} {loc0 : List (Str × V)} {g : Nat → Int → List Int} {R : Result → Shared → Prop}
    (hA : Room C k F A) (hcalm : C.exc = none) (S₂ : Sim C.GB F σ s₂.heap) (hsI : σ.sto I = some (.raw o₀)) (hsl : (σ.sto l).bind O.items = some (xs.map V.int)) (hn : n ≤ xs.length)
    (hcl : ∀ p ∈ cl, p ∈ F.env.cells) (hap : cl.Pairwise fun x y => x.2 ≠ y.2) (fr : FreeOk F scope cl loc0 σ.loc) (hloc : ∀ x v, loc0.lookup x = some v → ∃ a, v = .ref a)
    (eR : R0 = s₂.heap.objs.size) (eTI : TI = s₂.heap.objs.size + 1) (eTO : TO = s₂.heap.objs.size + 2) (ez : z = s₂.heap.objs.size + 3) (eD : D = s₂.heap.objs.size + 4) (ec : c = s₂.heap.objs.size + 5)
    (turn : ∀ j x, j < n → xs[j]? = some x → AsgOK C k (compF scope cl c F) (.Tuple targets nt pt) (.tup [lo + j * st, x]) ⟨loc0, fun _ => none⟩ fun σ₅ => TEs C k (compF scope cl c F) pe es σ₅ fun vs _ => vs = (g j x).map V.int ∧ (g j x).length ≤ maxLen)
    (done : ∀ s₅ out' e, (∀ b o, b ≠ I → s₂.heap.get? b = some o → s₅.heap.get? b = some o) → s₅.heap.IsListIter I l n → s₅.heap.get? D = some (listOf (List.toArray out') e) → TR s₅.heap c (zipG g xs n) out' → (∃ m, s₅.heap.Ns c m) → s₅ = { s₂ with heap := s₅.heap, toks := s₅.toks } → R (.ok .next) s₅)
    (hmax : n ≤ maxLen) (kp₄ : ∀ b o, s₂.heap.get? b = some o → s₄.heap.get? b = some o) (hz₄ : IsZip s₄.heap z TI TO .none) (hTI₄ : IsPair s₄.heap TI (.ref R0) (.ref I)) (hTO₄ : ∃ a b, IsPair s₄.heap TO a b) (hR₄ : RI s₄.heap R0 lo n st) (hI₄ : s₄.heap.IsListIter I l 0)
    (hD₄ : s₄.heap.get? D = some (listOf #[] 0)) (hc₄ : ∃ m, s₄.heap.Ns c m) (r₄ : s₄ = { s₂ with heap := s₄.heap, toks := s₄.toks }) :
    codeAny (model C.prog C.w) A (.compLoop (.ListComp (.Tuple es ne pe) [⟨.Tuple targets nt pt, iter, [], 0⟩] scope pos) 0 (.ref z) (.ref D) (compEnvC scope cl c F.env)) R s₄ := by
  obtain ⟨hb, vs', hL, hr⟩ := S₂.list hsl
  have hxs := ints_reps hr
  have oI := S₂.off I _ hsI
  have gI : C.GB.get? I = none := oI.1 rfl
  obtain ⟨rI, rfI⟩ := S₂.sto I _ hsI
  have ltI : @LT.lt Nat instLTNat I s₂.heap.objs.size := Heap.lt_size rI
  obtain ⟨ol, hol, hcol, nl, hdl⟩ := hL
  have ltl : @LT.lt Nat instLTNat l s₂.heap.objs.size := Heap.lt_size hol
  have hlI : l ≠ I := fun q => by
    rw [q, hsI] at hsl; cases hsl
  have hcn : s₂.heap.get? c = none := by
    cases hq : s₂.heap.get? c with
    | none => rfl
    | some o => exact absurd (show @LT.lt Nat instLTNat c s₂.heap.objs.size from Heap.lt_size hq) (by rw [ec]; exact Nat.not_lt.mpr (Nat.le_add_right _ _))
  have eR0 : R0 = s₂.heap.objs.size + 0 := eR
  have D' : ZipApart z TI TO R0 I l l := ⟨off_ne eTI ez rfl, off_ne eTO ez rfl, off_ne eR0 ez rfl, off_lt ltI ez, off_ne eTI eTO rfl, off_ne eTI eR0 rfl, fun e => off_lt ltI eTI e.symm, off_ne eTO eR0 rfl, fun e => off_lt ltI eTO e.symm, fun e => off_lt ltI eR0 e.symm,
    off_lt ltl ez, off_lt ltl eTO, off_lt ltl eR0, hlI, off_lt ltl ez, off_lt ltl eTO, off_lt ltl eR0, hlI⟩
  have hcI : c ≠ I := fun e => off_lt ltI ec e.symm
  have hcz : c ≠ z := off_ne ec ez rfl
  have hcTI : c ≠ TI := off_ne ec eTI rfl
  have hcTO : c ≠ TO := off_ne ec eTO rfl
  have hcR : c ≠ R0 := off_ne ec eR0 rfl
  have hcD : c ≠ D := off_ne ec eD rfl
  have hDI : D ≠ I := fun e => off_lt ltI eD e.symm
  have hDz : D ≠ z := off_ne eD ez rfl
  have hDTI : D ≠ TI := off_ne eD eTI rfl
  have hDTO : D ≠ TO := off_ne eD eTO rfl
  have hDR : D ≠ R0 := off_ne eD eR0 rfl
  refine codeAny_loop rfl (fun m s' => ∃ i out' e, m = n - i ∧ i ≤ n ∧ (∀ b o, b ≠ I → s₂.heap.get? b = some o → s'.heap.get? b = some o) ∧ IsZip s'.heap z TI TO .none ∧ IsPair s'.heap TI (.ref R0) (.ref I) ∧ (∃ a b, IsPair s'.heap TO a b) ∧ RI s'.heap R0 (lo + i * st) ((n : Int) - i) st ∧
      s'.heap.IsListIter I l i ∧ s'.heap.get? D = some (listOf (List.toArray out') e) ∧ TR s'.heap c (zipG g xs i) out' ∧ (∃ m, s'.heap.Ns c m) ∧ s' = { s₂ with heap := s'.heap, toks := s'.toks })
    (fun m s' hinv => ?_) n
    ⟨0, [], 0, rfl, Nat.zero_le _, fun b o _ e => kp₄ b o e, hz₄, hTI₄, hTO₄, by simpa using hR₄, hI₄, hD₄, by simp [zipG]; exact .nil, hc₄, r₄⟩
  refine ex3 hinv fun i out' e hinv => an12 hinv fun hm hi kp hz hTI hTO hR hI hD hTR hns hrest => ?_
  clear hinv; clear hinv
  obtain ⟨ta, tb, hTO⟩ := hTO
  obtain ⟨mm, hns⟩ := hns
  show wpAny _ A ((compTurn (.ListComp (.Tuple es ne pe) [⟨.Tuple targets nt pt, iter, [], 0⟩] scope pos) 0 (.ref z) (.ref D) (compEnvC scope cl c F.env)).onRaise (fun x => do noteFrame x (compEnvC scope cl c F.env); theTreesLotGoes x)) _ _ s'
  refine wpAny_noted ?_
  rw [compTurn_list]
  refine wpAny_bind (wpAny_standAt (wpAny_bind ?_))
  by_cases hlt : i < n
  · have hx : xs[i]? = some xs[i] := List.getElem?_eq_getElem (Nat.lt_of_lt_of_le hlt hn)
    obtain ⟨x', hx', rx⟩ := hr.get (i := i) (v := .int xs[i]) (by simp [hx])
    have hl' : s'.heap.IsList l vs'.toArray := ⟨ol, kp l ol hlI hol, hcol, nl, hdl⟩
    refine zipR_item D' hz hTI hTO hR (by omega) hI hl' (by simpa using hx') fun h₁ hz₁ hTO₁ hR₁ hI₁ hT₁ hsz₁ kp₁ => ?_
    refine wpAny_bind (wpAny_letOwnedTupleGo_zip hz₁ fun h₂ hz₂ hs₂ => ?_)
    have ltc : c < s'.heap.objs.size := by obtain ⟨oc, _, _, hoc, _⟩ := hns; exact Heap.lt_size hoc
    have kp₂ : ∀ b o, b ≠ z → b ≠ TO → b ≠ R0 → b ≠ I → s'.heap.get? b = some o → h₂.get? b = some o := fun b o b1 b2 b3 b4 eb => hs₂.extBut _ _ b1 (kp₁ b o b1 b2 b3 b4 eb)
    have hns₂ : h₂.Ns c mm := by
      obtain ⟨oc, es', ep, hoc, r⟩ := hns
      exact ⟨oc, es', ep, kp₂ c oc hcz hcTO hcR hcI hoc, r⟩
    have kpb₂ : ∀ b o, b ≠ I → s₂.heap.get? b = some o → h₂.get? b = some o := fun b o bI eb => by
      have : @LT.lt Nat instLTNat b s₂.heap.objs.size := Heap.lt_size eb
      exact kp₂ b o (off_lt this ez) (off_lt this eTO) (off_lt this eR0) bI (kp b o bI eb)
    have S₃ : Sim C.GB (compF scope cl c F) ⟨loc0, fun _ => none⟩ h₂ := comp_sim S₂ hcl hap fr hloc (fun p hp q => oI.2.2 p hp q) gI kpb₂ hcn hns₂
    have hTne : s'.heap.objs.size ≠ z := off_up ec ez rfl ltc
    have hT₂ : IsPair h₂ s'.heap.objs.size (.int (lo + i * st) s'.toks) x' := hs₂.extBut _ _ hTne hT₁
    have rT : Rep h₂ (.tup [lo + i * st, xs[i]]) (.ref s'.heap.objs.size) := by
      exact .tup (vs := [_, _]) ⟨_, hT₂, rfl, 0, rfl⟩ (ints_reps (h := h₂) (.cons (.int _ _) (.cons (rx.keeps fun a o ho hf => kpb₂ a o (fun q => rfI (by rw [q, rI] at ho; cases ho; exact hf)) ho) .nil)))
    refine wpAny_bind (no_mono (go (turn i xs[i] hlt hx A { s' with heap := h₂, toks := s'.toks + 1 } _ hA S₃ rT) fun _ _ σ₅ s₅ _ S₅ M₅ h₅ => ?_))
    refine wpAny_bind (wpAny_tests_nil ?_)
    refine wpAny_bind (wpAny_bind ?_)
    refine wpAny_Tuple_spliced (no_mono (go (h₅ A s₅ hA S₅) fun vs vs₆ σ₆ s₆ rv S₆ M₆ h₆ => ?_))
    obtain ⟨ev, hlv⟩ := h₆
    subst ev
    have M := M₅.trans' M₆
    have kp₆ : ∀ b o, b ≠ c → h₂.get? b = some o → s₆.heap.get? b = some o := fun b o bc eb => M.keep b o eb (fixed_none rfl) fun hb => by
      rcases List.mem_cons.mp hb with q | hb
      · exact bc q
      · cases hb
    refine ⟨by rw [rv.length, List.length_map]; exact Nat.le_trans hlv maxLen_le, ?_⟩
    have hD₆ := kp₆ D _ hcD.symm (kp₂ D _ hDz hDTO hDR hDI hD)
    have hz' : (List.toArray out').size ≤ sizeLine := by
      rw [List.size_toArray, hTR.length, zipG_length g (Nat.le_trans hi hn)]; exact Nat.le_trans (Nat.le_trans hi hmax) maxLen_le
    have hD₇ : (s₆.heap.push { cls := .type "tuple", data := .seq vs₆.toArray }).get? D = some (listOf (List.toArray out') e) := Heap.get?_push_of_some _ hD₆
    refine wpAny_bind (append_at (s := { s₆ with heap := s₆.heap.push { cls := .type "tuple", data := .seq vs₆.toArray } }) (hsz := hz') hD₇ fun h₇ hsb hD₈ => wpAny_pure (wpAny_pure ?_))
    obtain ⟨m₆, hns₆, _⟩ := S₆.frame
    have kp₇ : ∀ b o, b ≠ D → s₆.heap.get? b = some o → h₇.get? b = some o := fun b o bD eb => hsb.extBut b o bD (Heap.get?_push_of_some _ eb)
    have up : ∀ b o, b ≠ c → b ≠ D → h₂.get? b = some o → h₇.get? b = some o := fun b o bc bD eb => kp₇ b o bD (kp₆ b o bc eb)
    have ltc₆ : c < s₆.heap.objs.size := by obtain ⟨oc, _, _, hoc, _⟩ := hns₆; exact Heap.lt_size hoc
    refine ⟨rfl, n - (i + 1), hm.symm ▸ Nat.sub_succ_lt_self _ _ hlt, i + 1, out' ++ [.ref s₆.heap.objs.size], e + 1, rfl, hlt, fun b o bI eb => ?_, up _ _ hcz.symm hDz.symm hz₂, ?_, ?_, ?_, ?_, ?_, ?_, ?_, ?_⟩
    · have : @LT.lt Nat instLTNat b s₂.heap.objs.size := Heap.lt_size eb
      exact up b o (off_lt this ec) (off_lt this eD) (kpb₂ b o bI eb)
    · exact up _ _ hcTI.symm hDTI.symm (kp₂ _ _ D'.TIz D'.TITO D'.TIi1 D'.TIi2 hTI)
    · exact ⟨_, _, up _ _ hcTO.symm hDTO.symm (hs₂.extBut _ _ D'.TOz hTO₁)⟩
    · have e1 : lo + (i : Int) * st + st = lo + ((i + 1 : Nat) : Int) * st := by push_cast; rw [Int.add_mul, Int.one_mul, Int.add_assoc]
      have e2 : (n : Int) - i - 1 = (n : Int) - ((i + 1 : Nat) : Int) := by push_cast; exact Int.sub_sub _ _ _
      rw [← e1, ← e2]
      exact (hR₁.at fun o eo => hs₂.extBut _ o D'.i1z eo).at fun o eo => up _ o hcR.symm hDR.symm eo
    · exact (hI₁.at fun o eo => hs₂.extBut _ o D'.i2z eo).at fun o eo => up _ o hcI.symm hDI.symm eo
    · show h₇.get? D = _
      rw [hD₈]
      simp
    · rw [zipG_succ g hx]
      have hTR' : TR h₇ c (zipG g xs i) out' := hTR.keeps fun b o hb eb => by
        have hb' : @LT.lt Nat instLTNat c b := hb
        exact up b o (Nat.ne_of_gt hb') (off_up ec eD rfl hb') (kp₂ b o (off_up ec ez rfl hb') (off_up ec eTO rfl hb') (off_up ec eR0 rfl hb') (off_upI ltI ec hb') eb)
      refine TR.append (.cons ltc₆ ⟨_, hsb.extBut _ _ ?_ (Heap.get?_push_size _ rfl), rfl, 0, rfl⟩ (ints_reps rv) .nil) hTR'
      have : @LT.lt Nat instLTNat D s₆.heap.objs.size := Heap.lt_size hD₆
      exact Nat.ne_of_gt this
    · obtain ⟨oc, es', ep, hoc, r⟩ := hns₆
      exact ⟨m₆, oc, es', ep, kp₇ c oc hcD hoc, r⟩
    · show ({ s₆ with heap := h₇ } : Shared) = _
      rw [M.rest, hrest]
  · have hin : i = n := Nat.le_antisymm hi (Nat.le_of_not_lt hlt)
    subst hin
    refine zipR_end (a := ta) (b := tb) (hA.1.calm hcalm) D'.i1z hz hTI hR (by omega) fun h₁ kp₁ => wpAny_pure ?_
    have hzc : ∀ b, b < s₂.heap.objs.size → b ≠ z := fun b hb => off_lt hb ez
    refine done _ out' e (fun b o bI eb => kp₁ b o (hzc b (Heap.lt_size eb)) (kp b o bI eb)) (hI.at fun o eo => kp₁ _ o D'.i2z eo) (kp₁ _ _ hDz hD) (hTR.keeps fun b o hb eb => kp₁ b o (off_up ec ez rfl hb) eb) ?_ ?_
    · obtain ⟨oc, es', ep, hoc, r⟩ := hns
      exact ⟨mm, oc, es', ep, kp₁ c oc hcz hoc, r⟩
    · show ({ s' with heap := h₁ } : Shared) = _
      rw [hrest]
end
end Mine
set_option maxRecDepth 100000
namespace Mine
open PySem PySem.W PyProof.Rows
section
variable {C : Cx} {k : Nat} {F : FE} {σ : St}
noncomputable def ZipComp (C : Cx) (k : Nat) (F : FE) (es targets : List Expr) (nt : Nat) (pe pt : Pos) (scope : Scope) (cl : List (Str × Addr)) (loc0 : List (Str × V)) (vs : List V) (σ₂ : St) (Q : V → St → Prop) : Prop :=
  ∃ (lo hi st : Int) (I l : Addr) (o : Obj) (xs : List Int) (n : Nat) (g : Nat → Int → List Int), vs = [.rng lo hi st, .ref I] ∧ σ₂.sto I = some (.raw o) ∧ IterO o l 0 ∧ (σ₂.sto l).bind O.items = some (xs.map V.int) ∧ Builtin.Range.rangeSize lo hi st = n ∧ n ≤ xs.length ∧ n ≤ maxLen ∧ FreeOk F scope cl loc0 σ₂.loc ∧
    (∀ c j x, EnvOk (compF scope cl c F).env → j < n → xs[j]? = some x → AsgOK C k (compF scope cl c F) (.Tuple targets nt pt) (.tup [lo + j * st, x]) ⟨loc0, fun _ => none⟩ fun σ₅ => TEs C k (compF scope cl c F) pe es σ₅ fun vs _ => vs = (g j x).map V.int ∧ (g j x).length ≤ maxLen) ∧
    ∀ D o', IterO o' l n → σ₂.sto D = none → Q (.ref D) ((σ₂.setSto I (.raw o')).setSto D (.lst ((zipG g xs n).map V.tup)))
end
end Mine
set_option maxRecDepth 100000
namespace Mine
open PySem PySem.W PyProof.Rows
section
variable {prog : Program} {w : World} {A : Around} {E : Value → Shared → Prop} {s : Shared}
theorem list_end2 {it l : Addr} {i : Nat} {items} {Q : Option Value → Shared → Prop} (hh : A.handled = none)
    (hit : s.heap.IsListIter it l i) (hl : s.heap.IsList l items) (hx : items[i]? = none)
    (hQ : ∀ h' o, Heap.ExtBut it s.heap h' → h'.get? it = some o → ¬ FrzO o → Q none { s with heap := h' }) : wpAny (model prog w) A (pyNext (.ref it)) Q E s := by
  obtain ⟨o, ho, hc, hd⟩ := id hit
  obtain ⟨ol, hol, _, nl, hdl⟩ := hl
  unfold pyNext
  refine wpAny_bind (wpAny_attempt (wpAny_callSpecial?_slot (name := Str.ofString "__next__") hit.typeIs slot_listiter_next
    (wpAny_call_entry slot_listiter_next hit.typeIs entry_listiter_next ?_ (args_listiter_next _))))
  show wpAny _ _ (field (.ref it) 0 >>= _) _ _ s
  refine wpAny_bind (wpAny_field ho hd (x := .ref l) rfl ?_)
  show wpAny _ _ (if (Value.ref l == Value.none) = true then _ else _) _ _ s
  rw [if_neg (show ¬ ((Value.ref l == Value.none) = true) from Bool.false_ne_true)]
  show wpAny _ _ (field (.ref it) 1 >>= _) _ _ s
  refine wpAny_bind (wpAny_field ho hd (x := .int i 0) rfl ?_)
  show wpAny _ _ (seqItems? (.ref l) >>= _) _ _ s
  refine wpAny_bind (wpAny_seqItems hol hdl ?_)
  simp only [Int.toNat_natCast, hx]
  refine wpAny_bind (wpAny_rule (wpAny_bind (wpAny_setField ho hd (by simp) ?_)))
  refine stop_new (A := A.in1) hh fun h' e kp ⟨oe, hoe, hce⟩ => ?_
  refine wpAny_bind (wpAny_isInstance (T := "StopIteration") (b := true) ⟨oe, hoe, hce⟩ isSubtype_stop ?_)
  refine wpAny_pure (hQ _ _ (fun b ob hb eb => kp b ob ((Heap.SameBut.update ..).extBut b ob hb eb)) (kp _ _ (Heap.get?_update_self _ ho (Obj.isFreed_of_fields (Obj.data_mapFields hd _)))) (not_frz_cls ((Obj.cls_mapFields ..).trans hc) (by decide) (by decide)))
end
section
variable {C : Cx} {k : Nat} {F : FE} {σ : St}
theorem call_iter {l : Addr} {vs : List V} {Q : V → St → Prop} (hs : (σ.sto l).bind O.items = some vs) (h : ∀ I o, σ.sto I = none → IterO o l 0 → Q (.ref I) (σ.setSto I (.raw o))) : CallOK C k F (.opq (.builtin "iter")) [.ref l] σ Q :=
  fun A s f' us' hA S rf ru => by
    obtain rfl := rf.inv_opq
    obtain ⟨_, rfl, ra⟩ := ru.inv1; obtain rfl := ra.inv_ref
    obtain ⟨hb, vs', hL, hr⟩ := S.list hs
    refine Calls.call_function_entry (by decide +kernel) (by decide +kernel) kdk_entry_iter (kdk_args_iter _) ?_
    unfold Builtin.«iter»
    refine wpAny_bind (m := someArgs "iter" 1 2 _) (wpAny_of_eq (a := [Value.ref l]) (by first | rfl | kernel_rfl!) ?_)
    show wpAny _ _ (pyIter (.ref l) >>= _) _ _ _
    refine wpAny_bind (wpAny_pyIter_list hL ?_)
    refine wpAny_pure ⟨_, rfl, ?_⟩
    have hIO : IterO { cls := .type "list_iterator", data := .fields #[.ref l, .int 0 0] } l 0 := ⟨rfl, rfl⟩
    exact ⟨.ref s.heap.objs.size, σ.setSto s.heap.objs.size (.raw { cls := .type "list_iterator", data := .fields #[.ref l, .int 0 0] }), .ref _, S.alloc (keeps_push _) (get_size _) ⟨Heap.get?_push_size _ rfl, hIO.not_frz⟩, .alloc (tk := s.toks) (keeps_push _) (get_size _), h _ _ (S.fresh_none (get_size _)) hIO⟩
/-- the store without an object -/
noncomputable def St.drop (σ : St) (I : Addr) : St := ⟨σ.loc, fun b => if b = I then none else σ.sto b⟩
theorem drop_sto {I : Addr} {b : Addr} {o : O} (h : (σ.drop I).sto b = some o) : σ.sto b = some o ∧ b ≠ I := by
  unfold St.drop at h
  dsimp only at h
  split at h
  · cases h
  · exact ⟨h, by assumption⟩
theorem Sim.drop {GB : Heap} {h : Heap} (S : Sim GB F σ h) (I : Addr) : Sim GB F (σ.drop I) h :=
  ⟨S.base, S.frame, S.cells, S.apart, fun a o e => S.sto a o (drop_sto e).1, S.inOwn, S.ownIs, S.new, fun a o e => S.off a o (drop_sto e).1⟩
theorem Mod.undrop {own : List Addr} {σ' : St} {s s' : Shared} {I : Addr} {o : O} (hI : σ.sto I = some o) (hm : o.isMut = true) (x : Mod (I :: own) (σ.drop I) σ' s s') : Mod own σ σ' s s' where
  keep := fun b ob e f n => x.keep b ob e (fun o' h => f o' (drop_sto h).1) fun h => by
    rcases List.mem_cons.mp h with q | h
    · subst q; have := f _ hI; rw [hm] at this; cases this
    · exact n h
  dom := fun b ob e => by
    rcases x.dom b ob e with ⟨o', h', m'⟩ | h'
    · exact .inl ⟨o', (drop_sto h').1, m'⟩
    · exact .inr h'
  alive := x.alive
  rest := x.rest
/-- for .. in it, where it is an iterator of the store -/
theorem s_forI {t it : Expr} {b o : List Stmt} {p : Pos} {Q : Fl → St → Prop} (h : TE C k F it σ fun v σ₁ => ∃ I l oI q, v = .ref I ∧ σ₁.sto I = some (.raw oI) ∧ IterO oI l q ∧ ∃ (Inv : Nat → St → Prop) (N : Nat), Inv q (σ₁.drop I) ∧ ∀ i σ', Inv i σ' → i ≤ N ∧ ∃ us, (σ'.sto l).bind O.items = some us ∧
      match us[i]? with
      | some v => AsgOK C k F t v σ' fun σ₃ => TX C k F b σ₃ fun f σ₄ => (match f with
          | .next => Inv (i + 1) σ₄
          | .cont => Inv (i + 1) σ₄
          | .brk => Q .next σ₄
          | .ret v => Q (.ret v) σ₄)
      | none => TX C k F o σ' Q)
    (hcalm : C.exc = none := by assumption) (hs : ∀ x, foldedSetIterable it F.env x = pure x := by intro _; rfl) : TS C k F (.For t it b o p) σ Q :=
  fun A s hA S => wpAny_For (go (h A s hA S) fun v v' σ₁ s₁ rv S₁ M₁ hx => ex4 hx fun I l oI₀ q hx => an4 hx fun e hsI hIO hx => by
    obtain ⟨Inv, N, h0, turn⟩ := hx
    subst e
    obtain rfl := rv.inv_ref
    obtain ⟨rI, rfI⟩ := S₁.sto I _ hsI
    refine wpAny_pyIter_listiter (l := l) (i := q) ⟨oI₀, rI, hIO.1, hIO.2⟩ ?_
    have S₂ := S₁.drop I
    have oI := S₁.off I _ hsI
    have loose : ∀ {σ' : St} {h : Heap} {ob : Obj}, h.get? I = some ob → ¬ FrzO ob → σ'.sto I = none → Loose C.GB F σ' h I := fun ho hf hn => ⟨oI.1 rfl, oI.2.1, oI.2.2, hn, not_frz_of ho hf⟩
    have stoI : ∀ {σ' σ'' : St} {s' s'' : Shared} {ob : Obj}, Mod F.own σ' σ'' s' s'' → s'.heap.get? I = some ob → σ'.sto I = none → σ''.sto I = none := fun M' ho hs' => by
      cases hq : (_ : St).sto I with
      | none => rfl
      | some o₁ =>
        rcases M'.dom I o₁ hq with ⟨o', h', _⟩ | h'
        · rw [hs'] at h'; cases h'
        · rw [ho] at h'; cases h'
    have hdI : (σ₁.drop I).sto I = none := by simp [St.drop]
    refine codeAny_forLoop_any (fun n s' => ∃ i σ', n = N + 1 - i ∧ Sim C.GB F σ' s'.heap ∧ Mod (I :: F.own) (σ₁.drop I) σ' s₁ s' ∧ s'.heap.IsListIter I l i ∧ σ'.sto I = none ∧ Inv i σ') (fun n s' hinv => ?_) (N + 1 - q) ⟨q, σ₁.drop I, rfl, S₂, .refl, ⟨oI₀, rI, hIO.1, hIO.2⟩, hdI, h0⟩
    refine ex2 hinv fun i σ' hinv => an6 hinv fun hn S' M' hK' hsI' hInv => ?_
    clear hinv; clear hinv
    obtain ⟨hi, us, hus, ht⟩ := turn i σ' hInv
    obtain ⟨hb, us', hL', hr⟩ := S'.list hus
    obtain ⟨oK, hoK, hcK, hdK⟩ := id hK'
    have hfK : ¬ FrzO oK := not_frz_cls hcK (by decide) (by decide)
    have L' := loose hoK hfK hsI'
    cases hg : us[i]? with
    | none =>
      rw [hg] at ht
      have hn' : us'.toArray[i]? = none := by
        rw [List.getElem?_eq_none_iff] at hg
        simp [hr.length, hg]
      refine list_end2 (hA.1.calm hcalm) hK' hL' hn' fun h₃ o₃ hext ho₃ hf₃ => ?_
      have S₃ : Sim C.GB F σ' h₃ := S'.extBut L' hext
      have M₃ : Mod (I :: F.own) σ' σ' s' { s' with heap := h₃ } := ⟨fun b ob e _ nb => hext b ob (fun q => nb (q ▸ .head _)) e, fun b ob e => .inl ⟨ob, e, id⟩, fun b ob e => by
        by_cases hb : b = I
        · subst hb; exact ⟨o₃, ho₃⟩
        · exact ⟨ob, hext b ob hb e⟩, rfl⟩
      refine no_mono (go (ht A { s' with heap := h₃ } hA S₃) fun f f' σ₄ s₄ rf S₄ M₄ h₄ => ?_)
      exact ⟨f, σ₄, rf, S₄, M₁.trans S₁ (Mod.undrop hsI rfl ((M'.trans' M₃).trans' (M₄.more I))), h₄⟩
    | some v =>
      rw [hg] at ht
      obtain ⟨v', hv', rv'⟩ := hr.get hg
      refine wpAny_pyNext_list_item hK' hL' (by simpa using hv') fun h₃ hK₃ hsb => ?_
      have hext := hsb.extBut
      obtain ⟨o₃, ho₃, hc₃, hd₃⟩ := id hK₃
      have hf₃ : ¬ FrzO o₃ := not_frz_cls hc₃ (by decide) (by decide)
      have S₃ : Sim C.GB F σ' h₃ := S'.extBut L' hext
      have M₃ : Mod (I :: F.own) σ' σ' s' { s' with heap := h₃ } := ⟨fun b ob e _ nb => hext b ob (fun q => nb (q ▸ .head _)) e, fun b ob e => .inl ⟨ob, e, id⟩, fun b ob e => by
        by_cases hb : b = I
        · subst hb; exact ⟨o₃, ho₃⟩
        · exact ⟨ob, hext b ob hb e⟩, rfl⟩
      have M₁₃ := M'.trans' M₃
      refine no_mono (lot_plain ho₃ hc₃ (by decide) ?_)
      have L₃ : Loose C.GB F σ' h₃ I := loose ho₃ hf₃ hsI'
      refine no_mono (go (ht A { s' with heap := h₃ } v' hA S₃ (rv'.keeps (not_frz_ext L'.frz hext))) fun _ _ σ₄ s₄ _ S₄ M₄ h₄ => ?_)
      have ho₄ : s₄.heap.get? I = some o₃ := M₄.keep I o₃ ho₃ (fixed_none hsI') (L₃.own S₃)
      have hs₄ := stoI M₄ ho₃ hsI'
      have L₄ : Loose C.GB F σ₄ s₄.heap I := loose ho₄ hf₃ hs₄
      refine no_mono (go (h₄ A s₄ hA S₄) fun f f' σ₅ s₅ rf S₅ M₅ h₅ => ?_)
      have ho₅ : s₅.heap.get? I = some o₃ := M₅.keep I o₃ ho₄ (fixed_none hs₄) (L₄.own S₄)
      have hs₅ := stoI M₅ ho₄ hs₄
      have M := (M₁₃.trans' (M₄.more I)).trans' (M₅.more I)
      cases rf with
      | next => exact ⟨N + 1 - (i + 1), hn.symm ▸ Nat.sub_succ_lt_self _ _ (Nat.lt_succ_of_le hi), i + 1, σ₅, rfl, S₅, M, ⟨o₃, ho₅, hc₃, hd₃⟩, hs₅, h₅⟩
      | cont => exact ⟨N + 1 - (i + 1), hn.symm ▸ Nat.sub_succ_lt_self _ _ (Nat.lt_succ_of_le hi), i + 1, σ₅, rfl, S₅, M, ⟨o₃, ho₅, hc₃, hd₃⟩, hs₅, h₅⟩
      | brk => exact ⟨_, σ₅, .next, S₅, M₁.trans S₁ (Mod.undrop hsI rfl M), h₅⟩
      | ret r => exact ⟨_, σ₅, .ret r, S₅, M₁.trans S₁ (Mod.undrop hsI rfl M), h₅⟩) hs
theorem call_key {a : Addr} {x : Int} {kf : Int → Int} {Q : V → St → Prop} (hk : 3 ≤ k) (kc : KeyCall C a kf) (h : Q (.int (kf x)) σ) : CallOK C k F (.ref a) [.int x] σ Q :=
  fun A s f' us' hA S rf ru => by
    obtain rfl := rf.inv_ref
    obtain ⟨_, rfl, ra⟩ := ru.inv1; obtain ⟨_, rfl⟩ := ra.inv_int
    exact kc A s x _ _ _ (fun b o e => S.base b o e) (by have := hA.2.1; omega) (by have := hA.2.2.1; omega) fun h' tk t' kp => ⟨.int (kf x), σ, .int _ _, S.keeps kp, .pure (tk := tk) kp, h⟩
end
end Mine
set_option maxRecDepth 100000
namespace Mine
open PySem PySem.W PyProof.Rows
theorem Reps.reverse {h : Heap} : ∀ {vs : List V} {vs' : List Value}, Reps h vs vs' → Reps h vs.reverse vs'.reverse
  | [], _, r => by obtain rfl := r.inv_nil; exact .nil
  | _ :: _, _, r => by obtain ⟨_, _, rfl, h1, h2⟩ := r.inv_cons; rw [List.reverse_cons, List.reverse_cons]; exact h2.reverse.append (.cons h1 .nil)
theorem reps_katRev {h : Heap} {b : Bool} {vs : List V} {vs' : List Value} (r : Reps h vs vs') : Reps h (katRev b vs) (katRev b vs') := by
  unfold katRev
  split
  · exact r.reverse
  · exact r
theorem katRev_map {α β : Type} (f : α → β) (b : Bool) (l : List α) : katRev b (l.map f) = (katRev b l).map f := by
  unfold katRev
  split <;> simp
theorem katRev_length {α : Type} (b : Bool) (l : List α) : (katRev b l).length = l.length := by
  unfold katRev
  split <;> simp
theorem sort_plain0 (x : Addr) : Builtin.«list.sort» ⟨[.ref x], []⟩ = Builtin.«list.sort» ⟨[.ref x], [(Str.ofString "reverse", .bool false)]⟩ := by kernel_rfl
theorem up2_upTo {lt : Nat → Nat → Bool} {p : Array Nat} {N : Nat} (h : Up2 lt p N) : UpTo lt p N := fun i j hij hj => by
  have := h i j hij hj
  first | exact this.1 | exact this
section
variable {C : Cx} {k : Nat} {F : FE} {σ : St}
set_option maxHeartbeats 1000000 in
theorem sort_tups {a : Addr} {b : Bool} {ts : List (List Int)} {A : Around} {s : Shared} {Q : V → St → Prop} (S : Sim C.GB F σ s.heap) (hs : σ.sto a = some (.lst (ts.map V.tup))) (hne : ∀ t ∈ ts, t ≠ []) (h2 : 2 ≤ ts.length) (h64 : ts.length < 64)
    (h : Q .none (σ.setSto a (.lst ((katRev b (sortT ts)).map V.tup)))) : wpAny (model C.prog C.w) A (Builtin.«list.sort» ⟨[.ref a], [(Str.ofString "reverse", .bool b)]⟩) (fun fin s' => ∃ v, fin = .done (.ret v) ∧ Post C F Rep σ s Q v s') No s := by
  obtain ⟨hb, vs', n, ho, hr⟩ := S.sto a _ hs
  have hlen : vs'.length = ts.length := by simpa using hr.length
  have hnf := (S.sto a _ hs).not_frz
  have hr' : Reps s.heap ((katRev b ts).map V.tup) (katRev b vs') := by rw [← katRev_map]; exact reps_katRev hr
  have hlen' : (katRev b ts).length = ts.length := katRev_length b ts
  have fz : ∀ h3 : Heap, (∀ b o, b ≠ a → s.heap.get? b = some o → h3.get? b = some o) → ∀ c o, s.heap.get? c = some o → FrzO o → h3.get? c = some o := fun h3 kk c o hoc hf => kk c o (fun q => by subst q; exact hnf _ hoc hf) hoc
  refine lsort_b (lt := ltTab (katRev b ts)) ho (by omega) (by omega) (so_tab _) (κ := tuples' (Value.type "int" != Value.type "tuple")) (fun h3 Q' E' kk hQ => ?_) (fun h3 kk i j Cc hi hj hC => ?_) fun p g u => ?_
  · obtain ⟨fs, t1, t2, t3⟩ := kat_tups_of (hr.keeps (fz h3 kk)) hne
    exact kat_kind (s := { s with heap := h3 }) (T := .type "int") t1 (by omega) (fun v hv => by obtain ⟨i, t, rfl⟩ := t3 v hv; exact Looks.of_pure rfl) (by decide) hQ
  · have hrk := hr'.keeps (fz h3 kk)
    obtain ⟨a1, us, e1, _, ⟨oa, hoa, hca, na, hda⟩, hIa⟩ := reps_tup_at hrk (i := i) (by omega)
    obtain ⟨b1, ws, e2, _, ⟨ob, hob, hcb, nb, hdb⟩, hIb⟩ := reps_tup_at hrk (i := j) (by omega)
    unfold kas_ask
    rw [e1, e2]
    refine kat_lt (s := { s with heap := h3 }) hoa hda hob hdb (kat_ints (by simpa using hIa) (by simpa using hIb) ?_ hC)
    rw [List.size_toArray, List.size_toArray, hIa.length, hIb.length]; simp
  · refine ⟨.none, rfl, ?_⟩
    rw [hlen] at g u
    have es := good_sorts (xs := katRev b ts) (p := p) (by rw [hlen']; exact g) (by rw [hlen']; exact up2_upTo u)
    rw [sortT_cong (katRev_perm b ts)] at es
    obtain ⟨e, he⟩ := sortedHeap_at (out := List.toArray (katRev b (p.toList.map fun i => (katRev b vs').getD i Value.none))) ho
    have kx : Heap.ExtBut a s.heap (sortedHeap s.heap a vs' (List.toArray (katRev b (p.toList.map fun i => (katRev b vs').getD i Value.none)))) := fun c o hc hoc => by rw [sortedHeap_old hc (Heap.lt_size hoc)]; exact hoc
    have hrn := hr'.keeps (not_frz_ext hnf kx)
    have hrp := reps_pickTup hrn p.toList fun i hi => by rw [hlen']; exact List.mem_range.mp (g.perm.mem_iff.mp hi)
    rw [es] at hrp
    have hrf := reps_katRev (b := b) hrp
    rw [katRev_map V.tup] at hrf
    refine ⟨.none, σ.setSto a (.lst ((katRev b (sortT ts)).map V.tup)), .none, S.change hs rfl kx ⟨by rw [List.length_map, katRev_length, sortT_length]; simpa using hb, _, e, he, hrf⟩, Mod.change (tk := s.toks) S hs rfl kx ⟨_, he⟩, h⟩
theorem call_sort {a : Addr} {ts : List (List Int)} {Q : V → St → Prop} (hs : σ.sto a = some (.lst (ts.map V.tup))) (hne : ∀ t ∈ ts, t ≠ []) (h2 : 2 ≤ ts.length) (h64 : ts.length < 64)
    (h : Q .none (σ.setSto a (.lst ((sortT ts).map V.tup)))) : CallOK C k F (.opq (.builtin "list.sort")) [.ref a] σ Q :=
  fun A s f' us' hA S rf ru => by
    obtain rfl := rf.inv_opq
    obtain ⟨_, rfl, ra⟩ := ru.inv1; obtain rfl := ra.inv_ref
    obtain ⟨hb, vs', n, ho, hr⟩ := S.sto a _ hs
    refine wpAny_call_entry PyProof.Rows.slot_list_sort ⟨_, ho, rfl⟩ PyProof.Rows.entry_list_sort (b := Builtin.«list.sort») ?_ (args_list_sort _)
    rw [sort_plain0]
    exact no_mono (sort_tups (b := false) S hs hne h2 h64 h)
theorem ckw_sort {a : Addr} {ts : List (List Int)} {b : Bool} {Q : V → St → Prop} (hs : σ.sto a = some (.lst (ts.map V.tup))) (hne : ∀ t ∈ ts, t ≠ []) (h2 : 2 ≤ ts.length) (h64 : ts.length < 64)
    (h : Q .none (σ.setSto a (.lst ((katRev b (sortT ts)).map V.tup)))) : CallKW C k F (.opq (.builtin "list.sort")) [.ref a] [Str.ofString "reverse"] [.bool b] σ Q :=
  fun A s f' us' ks' hA S rf ru rk => by
    obtain rfl := rf.inv_opq
    obtain ⟨_, rfl, ra⟩ := ru.inv1; obtain rfl := ra.inv_ref
    obtain ⟨_, rfl, rb⟩ := rk.inv1; obtain rfl := rb.inv_bool
    obtain ⟨hb, vs', n, ho, hr⟩ := S.sto a _ hs
    refine wpAny_call_entry_kw PyProof.Rows.slot_list_sort ⟨_, ho, rfl⟩ PyProof.Rows.entry_list_sort (b := Builtin.«list.sort») ?_ (args_list_sort_rev _ _)
    exact no_mono (sort_tups (b := b) S hs hne h2 h64 h)
theorem callWith_builtinK {M : Model} {A : Around} {E : Value → Shared → Prop} {s : Shared} {pos : Pos} {id : String} {first : List Value} {kws : List (Option Str × Sem Value)} {Q : Value → Shared → Prop} (hplain : kws.any (·.1.isNone) = false)
    (h : wpAny M A (evalArgs (.builtin id) true [] kws) (fun a s₁ => wpAny M A (call (.builtin id) (first ++ a.pos) a.kw) Q E s₁) E s) :
    wpAny M A (callWith pos (.builtin id) first [] kws) Q E s := by
  unfold callWith
  refine wpAny_bind (wpAny_holding (wpAny_mono h (fun a s₁ h₁ => wpAny_bind (wpAny_standAt ?_)) fun _ _ x => x))
  simp only [hplain, List.any_nil, Bool.false_or]
  refine wpAny_bind (wpAny_pure ?_)
  exact wpAny_bind (wpAny_mono h₁ (fun r s₂ hr => wpAny_bind (wpAny_holding (wpAny_point (wpAny_pure hr)))) fun _ _ x => x)
/-- a method's call with keywords alone -/
theorem e_methkw {oe : Expr} {name : Str} {ap p : Pos} {kws : List Keyword} {ns : List Str} {id : String} {Q : V → St → Prop} (slot : Slot "list" name id) (hty : typeOf (.builtin id) = pure (.type "method_descriptor"))
    (h : TE C k F oe σ fun ov σ₁ => ∃ a vs, ov = .ref a ∧ σ₁.sto a = some (.lst vs) ∧ TKs C k F p kws σ₁ fun ks σ₂ => CallKW C k F (.opq (.builtin id)) [.ref a] ns ks σ₂ Q)
    (hbase : attributeBase oe name F.env (eval oe F.env) = eval oe F.env := by rfl)
    (hform : methodCallForm (([] : List Expr).length + kws.length) (backTo p (starEach [] F.env)) (backToKw p (keywordEach kws F.env)) = true := by rfl)
    (hline : (ap.endLine == p.line) = true := by rfl) (hks : (backToKw p (keywordEach kws F.env)).all (·.1.isSome) = true := by rfl) (hns : (backToKw p (keywordEach kws F.env)).filterMap (·.1) = ns := by rfl) : TE C k F (.Call (.Attribute oe name ap) [] kws p) σ Q :=
  fun A s hA S => by
    show wpAny _ A (eval (.Call (.Attribute oe name ap) [] kws p) F.env) _ _ s
    rw [arm_eval_Call, hbase]
    refine wpAny_bind (go (h A s hA S) fun ov ov' σ₁ s₁ ro S₁ M₁ ⟨a, vs, e, hsto, h₁⟩ => ?_)
    subst e
    obtain rfl := ro.inv_ref
    obtain ⟨hl, vs', n, ho, hr⟩ := S₁.sto a _ hsto
    refine wpAny_bind (wpAny_standAt ?_)
    have hpos : methodCallPos true oe F.env ap p = pure p := by unfold methodCallPos; simp [hline]
    unfold methodCall
    rw [hform]
    refine wpAny_bind (wpAny_holding (getMethod_builtin ⟨_, ho, rfl⟩ PySem.F.plainAttrs_list slot hty (fun b e => by cases e; exact ⟨_, ho, rfl⟩) ?_))
    refine wpAny_bind (wpAny_of_eq hpos ?_)
    have hst : (backToKw p (keywordEach kws F.env)).any (·.1.isNone) = false := by
      rw [List.any_eq_false]
      intro x hx
      have := List.all_eq_true.mp hks x hx
      cases hq : x.1 <;> simp [hq] at this ⊢
    refine callWith_builtinK hst (evalArgs_kw_nil hks ?_)
    rw [hns]
    exact go (h₁ A s₁ hA S₁) fun ks ks' σ₂ s₂ rk S₂ M₂ h₂ => fin S₂ (M₁.trans S₁ M₂) (h₂ A s₂ (.builtin id) [.ref a] ks' hA S₂ (.opq fun a e => by cases e) (.cons (.ref a) .nil) rk)
end
end Mine
set_option maxRecDepth 100000
namespace Mine
open PySem PySem.W PyProof.Rows
/-- x is the first best of xs -/
noncomputable def FB (b : Bool) (kf : Int → Int) (xs : List Int) (x : Int) : Prop := ∃ i : Nat, xs[i]? = some x ∧ ∀ (j : Nat) (y : Int), xs[j]? = some y → if b then kf y ≤ kf x ∧ (j < i → kf y < kf x) else kf x ≤ kf y ∧ (j < i → kf x < kf y)
section
variable {C : Cx} {k : Nat} {F : FE} {σ : St}
theorem args_min_dk (a d v : Value) : argsOk "min" ⟨[a], [(Str.ofString "default", d), (Str.ofString "key", v)]⟩ := by unfold argsOk; kernel_rfl
theorem args_max_dk (a d v : Value) : argsOk "max" ⟨[a], [(Str.ofString "default", d), (Str.ofString "key", v)]⟩ := by unfold argsOk; kernel_rfl
theorem name_min : (toString "min" ++ toString ".loop" : String) = "min.loop" := by decide
theorem name_max : (toString "max" ++ toString ".loop" : String) = "max.loop" := by decide

set_option maxHeartbeats 4000000 in
theorem min_loop_n {I l S a : Addr} {vs : List Value} {xs : List Int} {kf : Int → Int} {d : Value} {A : Around} {s : Shared} {R : Result → Shared → Prop} (hh : A.handled = none) (hxs : IntsAre vs xs) (hl : s.heap.IsList l vs.toArray) (hlI : l ≠ I) (hSn : s.heap.get? S = none) (hSI : S ≠ I)
    (hkf : kf = fun x => x)
    (hR : ∀ x t h' tk' o, FB false kf xs x → (∀ b o, b ≠ I → s.heap.get? b = some o → h'.get? b = some o) → h'.get? I = some o → ¬ FrzO o → R (.ok (.ret (.int x t))) { s with heap := h', toks := tk' }) :
    ∀ (r j i : Nat) (h : Heap) (tk : Nat) (xb : Int) (t tb : Tok) (c : Nat), xs.length - j = r → j ≤ xs.length → (∀ b o, b ≠ I → s.heap.get? b = some o → h.get? b = some o) → h.get? S = some (seqObj "list" #[.int xb t, .int (kf xb) tb] c) → h.IsListIter I l j → xs[i]? = some xb → i < j →
      (∀ j' y, j' < j → xs[j']? = some y → kf xb ≤ kf y ∧ (j' < i → kf xb < kf y)) → codeAny (model C.prog C.w) A (.builtin "min.loop" ⟨[.ref I, Value.none, .ref S], [(Str.ofString "default", d)]⟩) R { s with heap := h, toks := tk } := by
  obtain ⟨ol, hol, hcol, nl, hdl⟩ := id hl
  have hlen := hxs.length
  have lS : l ≠ S := fun q => by rw [q, hSn] at hol; cases hol
  intro r
  induction r with
  | zero =>
    intro j i h tk xb t tb c hr hj kp hS hit hxi hij hbest
    have hin : j = xs.length := Nat.le_antisymm hj (Nat.le_of_sub_eq_zero hr)
    refine codeAny_builtin PySem.F.entry_min_loop ?_
    rw [Around.under_plainId PySem.F.plain_min_loop _]
    show wpAny _ A.in1 (seqItems? (.ref S) >>= _) _ _ _
    refine wpAny_bind (wpAny_seqItems hS rfl ?_)
    show wpAny _ A.in1 (tryCatch (pyNext (.ref I)) _ >>= _) _ _ _
    refine wpAny_bind (wpAny_tryCatch (list_end2 (A := A.in1) hh hit (⟨ol, kp l ol hlI hol, hcol, nl, hdl⟩ : h.IsList l vs.toArray) (by simp [hlen, hin]) fun h' o hext ho hf => ?_))
    have hS' := hext S _ hSI hS
    have s1 := Heap.SameBut.update h' S (Obj.mapSeq fun _ => (#[] : Array Value))
    show wpAny _ A.in1 (updateSeq S (fun _ => #[]) >>= _) _ _ _
    refine wpAny_bind ?_
    refine wpAny_updateSeq hS' rfl (wpAny_bind (wpAny_letGo (wpAny_pure ?_)))
    refine hR xb t _ _ o ⟨i, hxi, fun j' y hy => ?_⟩ (fun b ob hb eb => s1.extBut b ob (fun q => by rw [q, hSn] at eb; cases eb) (hext b ob hb (kp b ob hb eb))) (s1.extBut _ _ hSI.symm ho) hf
    have := hbest j' y (Nat.lt_of_lt_of_eq (List.getElem?_eq_some_iff.mp hy).1 hin.symm) hy
    simpa using this
  | succ r ih =>
    intro j i h tk xb t tb c hr hj kp hS hit hxi hij hbest
    have hlt : j < xs.length := Nat.lt_of_sub_eq_succ hr
    have hxj : xs[j]? = some xs[j] := List.getElem?_eq_getElem hlt
    obtain ⟨u, hv⟩ := ints_get hxs hxj
    refine codeAny_builtin PySem.F.entry_min_loop ?_
    rw [Around.under_plainId PySem.F.plain_min_loop _]
    show wpAny _ A.in1 (seqItems? (.ref S) >>= _) _ _ _
    refine wpAny_bind (wpAny_seqItems hS rfl ?_)
    show wpAny _ A.in1 (tryCatch (pyNext (.ref I)) _ >>= _) _ _ _
    refine wpAny_bind (wpAny_tryCatch (wpAny_pyNext_list_item hit (⟨ol, kp l ol hlI hol, hcol, nl, hdl⟩ : h.IsList l vs.toArray) (by simpa using hv) fun h' hit' hsb => ?_))
    have kp' : ∀ b o, b ≠ I → s.heap.get? b = some o → h'.get? b = some o := fun b o hb eb => hsb.extBut b o hb (kp b o hb eb)
    have hS' := hsb.extBut S _ hSI hS
    subst hkf
    refine wpAny_bind (wpAny_pure ?_)
    try dsimp only at hS hS' hbest
    show wpAny _ A.in1 (tryCatch (holding [.int xs[j] u, .int ((fun x : Int => x) xs[j]) u] (richCompare .Lt (.int ((fun x : Int => x) xs[j]) u) (.int ((fun x : Int => x) xb) tb) >>= _)) _ >>= _) _ _ _
    refine wpAny_bind (wpAny_tryCatch (wpAny_holding (wpAny_bind (CmpOf.ints_lt (prog := C.prog) (w := C.w) (A := A.in1) (P := fun n v => ∃ t, v = .int (if n = 1 then (fun x : Int => x) xs[j] else (fun x : Int => x) xb) t) (fun n => if n = 1 then (fun x : Int => x) xs[j] else (fun x : Int => x) xb) (fun i v h => h) 1 0 _ _ _ _ _ ⟨u, rfl⟩ ⟨tb, rfl⟩ ?_))))
    refine wpAny_bind (wpAny_holding (wpAny_truthy_bool ?_))
    refine wpAny_bind (wpAny_letGo (wpAny_pure ?_))
    simp only [if_true, if_false, Nat.zero_ne_one, reduceIte, Nat.reduceEqDiff]
    by_cases hb' : (fun x : Int => x) xs[j] < (fun x : Int => x) xb
    · have s1 := Heap.SameBut.update h' S (Obj.mapSeq fun _ => #[.int xs[j] u, .int ((fun x : Int => x) xs[j]) u])
      obtain ⟨c2, hc2⟩ : ∃ c2, (h'.update S (Obj.mapSeq fun _ => #[.int xs[j] u, .int ((fun x : Int => x) xs[j]) u])).get? S = some (seqObj "list" #[.int xs[j] u, .int ((fun x : Int => x) xs[j]) u] c2) := ⟨_, get?_update_seq hS' fun _ => #[.int xs[j] u, .int ((fun x : Int => x) xs[j]) u]⟩
      simp only [hb', decide_true, if_true]
      refine wpAny_bind ?_
      refine wpAny_updateSeq hS' rfl (wpAny_bind (wpAny_letGo ?_))
      rw [name_min]
      refine wpAny_pure ⟨plainId_quiet PySem.F.plain_min_loop _, ih (j + 1) j _ _ xs[j] u u c2 (congrArg Nat.pred hr) hlt (fun b o hb eb => s1.extBut b o (fun q => by rw [q, hSn] at eb; cases eb) (kp' b o hb eb)) hc2 (hit'.at fun o e => s1.extBut _ o hSI.symm e) hxj (Nat.lt_succ_self _) fun j' y hj' hy => ?_⟩
      by_cases e : j' = j
      · subst e
        rw [hxj] at hy; cases hy
        exact ⟨Int.le_refl _, fun h => absurd h (Nat.lt_irrefl _)⟩
      · have hb1 := (hbest j' y (Nat.lt_of_le_of_ne (Nat.le_of_lt_succ hj') e) hy).1
        try simp only [gt_iff_lt] at hb'
        first | exact ⟨Int.le_trans (Int.le_of_lt hb') hb1, fun _ => Int.lt_of_lt_of_le hb' hb1⟩ | exact ⟨Int.le_trans hb1 (Int.le_of_lt hb'), fun _ => Int.lt_of_le_of_lt hb1 hb'⟩ | exact ⟨by (try dsimp only); omega, fun _ => by (try dsimp only); omega⟩
    · simp only [hb', decide_false, Bool.false_eq_true, if_false]
      refine wpAny_bind (wpAny_letGo ?_)
      rw [name_min]
      refine wpAny_pure ⟨plainId_quiet PySem.F.plain_min_loop _, ih (j + 1) i _ _ xb t tb c (congrArg Nat.pred hr) hlt kp' hS' hit' hxi (Nat.lt_succ_of_lt hij) fun j' y hj' hy => ?_⟩
      by_cases e : j' = j
      · subst e
        rw [hxj] at hy; cases hy
        try simp only [gt_iff_lt] at hb'
        first | exact ⟨Int.not_lt.mp hb', fun h => absurd h (Nat.lt_asymm hij)⟩ | exact ⟨by (try dsimp only); omega, fun _ => by (try dsimp only); omega⟩
      · exact hbest j' y (Nat.lt_of_le_of_ne (Nat.le_of_lt_succ hj') e) hy

set_option maxHeartbeats 4000000 in
theorem ckw_min_n {I l a sn : Addr} {o : Obj} {xs : List Int} {kf : Int → Int} {Q : V → St → Prop} (hk : 3 ≤ k) (hsI : σ.sto I = some (.raw o)) (hIO : IterO o l 0) (hs : (σ.sto l).bind O.items = some (xs.map V.int)) (hkf : kf = fun x => x)
    (h0 : xs = [] → ∀ o', Q (.ref sn) (σ.setSto I (.raw o'))) (h1 : ∀ x o', FB false kf xs x → Q (.int x) (σ.setSto I (.raw o'))) (hcalm : C.exc = none := by assumption) : CallKW C k F (.opq (.builtin "min")) [.ref I] [Str.ofString "default", Str.ofString "key"] [.ref sn, V.none] σ Q :=
  fun A s f' us' ks' hA S rf ru rk => by
    obtain rfl := rf.inv_opq
    obtain ⟨_, rfl, ra⟩ := ru.inv1; obtain rfl := ra.inv_ref
    obtain ⟨_, _, rfl, rk1, rk2⟩ := rk.inv2; obtain rfl := rk1.inv_ref; obtain rfl := rk2.inv_none
    obtain ⟨rI, rfI⟩ := S.sto I _ hsI
    obtain ⟨hb, vs, hl, hr⟩ := S.list hs
    have hxs := ints_reps hr
    have hlen := hxs.length
    obtain ⟨ol, hol, hcol, nl, hdl⟩ := id hl
    have hlI : l ≠ I := fun q => by rw [q, hsI] at hs; cases hs
    have hh := hA.1.calm hcalm
    have oI := S.off I _ hsI
    
    refine kmk_tree PySem.F.kind_min PySem.F.plain_min PySem.F.entry_min (args_min_dk _ _ _) ?_
    show wpAny _ A.in1 (Builtin.Builtins.bindParams "min" ["key", "default"] 0 ⟨[], [(Str.ofString "default", .ref sn), (Str.ofString "key", Value.none)]⟩ >>= _) _ _ s
    refine wpAny_bind (wpAny_of_eq (show Builtin.Builtins.bindParams "min" ["key", "default"] 0 ⟨[], [(Str.ofString "default", .ref sn), (Str.ofString "key", Value.none)]⟩ = pure [some Value.none, some (.ref sn)] from rfl) ?_)
    refine wpAny_bind (wpAny_pure ?_)
    refine wpAny_bind (wpAny_pyIter_listiter (l := l) (i := 0) ⟨o, rI, hIO.1, hIO.2⟩ ?_)
    refine wpAny_bind (wpAny_newList ?_ (Nat.zero_le _))
    rw [name_min]
    have hSn : s.heap.get? s.heap.objs.size = none := get_size _
    have hSI : s.heap.objs.size ≠ I := Nat.ne_of_gt (Heap.lt_size rI)
    refine wpAny_pure ⟨plainId_quiet PySem.F.plain_min_loop _, ?_⟩
    have fin' : ∀ (v : V) (v' : Value) (h' : Heap) (tk' : Nat) (o' : Obj), (∀ hh, Rep hh v v') → (∀ b o, b ≠ I → s.heap.get? b = some o → h'.get? b = some o) → h'.get? I = some o' → ¬ FrzO o' → Q v (σ.setSto I (.raw o')) → Post C F Rep σ s Q v' { s with heap := h', toks := tk' } := fun v v' h' tk' o' rv kp ho' hf' hq =>
      ⟨v, σ.setSto I (.raw o'), rv _, S.change hsI rfl (fun b o hb e => kp b o hb e) ⟨ho', hf'⟩, Mod.change (tk := tk') S hsI rfl (fun b o hb e => kp b o hb e) ⟨_, ho'⟩, hq⟩
    have gS : (s.heap.push (seqObj "list" #[] 0)).get? s.heap.objs.size = some (seqObj "list" #[] 0) := Heap.get?_push_size _ rfl
    have gI : (s.heap.push (seqObj "list" #[] 0)).IsListIter I l 0 := ⟨o, Heap.get?_push_of_some _ rI, hIO.1, hIO.2⟩
    have gl : (s.heap.push (seqObj "list" #[] 0)).IsList l vs.toArray := ⟨ol, Heap.get?_push_of_some _ hol, hcol, nl, hdl⟩
    refine codeAny_builtin PySem.F.entry_min_loop ?_
    rw [Around.under_plainId PySem.F.plain_min_loop _]
    show wpAny _ A.in1 (seqItems? (.ref s.heap.objs.size) >>= _) _ _ _
    refine wpAny_bind (wpAny_seqItems gS rfl ?_)
    show wpAny _ A.in1 (tryCatch (pyNext (.ref I)) _ >>= _) _ _ _
    by_cases he : xs = []
    · subst he
      refine wpAny_bind (wpAny_tryCatch (list_end2 (A := A.in1) hh gI gl (by simp at hlen; simp [hlen]) fun h' o' hext ho' hf' => ?_))
      refine wpAny_bind (wpAny_rule (wpAny_pure ?_))
      exact fin' (.ref sn) (.ref sn) h' _ o' (fun _ => .ref _) (fun b o hb e => hext b o hb (Heap.get?_push_of_some _ e)) ho' hf' (h0 rfl o')
    · have hlt : 0 < xs.length := List.length_pos_iff.mpr he
      have hxj : xs[0]? = some xs[0] := List.getElem?_eq_getElem hlt
      obtain ⟨u, hv⟩ := ints_get hxs hxj
      refine wpAny_bind (wpAny_tryCatch (wpAny_pyNext_list_item gI gl (by simpa using hv) fun h' hit' hsb => ?_))
      have kp' : ∀ b o, b ≠ I → s.heap.get? b = some o → h'.get? b = some o := fun b o hb eb => hsb.extBut b o hb (Heap.get?_push_of_some _ eb)
      have hS' := hsb.extBut s.heap.objs.size _ hSI gS
      subst hkf
      refine wpAny_bind (wpAny_pure ?_)
      have s1 := Heap.SameBut.update h' s.heap.objs.size (Obj.mapSeq fun _ => #[.int xs[0] u, .int ((fun x : Int => x) xs[0]) u])
      obtain ⟨c2, hc2⟩ : ∃ c2, (h'.update s.heap.objs.size (Obj.mapSeq fun _ => #[.int xs[0] u, .int ((fun x : Int => x) xs[0]) u])).get? s.heap.objs.size = some (seqObj "list" #[.int xs[0] u, .int ((fun x : Int => x) xs[0]) u] c2) := ⟨_, get?_update_seq hS' fun _ => #[.int xs[0] u, .int ((fun x : Int => x) xs[0]) u]⟩
      show wpAny _ A.in1 (updateSeq s.heap.objs.size (fun _ => #[.int xs[0] u, .int ((fun x : Int => x) xs[0]) u]) >>= _) _ _ _
      refine wpAny_bind ?_
      refine wpAny_updateSeq hS' rfl ?_
      rw [name_min]
      refine wpAny_pure ⟨plainId_quiet PySem.F.plain_min_loop _, min_loop_n (a := I) (kf := (fun x : Int => x)) hh hxs hl hlI hSn hSI rfl (fun x t h3 tk3 o3 fb kp3 ho3 hf3 => fin' (.int x) (.int x t) h3 tk3 o3 (fun _ => .int _ _) kp3 ho3 hf3 (h1 x o3 fb)) _ 1 0 _ _ xs[0] u u c2 rfl hlt (fun b o hb eb => s1.extBut b o (fun q => by rw [q, hSn] at eb; cases eb) (kp' b o hb eb)) hc2 (hit'.at fun o e => s1.extBut _ o hSI.symm e) hxj (Nat.lt_succ_self _) fun j' y hj' hy => ?_⟩
      have e : j' = 0 := by first | exact Nat.lt_one_iff.mp hj' | omega
      subst e
      rw [hxj] at hy; cases hy
      exact ⟨Int.le_refl _, fun h => absurd h (Nat.lt_irrefl _)⟩

set_option maxHeartbeats 4000000 in
theorem min_loop_k {I l S a : Addr} {vs : List Value} {xs : List Int} {kf : Int → Int} {d : Value} {A : Around} {s : Shared} {R : Result → Shared → Prop} (hh : A.handled = none) (hxs : IntsAre vs xs) (hl : s.heap.IsList l vs.toArray) (hlI : l ≠ I) (hSn : s.heap.get? S = none) (hSI : S ≠ I)
    (kc : KeyCall C a kf) (hd : A.in1.depth + 2 < recursionLimit) (hu : A.in1.units + 20 < cLine) (hGB : ∀ b o, C.GB.get? b = some o → s.heap.get? b = some o) (hGI : C.GB.get? I = none)
    (hR : ∀ x t h' tk' o, FB false kf xs x → (∀ b o, b ≠ I → s.heap.get? b = some o → h'.get? b = some o) → h'.get? I = some o → ¬ FrzO o → R (.ok (.ret (.int x t))) { s with heap := h', toks := tk' }) :
    ∀ (r j i : Nat) (h : Heap) (tk : Nat) (xb : Int) (t tb : Tok) (c : Nat), xs.length - j = r → j ≤ xs.length → (∀ b o, b ≠ I → s.heap.get? b = some o → h.get? b = some o) → h.get? S = some (seqObj "list" #[.int xb t, .int (kf xb) tb] c) → h.IsListIter I l j → xs[i]? = some xb → i < j →
      (∀ j' y, j' < j → xs[j']? = some y → kf xb ≤ kf y ∧ (j' < i → kf xb < kf y)) → codeAny (model C.prog C.w) A (.builtin "min.loop" ⟨[.ref I, (Value.ref a), .ref S], [(Str.ofString "default", d)]⟩) R { s with heap := h, toks := tk } := by
  obtain ⟨ol, hol, hcol, nl, hdl⟩ := id hl
  have hlen := hxs.length
  have lS : l ≠ S := fun q => by rw [q, hSn] at hol; cases hol
  intro r
  induction r with
  | zero =>
    intro j i h tk xb t tb c hr hj kp hS hit hxi hij hbest
    have hin : j = xs.length := Nat.le_antisymm hj (Nat.le_of_sub_eq_zero hr)
    refine codeAny_builtin PySem.F.entry_min_loop ?_
    rw [Around.under_plainId PySem.F.plain_min_loop _]
    show wpAny _ A.in1 (seqItems? (.ref S) >>= _) _ _ _
    refine wpAny_bind (wpAny_seqItems hS rfl ?_)
    show wpAny _ A.in1 (tryCatch (pyNext (.ref I)) _ >>= _) _ _ _
    refine wpAny_bind (wpAny_tryCatch (list_end2 (A := A.in1) hh hit (⟨ol, kp l ol hlI hol, hcol, nl, hdl⟩ : h.IsList l vs.toArray) (by simp [hlen, hin]) fun h' o hext ho hf => ?_))
    have hS' := hext S _ hSI hS
    have s1 := Heap.SameBut.update h' S (Obj.mapSeq fun _ => (#[] : Array Value))
    show wpAny _ A.in1 (updateSeq S (fun _ => #[]) >>= _) _ _ _
    refine wpAny_bind ?_
    refine wpAny_updateSeq hS' rfl (wpAny_bind (wpAny_letGo (wpAny_pure ?_)))
    refine hR xb t _ _ o ⟨i, hxi, fun j' y hy => ?_⟩ (fun b ob hb eb => s1.extBut b ob (fun q => by rw [q, hSn] at eb; cases eb) (hext b ob hb (kp b ob hb eb))) (s1.extBut _ _ hSI.symm ho) hf
    have := hbest j' y (Nat.lt_of_lt_of_eq (List.getElem?_eq_some_iff.mp hy).1 hin.symm) hy
    simpa using this
  | succ r ih =>
    intro j i h tk xb t tb c hr hj kp hS hit hxi hij hbest
    have hlt : j < xs.length := Nat.lt_of_sub_eq_succ hr
    have hxj : xs[j]? = some xs[j] := List.getElem?_eq_getElem hlt
    obtain ⟨u, hv⟩ := ints_get hxs hxj
    refine codeAny_builtin PySem.F.entry_min_loop ?_
    rw [Around.under_plainId PySem.F.plain_min_loop _]
    show wpAny _ A.in1 (seqItems? (.ref S) >>= _) _ _ _
    refine wpAny_bind (wpAny_seqItems hS rfl ?_)
    show wpAny _ A.in1 (tryCatch (pyNext (.ref I)) _ >>= _) _ _ _
    refine wpAny_bind (wpAny_tryCatch (wpAny_pyNext_list_item hit (⟨ol, kp l ol hlI hol, hcol, nl, hdl⟩ : h.IsList l vs.toArray) (by simpa using hv) fun h' hit' hsb => ?_))
    have kp' : ∀ b o, b ≠ I → s.heap.get? b = some o → h'.get? b = some o := fun b o hb eb => hsb.extBut b o hb (kp b o hb eb)
    have hS' := hsb.extBut S _ hSI hS
    show wpAny _ A.in1 (tryCatch (holding [.int xs[j] u] (call (.ref a) [.int xs[j] u])) _ >>= _) _ _ _
    refine wpAny_bind (wpAny_tryCatch (wpAny_holding (kc A.in1 _ xs[j] u _ _ (fun b o e => kp' b o (fun q => by rw [q, hGI] at e; cases e) (hGB b o e)) hd hu fun h2 tk2 t2 kk => ?_)))
    have hS2 := kk _ _ hS'
    have hit2 := hit'.at fun o e => kk _ o e
    have kp2 : ∀ b o, b ≠ I → s.heap.get? b = some o → h2.get? b = some o := fun b o hb e => kk b o (kp' b o hb e)
    show wpAny _ A.in1 (tryCatch (holding [.int xs[j] u, .int (kf xs[j]) t2] (richCompare .Lt (.int (kf xs[j]) t2) (.int (kf xb) tb) >>= _)) _ >>= _) _ _ _
    refine wpAny_bind (wpAny_tryCatch (wpAny_holding (wpAny_bind (CmpOf.ints_lt (prog := C.prog) (w := C.w) (A := A.in1) (P := fun n v => ∃ t, v = .int (if n = 1 then kf xs[j] else kf xb) t) (fun n => if n = 1 then kf xs[j] else kf xb) (fun i v h => h) 1 0 _ _ _ _ _ ⟨t2, rfl⟩ ⟨tb, rfl⟩ ?_))))
    refine wpAny_bind (wpAny_holding (wpAny_truthy_bool ?_))
    refine wpAny_bind (wpAny_letGo (wpAny_pure ?_))
    simp only [if_true, if_false, Nat.zero_ne_one, reduceIte, Nat.reduceEqDiff]
    by_cases hb' : kf xs[j] < kf xb
    · have s1 := Heap.SameBut.update h2 S (Obj.mapSeq fun _ => #[.int xs[j] u, .int (kf xs[j]) t2])
      obtain ⟨c2, hc2⟩ : ∃ c2, (h2.update S (Obj.mapSeq fun _ => #[.int xs[j] u, .int (kf xs[j]) t2])).get? S = some (seqObj "list" #[.int xs[j] u, .int (kf xs[j]) t2] c2) := ⟨_, get?_update_seq hS2 fun _ => #[.int xs[j] u, .int (kf xs[j]) t2]⟩
      simp only [hb', decide_true, if_true]
      refine wpAny_bind ?_
      refine wpAny_updateSeq hS2 rfl (wpAny_bind (wpAny_letGo ?_))
      rw [name_min]
      refine wpAny_pure ⟨plainId_quiet PySem.F.plain_min_loop _, ih (j + 1) j _ _ xs[j] u t2 c2 (congrArg Nat.pred hr) hlt (fun b o hb eb => s1.extBut b o (fun q => by rw [q, hSn] at eb; cases eb) (kp2 b o hb eb)) hc2 (hit2.at fun o e => s1.extBut _ o hSI.symm e) hxj (Nat.lt_succ_self _) fun j' y hj' hy => ?_⟩
      by_cases e : j' = j
      · subst e
        rw [hxj] at hy; cases hy
        exact ⟨Int.le_refl _, fun h => absurd h (Nat.lt_irrefl _)⟩
      · have hb1 := (hbest j' y (Nat.lt_of_le_of_ne (Nat.le_of_lt_succ hj') e) hy).1
        try simp only [gt_iff_lt] at hb'
        first | exact ⟨Int.le_trans (Int.le_of_lt hb') hb1, fun _ => Int.lt_of_lt_of_le hb' hb1⟩ | exact ⟨Int.le_trans hb1 (Int.le_of_lt hb'), fun _ => Int.lt_of_le_of_lt hb1 hb'⟩ | exact ⟨by (try dsimp only); omega, fun _ => by (try dsimp only); omega⟩
    · simp only [hb', decide_false, Bool.false_eq_true, if_false]
      refine wpAny_bind (wpAny_letGo ?_)
      rw [name_min]
      refine wpAny_pure ⟨plainId_quiet PySem.F.plain_min_loop _, ih (j + 1) i _ _ xb t tb c (congrArg Nat.pred hr) hlt kp2 hS2 hit2 hxi (Nat.lt_succ_of_lt hij) fun j' y hj' hy => ?_⟩
      by_cases e : j' = j
      · subst e
        rw [hxj] at hy; cases hy
        try simp only [gt_iff_lt] at hb'
        first | exact ⟨Int.not_lt.mp hb', fun h => absurd h (Nat.lt_asymm hij)⟩ | exact ⟨by (try dsimp only); omega, fun _ => by (try dsimp only); omega⟩
      · exact hbest j' y (Nat.lt_of_le_of_ne (Nat.le_of_lt_succ hj') e) hy

set_option maxHeartbeats 4000000 in
theorem ckw_min_k {I l a sn : Addr} {o : Obj} {xs : List Int} {kf : Int → Int} {Q : V → St → Prop} (hk : 3 ≤ k) (hsI : σ.sto I = some (.raw o)) (hIO : IterO o l 0) (hs : (σ.sto l).bind O.items = some (xs.map V.int)) (kc : KeyCall C a kf)
    (h0 : xs = [] → ∀ o', Q (.ref sn) (σ.setSto I (.raw o'))) (h1 : ∀ x o', FB false kf xs x → Q (.int x) (σ.setSto I (.raw o'))) (hcalm : C.exc = none := by assumption) : CallKW C k F (.opq (.builtin "min")) [.ref I] [Str.ofString "default", Str.ofString "key"] [.ref sn, .ref a] σ Q :=
  fun A s f' us' ks' hA S rf ru rk => by
    obtain rfl := rf.inv_opq
    obtain ⟨_, rfl, ra⟩ := ru.inv1; obtain rfl := ra.inv_ref
    obtain ⟨_, _, rfl, rk1, rk2⟩ := rk.inv2; obtain rfl := rk1.inv_ref; obtain rfl := rk2.inv_ref
    obtain ⟨rI, rfI⟩ := S.sto I _ hsI
    obtain ⟨hb, vs, hl, hr⟩ := S.list hs
    have hxs := ints_reps hr
    have hlen := hxs.length
    obtain ⟨ol, hol, hcol, nl, hdl⟩ := id hl
    have hlI : l ≠ I := fun q => by rw [q, hsI] at hs; cases hs
    have hh := hA.1.calm hcalm
    have oI := S.off I _ hsI
    have hd : A.in1.depth + 2 < recursionLimit := by have := hA.2.1; show A.depth + 2 < _; omega
    have hu : A.in1.units + 20 < cLine := by have := hA.2.2.1; show A.units + 1 + 20 < _; omega
    have hGB := fun b o e => S.base b o e
    have hGI := oI.1 rfl
    refine kmk_tree PySem.F.kind_min PySem.F.plain_min PySem.F.entry_min (args_min_dk _ _ _) ?_
    show wpAny _ A.in1 (Builtin.Builtins.bindParams "min" ["key", "default"] 0 ⟨[], [(Str.ofString "default", .ref sn), (Str.ofString "key", (Value.ref a))]⟩ >>= _) _ _ s
    refine wpAny_bind (wpAny_of_eq (show Builtin.Builtins.bindParams "min" ["key", "default"] 0 ⟨[], [(Str.ofString "default", .ref sn), (Str.ofString "key", (Value.ref a))]⟩ = pure [some (Value.ref a), some (.ref sn)] from rfl) ?_)
    refine wpAny_bind (wpAny_pure ?_)
    refine wpAny_bind (wpAny_pyIter_listiter (l := l) (i := 0) ⟨o, rI, hIO.1, hIO.2⟩ ?_)
    refine wpAny_bind (wpAny_newList ?_ (Nat.zero_le _))
    rw [name_min]
    have hSn : s.heap.get? s.heap.objs.size = none := get_size _
    have hSI : s.heap.objs.size ≠ I := Nat.ne_of_gt (Heap.lt_size rI)
    refine wpAny_pure ⟨plainId_quiet PySem.F.plain_min_loop _, ?_⟩
    have fin' : ∀ (v : V) (v' : Value) (h' : Heap) (tk' : Nat) (o' : Obj), (∀ hh, Rep hh v v') → (∀ b o, b ≠ I → s.heap.get? b = some o → h'.get? b = some o) → h'.get? I = some o' → ¬ FrzO o' → Q v (σ.setSto I (.raw o')) → Post C F Rep σ s Q v' { s with heap := h', toks := tk' } := fun v v' h' tk' o' rv kp ho' hf' hq =>
      ⟨v, σ.setSto I (.raw o'), rv _, S.change hsI rfl (fun b o hb e => kp b o hb e) ⟨ho', hf'⟩, Mod.change (tk := tk') S hsI rfl (fun b o hb e => kp b o hb e) ⟨_, ho'⟩, hq⟩
    have gS : (s.heap.push (seqObj "list" #[] 0)).get? s.heap.objs.size = some (seqObj "list" #[] 0) := Heap.get?_push_size _ rfl
    have gI : (s.heap.push (seqObj "list" #[] 0)).IsListIter I l 0 := ⟨o, Heap.get?_push_of_some _ rI, hIO.1, hIO.2⟩
    have gl : (s.heap.push (seqObj "list" #[] 0)).IsList l vs.toArray := ⟨ol, Heap.get?_push_of_some _ hol, hcol, nl, hdl⟩
    refine codeAny_builtin PySem.F.entry_min_loop ?_
    rw [Around.under_plainId PySem.F.plain_min_loop _]
    show wpAny _ A.in1 (seqItems? (.ref s.heap.objs.size) >>= _) _ _ _
    refine wpAny_bind (wpAny_seqItems gS rfl ?_)
    show wpAny _ A.in1 (tryCatch (pyNext (.ref I)) _ >>= _) _ _ _
    by_cases he : xs = []
    · subst he
      refine wpAny_bind (wpAny_tryCatch (list_end2 (A := A.in1) hh gI gl (by simp at hlen; simp [hlen]) fun h' o' hext ho' hf' => ?_))
      refine wpAny_bind (wpAny_rule (wpAny_pure ?_))
      exact fin' (.ref sn) (.ref sn) h' _ o' (fun _ => .ref _) (fun b o hb e => hext b o hb (Heap.get?_push_of_some _ e)) ho' hf' (h0 rfl o')
    · have hlt : 0 < xs.length := List.length_pos_iff.mpr he
      have hxj : xs[0]? = some xs[0] := List.getElem?_eq_getElem hlt
      obtain ⟨u, hv⟩ := ints_get hxs hxj
      refine wpAny_bind (wpAny_tryCatch (wpAny_pyNext_list_item gI gl (by simpa using hv) fun h' hit' hsb => ?_))
      have kp' : ∀ b o, b ≠ I → s.heap.get? b = some o → h'.get? b = some o := fun b o hb eb => hsb.extBut b o hb (Heap.get?_push_of_some _ eb)
      have hS' := hsb.extBut s.heap.objs.size _ hSI gS
      show wpAny _ A.in1 (tryCatch (holding [.int xs[0] u] (call (.ref a) [.int xs[0] u])) _ >>= _) _ _ _
      refine wpAny_bind (wpAny_tryCatch (wpAny_holding (kc A.in1 _ xs[0] u _ _ (fun b o e => kp' b o (fun q => by rw [q, hGI] at e; cases e) (hGB b o e)) hd hu fun h2 tk2 t2 kk => ?_)))
      have hS2 := kk _ _ hS'
      have hit2 := hit'.at fun o e => kk _ o e
      have kp2 : ∀ b o, b ≠ I → s.heap.get? b = some o → h2.get? b = some o := fun b o hb e => kk b o (kp' b o hb e)
      have s1 := Heap.SameBut.update h2 s.heap.objs.size (Obj.mapSeq fun _ => #[.int xs[0] u, .int (kf xs[0]) t2])
      obtain ⟨c2, hc2⟩ : ∃ c2, (h2.update s.heap.objs.size (Obj.mapSeq fun _ => #[.int xs[0] u, .int (kf xs[0]) t2])).get? s.heap.objs.size = some (seqObj "list" #[.int xs[0] u, .int (kf xs[0]) t2] c2) := ⟨_, get?_update_seq hS2 fun _ => #[.int xs[0] u, .int (kf xs[0]) t2]⟩
      show wpAny _ A.in1 (updateSeq s.heap.objs.size (fun _ => #[.int xs[0] u, .int (kf xs[0]) t2]) >>= _) _ _ _
      refine wpAny_bind ?_
      refine wpAny_updateSeq hS2 rfl ?_
      rw [name_min]
      refine wpAny_pure ⟨plainId_quiet PySem.F.plain_min_loop _, min_loop_k (a := a) (kf := kf) hh hxs hl hlI hSn hSI kc hd hu hGB hGI (fun x t h3 tk3 o3 fb kp3 ho3 hf3 => fin' (.int x) (.int x t) h3 tk3 o3 (fun _ => .int _ _) kp3 ho3 hf3 (h1 x o3 fb)) _ 1 0 _ _ xs[0] u t2 c2 rfl hlt (fun b o hb eb => s1.extBut b o (fun q => by rw [q, hSn] at eb; cases eb) (kp2 b o hb eb)) hc2 (hit2.at fun o e => s1.extBut _ o hSI.symm e) hxj (Nat.lt_succ_self _) fun j' y hj' hy => ?_⟩
      have e : j' = 0 := by first | exact Nat.lt_one_iff.mp hj' | omega
      subst e
      rw [hxj] at hy; cases hy
      exact ⟨Int.le_refl _, fun h => absurd h (Nat.lt_irrefl _)⟩

set_option maxHeartbeats 4000000 in
theorem max_loop_n {I l S a : Addr} {vs : List Value} {xs : List Int} {kf : Int → Int} {d : Value} {A : Around} {s : Shared} {R : Result → Shared → Prop} (hh : A.handled = none) (hxs : IntsAre vs xs) (hl : s.heap.IsList l vs.toArray) (hlI : l ≠ I) (hSn : s.heap.get? S = none) (hSI : S ≠ I)
    (hkf : kf = fun x => x)
    (hR : ∀ x t h' tk' o, FB true kf xs x → (∀ b o, b ≠ I → s.heap.get? b = some o → h'.get? b = some o) → h'.get? I = some o → ¬ FrzO o → R (.ok (.ret (.int x t))) { s with heap := h', toks := tk' }) :
    ∀ (r j i : Nat) (h : Heap) (tk : Nat) (xb : Int) (t tb : Tok) (c : Nat), xs.length - j = r → j ≤ xs.length → (∀ b o, b ≠ I → s.heap.get? b = some o → h.get? b = some o) → h.get? S = some (seqObj "list" #[.int xb t, .int (kf xb) tb] c) → h.IsListIter I l j → xs[i]? = some xb → i < j →
      (∀ j' y, j' < j → xs[j']? = some y → kf y ≤ kf xb ∧ (j' < i → kf y < kf xb)) → codeAny (model C.prog C.w) A (.builtin "max.loop" ⟨[.ref I, Value.none, .ref S], [(Str.ofString "default", d)]⟩) R { s with heap := h, toks := tk } := by
  obtain ⟨ol, hol, hcol, nl, hdl⟩ := id hl
  have hlen := hxs.length
  have lS : l ≠ S := fun q => by rw [q, hSn] at hol; cases hol
  intro r
  induction r with
  | zero =>
    intro j i h tk xb t tb c hr hj kp hS hit hxi hij hbest
    have hin : j = xs.length := Nat.le_antisymm hj (Nat.le_of_sub_eq_zero hr)
    refine codeAny_builtin PySem.F.entry_max_loop ?_
    rw [Around.under_plainId PySem.F.plain_max_loop _]
    show wpAny _ A.in1 (seqItems? (.ref S) >>= _) _ _ _
    refine wpAny_bind (wpAny_seqItems hS rfl ?_)
    show wpAny _ A.in1 (tryCatch (pyNext (.ref I)) _ >>= _) _ _ _
    refine wpAny_bind (wpAny_tryCatch (list_end2 (A := A.in1) hh hit (⟨ol, kp l ol hlI hol, hcol, nl, hdl⟩ : h.IsList l vs.toArray) (by simp [hlen, hin]) fun h' o hext ho hf => ?_))
    have hS' := hext S _ hSI hS
    have s1 := Heap.SameBut.update h' S (Obj.mapSeq fun _ => (#[] : Array Value))
    show wpAny _ A.in1 (updateSeq S (fun _ => #[]) >>= _) _ _ _
    refine wpAny_bind ?_
    refine wpAny_updateSeq hS' rfl (wpAny_bind (wpAny_letGo (wpAny_pure ?_)))
    refine hR xb t _ _ o ⟨i, hxi, fun j' y hy => ?_⟩ (fun b ob hb eb => s1.extBut b ob (fun q => by rw [q, hSn] at eb; cases eb) (hext b ob hb (kp b ob hb eb))) (s1.extBut _ _ hSI.symm ho) hf
    have := hbest j' y (Nat.lt_of_lt_of_eq (List.getElem?_eq_some_iff.mp hy).1 hin.symm) hy
    simpa using this
  | succ r ih =>
    intro j i h tk xb t tb c hr hj kp hS hit hxi hij hbest
    have hlt : j < xs.length := Nat.lt_of_sub_eq_succ hr
    have hxj : xs[j]? = some xs[j] := List.getElem?_eq_getElem hlt
    obtain ⟨u, hv⟩ := ints_get hxs hxj
    refine codeAny_builtin PySem.F.entry_max_loop ?_
    rw [Around.under_plainId PySem.F.plain_max_loop _]
    show wpAny _ A.in1 (seqItems? (.ref S) >>= _) _ _ _
    refine wpAny_bind (wpAny_seqItems hS rfl ?_)
    show wpAny _ A.in1 (tryCatch (pyNext (.ref I)) _ >>= _) _ _ _
    refine wpAny_bind (wpAny_tryCatch (wpAny_pyNext_list_item hit (⟨ol, kp l ol hlI hol, hcol, nl, hdl⟩ : h.IsList l vs.toArray) (by simpa using hv) fun h' hit' hsb => ?_))
    have kp' : ∀ b o, b ≠ I → s.heap.get? b = some o → h'.get? b = some o := fun b o hb eb => hsb.extBut b o hb (kp b o hb eb)
    have hS' := hsb.extBut S _ hSI hS
    subst hkf
    refine wpAny_bind (wpAny_pure ?_)
    try dsimp only at hS hS' hbest
    show wpAny _ A.in1 (tryCatch (holding [.int xs[j] u, .int ((fun x : Int => x) xs[j]) u] (richCompare .Gt (.int ((fun x : Int => x) xs[j]) u) (.int ((fun x : Int => x) xb) tb) >>= _)) _ >>= _) _ _ _
    refine wpAny_bind (wpAny_tryCatch (wpAny_holding (wpAny_bind (CmpOf.ints_gt (prog := C.prog) (w := C.w) (A := A.in1) (P := fun n v => ∃ t, v = .int (if n = 1 then (fun x : Int => x) xs[j] else (fun x : Int => x) xb) t) (fun n => if n = 1 then (fun x : Int => x) xs[j] else (fun x : Int => x) xb) (fun i v h => h) 1 0 _ _ _ _ _ ⟨u, rfl⟩ ⟨tb, rfl⟩ ?_))))
    refine wpAny_bind (wpAny_holding (wpAny_truthy_bool ?_))
    refine wpAny_bind (wpAny_letGo (wpAny_pure ?_))
    simp only [if_true, if_false, Nat.zero_ne_one, reduceIte, Nat.reduceEqDiff]
    by_cases hb' : (fun x : Int => x) xs[j] > (fun x : Int => x) xb
    · have s1 := Heap.SameBut.update h' S (Obj.mapSeq fun _ => #[.int xs[j] u, .int ((fun x : Int => x) xs[j]) u])
      obtain ⟨c2, hc2⟩ : ∃ c2, (h'.update S (Obj.mapSeq fun _ => #[.int xs[j] u, .int ((fun x : Int => x) xs[j]) u])).get? S = some (seqObj "list" #[.int xs[j] u, .int ((fun x : Int => x) xs[j]) u] c2) := ⟨_, get?_update_seq hS' fun _ => #[.int xs[j] u, .int ((fun x : Int => x) xs[j]) u]⟩
      simp only [hb', decide_true, if_true]
      refine wpAny_bind ?_
      refine wpAny_updateSeq hS' rfl (wpAny_bind (wpAny_letGo ?_))
      rw [name_max]
      refine wpAny_pure ⟨plainId_quiet PySem.F.plain_max_loop _, ih (j + 1) j _ _ xs[j] u u c2 (congrArg Nat.pred hr) hlt (fun b o hb eb => s1.extBut b o (fun q => by rw [q, hSn] at eb; cases eb) (kp' b o hb eb)) hc2 (hit'.at fun o e => s1.extBut _ o hSI.symm e) hxj (Nat.lt_succ_self _) fun j' y hj' hy => ?_⟩
      by_cases e : j' = j
      · subst e
        rw [hxj] at hy; cases hy
        exact ⟨Int.le_refl _, fun h => absurd h (Nat.lt_irrefl _)⟩
      · have hb1 := (hbest j' y (Nat.lt_of_le_of_ne (Nat.le_of_lt_succ hj') e) hy).1
        try simp only [gt_iff_lt] at hb'
        first | exact ⟨Int.le_trans (Int.le_of_lt hb') hb1, fun _ => Int.lt_of_lt_of_le hb' hb1⟩ | exact ⟨Int.le_trans hb1 (Int.le_of_lt hb'), fun _ => Int.lt_of_le_of_lt hb1 hb'⟩ | exact ⟨by (try dsimp only); omega, fun _ => by (try dsimp only); omega⟩
    · simp only [hb', decide_false, Bool.false_eq_true, if_false]
      refine wpAny_bind (wpAny_letGo ?_)
      rw [name_max]
      refine wpAny_pure ⟨plainId_quiet PySem.F.plain_max_loop _, ih (j + 1) i _ _ xb t tb c (congrArg Nat.pred hr) hlt kp' hS' hit' hxi (Nat.lt_succ_of_lt hij) fun j' y hj' hy => ?_⟩
      by_cases e : j' = j
      · subst e
        rw [hxj] at hy; cases hy
        try simp only [gt_iff_lt] at hb'
        first | exact ⟨Int.not_lt.mp hb', fun h => absurd h (Nat.lt_asymm hij)⟩ | exact ⟨by (try dsimp only); omega, fun _ => by (try dsimp only); omega⟩
      · exact hbest j' y (Nat.lt_of_le_of_ne (Nat.le_of_lt_succ hj') e) hy

set_option maxHeartbeats 4000000 in
theorem ckw_max_n {I l a sn : Addr} {o : Obj} {xs : List Int} {kf : Int → Int} {Q : V → St → Prop} (hk : 3 ≤ k) (hsI : σ.sto I = some (.raw o)) (hIO : IterO o l 0) (hs : (σ.sto l).bind O.items = some (xs.map V.int)) (hkf : kf = fun x => x)
    (h0 : xs = [] → ∀ o', Q (.ref sn) (σ.setSto I (.raw o'))) (h1 : ∀ x o', FB true kf xs x → Q (.int x) (σ.setSto I (.raw o'))) (hcalm : C.exc = none := by assumption) : CallKW C k F (.opq (.builtin "max")) [.ref I] [Str.ofString "default", Str.ofString "key"] [.ref sn, V.none] σ Q :=
  fun A s f' us' ks' hA S rf ru rk => by
    obtain rfl := rf.inv_opq
    obtain ⟨_, rfl, ra⟩ := ru.inv1; obtain rfl := ra.inv_ref
    obtain ⟨_, _, rfl, rk1, rk2⟩ := rk.inv2; obtain rfl := rk1.inv_ref; obtain rfl := rk2.inv_none
    obtain ⟨rI, rfI⟩ := S.sto I _ hsI
    obtain ⟨hb, vs, hl, hr⟩ := S.list hs
    have hxs := ints_reps hr
    have hlen := hxs.length
    obtain ⟨ol, hol, hcol, nl, hdl⟩ := id hl
    have hlI : l ≠ I := fun q => by rw [q, hsI] at hs; cases hs
    have hh := hA.1.calm hcalm
    have oI := S.off I _ hsI
    
    refine kmk_tree PySem.F.kind_max PySem.F.plain_max PySem.F.entry_max (args_max_dk _ _ _) ?_
    show wpAny _ A.in1 (Builtin.Builtins.bindParams "max" ["key", "default"] 0 ⟨[], [(Str.ofString "default", .ref sn), (Str.ofString "key", Value.none)]⟩ >>= _) _ _ s
    refine wpAny_bind (wpAny_of_eq (show Builtin.Builtins.bindParams "max" ["key", "default"] 0 ⟨[], [(Str.ofString "default", .ref sn), (Str.ofString "key", Value.none)]⟩ = pure [some Value.none, some (.ref sn)] from rfl) ?_)
    refine wpAny_bind (wpAny_pure ?_)
    refine wpAny_bind (wpAny_pyIter_listiter (l := l) (i := 0) ⟨o, rI, hIO.1, hIO.2⟩ ?_)
    refine wpAny_bind (wpAny_newList ?_ (Nat.zero_le _))
    rw [name_max]
    have hSn : s.heap.get? s.heap.objs.size = none := get_size _
    have hSI : s.heap.objs.size ≠ I := Nat.ne_of_gt (Heap.lt_size rI)
    refine wpAny_pure ⟨plainId_quiet PySem.F.plain_max_loop _, ?_⟩
    have fin' : ∀ (v : V) (v' : Value) (h' : Heap) (tk' : Nat) (o' : Obj), (∀ hh, Rep hh v v') → (∀ b o, b ≠ I → s.heap.get? b = some o → h'.get? b = some o) → h'.get? I = some o' → ¬ FrzO o' → Q v (σ.setSto I (.raw o')) → Post C F Rep σ s Q v' { s with heap := h', toks := tk' } := fun v v' h' tk' o' rv kp ho' hf' hq =>
      ⟨v, σ.setSto I (.raw o'), rv _, S.change hsI rfl (fun b o hb e => kp b o hb e) ⟨ho', hf'⟩, Mod.change (tk := tk') S hsI rfl (fun b o hb e => kp b o hb e) ⟨_, ho'⟩, hq⟩
    have gS : (s.heap.push (seqObj "list" #[] 0)).get? s.heap.objs.size = some (seqObj "list" #[] 0) := Heap.get?_push_size _ rfl
    have gI : (s.heap.push (seqObj "list" #[] 0)).IsListIter I l 0 := ⟨o, Heap.get?_push_of_some _ rI, hIO.1, hIO.2⟩
    have gl : (s.heap.push (seqObj "list" #[] 0)).IsList l vs.toArray := ⟨ol, Heap.get?_push_of_some _ hol, hcol, nl, hdl⟩
    refine codeAny_builtin PySem.F.entry_max_loop ?_
    rw [Around.under_plainId PySem.F.plain_max_loop _]
    show wpAny _ A.in1 (seqItems? (.ref s.heap.objs.size) >>= _) _ _ _
    refine wpAny_bind (wpAny_seqItems gS rfl ?_)
    show wpAny _ A.in1 (tryCatch (pyNext (.ref I)) _ >>= _) _ _ _
    by_cases he : xs = []
    · subst he
      refine wpAny_bind (wpAny_tryCatch (list_end2 (A := A.in1) hh gI gl (by simp at hlen; simp [hlen]) fun h' o' hext ho' hf' => ?_))
      refine wpAny_bind (wpAny_rule (wpAny_pure ?_))
      exact fin' (.ref sn) (.ref sn) h' _ o' (fun _ => .ref _) (fun b o hb e => hext b o hb (Heap.get?_push_of_some _ e)) ho' hf' (h0 rfl o')
    · have hlt : 0 < xs.length := List.length_pos_iff.mpr he
      have hxj : xs[0]? = some xs[0] := List.getElem?_eq_getElem hlt
      obtain ⟨u, hv⟩ := ints_get hxs hxj
      refine wpAny_bind (wpAny_tryCatch (wpAny_pyNext_list_item gI gl (by simpa using hv) fun h' hit' hsb => ?_))
      have kp' : ∀ b o, b ≠ I → s.heap.get? b = some o → h'.get? b = some o := fun b o hb eb => hsb.extBut b o hb (Heap.get?_push_of_some _ eb)
      have hS' := hsb.extBut s.heap.objs.size _ hSI gS
      subst hkf
      refine wpAny_bind (wpAny_pure ?_)
      have s1 := Heap.SameBut.update h' s.heap.objs.size (Obj.mapSeq fun _ => #[.int xs[0] u, .int ((fun x : Int => x) xs[0]) u])
      obtain ⟨c2, hc2⟩ : ∃ c2, (h'.update s.heap.objs.size (Obj.mapSeq fun _ => #[.int xs[0] u, .int ((fun x : Int => x) xs[0]) u])).get? s.heap.objs.size = some (seqObj "list" #[.int xs[0] u, .int ((fun x : Int => x) xs[0]) u] c2) := ⟨_, get?_update_seq hS' fun _ => #[.int xs[0] u, .int ((fun x : Int => x) xs[0]) u]⟩
      show wpAny _ A.in1 (updateSeq s.heap.objs.size (fun _ => #[.int xs[0] u, .int ((fun x : Int => x) xs[0]) u]) >>= _) _ _ _
      refine wpAny_bind ?_
      refine wpAny_updateSeq hS' rfl ?_
      rw [name_max]
      refine wpAny_pure ⟨plainId_quiet PySem.F.plain_max_loop _, max_loop_n (a := I) (kf := (fun x : Int => x)) hh hxs hl hlI hSn hSI rfl (fun x t h3 tk3 o3 fb kp3 ho3 hf3 => fin' (.int x) (.int x t) h3 tk3 o3 (fun _ => .int _ _) kp3 ho3 hf3 (h1 x o3 fb)) _ 1 0 _ _ xs[0] u u c2 rfl hlt (fun b o hb eb => s1.extBut b o (fun q => by rw [q, hSn] at eb; cases eb) (kp' b o hb eb)) hc2 (hit'.at fun o e => s1.extBut _ o hSI.symm e) hxj (Nat.lt_succ_self _) fun j' y hj' hy => ?_⟩
      have e : j' = 0 := by first | exact Nat.lt_one_iff.mp hj' | omega
      subst e
      rw [hxj] at hy; cases hy
      exact ⟨Int.le_refl _, fun h => absurd h (Nat.lt_irrefl _)⟩

set_option maxHeartbeats 4000000 in
theorem max_loop_k {I l S a : Addr} {vs : List Value} {xs : List Int} {kf : Int → Int} {d : Value} {A : Around} {s : Shared} {R : Result → Shared → Prop} (hh : A.handled = none) (hxs : IntsAre vs xs) (hl : s.heap.IsList l vs.toArray) (hlI : l ≠ I) (hSn : s.heap.get? S = none) (hSI : S ≠ I)
    (kc : KeyCall C a kf) (hd : A.in1.depth + 2 < recursionLimit) (hu : A.in1.units + 20 < cLine) (hGB : ∀ b o, C.GB.get? b = some o → s.heap.get? b = some o) (hGI : C.GB.get? I = none)
    (hR : ∀ x t h' tk' o, FB true kf xs x → (∀ b o, b ≠ I → s.heap.get? b = some o → h'.get? b = some o) → h'.get? I = some o → ¬ FrzO o → R (.ok (.ret (.int x t))) { s with heap := h', toks := tk' }) :
    ∀ (r j i : Nat) (h : Heap) (tk : Nat) (xb : Int) (t tb : Tok) (c : Nat), xs.length - j = r → j ≤ xs.length → (∀ b o, b ≠ I → s.heap.get? b = some o → h.get? b = some o) → h.get? S = some (seqObj "list" #[.int xb t, .int (kf xb) tb] c) → h.IsListIter I l j → xs[i]? = some xb → i < j →
      (∀ j' y, j' < j → xs[j']? = some y → kf y ≤ kf xb ∧ (j' < i → kf y < kf xb)) → codeAny (model C.prog C.w) A (.builtin "max.loop" ⟨[.ref I, (Value.ref a), .ref S], [(Str.ofString "default", d)]⟩) R { s with heap := h, toks := tk } := by
  obtain ⟨ol, hol, hcol, nl, hdl⟩ := id hl
  have hlen := hxs.length
  have lS : l ≠ S := fun q => by rw [q, hSn] at hol; cases hol
  intro r
  induction r with
  | zero =>
    intro j i h tk xb t tb c hr hj kp hS hit hxi hij hbest
    have hin : j = xs.length := Nat.le_antisymm hj (Nat.le_of_sub_eq_zero hr)
    refine codeAny_builtin PySem.F.entry_max_loop ?_
    rw [Around.under_plainId PySem.F.plain_max_loop _]
    show wpAny _ A.in1 (seqItems? (.ref S) >>= _) _ _ _
    refine wpAny_bind (wpAny_seqItems hS rfl ?_)
    show wpAny _ A.in1 (tryCatch (pyNext (.ref I)) _ >>= _) _ _ _
    refine wpAny_bind (wpAny_tryCatch (list_end2 (A := A.in1) hh hit (⟨ol, kp l ol hlI hol, hcol, nl, hdl⟩ : h.IsList l vs.toArray) (by simp [hlen, hin]) fun h' o hext ho hf => ?_))
    have hS' := hext S _ hSI hS
    have s1 := Heap.SameBut.update h' S (Obj.mapSeq fun _ => (#[] : Array Value))
    show wpAny _ A.in1 (updateSeq S (fun _ => #[]) >>= _) _ _ _
    refine wpAny_bind ?_
    refine wpAny_updateSeq hS' rfl (wpAny_bind (wpAny_letGo (wpAny_pure ?_)))
    refine hR xb t _ _ o ⟨i, hxi, fun j' y hy => ?_⟩ (fun b ob hb eb => s1.extBut b ob (fun q => by rw [q, hSn] at eb; cases eb) (hext b ob hb (kp b ob hb eb))) (s1.extBut _ _ hSI.symm ho) hf
    have := hbest j' y (Nat.lt_of_lt_of_eq (List.getElem?_eq_some_iff.mp hy).1 hin.symm) hy
    simpa using this
  | succ r ih =>
    intro j i h tk xb t tb c hr hj kp hS hit hxi hij hbest
    have hlt : j < xs.length := Nat.lt_of_sub_eq_succ hr
    have hxj : xs[j]? = some xs[j] := List.getElem?_eq_getElem hlt
    obtain ⟨u, hv⟩ := ints_get hxs hxj
    refine codeAny_builtin PySem.F.entry_max_loop ?_
    rw [Around.under_plainId PySem.F.plain_max_loop _]
    show wpAny _ A.in1 (seqItems? (.ref S) >>= _) _ _ _
    refine wpAny_bind (wpAny_seqItems hS rfl ?_)
    show wpAny _ A.in1 (tryCatch (pyNext (.ref I)) _ >>= _) _ _ _
    refine wpAny_bind (wpAny_tryCatch (wpAny_pyNext_list_item hit (⟨ol, kp l ol hlI hol, hcol, nl, hdl⟩ : h.IsList l vs.toArray) (by simpa using hv) fun h' hit' hsb => ?_))
    have kp' : ∀ b o, b ≠ I → s.heap.get? b = some o → h'.get? b = some o := fun b o hb eb => hsb.extBut b o hb (kp b o hb eb)
    have hS' := hsb.extBut S _ hSI hS
    show wpAny _ A.in1 (tryCatch (holding [.int xs[j] u] (call (.ref a) [.int xs[j] u])) _ >>= _) _ _ _
    refine wpAny_bind (wpAny_tryCatch (wpAny_holding (kc A.in1 _ xs[j] u _ _ (fun b o e => kp' b o (fun q => by rw [q, hGI] at e; cases e) (hGB b o e)) hd hu fun h2 tk2 t2 kk => ?_)))
    have hS2 := kk _ _ hS'
    have hit2 := hit'.at fun o e => kk _ o e
    have kp2 : ∀ b o, b ≠ I → s.heap.get? b = some o → h2.get? b = some o := fun b o hb e => kk b o (kp' b o hb e)
    show wpAny _ A.in1 (tryCatch (holding [.int xs[j] u, .int (kf xs[j]) t2] (richCompare .Gt (.int (kf xs[j]) t2) (.int (kf xb) tb) >>= _)) _ >>= _) _ _ _
    refine wpAny_bind (wpAny_tryCatch (wpAny_holding (wpAny_bind (CmpOf.ints_gt (prog := C.prog) (w := C.w) (A := A.in1) (P := fun n v => ∃ t, v = .int (if n = 1 then kf xs[j] else kf xb) t) (fun n => if n = 1 then kf xs[j] else kf xb) (fun i v h => h) 1 0 _ _ _ _ _ ⟨t2, rfl⟩ ⟨tb, rfl⟩ ?_))))
    refine wpAny_bind (wpAny_holding (wpAny_truthy_bool ?_))
    refine wpAny_bind (wpAny_letGo (wpAny_pure ?_))
    simp only [if_true, if_false, Nat.zero_ne_one, reduceIte, Nat.reduceEqDiff]
    by_cases hb' : kf xs[j] > kf xb
    · have s1 := Heap.SameBut.update h2 S (Obj.mapSeq fun _ => #[.int xs[j] u, .int (kf xs[j]) t2])
      obtain ⟨c2, hc2⟩ : ∃ c2, (h2.update S (Obj.mapSeq fun _ => #[.int xs[j] u, .int (kf xs[j]) t2])).get? S = some (seqObj "list" #[.int xs[j] u, .int (kf xs[j]) t2] c2) := ⟨_, get?_update_seq hS2 fun _ => #[.int xs[j] u, .int (kf xs[j]) t2]⟩
      simp only [hb', decide_true, if_true]
      refine wpAny_bind ?_
      refine wpAny_updateSeq hS2 rfl (wpAny_bind (wpAny_letGo ?_))
      rw [name_max]
      refine wpAny_pure ⟨plainId_quiet PySem.F.plain_max_loop _, ih (j + 1) j _ _ xs[j] u t2 c2 (congrArg Nat.pred hr) hlt (fun b o hb eb => s1.extBut b o (fun q => by rw [q, hSn] at eb; cases eb) (kp2 b o hb eb)) hc2 (hit2.at fun o e => s1.extBut _ o hSI.symm e) hxj (Nat.lt_succ_self _) fun j' y hj' hy => ?_⟩
      by_cases e : j' = j
      · subst e
        rw [hxj] at hy; cases hy
        exact ⟨Int.le_refl _, fun h => absurd h (Nat.lt_irrefl _)⟩
      · have hb1 := (hbest j' y (Nat.lt_of_le_of_ne (Nat.le_of_lt_succ hj') e) hy).1
        try simp only [gt_iff_lt] at hb'
        first | exact ⟨Int.le_trans (Int.le_of_lt hb') hb1, fun _ => Int.lt_of_lt_of_le hb' hb1⟩ | exact ⟨Int.le_trans hb1 (Int.le_of_lt hb'), fun _ => Int.lt_of_le_of_lt hb1 hb'⟩ | exact ⟨by (try dsimp only); omega, fun _ => by (try dsimp only); omega⟩
    · simp only [hb', decide_false, Bool.false_eq_true, if_false]
      refine wpAny_bind (wpAny_letGo ?_)
      rw [name_max]
      refine wpAny_pure ⟨plainId_quiet PySem.F.plain_max_loop _, ih (j + 1) i _ _ xb t tb c (congrArg Nat.pred hr) hlt kp2 hS2 hit2 hxi (Nat.lt_succ_of_lt hij) fun j' y hj' hy => ?_⟩
      by_cases e : j' = j
      · subst e
        rw [hxj] at hy; cases hy
        try simp only [gt_iff_lt] at hb'
        first | exact ⟨Int.not_lt.mp hb', fun h => absurd h (Nat.lt_asymm hij)⟩ | exact ⟨by (try dsimp only); omega, fun _ => by (try dsimp only); omega⟩
      · exact hbest j' y (Nat.lt_of_le_of_ne (Nat.le_of_lt_succ hj') e) hy

set_option maxHeartbeats 4000000 in
theorem ckw_max_k {I l a sn : Addr} {o : Obj} {xs : List Int} {kf : Int → Int} {Q : V → St → Prop} (hk : 3 ≤ k) (hsI : σ.sto I = some (.raw o)) (hIO : IterO o l 0) (hs : (σ.sto l).bind O.items = some (xs.map V.int)) (kc : KeyCall C a kf)
    (h0 : xs = [] → ∀ o', Q (.ref sn) (σ.setSto I (.raw o'))) (h1 : ∀ x o', FB true kf xs x → Q (.int x) (σ.setSto I (.raw o'))) (hcalm : C.exc = none := by assumption) : CallKW C k F (.opq (.builtin "max")) [.ref I] [Str.ofString "default", Str.ofString "key"] [.ref sn, .ref a] σ Q :=
  fun A s f' us' ks' hA S rf ru rk => by
    obtain rfl := rf.inv_opq
    obtain ⟨_, rfl, ra⟩ := ru.inv1; obtain rfl := ra.inv_ref
    obtain ⟨_, _, rfl, rk1, rk2⟩ := rk.inv2; obtain rfl := rk1.inv_ref; obtain rfl := rk2.inv_ref
    obtain ⟨rI, rfI⟩ := S.sto I _ hsI
    obtain ⟨hb, vs, hl, hr⟩ := S.list hs
    have hxs := ints_reps hr
    have hlen := hxs.length
    obtain ⟨ol, hol, hcol, nl, hdl⟩ := id hl
    have hlI : l ≠ I := fun q => by rw [q, hsI] at hs; cases hs
    have hh := hA.1.calm hcalm
    have oI := S.off I _ hsI
    have hd : A.in1.depth + 2 < recursionLimit := by have := hA.2.1; show A.depth + 2 < _; omega
    have hu : A.in1.units + 20 < cLine := by have := hA.2.2.1; show A.units + 1 + 20 < _; omega
    have hGB := fun b o e => S.base b o e
    have hGI := oI.1 rfl
    refine kmk_tree PySem.F.kind_max PySem.F.plain_max PySem.F.entry_max (args_max_dk _ _ _) ?_
    show wpAny _ A.in1 (Builtin.Builtins.bindParams "max" ["key", "default"] 0 ⟨[], [(Str.ofString "default", .ref sn), (Str.ofString "key", (Value.ref a))]⟩ >>= _) _ _ s
    refine wpAny_bind (wpAny_of_eq (show Builtin.Builtins.bindParams "max" ["key", "default"] 0 ⟨[], [(Str.ofString "default", .ref sn), (Str.ofString "key", (Value.ref a))]⟩ = pure [some (Value.ref a), some (.ref sn)] from rfl) ?_)
    refine wpAny_bind (wpAny_pure ?_)
    refine wpAny_bind (wpAny_pyIter_listiter (l := l) (i := 0) ⟨o, rI, hIO.1, hIO.2⟩ ?_)
    refine wpAny_bind (wpAny_newList ?_ (Nat.zero_le _))
    rw [name_max]
    have hSn : s.heap.get? s.heap.objs.size = none := get_size _
    have hSI : s.heap.objs.size ≠ I := Nat.ne_of_gt (Heap.lt_size rI)
    refine wpAny_pure ⟨plainId_quiet PySem.F.plain_max_loop _, ?_⟩
    have fin' : ∀ (v : V) (v' : Value) (h' : Heap) (tk' : Nat) (o' : Obj), (∀ hh, Rep hh v v') → (∀ b o, b ≠ I → s.heap.get? b = some o → h'.get? b = some o) → h'.get? I = some o' → ¬ FrzO o' → Q v (σ.setSto I (.raw o')) → Post C F Rep σ s Q v' { s with heap := h', toks := tk' } := fun v v' h' tk' o' rv kp ho' hf' hq =>
      ⟨v, σ.setSto I (.raw o'), rv _, S.change hsI rfl (fun b o hb e => kp b o hb e) ⟨ho', hf'⟩, Mod.change (tk := tk') S hsI rfl (fun b o hb e => kp b o hb e) ⟨_, ho'⟩, hq⟩
    have gS : (s.heap.push (seqObj "list" #[] 0)).get? s.heap.objs.size = some (seqObj "list" #[] 0) := Heap.get?_push_size _ rfl
    have gI : (s.heap.push (seqObj "list" #[] 0)).IsListIter I l 0 := ⟨o, Heap.get?_push_of_some _ rI, hIO.1, hIO.2⟩
    have gl : (s.heap.push (seqObj "list" #[] 0)).IsList l vs.toArray := ⟨ol, Heap.get?_push_of_some _ hol, hcol, nl, hdl⟩
    refine codeAny_builtin PySem.F.entry_max_loop ?_
    rw [Around.under_plainId PySem.F.plain_max_loop _]
    show wpAny _ A.in1 (seqItems? (.ref s.heap.objs.size) >>= _) _ _ _
    refine wpAny_bind (wpAny_seqItems gS rfl ?_)
    show wpAny _ A.in1 (tryCatch (pyNext (.ref I)) _ >>= _) _ _ _
    by_cases he : xs = []
    · subst he
      refine wpAny_bind (wpAny_tryCatch (list_end2 (A := A.in1) hh gI gl (by simp at hlen; simp [hlen]) fun h' o' hext ho' hf' => ?_))
      refine wpAny_bind (wpAny_rule (wpAny_pure ?_))
      exact fin' (.ref sn) (.ref sn) h' _ o' (fun _ => .ref _) (fun b o hb e => hext b o hb (Heap.get?_push_of_some _ e)) ho' hf' (h0 rfl o')
    · have hlt : 0 < xs.length := List.length_pos_iff.mpr he
      have hxj : xs[0]? = some xs[0] := List.getElem?_eq_getElem hlt
      obtain ⟨u, hv⟩ := ints_get hxs hxj
      refine wpAny_bind (wpAny_tryCatch (wpAny_pyNext_list_item gI gl (by simpa using hv) fun h' hit' hsb => ?_))
      have kp' : ∀ b o, b ≠ I → s.heap.get? b = some o → h'.get? b = some o := fun b o hb eb => hsb.extBut b o hb (Heap.get?_push_of_some _ eb)
      have hS' := hsb.extBut s.heap.objs.size _ hSI gS
      show wpAny _ A.in1 (tryCatch (holding [.int xs[0] u] (call (.ref a) [.int xs[0] u])) _ >>= _) _ _ _
      refine wpAny_bind (wpAny_tryCatch (wpAny_holding (kc A.in1 _ xs[0] u _ _ (fun b o e => kp' b o (fun q => by rw [q, hGI] at e; cases e) (hGB b o e)) hd hu fun h2 tk2 t2 kk => ?_)))
      have hS2 := kk _ _ hS'
      have hit2 := hit'.at fun o e => kk _ o e
      have kp2 : ∀ b o, b ≠ I → s.heap.get? b = some o → h2.get? b = some o := fun b o hb e => kk b o (kp' b o hb e)
      have s1 := Heap.SameBut.update h2 s.heap.objs.size (Obj.mapSeq fun _ => #[.int xs[0] u, .int (kf xs[0]) t2])
      obtain ⟨c2, hc2⟩ : ∃ c2, (h2.update s.heap.objs.size (Obj.mapSeq fun _ => #[.int xs[0] u, .int (kf xs[0]) t2])).get? s.heap.objs.size = some (seqObj "list" #[.int xs[0] u, .int (kf xs[0]) t2] c2) := ⟨_, get?_update_seq hS2 fun _ => #[.int xs[0] u, .int (kf xs[0]) t2]⟩
      show wpAny _ A.in1 (updateSeq s.heap.objs.size (fun _ => #[.int xs[0] u, .int (kf xs[0]) t2]) >>= _) _ _ _
      refine wpAny_bind ?_
      refine wpAny_updateSeq hS2 rfl ?_
      rw [name_max]
      refine wpAny_pure ⟨plainId_quiet PySem.F.plain_max_loop _, max_loop_k (a := a) (kf := kf) hh hxs hl hlI hSn hSI kc hd hu hGB hGI (fun x t h3 tk3 o3 fb kp3 ho3 hf3 => fin' (.int x) (.int x t) h3 tk3 o3 (fun _ => .int _ _) kp3 ho3 hf3 (h1 x o3 fb)) _ 1 0 _ _ xs[0] u t2 c2 rfl hlt (fun b o hb eb => s1.extBut b o (fun q => by rw [q, hSn] at eb; cases eb) (kp2 b o hb eb)) hc2 (hit2.at fun o e => s1.extBut _ o hSI.symm e) hxj (Nat.lt_succ_self _) fun j' y hj' hy => ?_⟩
      have e : j' = 0 := by first | exact Nat.lt_one_iff.mp hj' | omega
      subst e
      rw [hxj] at hy; cases hy
      exact ⟨Int.le_refl _, fun h => absurd h (Nat.lt_irrefl _)⟩
end
end Mine
set_option maxRecDepth 100000
namespace Mine
open PySem PySem.W PyProof.Rows
section
variable {C : Cx} {k : Nat} {F : FE} {σ : St}
/-- a call of the key that is a def with one free name -/
theorem key_call {f cm c' : Addr} {name qual x n : Str} {params : Arguments} {scope : Scope} {doc pm ctv : Value} {md : Int} {t : Tok} {p1 p2 p3 p4 : Pos} (cx : CxOk C)
    (ho : C.GB.get? f = some (fnMade name qual params [.Return (some (.BinOp (.Name x p1) .Mod (.Name n p2) p3)) p4] scope [(n, cm)] doc pm c' ctv)) (hcd : C.GB.CodeRec (.ref c') qual) (hcell : C.GB.IsCell cm (some (.int md t))) (hmd : md ≠ 0)
    (hb : ∀ v, bindArgs (fnX name qual params [.Return (some (.BinOp (.Name x p1) .Mod (.Name n p2) p3)) p4] scope [(n, cm)] .none .none doc pm none (.ref c') ctv) ⟨[v], []⟩ = pure [(x, v)])
    (hx : scope.names.lookup x = some .local) (hn : scope.names.lookup n = some .free) (hnc : ∀ z ∈ scope.names, z.2 ≠ .cell)
    (hd1 : (x == ("__debug__" : Str)) = false) (hd2 : (n == ("__debug__" : Str)) = false) (hd3 : (n == ("__classdict__" : Str)) = false)
    (hco : scope.isCoroutine = false) (hgen : scope.isGenerator = false) (hk : scope.kind = .function) : KeyCall C f (fun y => y.fmod md) := by
  intro A s y ty Q E kp hdep hun hQ
  refine wpAny_call (codeAny_call_def (binds := [(x, .int y ty)]) (by omega) (kp _ _ ho) rfl (cx.nolimit.keeps kp) (hcd.keeps kp) rfl (.of_eq (hb _)) hnc (fun z hz => ?_) (fun h₀ hns hk₀ => ?_) hco hgen hk)
  · rw [List.mem_singleton.mp hz]; exact hx
  · refine wpAny_execs_cons (wpAny_Return_some (wpAny_BinOp ?_))
    refine wpAny_Name (wpAny_loadName_local (v := .int y ty) hk hx hns (by simp) ?_) hd1
    refine wpAny_Name (wpAny_loadName_free (c := cm) (v := .int md t) hk hn (by show List.lookup n [(n, cm)] = _; simp) ?_ ?_ hd3) hd2
    · obtain ⟨o, ho', hd'⟩ := hcell
      exact ⟨o, hk₀ _ _ (kp _ _ ho'), hd'⟩
    · refine mod_int' hmd ?_
      exact hQ _ _ _ hk₀
/-- the def of a key inside a def -/
theorem x_defkey {P c cm : Addr} {n x m : Str} {params : Arguments} {scope : Scope} {p1 p2 p3 p4 pos : Pos} {r : List Stmt} {md : Int} (cx : CxOk C) (ok : EnvOk F.env) (hcalm : C.exc = none)
    (hsP : σ.sto P = some (.raw (tabObj #[]))) (hcode : F.env.code = .ref c) (hC : CodeHd C.GB c P)
    (hbm : ∃ bm ob, C.mg "__builtins__" = some (.ref bm) ∧ bm ≠ builtinsNs ∧ C.GB.get? bm = some ob ∧ ob.cls = .type "module" ∧ ob.dict = some builtinsNs ∧ ob.data = .plain)
    (hm : σ.loc.lookup m = some (.int md)) (hmd : md ≠ 0) (hmc : F.env.kindOf m = some .cell) (hcm : F.env.cells.lookup m = some cm) (hnl : F.env.kindOf n = some .local) (hmn : (m == n) = false)
    (h : ∀ GB' f, (∀ b o, C.GB.get? b = some o → GB'.get? b = some o) → KeyCall { C with GB := GB' } f (fun y => y.fmod md) → IsFun GB' (.ref f) →
      TX { C with GB := GB' } k ⟨F.env, [F.env.locals], F.frames⟩ r ⟨locSet σ.loc n (.ref f), fun b => if b = P then none else σ.sto b⟩ fun fl _ => fl = .ret (.bool true))
    (hd0 : params.defaults = [] := by rfl) (hk0 : params.kw_defaults = [] := by rfl) (ha : annTrees params none F.env = [] := by rfl) (hcl : closureFor scope F.env = pure [(m, cm)] := by rfl)
    (hx : scope.names.lookup x = some .local := by rfl) (hn : scope.names.lookup m = some .free := by rfl) (hnc : ∀ z ∈ scope.names, z.2 ≠ .cell := by decide)
    (hb : ∀ qual cl doc pm cdv ctv v, bindArgs (fnX n qual params [.Return (some (.BinOp (.Name x p1) .Mod (.Name m p2) p3)) p4] scope cl .none .none doc pm none cdv ctv) ⟨[v], []⟩ = pure [(x, v)] := by intros; rfl)
    (hd1 : (x == ("__debug__" : Str)) = false := by rfl) (hd2 : (m == ("__debug__" : Str)) = false := by rfl) (hd3 : (m == ("__classdict__" : Str)) = false := by rfl)
    (hco : scope.isCoroutine = false := by rfl) (hgen : scope.isGenerator = false := by rfl) (hk : scope.kind = .function := by rfl) :
    TX C k F (.FunctionDef n params [.Return (some (.BinOp (.Name x p1) .Mod (.Name m p2) p3)) p4] [] none [] scope none n pos :: r) σ fun fl σ' => fl = .ret (.bool true) ∧ ∃ ps, σ'.sto P = some (.raw (tabObj ps)) := by
  intro A s hA S
  refine wpAny_execs_cons (nestDef_K hd0 hk0 ha ?_)
  obtain ⟨hP, hfP⟩ := S.sto P _ hsP
  have offP := S.off P _ hsP
  have gP := offP.1 rfl
  have hgs := cx.g.keeps S.base
  have hgP : mainGlobals ≠ P := fun q => by
    obtain ⟨o, es, ep, e, hd, _⟩ := cx.g
    rw [q, gP] at e; cases e
  obtain ⟨bm, ob, b1, b2, b3, b4, b5, b6⟩ := hbm
  have hbP : bm ≠ P := fun q => by rw [q, gP] at b3; cases b3
  have hbG : bm ≠ mainGlobals := fun q => by
    obtain ⟨o, es, ep, e, hd, _⟩ := cx.g
    rw [q, e] at b3; cases b3; rw [hd] at b6; cases b6
  refine makeFunction_K (mg := C.mg) hcl ok.globals hgs hcode (hC.keeps S.base) hP (by trivial) rfl hgP ⟨bm, ob, b1, b2, hbG, hbP, S.base _ _ b3, b4, b5, b6⟩ fun c' ctv doc h' tk hx' hge hlt hrec htb => ?_
  have hfr : ∀ b, s.heap.objs.size ≤ b → s.heap.get? b = none := fun b hb => Heap.get?_none_of_le hb
  have hc'n := hfr c' hge
  have hfn := hfr h'.objs.size (Nat.le_trans hge (Nat.le_of_lt hlt))
  obtain ⟨c₂, oc, vs, tq, e2, hoc, hdc, hvc⟩ := id hrec
  cases e2
  generalize hps : (#[] : Array Value) ++ #[rawInt pos.line, rawInt pos.col, .ref c'] = ps' at htb
  generalize hfo : fnMade n (qualnameIn F.env n n) params [.Return (some (.BinOp (.Name x p1) .Mod (.Name m p2) p3)) p4] scope [(m, cm)] doc ((C.mg "__name__").getD .none) c' ctv = fo
  have hfP' : ∀ ps, ¬ FrzO (tabObj ps) := fun ps q => by rcases q with ⟨q, _⟩ | ⟨q, _⟩ <;> cases q
  have kx : Heap.ExtBut P s.heap (h'.push fo) := fun b o hb e => Heap.get?_push_of_some _ (hx' b o hb e)
  have hP1 : (h'.push fo).get? P = some (tabObj ps') := Heap.get?_push_of_some _ htb
  have S₁ : Sim C.GB F (σ.setSto P (.raw (tabObj ps'))) (h'.push fo) := S.change hsP rfl kx ⟨hP1, hfP' _⟩
  have M₁ : Mod F.own σ (σ.setSto P (.raw (tabObj ps'))) s { s with heap := h'.push fo, toks := tk } := .change S hsP rfl kx ⟨_, hP1⟩
  refine store_name (s := { s with heap := h'.push fo, toks := tk }) (v := .ref h'.objs.size) ok S₁ (.ref _) (.inl hnl) fun h₂ tk₂ S₂ M₂ => ?_
  have ownS : ∀ b ∈ F.own, ∃ o, s.heap.get? b = some o := fun b hb => S.own_alive hb
  have keep2 : ∀ b o, s.heap.get? b = none → (h'.push fo).get? b = some o → h₂.get? b = some o := fun b o hn' e => by
    refine M₂.keep b o e (fun o' q => ?_) fun hb => ?_
    · by_cases hbP : b = P
      · rw [hbP, hP] at hn'; cases hn'
      · rw [setSto_other _ _ hbP, S.fresh_none hn'] at q; cases q
    · obtain ⟨o', e'⟩ := ownS b hb; rw [hn'] at e'; cases e'
  have hf2 : h₂.get? h'.objs.size = some fo := keep2 _ _ hfn (Heap.get?_push_size _ (by rw [← hfo]; rfl))
  have hc2 : h₂.get? c' = some oc := keep2 _ _ hc'n (Heap.get?_push_of_some _ hoc)
  have hP2 : h₂.get? P = some (tabObj ps') := (S₂.sto P (.raw (tabObj ps')) (by simp)).1
  obtain ⟨tmd, hcell⟩ : ∃ tmd, h₂.IsCell cm (some (.int md tmd)) := by
    obtain ⟨mm, _, hl⟩ := S₂.frame
    have hlk : ((σ.setSto P (.raw (tabObj ps'))).setLoc n (.ref h'.objs.size)).loc.lookup m = some (.int md) := by
      show (locSet σ.loc n (.ref h'.objs.size)).lookup m = _
      rw [locSet_lookup, hmn]; exact hm
    obtain ⟨v', hp, hr⟩ := hl m _ hlk
    cases hr with | int _ tt =>
    rcases hp with ⟨q, _⟩ | ⟨_, cc, hcc, hcv⟩
    · rw [hmc] at q; cases q
    · rw [hcm] at hcc; cases hcc; exact ⟨tt, hcv⟩
  obtain ⟨ocm, hocm, hdcm⟩ := id hcell
  let PP : Addr → Prop := fun b => (∃ o, C.GB.get? b = some o) ∨ b = h'.objs.size ∨ b = c' ∨ b = cm ∨ b = P
  have hsub : ∀ b o, (partH h₂ PP).get? b = some o → h₂.get? b = some o := fun b o e => by
    by_cases q : PP b
    · rw [part_in q] at e; exact e
    · rw [part_out q] at e; cases e
  have hbase : ∀ b o, C.GB.get? b = some o → (partH h₂ PP).get? b = some o := fun b o e => by rw [part_in (.inl ⟨o, e⟩)]; exact S₂.base b o e
  have hpn : ∀ b, C.GB.get? b = none → b ≠ h'.objs.size → b ≠ c' → b ≠ cm → b ≠ P → (partH h₂ PP).get? b = none := fun b e n1 n2 n3 n4 => part_out (by
    rintro (⟨o, q⟩ | q | q | q | q)
    · rw [e] at q; cases q
    · exact n1 q
    · exact n2 q
    · exact n3 q
    · exact n4 q)
  have cx' : CxOk { C with GB := partH h₂ PP } := cx.more (x := C.exc) hbase
  have hkey : KeyCall { C with GB := partH h₂ PP } h'.objs.size (fun y => y.fmod md) := by
    refine key_call (t := tmd) cx' (n := m) (cm := cm) (c' := c') (by show (partH h₂ PP).get? _ = _; rw [part_in (.inr (.inl rfl)), hf2, ← hfo]) ?_ ?_ hmd (fun v => hb _ _ _ _ _ _ v) hx hn hnc hd1 hd2 hd3 hco hgen hk
    · exact ⟨c', oc, vs, tq, rfl, by show (partH h₂ PP).get? _ = _; rw [part_in (.inr (.inr (.inl rfl)))]; exact hc2, hdc, hvc⟩
    · exact ⟨ocm, by show (partH h₂ PP).get? _ = _; rw [part_in (.inr (.inr (.inr (.inl rfl))))]; exact hocm, hdcm⟩
  have hfun : IsFun (partH h₂ PP) (.ref h'.objs.size) := ⟨fo, _, by rw [part_in (.inr (.inl rfl))]; exact hf2, by rw [← hfo]⟩
  have hLalive : ∃ o, s.heap.get? F.env.locals = some o := ownS _ S.inOwn
  have hcmL : F.env.locals ≠ cm := fun q => S.local_not_cell (mem_of_lookup hcm) q.symm
  have alive_ne : ∀ {b o}, s.heap.get? b = some o → b ≠ h'.objs.size ∧ b ≠ c' := fun e => ⟨fun q => (by rw [q, hfn] at e; cases e), fun q => (by rw [q, hc'n] at e; cases e)⟩
  have stoEq : ∀ b, b ≠ P → ((σ.setSto P (.raw (tabObj ps'))).setLoc n (.ref h'.objs.size)).sto b = σ.sto b := fun b hb => setSto_other _ _ hb
  have S₃ : Sim (partH h₂ PP) ⟨F.env, [F.env.locals], F.frames⟩ ⟨locSet σ.loc n (.ref h'.objs.size), fun b => if b = P then none else σ.sto b⟩ h₂ := {
    base := hsub
    frame := S₂.frame
    cells := S₂.cells
    apart := S₂.apart
    sto := fun a o e => by
      dsimp only at e
      split at e
      · cases e
      · rename_i hne; exact S₂.sto a o (by rw [stoEq a hne]; exact e)
    inOwn := .head _
    ownIs := fun b hb => .inl (List.mem_singleton.mp hb)
    new := fun b hb => by
      rw [List.mem_singleton.mp hb]
      obtain ⟨o, e⟩ := hLalive
      exact hpn _ (S.new _ S.inOwn) (alive_ne e).1 (alive_ne e).2 hcmL (Ne.symm offP.2.1)
    off := fun a o e => by
      dsimp only at e
      split at e
      · cases e
      · rename_i hne
        have q := S.off a o e
        obtain ⟨oa, ha⟩ := S.sto_alive e
        exact ⟨fun mu => hpn a (q.1 mu) (alive_ne ha).1 (alive_ne ha).2 (fun w => q.2.2 _ (mem_of_lookup hcm) w.symm) hne, q.2⟩ }
  have hA' : Room { C with GB := partH h₂ PP } k ⟨F.env, [F.env.locals], F.frames⟩ A := by
    refine ⟨?_, hA.2⟩
    have := hA.1.calm hcalm
    show HOk { C with GB := partH h₂ PP } A
    unfold HOk; rw [show ({ C with GB := partH h₂ PP } : Cx).exc = none from hcalm]; exact this
  have M₁₂ : Mod F.own σ _ s _ := M₁.trans' M₂
  refine wpAny_mono (h _ _ hbase hkey hfun A _ hA' S₃) (fun fl' s₅ ⟨fl, σ₅, rf, S₅, M₅, efl⟩ => ?_) fun _ _ x => x
  have hP5 : s₅.heap.get? P = some (tabObj ps') := S₅.base P _ (by show (partH h₂ PP).get? _ = _; rw [part_in (.inr (.inr (.inr (.inr rfl))))]; exact hP2)
  refine ⟨fl, ⟨[], fun b => if b = P then some (.raw (tabObj ps')) else σ₅.sto b⟩, rf, ?_, ?_, efl, ps', by simp⟩
  · exact {
      base := fun b o e => S₅.base b o (hbase b o e)
      frame := let ⟨mm, hmm, _⟩ := S₅.frame; ⟨mm, hmm, fun x v e => by simp at e⟩
      cells := S₅.cells
      apart := S₅.apart
      sto := fun a o e => by
        dsimp only at e
        split at e
        · rename_i q; cases e; rw [q]; exact ⟨hP5, hfP' _⟩
        · exact S₅.sto a o e
      inOwn := S.inOwn
      ownIs := S.ownIs
      new := S.new
      off := fun a o e => by
        dsimp only at e
        split at e
        · rename_i q; rw [q]; exact ⟨fun _ => gP, offP.2⟩
        · refine ⟨fun mu => ?_, (S₅.off a o e).2⟩
          cases hq : C.GB.get? a with
          | none => rfl
          | some oo => have := hbase a oo hq; rw [(S₅.off a o e).1 mu] at this; cases this }
  · refine ⟨fun b o e fx nb => ?_, fun b o e => ?_, fun b o e => ?_, ?_⟩
    · have hbP : b ≠ P := fun q => by have := fx (.raw (tabObj #[])) (by rw [q]; exact hsP); cases this
      refine M₅.keep b o (M₁₂.keep b o e fx nb) (fun o' q => ?_) fun q => ?_
      · dsimp only at q
        rw [if_neg hbP] at q; exact fx o' q
      · rw [List.mem_singleton.mp q] at nb; exact nb S.inOwn
    · dsimp only at e
      split at e
      · rename_i q; exact .inl ⟨_, by rw [q]; exact hsP, fun _ => rfl⟩
      · rename_i q
        rcases M₅.dom b o e with ⟨o', h', m'⟩ | h'
        · dsimp only at h'
          rw [if_neg q] at h'
          exact .inl ⟨o', h', m'⟩
        · exact .inr (M₁₂.back h')
    · obtain ⟨o', e'⟩ := M₁₂.alive b o e
      exact M₅.alive b o' e'
    · rw [M₅.rest, M₁₂.rest]
end
end Mine
set_option maxRecDepth 100000
namespace Mine
open PySem PySem.W PyProof.Rows
section
variable {prog : Program} {w : World} {A : Around} {E : Value → Shared → Prop} {s : Shared}
-- a list unpacked
theorem draw_list {it t : Addr} {items : Array Value} (hne : t ≠ it) : ∀ (n i : Nat) (s : Shared) (Q : List Value → Shared → Prop), s.heap.IsListIter it t i → s.heap.IsList t items → i + n ≤ items.size →
    (∀ h', h'.IsListIter it t (i + n) → Heap.SameBut it s.heap h' → Q ((items.toList.drop i).take n) { s with heap := h' }) → wpAny (model prog w) A (draw (.ref it) n) Q E s
  | 0, i, s, Q, hit, _, _, hQ => by
    show wpAny _ _ (pure []) Q E s
    exact wpAny_pure (by simpa using hQ s.heap hit (Heap.SameBut.refl ..))
  | n + 1, i, s, Q, hit, ht, hle, hQ => by
    have hlt : i < items.size := by omega
    show wpAny _ _ (pyNext (.ref it) >>= _) Q E s
    refine wpAny_bind (wpAny_pyNext_list_item hit ht (x := items[i]) (by simp [hlt]) fun h₁ hit₁ hs₁ => ?_)
    have ht₁ : h₁.IsList t items := let ⟨o, ho, r⟩ := ht; ⟨o, hs₁.extBut _ _ hne ho, r⟩
    refine wpAny_bind (wpAny_holding (draw_list hne n (i + 1) _ _ hit₁ ht₁ (by omega) fun h₂ hit₂ hs₂ => wpAny_pure ?_))
    have hd : items.toList.drop i = items[i] :: items.toList.drop (i + 1) := by simp [List.drop_eq_getElem_cons, hlt]
    have := hQ h₂ (by rw [show i + (n + 1) = i + 1 + n by omega]; exact hit₂) (hs₁.trans hs₂)
    rw [hd, List.take_succ_cons] at this
    exact this
theorem unpackItems_list {t : Addr} {items : Array Value} {Q : List Value → Shared → Prop} (hh : A.handled = none) (ht : s.heap.IsList t items)
    (hQ : ∀ h', Heap.ExtBut s.heap.objs.size s.heap h' → Q items.toList { s with heap := h' }) : wpAny (model prog w) A (unpackItems (.ref t) items.size none) Q E s := by
  have hlt : t ≠ s.heap.objs.size := by obtain ⟨o, ho, _⟩ := ht; exact Nat.ne_of_lt (Heap.lt_size ho)
  unfold unpackItems
  refine wpAny_bind ?_
  · unfold notIterableAtAll
    refine wpAny_bind (wpAny_specialOf ht.typeIs slot_list_iter.lookup ?_)
    refine wpAny_pure ?_
    simp only [Bool.false_eq_true, if_false]
    refine wpAny_bind (wpAny_holding (wpAny_pyIter_list ht ?_))
    have htp : (s.heap.push { cls := .type "list_iterator", data := .fields #[.ref t, .int 0 0] }).IsList t items := let ⟨o, ho, r⟩ := ht; ⟨o, Heap.get?_push_of_some _ ho, r⟩
    refine wpAny_bind (wpAny_holding (draw_list hlt items.size 0 _ _ ⟨_, Heap.get?_push_size _ rfl, rfl, rfl⟩ htp (by omega) fun h₁ hit₁ hs₁ => ?_))
    have hall : List.take items.size (List.drop 0 items.toList) = items.toList := by
      rw [List.drop_zero]; exact List.take_of_length_le (by simp)
    rw [hall]
    rw [if_neg (by simp)]
    have ht₁ : h₁.IsList t items := let ⟨o, ho, r⟩ := htp; ⟨o, hs₁.extBut _ _ hlt ho, r⟩
    refine wpAny_bind (wpAny_holding (list_end2 hh hit₁ ht₁ (by simp) fun h₂ o₂ he₂ _ _ => ?_))
    simp only [Option.isSome_none, Bool.false_eq_true, if_false]
    refine wpAny_pure (hQ h₂ fun b o hb e => he₂ b o hb (hs₁.extBut b o hb (Heap.get?_push_of_some _ e)))
theorem assign_Tuple_list {env : Env} {elts : List Expr} {x1} {pos : Pos} {t : Addr} {items : Array Value} {Q : Unit → Shared → Prop} (hh : A.handled = none) (ht : s.heap.IsList t items)
    (hn : (assignEach elts env).length = items.size) (hstar : (assignEach elts env).findIdx? (·.1) = none)
    (h : ∀ h', Heap.ExtBut s.heap.objs.size s.heap h' → wpAny (model prog w) A (assignInOrder ((assignEach elts env).map (·.2)) items.toList) Q E { s with heap := h' }) :
    wpAny (model prog w) A (assign (.Tuple elts x1 pos) env (.ref t)) Q E s := by
  rw [assign_Tuple]
  refine wpAny_bind (wpAny_standAt ?_)
  unfold unpack
  rw [hn, hstar]
  exact wpAny_bind (wpAny_holding (unpackItems_list hh ht h))
-- object()
theorem lookup_obj_new : typeLookup (.type "object") "__new__" = pure (some (.builtin "object.__new__")) := by rw [typeLookup_type, builtinLookup_eq_fast]; kernel_rfl
theorem mro_obj : mroOf (.type "object") = pure [.type "object"] := by kernel_rfl
theorem madeBy_obj : Bind.madeBy (.type "object") = pure (some "object.__new__") := madeBy_type mro_obj lookup_obj_new (by decide +kernel)
theorem slot_obj_init : Slot "object" "__init__" "object.__init__" :=
  .of (owner := "object") (n := "__init__") (by rw [typeLookup_type, builtinLookup_eq_fast]; kernel_rfl) (by decide +kernel) (by decide +kernel) (by decide +kernel)
    (by first | exact .inl (by decide +kernel) | exact .inr (by decide +kernel)) (by rw [isSubtype_type]; kernel_rfl)
theorem called_obj : TypeCalled "object" "object.__new__" "object.__init__" :=
  ⟨by decide +kernel, by decide +kernel, ⟨_, _, mro_obj⟩, madeBy_obj, by decide +kernel, by rw [isSubtype_type]; kernel_rfl, slot_obj_init⟩
theorem typeCall_obj : checkTypeCall "object" ⟨[], []⟩ = pure () := by kernel_rfl
theorem newCall_obj : checkBuiltinCall "object.__new__" ⟨[.type "object"], []⟩ = pure () := by kernel_rfl
theorem staticBase_obj : Bind.staticBase (.type "object") = pure (.type "object") := by kernel_rfl
theorem meets_obj_new : Meets (Builtin.«object.__new__» ⟨[.type "object"], []⟩) (fun _ R s => R (.ok (.ret (.ref s.heap.objs.size))) { s with heap := s.heap.push { cls := .type "object", data := .plain } }) :=
  .of_wp fun prog w A R s h => by
    obtain ⟨hp, g, d, tk, os⟩ := s
    have h1 := madeBy_obj
    have h2 := staticBase_obj
    wp_walk
    exact ⟨_, rfl, h⟩
theorem call_object {Q : Value → Shared → Prop} (h : Q (.ref s.heap.objs.size) { s with heap := s.heap.push { cls := .type "object", data := .plain } }) : wpAny (model prog w) A (call (.type "object") []) Q E s := by
  refine callType_meets (Q₁ := fun obj s₁ => s₁.TypeIs obj "object" ∧ Q obj s₁) called_obj typeCall_obj newCall_obj PySem.F.entry_object_new PySem.F.entry_object_init meets_obj_new ?_ fun obj s₁ hq => ⟨hq.1, PySem.F.args_object_init_1 obj, fun _ R s => R (.ok (.ret .none)) s, ?_, rfl, hq.2⟩
  · exact ⟨⟨_, Heap.get?_push_size _ rfl, rfl⟩, h⟩
  · exact Meets.of_wp fun prog w A R s hs => wpAny_pure ⟨_, rfl, hs⟩
end
end Mine
set_option maxRecDepth 100000
namespace Mine
open PySem PySem.W PyProof.Rows
section
variable {C : Cx} {k : Nat} {F : FE} {σ : St}
theorem asg_list {es : List Expr} {n : Nat} {p : Pos} {a : Addr} {vs : List V} {Q : St → Prop} (hs : (σ.sto a).bind O.items = some vs) (hl : es.length = vs.length) (h : Asgs C k F es vs σ Q)
    (he : assignEach es F.env = es.map (fun t => (false, assign t F.env)) := by rfl) (hcalm : C.exc = none := by assumption) : AsgOK C k F (.Tuple es n p) (.ref a) σ Q :=
  fun A s a' hA S ra => by
    obtain rfl := ra.inv_ref
    obtain ⟨hb, vs', hL, hr⟩ := S.list hs
    refine assign_Tuple_list (hA.1.calm hcalm) hL (by rw [he]; simp [hr.length, hl]) ?_ fun h' hext => ?_
    · rw [he, List.findIdx?_eq_none_iff]
      intro x hx
      obtain ⟨t, _, rfl⟩ := List.mem_map.mp hx
      rfl
    · have kp : ∀ b ob, s.heap.get? b = some ob → h'.get? b = some ob := fun b ob e => hext b ob (Nat.ne_of_lt (Heap.lt_size e)) e
      have S' : Sim C.GB F σ h' := S.keeps kp
      have M' : Mod F.own σ σ s { s with heap := h' } := .pure (tk := s.toks) kp
      rw [he]
      simp only [List.map_map, Function.comp_def]
      exact fin (s₁ := { s with heap := h' }) S' M' (asgs_go hA es _ vs' σ { s with heap := h' } Q S' (hr.keeps (frz_of_keeps kp)) h)
theorem asg_vt {es : List Expr} {n : Nat} {p : Pos} {us : List V} {Q : St → Prop} (hl : es.length = us.length) (h : Asgs C k F es us σ Q)
    (he : assignEach es F.env = es.map (fun t => (false, assign t F.env)) := by rfl) (hcalm : C.exc = none := by assumption) : AsgOK C k F (.Tuple es n p) (.vt us) σ Q :=
  fun A s a' hA S ra => by
    obtain ⟨a, vs', rfl, ht, hr⟩ := ra.inv_vt
    exact by
      refine wpAny_assign_Tuple (hA.1.calm hcalm) ht (by rw [he]; simp [hr.length, hl]) ?_ fun h' hext => ?_
      · rw [he, List.findIdx?_eq_none_iff]
        intro x hx
        obtain ⟨t, _, rfl⟩ := List.mem_map.mp hx
        rfl
      · have kp : ∀ b ob, s.heap.get? b = some ob → h'.get? b = some ob := fun b ob e => hext b ob (Nat.ne_of_lt (Heap.lt_size e)) e
        have S' : Sim C.GB F σ h' := S.keeps kp
        have M' : Mod F.own σ σ s { s with heap := h' } := .pure (tk := s.toks) kp
        rw [he]
        simp only [List.map_map, Function.comp_def]
        exact fin (s₁ := { s with heap := h' }) S' M' (asgs_go hA es _ vs' σ { s with heap := h' } Q S' (hr.keeps (frz_of_keeps kp)) h)
theorem call_obj {Q : V → St → Prop} (h : ∀ a, σ.sto a = none → Q (.ref a) (σ.setSto a (.raw { cls := .type "object", data := .plain }))) : CallOK C k F (.opq (.type "object")) [] σ Q :=
  fun A s f' us' hA S rf ru => by
    obtain rfl := rf.inv_opq
    obtain rfl := ru.inv_nil
    refine call_object ?_
    exact ⟨.ref s.heap.objs.size, σ.setSto s.heap.objs.size (.raw { cls := .type "object", data := .plain }), .ref _, S.alloc (keeps_push _) (get_size _) ⟨Heap.get?_push_size _ rfl, not_frz_cls rfl (by decide) (by decide)⟩, .alloc (tk := s.toks) (keeps_push _) (get_size _), h _ (S.fresh_none (get_size _))⟩
theorem cmp_is_same {a : Addr} {Q : V → St → Prop} (h : Q (.bool true) σ) : CmpOK C k F .Is (.ref a) (.ref a) σ Q :=
  fun A s a' b' hA S ra rb => by
    obtain rfl := ra.inv_ref
    obtain rfl := rb.inv_ref
    unfold compareOp
    refine wpAny_bind ?_
    show wpAny _ A (if (a == a) = true then _ else _) _ _ _
    rw [if_pos (beq_self_eq_true a)]
    exact wpAny_pure (wpAny_pure (post_pure S (.bool _) h))
theorem cmp_is_int {x : Int} {a : Addr} {Q : V → St → Prop} (h : Q (.bool false) σ) : CmpOK C k F .Is (.int x) (.ref a) σ Q :=
  fun A s a' b' hA S ra rb => by
    obtain ⟨_, rfl⟩ := ra.inv_int
    obtain rfl := rb.inv_ref
    unfold compareOp
    refine wpAny_bind ?_
    refine wpAny_of_eq (a := false) (by first | rfl | kernel_rfl) ?_
    exact wpAny_pure (post_pure S (.bool _) h)
theorem call_max2 {x y : Int} {Q : V → St → Prop} (h : Q (.int (max x y)) σ) (hcalm : C.exc = none := by assumption) : CallOK C k F (.opq (.builtin "max")) [.int x, .int y] σ Q :=
  fun A s f' us' hA S rf ru => by
    obtain rfl := rf.inv_opq
    obtain ⟨_, _, rfl, ra, rb⟩ := ru.inv2; obtain ⟨_, rfl⟩ := ra.inv_int; obtain ⟨_, rfl⟩ := rb.inv_int
    refine max_two_ints (hA.1.calm hcalm) fun h' tk kp => ?_
    refine ⟨.int (max x y), σ, ?_, S.keeps kp, .pure (tk := tk) kp, h⟩
    by_cases hxy : y > x
    · rw [if_pos hxy, show max x y = y by omega]; exact .int _ _
    · rw [if_neg hxy, show max x y = x by omega]; exact .int _ _
theorem call_min2 {x y : Int} {Q : V → St → Prop} (h : Q (.int (min x y)) σ) (hcalm : C.exc = none := by assumption) : CallOK C k F (.opq (.builtin "min")) [.int x, .int y] σ Q :=
  fun A s f' us' hA S rf ru => by
    obtain rfl := rf.inv_opq
    obtain ⟨_, _, rfl, ra, rb⟩ := ru.inv2; obtain ⟨_, rfl⟩ := ra.inv_int; obtain ⟨_, rfl⟩ := rb.inv_int
    refine min_two_ints (hA.1.calm hcalm) fun h' tk kp => ?_
    refine ⟨.int (min x y), σ, ?_, S.keeps kp, .pure (tk := tk) kp, h⟩
    by_cases hxy : y < x
    · rw [if_pos hxy, show min x y = y by omega]; exact .int _ _
    · rw [if_neg hxy, show min x y = x by omega]; exact .int _ _
/-- try: .. else: .., where nothing raises -/
theorem s_tryelse {b o : List Stmt} {h₀ : ExceptHandler} {hs : List ExceptHandler} {p : Pos} {Q : Fl → St → Prop} (h : TX C k F b σ (Then C k F o Q)) : TS C k F (.Try b (h₀ :: hs) o [] p) σ Q :=
  fun A s hA S => wpAny_Try_except (wpAny_mono (h A s hA S) (fun f' s₁ ⟨f, σ₁, rf, S₁, M₁, h₁⟩ => by
    cases rf with
    | next => exact fin S₁ M₁ (h₁ A s₁ hA S₁)
    | brk => exact ⟨_, σ₁, .brk, S₁, M₁, h₁⟩
    | cont => exact ⟨_, σ₁, .cont, S₁, M₁, h₁⟩
    | ret r => exact ⟨_, σ₁, .ret r, S₁, M₁, h₁⟩) fun _ _ x => x.elim)
end
end Mine
namespace Mine
open PySem PySem.W PyProof.Rows
-- max heaps of tuples
theorem topGT {x : List Int} {xs : List (List Int)} (hh : Heapd gtV 0 ((x :: xs).map V.tup)) : ∀ z ∈ x :: xs, z ≤ x := fun z hz => by
  have := heap_min' swo_gt_tup (tups_isT (x :: xs)) hh (.tup z) (List.mem_map_of_mem hz)
  simpa [gt, gtV, ltV] using this
theorem replaceGT {v x : List Int} {r : List (List Int)} (hh : Heapd gtV 0 ((v :: r).map V.tup)) : ∃ hs : List (List Int), siftup gtV (.tup x :: r.map V.tup) 0 = hs.map V.tup ∧ hs.Perm (x :: r) ∧ Heapd gtV 0 (hs.map V.tup) := by
  obtain ⟨ys, p, e⟩ := perm_map_inv (f := V.tup) (xs := x :: r) (replace_perm swo_gt_tup (vs := r.map V.tup) (l := .tup x) (tups_isT r) ⟨x, rfl⟩)
  exact ⟨ys, e, p, e ▸ replace_heap swo_gt_tup (vs := r.map V.tup) (v := .tup v) (l := .tup x) (tups_isT (v :: r)) ⟨x, rfl⟩ hh⟩
theorem heapifyGT (xs : List (List Int)) : ∃ hs : List (List Int), hfyGo gtV ((xs.map V.tup).length / 2) (xs.map V.tup) = hs.map V.tup ∧ hs.Perm xs ∧ Heapd gtV 0 (hs.map V.tup) := by
  obtain ⟨p, hh⟩ := heapify_spec swo_gt_tup (tups_isT xs)
  obtain ⟨ys, p', e⟩ := perm_map_inv (f := V.tup) p
  exact ⟨ys, e, p', e ▸ hh⟩
-- the first of a stable sort
theorem fb_first {kf : Int → Int} {xs : List Int} {x : Int} (h : FB false kf xs x) : (srtK kf xs).take 1 = [x] := by
  obtain ⟨i, hi, hm⟩ := h
  have hil : i < xs.length := (List.getElem?_eq_some_iff.mp hi).1
  have hgd : ∀ j, j < xs.length → xs[j]? = some (xs.getD j 0) := fun j hj => by simp [hj]
  have hx : xs.getD i 0 = x := by have := hgd i hil; rw [hi] at this; exact (Option.some.inj this).symm
  have hmem : [kf x, (i : Int), x] ∈ tri kf xs := List.mem_map.mpr ⟨i, List.mem_range.mpr hil, by rw [hx]⟩
  have hs := sortT_head (List.perm_cons_erase hmem) fun z hz => by
    obtain ⟨j, hj, e⟩ := List.mem_map.mp hz
    have hj' := List.mem_range.mp hj
    obtain ⟨h1, h2⟩ := hm j _ (hgd j hj')
    rw [← e]
    by_cases hij : i = j
    · subst hij; rw [hx]; exact List.le_refl _
    · refine tup_le ?_
      by_cases hlt : j < i
      · exact .inl (h2 hlt)
      · omega
  unfold srtK
  rw [hs]
  rfl
theorem fb_neg {kf : Int → Int} {xs : List Int} {x : Int} (h : FB true kf xs x) : FB false (negF kf) (negL xs) (-x) := by
  obtain ⟨i, hi, hm⟩ := h
  refine ⟨i, by simp [negL, hi], fun j y hy => ?_⟩
  unfold negL at hy
  rw [List.getElem?_map] at hy
  cases hq : xs[j]? with
  | none => rw [hq] at hy; cases hy
  | some z =>
    rw [hq] at hy
    have ey : -z = y := by simpa using hy
    subst ey
    obtain ⟨h1, h2⟩ := hm j z hq
    simp only [negF, Int.neg_neg]
    refine ⟨by omega, fun q => ?_⟩
    have := h2 q
    omega
theorem fb_srtB {b : Bool} {kf : Int → Int} {xs : List Int} {x : Int} (h : FB b kf xs x) : (srtB b kf xs).take 1 = [x] := by
  cases b with
  | false => exact fb_first h
  | true =>
    have := fb_first (fb_neg h)
    show (negL (srtK (negF kf) (negL xs))).take 1 = _
    unfold negL at this ⊢
    rw [← List.map_take, this]
    simp
-- at the start
structure MkOk (g : Int → Int) (pr : List Int → Int) (mk : Int → Int → List Int) : Prop where
  form : ∀ x o, ∃ r, mk x o = g x :: o :: r
  pr : ∀ x o, pr (mk x o) = x
theorem MkOk.keyed {g : Int → Int} {pr : List Int → Int} {mk : Int → Int → List Int} (m : MkOk g pr mk) {x o o' : Int} (h : o < o') : Keyed2 g pr o' (mk x o) := by
  obtain ⟨r, e⟩ := m.form x o
  exact ⟨o, r, by rw [m.pr]; exact e, h⟩
theorem zipG_sort {g : Int → Int} {pr : List Int → Int} {mk : Int → Int → List Int} (m : MkOk g pr mk) {xs : List Int} : ∀ n, n ≤ xs.length → (∀ u ∈ zipG (fun j x => mk x j) xs n, Keyed2 g pr n u) ∧ (sortT (zipG (fun j x => mk x j) xs n)).map pr = srtK g (xs.take n)
  | 0, _ => ⟨fun u hu => by simp [zipG] at hu, by
      have e1 : sortT (zipG (fun j x => mk x j) xs 0) = [] := List.length_eq_zero_iff.mp (by rw [sortT_length]; simp [zipG])
      have e2 : srtK g (xs.take 0) = [] := List.length_eq_zero_iff.mp (by rw [srtK_length]; simp)
      rw [e1, e2]; rfl⟩
  | n + 1, h => by
    obtain ⟨hk, hs⟩ := zipG_sort m (xs := xs) n (by omega)
    have hx : xs[n]? = some xs[n] := List.getElem?_eq_getElem (by omega)
    rw [zipG_succ _ hx]
    refine ⟨fun u hu => ?_, ?_⟩
    · rcases List.mem_append.mp hu with q | q
      · obtain ⟨o, r, e1, e2⟩ := hk u q; exact ⟨o, r, e1, by omega⟩
      · rw [List.mem_singleton.mp q]; exact m.keyed (by omega)
    · obtain ⟨r, e⟩ := m.form xs[n] n
      have := sort_ins (g := g) (pr := pr) (t := mk xs[n] n) (o' := n) (r' := r) (by rw [m.pr]; exact e) (L := zipG (fun j x => mk x j) xs n) (H := zipG (fun j x => mk x j) xs n ++ [mk xs[n] n]) hk List.perm_append_comm
      rw [this, hs, m.pr, List.take_add_one, hx]
      exact (srtK_append g (xs.take n) xs[n]).symm
theorem best_start {g : Int → Int} {pr : List Int → Int} {mk : Int → Int → List Int} (m : MkOk g pr mk) {xs : List Int} {n : Nat} (hn : n ≤ xs.length) {H : List (List Int)} (hp : H.Perm (zipG (fun j x => mk x j) xs n)) : Best g pr n (xs.take n) n H := by
  obtain ⟨hk, hs⟩ := zipG_sort m n hn
  refine ⟨by rw [hp.length_eq, zipG_length _ hn], fun u hu => hk u (hp.mem_iff.mp hu), ?_⟩
  rw [sortT_cong hp, hs]
  exact (List.take_of_length_le (by rw [srtK_length]; simp; omega)).symm
theorem keyed_head {g : Int → Int} {pr : List Int → Int} {o : Int} {t : List Int} (h : Keyed2 g pr o t) : t.getD 0 0 = g (pr t) := by
  obtain ⟨o', r, e, _⟩ := h
  have := congrArg (fun u : List Int => u.getD 0 0) e
  simpa using this
theorem step_max {g : Int → Int} {pr : List Int → Int} {mk : Int → Int → List Int} {n : Nat} {ys : List Int} {o x : Int} {v : List Int} {r : List (List Int)} (m : MkOk g pr mk) (hh : Heapd gtV 0 ((v :: r).map V.tup)) (b : Best g pr n ys o (v :: r)) (hlt : g x < v.getD 0 0) :
    ∃ H', siftup gtV (.tup (mk x o) :: r.map V.tup) 0 = H'.map V.tup ∧ Heapd gtV 0 (H'.map V.tup) ∧ Best g pr n (ys ++ [x]) (o + 1) H' := by
  obtain ⟨H', e, p, h'⟩ := replaceGT (x := mk x o) hh
  obtain ⟨r', er⟩ := m.form x o
  have := b.step (top := v) (rest := r) (t := mk x o) (r' := r') (.refl _) (fun z hz => topGT hh z (.tail _ hz)) (by rw [m.pr]; exact er) (by rw [m.pr, ← keyed_head (b.key v (.head _))]; exact hlt) p
  rw [m.pr] at this
  exact ⟨H', e, h', this⟩
theorem skip_max {g : Int → Int} {pr : List Int → Int} {n : Nat} {ys : List Int} {o x : Int} {v : List Int} {r : List (List Int)} (hh : Heapd gtV 0 ((v :: r).map V.tup)) (b : Best g pr n ys o (v :: r)) (hlt : ¬ g x < v.getD 0 0) : Best g pr n (ys ++ [x]) o (v :: r) :=
  b.skip (top := v) (rest := r) (.refl _) (fun z hz => topGT hh z (.tail _ hz)) (by rw [← keyed_head (b.key v (.head _))]; exact hlt)
-- the other way round
noncomputable def negT (t : List Int) : List Int := t.map fun x => -x
theorem neg_lt : ∀ {t u : List Int}, t.length = u.length → (negT t < negT u ↔ u < t)
  | [], [], _ => by simp [negT]
  | [], _ :: _, h => by simp at h
  | _ :: _, [], h => by simp at h
  | a :: t, b :: u, h => by
    have ih := neg_lt (t := t) (u := u) (by simpa using h)
    show (-a :: negT t) < (-b :: negT u) ↔ _
    rw [List.cons_lt_cons_iff, List.cons_lt_cons_iff, ih]
    constructor
    · rintro (q | ⟨q, q'⟩)
      · left; omega
      · right; exact ⟨by omega, q'⟩
    · rintro (q | ⟨q, q'⟩)
      · left; omega
      · right; exact ⟨by omega, q'⟩
theorem neg_le {t u : List Int} (h : t.length = u.length) (hl : t ≤ u) : negT u ≤ negT t := by
  rw [← List.not_lt] at hl ⊢
  rwa [neg_lt h]
structure MkN (kf : Int → Int) (pr : List Int → Int) (mk mk' : Int → Int → List Int) (m : Nat) : Prop where
  a : MkOk kf pr mk
  b : MkOk (negF kf) pr mk'
  neg : ∀ x o, negT (mk x o) = mk' (-x) (-o)
  len : ∀ x o, (mk x o).length = m
structure BestN (kf : Int → Int) (pr : List Int → Int) (mk : Int → Int → List Int) (n : Nat) (ys : List Int) (o : Int) (H : List (List Int)) : Prop where
  of : ∀ t ∈ H, ∃ x o', t = mk x o'
  best : Best (negF kf) pr n (negL ys) (-o) (H.map negT)
theorem MkN.head {kf : Int → Int} {pr : List Int → Int} {mk mk' : Int → Int → List Int} {m : Nat} (M : MkN kf pr mk mk' m) (x o : Int) : (mk x o).getD 0 0 = kf x := by
  obtain ⟨r, e⟩ := M.a.form x o
  rw [e]; rfl
theorem MkN.prn {kf : Int → Int} {pr : List Int → Int} {mk mk' : Int → Int → List Int} {m : Nat} (M : MkN kf pr mk mk' m) (x o : Int) : pr (negT (mk x o)) = -x := by rw [M.neg, M.b.pr]
theorem negL_append (xs ys : List Int) : negL (xs ++ ys) = negL xs ++ negL ys := by simp [negL]
theorem step_min {kf : Int → Int} {pr : List Int → Int} {mk mk' : Int → Int → List Int} {m n : Nat} {ys : List Int} {o x : Int} {v : List Int} {r : List (List Int)} (M : MkN kf pr mk mk' m) (hh : Heapd ltV 0 ((v :: r).map V.tup)) (b : BestN kf pr mk n ys o (v :: r)) (hlt : v.getD 0 0 < kf x) :
    ∃ H', siftup ltV (.tup (mk x o) :: r.map V.tup) 0 = H'.map V.tup ∧ Heapd ltV 0 (H'.map V.tup) ∧ BestN kf pr mk n (ys ++ [x]) (o - 1) H' := by
  obtain ⟨H', e, p, h'⟩ := replaceT (x := mk x o) hh
  obtain ⟨r', er⟩ := M.b.form (-x) (-o)
  obtain ⟨xv, ov, ev⟩ := b.of v (.head _)
  have hlen : ∀ t ∈ v :: r, t.length = m := fun t ht => by obtain ⟨x', o', e'⟩ := b.of t ht; rw [e']; exact M.len _ _
  have := b.best.step (top := negT v) (rest := r.map negT) (t := negT (mk x o)) (r' := r') (.refl _) (fun z hz => by
    obtain ⟨u, hu, e2⟩ := List.mem_map.mp hz
    rw [← e2]
    exact neg_le (by rw [hlen v (.head _), hlen u (.tail _ hu)]) (topT hh u (.tail _ hu))) (by rw [M.prn, M.neg]; exact er) (by
      rw [ev, M.prn, M.prn]
      rw [ev, M.head] at hlt
      simp only [negF, Int.neg_neg]; omega) (H' := H'.map negT) (p.map negT)
  rw [M.prn] at this
  refine ⟨H', e, h', ⟨fun t ht => ?_, ?_⟩⟩
  · rcases List.mem_cons.mp (p.mem_iff.mp ht) with q | q
    · exact ⟨x, o, q⟩
    · exact b.of t (.tail _ q)
  · rw [negL_append, show -(o - 1) = -o + 1 by omega]
    exact this
theorem skip_min {kf : Int → Int} {pr : List Int → Int} {mk mk' : Int → Int → List Int} {m n : Nat} {ys : List Int} {o x : Int} {v : List Int} {r : List (List Int)} (M : MkN kf pr mk mk' m) (hh : Heapd ltV 0 ((v :: r).map V.tup)) (b : BestN kf pr mk n ys o (v :: r)) (hlt : ¬ v.getD 0 0 < kf x) :
    BestN kf pr mk n (ys ++ [x]) o (v :: r) := by
  obtain ⟨xv, ov, ev⟩ := b.of v (.head _)
  have hlen : ∀ t ∈ v :: r, t.length = m := fun t ht => by obtain ⟨x', o', e'⟩ := b.of t ht; rw [e']; exact M.len _ _
  refine ⟨b.of, ?_⟩
  rw [negL_append]
  refine b.best.skip (top := negT v) (rest := r.map negT) (x := -x) (.refl _) (fun z hz => ?_) ?_
  · obtain ⟨u, hu, e2⟩ := List.mem_map.mp hz
    rw [← e2]
    exact neg_le (by rw [hlen v (.head _), hlen u (.tail _ hu)]) (topT hh u (.tail _ hu))
  · rw [ev, M.prn]
    rw [ev, M.head] at hlt
    simp only [negF, Int.neg_neg]; omega
theorem zipG_neg {kf : Int → Int} {pr : List Int → Int} {mk mk' : Int → Int → List Int} {m : Nat} (M : MkN kf pr mk mk' m) (xs : List Int) (n : Nat) : (zipG (fun j x => mk x (0 + (j : Int) * -1)) xs n).map negT = zipG (fun j x => mk' x j) (negL xs) n := by
  unfold zipG
  apply List.ext_getElem
  · simp [negL]
  · intro j h1 h2
    simp only [List.getElem_map, List.getElem_mapIdx, negL, List.getElem_take]
    rw [M.neg]
    congr 1
    omega
theorem start_min {kf : Int → Int} {pr : List Int → Int} {mk mk' : Int → Int → List Int} {m n : Nat} (M : MkN kf pr mk mk' m) {xs : List Int} (hn : n ≤ xs.length) {H : List (List Int)} (hp : H.Perm (zipG (fun j x => mk x (0 + (j : Int) * -1)) xs n)) : BestN kf pr mk n (xs.take n) (-n) H := by
  refine ⟨fun t ht => ?_, ?_⟩
  · have := hp.mem_iff.mp ht
    unfold zipG at this
    obtain ⟨j, hj, e⟩ := List.mem_mapIdx.mp this
    exact ⟨_, _, e.symm⟩
  · have hq := hp.map negT
    rw [zipG_neg M] at hq
    have := best_start M.b (xs := negL xs) (n := n) (by simpa [negL] using hn) hq
    rw [Int.neg_neg]
    have e : negL (xs.take n) = (negL xs).take n := by unfold negL; rw [List.map_take]
    rw [e]; exact this
theorem fin_min {kf : Int → Int} {pr : List Int → Int} {mk mk' : Int → Int → List Int} {m n : Nat} {xs : List Int} {o : Int} {H : List (List Int)} (M : MkN kf pr mk mk' m) (b : BestN kf pr mk n xs o H) : (katRev true (sortT H)).map pr = (srtB true kf xs).take n := by
  have hlen : ∀ t ∈ H, t.length = m := fun t ht => by obtain ⟨x', o', e'⟩ := b.of t ht; rw [e']; exact M.len _ _
  have hmem : ∀ t ∈ sortT H, t ∈ H := fun t ht => (sortT_perm H).mem_iff.mp ht
  have e : ((sortT H).reverse).map negT = sortT (H.map negT) := by
    refine sortT_uniq (((List.reverse_perm _).trans (sortT_perm H)).map negT) ?_
    rw [List.pairwise_map, List.pairwise_reverse]
    refine (sortT_sorted H).imp_of_mem fun {a b'} ha hb h => neg_le (by rw [hlen a (hmem a ha), hlen b' (hmem b' hb)]) h
  have hb := b.best.is
  rw [← e, List.map_map] at hb
  have e2 : ((sortT H).reverse).map (pr ∘ negT) = negL (((sortT H).reverse).map pr) := by
    unfold negL
    rw [List.map_map]
    refine List.map_congr_left fun t ht => ?_
    obtain ⟨x, o', et⟩ := b.of t (hmem t (List.mem_reverse.mp ht))
    show pr (negT t) = -(pr t)
    rw [et, M.prn, M.a.pr]
  rw [e2] at hb
  have := congrArg negL hb
  rw [negL_negL] at this
  show ((sortT H).reverse).map pr = _
  rw [this]
  unfold firstN srtB
  rw [if_pos rfl]
  unfold negL
  rw [List.map_take]
theorem mk2_max : MkOk (fun x => x) (fun t => t.getD 0 0) (fun x o => [x, o]) := ⟨fun x o => ⟨[], rfl⟩, fun _ _ => rfl⟩
theorem mk3_max (kf : Int → Int) : MkOk kf thr (fun x o => [kf x, o, x]) := ⟨fun x o => ⟨[x], rfl⟩, fun _ _ => rfl⟩
theorem mk2_min : MkN (fun x => x) (fun t => t.getD 0 0) (fun x o => [x, o]) (fun x o => [x, o]) 2 := ⟨mk2_max, ⟨fun x o => ⟨[], by simp [negF]⟩, fun _ _ => rfl⟩, fun _ _ => rfl, fun _ _ => rfl⟩
theorem mk3_min (kf : Int → Int) : MkN kf thr (fun x o => [kf x, o, x]) (fun x o => [negF kf x, o, x]) 3 := ⟨mk3_max kf, ⟨fun x o => ⟨[x], rfl⟩, fun _ _ => rfl⟩, fun x o => by simp [negT, negF], fun _ _ => rfl⟩
end Mine
set_option maxRecDepth 100000
namespace Mine
open PySem PySem.W PyProof.Rows
section
variable {C : Cx} {k : Nat} {F : FE} {σ : St}
set_option maxHeartbeats 2000000 in
theorem s_compzip {xn : Str} {p0 pp : Pos} {es targets ces : List Expr} {ne nt : Nat} {pe pt p : Pos} {fe : Expr} {scope : Scope} {pos : Pos} {Q : Fl → St → Prop} (ok : EnvOk F.env) (cl : List (Str × Addr)) (loc0 : List (Str × V)) (hloc : ∀ x v, loc0.lookup x = some v → ∃ a, v = .ref a)
    (h : TE C k F fe σ fun f σ₁ => TEs C k F p ces σ₁ fun vs σ₂ => f = .opq (.type "zip") ∧ ZipComp C k F es targets nt pe pt scope cl loc0 vs σ₂ fun v σ₃ => Q .next (σ₃.setLoc xn v)) (hcalm : C.exc = none := by assumption)
    (hn : eval (.Call fe ces [] p) F.env = (do callWith p (← eval fe F.env) [] (backTo p (starEach ces F.env)) (backToKw p (keywordEach [] F.env))) := by rfl) (hst : (starEach ces F.env).all (fun x => !x.1) = true := by rfl)
    (hclos : closureFor scope F.env = pure cl := by rfl) (hcl : ∀ p ∈ cl, p ∈ F.env.cells := by intro p hp; first | exact (nomatch hp) | simpa using hp) (hap : cl.Pairwise fun x y => x.2 ≠ y.2 := by first | exact List.Pairwise.nil | simp)
    (hkind : scope.kind = .function := by rfl) (hcell : ∀ y ∈ scope.names, y.2 ≠ .cell := by decide) (hnames : ∀ x ∈ scope.names, x.2 = .local → scope.names.lookup x.1 = some .local := by decide)
    (hsw : swapsWith (.ListComp (.Tuple es ne pe) [⟨.Tuple targets nt pt, .Call fe ces [] p, [], 0⟩] scope pos) (some (.Name xn p0)) pp.line F.env = pure true := by rfl) (hks : StoreOk F xn := by exact .inl rfl)
    (hs : ∀ x, foldedSetIterable (.Call fe ces [] p) F.env x = pure x := by intro _; rfl) : TS C k F (.Assign [.Name xn p0] (.ListComp (.Tuple es ne pe) [⟨.Tuple targets nt pt, .Call fe ces [] p, [], 0⟩] scope pos) pp) σ Q :=
  fun A s hA S => by
    show wpAny _ A (exec (.Assign [.Name xn p0] (.ListComp (.Tuple es ne pe) [⟨.Tuple targets nt pt, .Call fe ces [] p, [], 0⟩] scope pos) pp) F.env) _ _ s
    rw [arm_exec_Assign]
    refine wpAny_bind (wpAny_standAt (wpAny_bind (wpAny_of_eq (a := true) hsw ?_)))
    simp only [if_true]
    rw [arm_evalThenUse_ListComp]
    refine wpAny_bind (wpAny_bind ?_)
    have hfi : firstIter [⟨.Tuple targets nt pt, .Call fe ces [] p, [], 0⟩] F.env = eval (.Call fe ces [] p) F.env := by rfl
    have hfa : firstAsync [⟨.Tuple targets nt pt, .Call fe ces [] p, [], 0⟩] = false := by rfl
    rw [hfi, hfa]
    refine wpAny_comprehension_free (e := (.ListComp (.Tuple es ne pe) [⟨.Tuple targets nt pt, .Call fe ces [] p, [], 0⟩] scope pos)) (g := ⟨.Tuple targets nt pt, .Call fe ces [] p, [], 0⟩) (gs := []) (cl := cl) rfl hs hclos hkind hnames ?_
    refine call_at hA S (h.mono fun f σ₁ h₁ => TT.mono h₁ fun vs σ₂ h₂ => ⟨by rw [h₂.1]; exact trivial, fun s₂ f' vs' S₂ M₂ rf rv => ?_⟩) hn hst
    obtain ⟨rfl, lo, hi, st, I, l, o, xs, n, g, rfl, hsI, hIO, hsl, hsz, hn', hmax, fr, turn, hq⟩ := h₂
    obtain rfl := rf.inv_opq
    obtain ⟨_, _, rfl, ra, rb⟩ := rv.inv2
    obtain rfl := rb.inv_ref
    obtain ⟨r, t, u, v, rfl, hr⟩ := ra.inv_rng
    obtain ⟨rI, rfI⟩ := S₂.sto I _ hsI
    have hII : s₂.heap.IsListIter I l 0 := ⟨o, rI, hIO.1, hIO.2⟩
    refine call_zipR hr hII fun h' hz hTI hTO hR hsz' hk => ?_
    refine wpAny_pyIter_zip hz ?_
    refine wpAny_newList ?_ (by show 0 ≤ _; exact Nat.zero_le _)
    refine wpAny_newFunctionEnv hcell (fun x hx => nomatch hx) (fun h₂ hns hsb => ?_) hkind
    have hD : h'.objs.size = s₂.heap.objs.size + 4 := hsz'
    have hszp : (h'.push { cls := .type "list", data := .seq ([] : List Value).toArray }).objs.size = s₂.heap.objs.size + 5 := by rw [Heap.size_push, hD]
    have kp : ∀ b ob, h'.get? b = some ob → h₂.get? b = some ob := fun b ob e =>
      hsb.extBut b ob (by have : @LT.lt Nat instLTNat b h'.objs.size := Heap.lt_size e; show b ≠ (h'.push _).objs.size; rw [hszp]; exact ane (by omega)) (Heap.get?_push_of_some _ (Heap.get?_push_of_some _ e))
    have hDh : h₂.get? (s₂.heap.objs.size + 4) = some (listOf #[] 0) := by
      refine hsb.extBut _ _ (by show _ ≠ (h'.push _).objs.size; rw [hszp]; exact ane (by omega)) (Heap.get?_push_of_some _ ?_)
      rw [← hD]
      exact Heap.get?_push_size _ rfl
    have hns' : h₂.Ns (s₂.heap.objs.size + 5) (fun x => ([] : List (Str × Value)).reverse.lookup x) := by rw [← hszp]; exact hns
    have oI := S₂.off I _ hsI
    have cn : ∀ b, s₂.heap.objs.size ≤ b → s₂.heap.get? b = none := fun b hb => by
      cases hq : s₂.heap.get? b with
      | none => rfl
      | some o => exact absurd (Heap.lt_size hq) (Nat.not_lt.mpr hb)
    rw [hsz] at hR
    have loop : codeAny (model C.prog C.w) A (.compLoop (.ListComp (.Tuple es ne pe) [⟨.Tuple targets nt pt, .Call fe ces [] p, [], 0⟩] scope pos) 0 (.ref (s₂.heap.objs.size + 3)) (.ref (s₂.heap.objs.size + 4)) (compEnvC scope cl (s₂.heap.objs.size + 5) F.env))
        (compPost (model C.prog C.w) A No (some fun v => assignAll v ((assignEach [.Name xn p0] F.env).map (·.2))) (fun (_ : Value) s' => wpAny (model C.prog C.w) A (pure ()) (fun (_ : Unit) s' => wpAny (model C.prog C.w) A (pure Flow.next) (Post C F FlRep σ s Q) No s') No s') (.ref (s₂.heap.objs.size + 4)) (s₂.heap.objs.size + 5)) { s₂ with heap := h₂ } := by
      refine zip_loop (R0 := s₂.heap.objs.size) (TI := s₂.heap.objs.size + 1) (TO := s₂.heap.objs.size + 2) (I := I) (l := l) (lo := lo) (st := st) (n := n) (xs := xs) (loc0 := loc0) (g := g) hA hcalm S₂ hsI hsl hn' hcl hap fr hloc rfl rfl rfl rfl rfl rfl (fun j x hj hx => turn _ j x (comp_ok ok hkind) hj hx) (fun s₅ out' e kp₅ hI₅ hD₅ hTR ⟨m, hm⟩ hrest => ?_) hmax (fun b o e => kp b o (hk b o e)) (kp _ _ hz) (kp _ _ hTI) ⟨_, _, kp _ _ hTO⟩ (hR.at fun o e => kp _ o e) (hII.at fun o e => kp _ o (hk _ o e)) hDh ⟨_, hns'⟩ rfl
      obtain ⟨oI₅, hoI₅, hcI₅, hdI₅⟩ := hI₅
      have ltI : @LT.lt Nat instLTNat I s₂.heap.objs.size := Heap.lt_size rI
      have hIO' : IterO oI₅ l n := ⟨hcI₅, hdI₅⟩
      have k5' : Heap.ExtBut I s₂.heap s₅.heap := fun b o hb eb => kp₅ b o hb eb
      have SF := S₂.change (o := .raw oI₅) hsI rfl k5' ⟨hoI₅, hIO'.not_frz⟩
      have gD : C.GB.get? (s₂.heap.objs.size + 4) = none := by
        cases hq : C.GB.get? (s₂.heap.objs.size + 4) with
        | none => rfl
        | some o => have := S₂.base _ o hq; rw [cn _ (Nat.le_add_right _ _)] at this; cases this
      have SD := SF.adopt (a := s₂.heap.objs.size + 4) (o := .lst ((zipG g xs n).map V.tup)) ⟨by rw [List.length_map, zipG_length g hn']; exact hmax, out', e, hD₅, hTR.reps⟩ gD (fun q => by
          obtain ⟨m', ⟨oL, _, _, hoL, _⟩, _⟩ := S₂.frame
          rw [← q, cn _ (Nat.le_add_right _ _)] at hoL; cases hoL) (fun p hp q => by
          obtain ⟨v₀, oc, hoc, _⟩ := S₂.cells p hp
          rw [q, cn _ (Nat.le_add_right _ _)] at hoc; cases hoc)
      have MI := Mod.change (tk := s₅.toks) (o := .raw oI₅) S₂ hsI rfl k5' ⟨_, hoI₅⟩
      rw [← hrest] at MI
      have MD := MI.adopt (o := .lst ((zipG g xs n).map V.tup)) (cn (s₂.heap.objs.size + 4) (Nat.le_add_right _ _))
      have MF := M₂.trans S₂ MD
      have hcn : s₂.heap.get? (s₂.heap.objs.size + 5) = none := cn _ (Nat.le_add_right _ _)
      have lc := Loose.fresh (h' := s₅.heap) S₂ hcn fun o ho hf => frz_not_dict ho hf hm
      have nI5 : (s₂.heap.objs.size + 5 : Nat) ≠ I := by omega
      have lc5 : Loose C.GB F ((σ₂.setSto I (.raw oI₅)).setSto (s₂.heap.objs.size + 4) (.lst ((zipG g xs n).map V.tup))) s₅.heap (s₂.heap.objs.size + 5) :=
        ⟨lc.new, lc.loc, lc.cell, by rw [setSto_other _ _ (ane (by omega)), setSto_other _ _ (ane nI5)]; exact lc.sto, lc.frz⟩
      show wpAny _ A (assign (.Name xn p0) F.env (.ref (s₂.heap.objs.size + 4))) _ _ s₅
      refine wpAny_assign_Name (store_name ok SD (.ref _) hks fun h₆ tk S₆ M₆ => ?_)
      have hm₆ : h₆.Ns (s₂.heap.objs.size + 5) m := by
        obtain ⟨oc, es, ep, hoc, r⟩ := hm
        exact ⟨oc, es, ep, M₆.keep _ oc hoc (fixed_none lc5.sto) (lc5.own SD), r⟩
      refine ⟨m, hm₆, fun h₇ hsb₇ => ?_⟩
      have lc6 : Loose C.GB F (((σ₂.setSto I (.raw oI₅)).setSto (s₂.heap.objs.size + 4) (.lst ((zipG g xs n).map V.tup))).setLoc xn (.ref (s₂.heap.objs.size + 4))) h₆ (s₂.heap.objs.size + 5) :=
        ⟨lc5.new, lc5.loc, lc5.cell, lc5.sto, fun o ho hf => frz_not_dict ho hf hm₆⟩
      have MG := (MF.trans' M₆).more (s₂.heap.objs.size + 5)
      refine wpAny_pure (wpAny_pure ?_)
      exact ⟨.next, _, .next, S₆.extBut lc6 hsb₇.extBut, MG.endOf (s₃ := { s₅ with heap := h₇, toks := tk }) (M₂.back hcn) hsb₇.extBut rfl .refl, hq _ _ hIO' (S₂.fresh_none (cn _ (Nat.le_add_right _ _)))⟩
    have e1 : ({ newEnv scope (h'.push { cls := .type "list", data := .seq ([] : List Value).toArray }).objs.size F.env.globals cl F.env.qual none .none (some F.env) 0 with scope := relabel scope F.env } : Env) = compEnvC scope cl (s₂.heap.objs.size + 5) F.env := by rw [hszp]; rfl
    show codeAny _ A (.compStart _ 0 (.ref (s₂.heap.objs.size + 3)) (.ref h'.objs.size) { newEnv scope (h'.push { cls := .type "list", data := .seq ([] : List Value).toArray }).objs.size F.env.globals cl F.env.qual none .none (some F.env) 0 with scope := relabel scope F.env }) (compPost (model C.prog C.w) A No (some fun v => assignAll v ((assignEach [.Name xn p0] F.env).map (·.2))) (fun (_ : Value) s' => wpAny (model C.prog C.w) A (pure ()) (fun (_ : Unit) s' => wpAny (model C.prog C.w) A (pure Flow.next) (Post C F FlRep σ s Q) No s') No s') (.ref h'.objs.size) (h'.push { cls := .type "list", data := .seq ([] : List Value).toArray }).objs.size) { s₂ with heap := h₂ }
    rw [e1, hszp, hD]
    exact codeAny_compStart_list loop (wpAny_pyIter_zip (kp _ _ hz) loop)
end
end Mine
set_option maxRecDepth 100000
namespace Mine
open PySem PySem.W PyProof.Rows
-- defs with defaults
theorem codeAny_call_cellsB {prog : Program} {w : World} {A : Around} {s : Shared} {R : Result → Shared → Prop} {a : Addr} {o : Obj} {fd : FuncData} {body : List Stmt} {vals : List Value} {binds : List (Str × Value)}
    (hroom : A.depth < recursionLimit) (ho : s.heap.get? a = some o) (hdata : o.data = .func fd) (hlim : s.heap.NoLimit) (hcd : s.heap.CodeRec fd.code fd.qualname)
    (hbody : fd.body = .stmts body) (hbind : BindsTo s fd ⟨vals, []⟩ binds) (hclo : fd.closure = [])
    (hkind : ∀ x ∈ binds, fd.scope.names.lookup x.1 = some .local ∨ (fd.scope.names.lookup x.1 = some .cell ∧ ((cellsFrom (s.heap.objs.size + 1) fd.scope.names []).lookup x.1).isSome = true))
    (h : ∀ s₁, InCallC s (callEnvC fd s.heap.objs.size a).locals (bindL (callEnvC fd s.heap.objs.size a).kindOf binds fun _ => none) (callEnvC fd s.heap.objs.size a).cells
        (bindC (callEnvC fd s.heap.objs.size a).kindOf binds fun _ => none) s₁ →
      wpAny (model prog w) (A.deeper (callEnvC fd s.heap.objs.size a)) (execs body (callEnvC fd s.heap.objs.size a)) (fun f s' => R (.ok (.ret (match f with | .ret v => v | _ => .none))) s')
        (fun e s' => wpAny (model prog w) (A.deeper (callEnvC fd s.heap.objs.size a)) (leaving (callEnvC fd s.heap.objs.size a) e) (fun _ s'' => R (.error e) s'') (fun e' s'' => R (.error e') s'') s') s₁)
    (hco : fd.scope.isCoroutine = false) (hgen : fd.scope.isGenerator = false) (hk : fd.scope.kind = .function) :
    codeAny (model prog w) A (.call (.ref a) ⟨vals, []⟩) R s := by
  refine codeAny_call_function hroom ho hdata hco hgen hbody hcd (hbind _ _ _ _ ?_)
  rw [hclo]
  refine wpAny_newFunctionEnv_cells hk hkind fun env he s' x => ?_
  subst he
  exact ⟨hlim.keeps x.toInCall.keep, codeAny_func (h s' x)⟩
section
variable {C : Cx} {k : Nat} {F : FE} {σ : St}
structure FnAtD (C : Cx) (a : Addr) (fd : FuncData) (body : List Stmt) (names : List Str) : Prop where
  obj : ∃ o, C.GB.get? a = some o ∧ o.data = .func fd
  code : C.GB.CodeRec fd.code fd.qualname
  body : fd.body = .stmts body
  clo : fd.closure = []
  globals : fd.globals = mainGlobals
  builtins : fd.builtins = builtinsNs
  kind : fd.scope.kind = .function
  co : fd.scope.isCoroutine = false
  gen : fd.scope.isGenerator = false
  nodup : names.Nodup
  cnodup : ((cellsFrom 0 fd.scope.names []).map (·.1)).Nodup
  kinds : ∀ x ∈ names, fd.scope.names.lookup x = some .local ∨ (fd.scope.names.lookup x = some .cell ∧ x ∈ (cellsFrom 0 fd.scope.names []).map (·.1))
  bind : ∀ (s : Shared) (vs : List Value), (∀ b o, C.GB.get? b = some o → s.heap.get? b = some o) → vs.length = names.length → BindsTo s fd ⟨vs, []⟩ (names.zip vs)
theorem FnAtD.envOk {a : Addr} {fd : FuncData} {body : List Stmt} {names : List Str} (f : FnAtD C a fd body names) (L : Addr) (fr : List Env) : EnvOk (frameOf fd L a fr).env := ⟨f.kind, f.globals, f.builtins⟩
theorem FnAtD.isFun {a : Addr} {fd : FuncData} {body : List Stmt} {names : List Str} (f : FnAtD C a fd body names) : IsFun C.GB (.ref a) := let ⟨o, h1, h2⟩ := f.obj; ⟨o, fd, h1, h2⟩
theorem call_ownD {a : Addr} {fd : FuncData} {body : List Stmt} {names : List Str} {vs : List V} {Q : V → St → Prop} (cx : CxOk C) (f : FnAtD C a fd body names) (hlen : vs.length = names.length)
    (h : ∀ L, TX C k (frameOf fd L a F.frames) body ⟨names.zip vs, σ.sto⟩ fun fl σ' => Q (retV fl) ⟨σ.loc, σ'.sto⟩) : CallOK C (k + 1) F (.ref a) vs σ Q := by
  intro A s f' vs' hA S rf rv
  obtain rfl := rf.inv_ref
  obtain ⟨o, ho, hd⟩ := f.obj
  have hsz : ∀ b ob, s.heap.get? b = some ob → b < s.heap.objs.size := fun b ob e => Heap.lt_size e
  have hbind := f.bind s vs' S.base (by rw [rv.length, hlen])
  refine wpAny_call (codeAny_call_cellsB (fd := fd) (body := body) (binds := names.zip vs') (Nat.lt_of_le_of_lt (Nat.le_add_right _ _) hA.2.1) (S.base _ _ ho) hd (cx.nolimit.keeps S.base) ?hcd f.body hbind f.clo ?hkind (fun s₁ x => ?hb) f.co f.gen f.kind)
  case hcd =>
    obtain ⟨c, oc, ws, tq, h1, h2, h3⟩ := f.code
    exact ⟨c, oc, ws, tq, h1, S.base _ _ h2, h3⟩
  case hkind =>
    intro y hy
    have hyn : y.1 ∈ names := by obtain ⟨y1, y2⟩ := y; exact (List.of_mem_zip hy).1
    rcases f.kinds _ hyn with q | ⟨q, q'⟩
    · exact .inl q
    · refine .inr ⟨q, ?_⟩
      rw [cellsFrom_names fd.scope.names 0 (s.heap.objs.size + 1) [] [] rfl] at q'
      obtain ⟨p, hp, e⟩ := List.mem_map.mp q'
      have hnd : ((cellsFrom (s.heap.objs.size + 1) fd.scope.names []).map (·.1)).Nodup := by
        rw [cellsFrom_names fd.scope.names (s.heap.objs.size + 1) 0 [] [] rfl]; exact f.cnodup
      rw [← e, lookup_of_nodup hnd p hp]; rfl
  case hb =>
    have hnd : ((callEnvC fd s.heap.objs.size a).cells.map (·.1)).Nodup := by
      show ((cellsFrom (s.heap.objs.size + 1) fd.scope.names []).map (·.1)).Nodup
      rw [cellsFrom_names fd.scope.names (s.heap.objs.size + 1) 0 [] [] rfl]; exact f.cnodup
    have hab : ∀ p ∈ (callEnvC fd s.heap.objs.size a).cells, s.heap.objs.size < p.2 := fun p hp => x.above p.1 p.2 hp
    have keep := x.toInCall.keep
    have hown : ∀ b ∈ (frameOf fd s.heap.objs.size a F.frames).own, s.heap.objs.size ≤ b := fun b hb => by
      rcases List.mem_cons.mp hb with e | hb
      · exact Nat.le_of_eq e.symm
      · obtain ⟨p, hp, e⟩ := List.mem_map.mp hb
        rw [← e]; exact Nat.le_of_lt (hab p hp)
    have hnone : ∀ b, s.heap.objs.size ≤ b → s.heap.get? b = none := fun b hb => by
      cases hq : s.heap.get? b with
      | none => rfl
      | some ob => exact absurd (hsz b ob hq) (Nat.not_lt.mpr hb)
    have hgb : ∀ b, s.heap.objs.size ≤ b → C.GB.get? b = none := fun b hb => by
      cases hq : C.GB.get? b with
      | none => rfl
      | some ob => have := S.base b ob hq; rw [hnone b hb] at this; cases this
    have S0 := S.keeps keep
    have S₁ : Sim C.GB (frameOf fd s.heap.objs.size a F.frames) ⟨names.zip vs, σ.sto⟩ s₁.heap := {
      base := S0.base
      frame := by
        refine ⟨_, x.toInCall.ns, fun y v e => ?_⟩
        obtain ⟨v', r, hl, hc⟩ := bind_in (h := s.heap) (callEnvC fd s.heap.objs.size a).kindOf names vs vs' (fun _ => none) (fun _ => none) f.nodup rv y v e
        refine ⟨v', ?_, r.keeps (frz_of_keeps keep)⟩
        have hy : y ∈ names := (List.of_mem_zip (mem_of_lookup e)).1
        rcases f.kinds y hy with q | ⟨q, q'⟩
        · exact .inl ⟨q, hl q⟩
        · refine .inr ⟨.inl q, ?_⟩
          rw [cellsFrom_names fd.scope.names 0 (s.heap.objs.size + 1) [] [] rfl] at q'
          obtain ⟨p, hp, ep⟩ := List.mem_map.mp q'
          have hlk := lookup_of_nodup hnd p hp
          rw [ep] at hlk
          refine ⟨p.2, hlk, ?_⟩
          have := x.cell y p.2 hlk
          rwa [hc (by show fd.scope.names.lookup y ≠ _; rw [q]; decide)] at this
      cells := fun p hp => ⟨_, x.cell p.1 p.2 (lookup_of_nodup hnd p hp)⟩
      apart := x.apart
      sto := S0.sto
      inOwn := .head _
      ownIs := fun b hb => by
        rcases List.mem_cons.mp hb with e | hb
        · exact .inl e
        · obtain ⟨p, hp, e⟩ := List.mem_map.mp hb; exact .inr ⟨p, hp, e⟩
      new := fun b hb => hgb b (hown b hb)
      off := fun b ob e => by
        obtain ⟨o', ho'⟩ := S.sto_alive e
        have hlt := hsz b o' ho'
        exact ⟨(S.off b ob e).1, Nat.ne_of_lt hlt, fun p hp q => by have := hab p hp; rw [q] at this; exact absurd hlt (Nat.lt_asymm this)⟩ }
    have hA' : Room C k (frameOf fd s.heap.objs.size a F.frames) (A.deeper (callEnvC fd s.heap.objs.size a)) := ⟨hA.1, by have := hA.2.1; show A.depth + 1 + k < _; omega, by have := hA.2.2.1; show A.units + 3 + 10 * k + 5 < _; omega, by show A.frames.map _ = _; rw [hA.2.2.2]; rfl⟩
    refine wpAny_mono (h s.heap.objs.size _ s₁ hA' S₁) (fun fl' s' ⟨fl, σ', rfl', S', M', hq⟩ => ?_) fun _ _ z => z.elim
    have hb₁ : ∀ b ob, s.heap.get? b = some ob → b ∉ (frameOf fd s.heap.objs.size a F.frames).own := fun b ob e hb => absurd (hsz b ob e) (Nat.not_lt.mpr (hown b hb))
    have kp : ∀ b ob, s.heap.get? b = some ob → σ.fixed b → s'.heap.get? b = some ob := fun b ob e hf => M'.keep b ob (keep b ob e) hf (hb₁ b ob e)
    have tp : ∀ c o, s.heap.get? c = some o → FrzO o → s'.heap.get? c = some o := fun c o hoc hf => kp c o hoc (S.frz_off hoc hf).1
    have dm : ∀ b ob, σ'.sto b = some ob → (∃ o', σ.sto b = some o' ∧ (ob.isMut = true → o'.isMut = true)) ∨ s.heap.get? b = none := fun b ob e => by
      rcases M'.dom b ob e with q | q
      · exact .inl q
      · refine .inr ?_
        cases hq : s.heap.get? b with
        | none => rfl
        | some oo => rw [keep b oo hq] at q; cases q
    have S₂ : Sim C.GB F ⟨σ.loc, σ'.sto⟩ s'.heap := {
      base := S'.base
      frame := by
        obtain ⟨m, hn, hl⟩ := S.frame
        have fixL : σ.fixed F.env.locals := fun o' e => absurd rfl (S.off _ o' e).2.1
        refine ⟨m, ?_, fun y v e => ?_⟩
        · obtain ⟨oL, es, ep, hoL, r⟩ := hn
          exact ⟨oL, es, ep, kp _ _ hoL fixL, r⟩
        · obtain ⟨v', hp, hr⟩ := hl y v e
          refine ⟨v', ?_, hr.keeps tp⟩
          rcases hp with hp | ⟨hk, c, hc, oc, hoc, hdc⟩
          · exact .inl hp
          · exact .inr ⟨hk, c, hc, oc, kp c oc hoc (fun o' e => absurd rfl ((S.off _ o' e).2.2 _ (mem_of_lookup hc))), hdc⟩
      cells := fun p hp => by
        obtain ⟨v₀, oc, hoc, hdc⟩ := S.cells p hp
        exact ⟨v₀, oc, kp _ oc hoc (fun o' e => absurd rfl ((S.off _ o' e).2.2 _ hp)), hdc⟩
      apart := S.apart
      sto := S'.sto
      inOwn := S.inOwn
      ownIs := S.ownIs
      new := S.new
      off := fun b ob e => by
        refine ⟨(S'.off b ob e).1, ?_⟩
        rcases dm b ob e with ⟨o', ho', _⟩ | q
        · exact (S.off b o' ho').2
        · refine ⟨fun e' => ?_, fun p hp e' => ?_⟩
          · obtain ⟨m, ⟨oL, _, _, hoL, _⟩, _⟩ := S.frame
            rw [← e', q] at hoL; cases hoL
          · obtain ⟨v₀, oc, hoc, _⟩ := S.cells p hp
            rw [e', q] at hoc; cases hoc }
    have M₂ : Mod F.own σ ⟨σ.loc, σ'.sto⟩ s s' := ⟨fun b ob e hf _ => kp b ob e hf, dm, fun b ob e => M'.alive b ob (keep b ob e), by
      obtain ⟨h₁, tk, e⟩ := x.toInCall.same
      rw [M'.rest, e]⟩
    cases rfl' with
    | next => exact ⟨.none, _, .none, S₂, M₂, hq⟩
    | brk => exact ⟨.none, _, .none, S₂, M₂, hq⟩
    | cont => exact ⟨.none, _, .none, S₂, M₂, hq⟩
    | ret r => exact ⟨_, _, r, S₂, M₂, hq⟩

noncomputable def fdD (st : Stmt) (pm cd doc dV : Value) : FuncData := { fdOf st pm cd doc with defaults := dV, kwdefaults := .none }
noncomputable def FnD (C : Cx) (p : Program) (n : Str) (a : Addr) : Prop := ∃ pm cd doc dV, FnAtD C a (fdD (stOf p n) pm cd doc dV) (bodyOf (stOf p n)) (namesOf (stOf p n))
structure DefOkD (st : Stmt) : Prop where
  kind : (scopeOf st).kind = .function
  co : (scopeOf st).isCoroutine = false
  gen : (scopeOf st).isGenerator = false
  nodup : (namesOf st).Nodup
  cnodup : ((cellsFrom 0 (scopeOf st).names []).map (·.1)).Nodup
  kinds : ∀ x ∈ namesOf st, (scopeOf st).names.lookup x = some .local ∨ ((scopeOf st).names.lookup x = some .cell ∧ x ∈ (cellsFrom 0 (scopeOf st).names []).map (·.1))
  one : (paramsOf st).defaults.length = 1
  bind : ∀ (pm cd doc dV : Value) (vs : List Value), vs.length = (namesOf st).length → ∃ k, bindArgs (fdD st pm cd doc dV) ⟨vs, []⟩ = seqItems? dV >>= k ∧ ∀ u, k (some #[u]) = pure ((namesOf st).zip vs)
theorem CodeRec.ghost {h₁ : Heap} {tabs : List (Addr × Addr)} {cd : Value} {q : Str} (hT : TabsAt tabs h₁) (x : h₁.CodeRec cd q) : (ghostOf h₁ tabs).CodeRec cd q := by
  obtain ⟨c, o, vs, t, e1, e2, e3, e4⟩ := x
  refine ⟨c, o, vs, t, e1, ghost_get hT e2 fun q => ?_, e3, e4⟩
  subst q
  cases e3
  cases e4
theorem FnAt.ghost {h₁ : Heap} {tabs : List (Addr × Addr)} {prog : Program} {w : World} {mg mb : Str → Option Value} {GT : List (Str × V)} {a : Addr} {fd : FuncData} {body : List Stmt} {names : List Str} (hT : TabsAt tabs h₁) (f : FnAt ⟨prog, w, h₁, mg, mb, GT, none⟩ a fd body names) : FnAt ⟨prog, w, ghostOf h₁ tabs, mg, mb, GT, none⟩ a fd body names :=
  ⟨let ⟨o, e1, e2⟩ := f.obj; ⟨o, ghost_get hT e1 (fun q => by subst q; cases e2), e2⟩, CodeRec.ghost hT f.code, f.body, f.clo, f.globals, f.builtins, f.kind, f.co, f.gen, f.nodup, f.cnodup, f.kinds, f.bind⟩
theorem Fn.ghost {h₁ : Heap} {tabs : List (Addr × Addr)} {prog : Program} {w : World} {mg mb : Str → Option Value} {GT : List (Str × V)} {p : Program} {n : Str} {a : Addr} (hT : TabsAt tabs h₁) (f : Fn ⟨prog, w, h₁, mg, mb, GT, none⟩ p n a) : Fn ⟨prog, w, ghostOf h₁ tabs, mg, mb, GT, none⟩ p n a := let ⟨pm, cd, doc, g⟩ := f; ⟨pm, cd, doc, g.ghost hT⟩
theorem FnAtD.more {GB' : Heap} {x : Option Addr} {a : Addr} {fd : FuncData} {body : List Stmt} {names : List Str} (f : FnAtD C a fd body names) (hk : ∀ b o, C.GB.get? b = some o → GB'.get? b = some o) : FnAtD { C with GB := GB', exc := x } a fd body names :=
  ⟨let ⟨o, h1, h2⟩ := f.obj; ⟨o, hk _ _ h1, h2⟩, f.code.keeps hk, f.body, f.clo, f.globals, f.builtins, f.kind, f.co, f.gen, f.nodup, f.cnodup, f.kinds, fun s vs kp hl => f.bind s vs (fun b o e => kp b o (hk b o e)) hl⟩
theorem FnD.more {GB' : Heap} {x : Option Addr} {p : Program} {n : Str} {a : Addr} (f : FnD C p n a) (hk : ∀ b o, C.GB.get? b = some o → GB'.get? b = some o) : FnD { C with GB := GB', exc := x } p n a := let ⟨pm, cd, doc, dV, g⟩ := f; ⟨pm, cd, doc, dV, g.more hk⟩
end
end Mine
set_option maxRecDepth 100000
namespace Mine
open PySem PySem.W PyProof.Rows
section
variable {C : Cx} {k : Nat} {F : FE} {σ : St}
theorem ckw_min {I l sn : Addr} {kv : V} {o : Obj} {xs : List Int} {kf : Int → Int} {Q : V → St → Prop} (hk : 3 ≤ k) (hsI : σ.sto I = some (.raw o)) (hIO : IterO o l 0) (hs : (σ.sto l).bind O.items = some (xs.map V.int)) (hkv : KeyV C kv kf)
    (h0 : xs = [] → ∀ o', Q (.ref sn) (σ.setSto I (.raw o'))) (h1 : ∀ x o', FB false kf xs x → Q (.int x) (σ.setSto I (.raw o'))) (hcalm : C.exc = none := by assumption) : CallKW C k F (.opq (.builtin "min")) [.ref I] [Str.ofString "default", Str.ofString "key"] [.ref sn, kv] σ Q := by
  rcases hkv with ⟨rfl, hkf⟩ | ⟨a, rfl, kc⟩
  · exact ckw_min_n (a := 0) hk hsI hIO hs hkf h0 h1
  · exact ckw_min_k hk hsI hIO hs kc h0 h1
theorem ckw_max {I l sn : Addr} {kv : V} {o : Obj} {xs : List Int} {kf : Int → Int} {Q : V → St → Prop} (hk : 3 ≤ k) (hsI : σ.sto I = some (.raw o)) (hIO : IterO o l 0) (hs : (σ.sto l).bind O.items = some (xs.map V.int)) (hkv : KeyV C kv kf)
    (h0 : xs = [] → ∀ o', Q (.ref sn) (σ.setSto I (.raw o'))) (h1 : ∀ x o', FB true kf xs x → Q (.int x) (σ.setSto I (.raw o'))) (hcalm : C.exc = none := by assumption) : CallKW C k F (.opq (.builtin "max")) [.ref I] [Str.ofString "default", Str.ofString "key"] [.ref sn, kv] σ Q := by
  rcases hkv with ⟨rfl, hkf⟩ | ⟨a, rfl, kc⟩
  · exact ckw_max_n (a := 0) hk hsI hIO hs hkf h0 h1
  · exact ckw_max_k hk hsI hIO hs kc h0 h1
theorem s_forIN {t it : Expr} {b o : List Stmt} {p : Pos} {Q : Fl → St → Prop} (names : List Str) (h : TE C k F it σ fun v σ₁ => ∃ I l oI q, v = .ref I ∧ σ₁.sto I = some (.raw oI) ∧ IterO oI l q ∧ ∃ (Inv : Nat → St → Prop) (N : Nat), Inv q ((σ₁.drop I).restrict names) ∧ ∀ i σ', Inv i σ' → i ≤ N ∧ ∃ us, (σ'.sto l).bind O.items = some us ∧
      match us[i]? with
      | some v => AsgOK C k F t v σ' fun σ₃ => TX C k F b σ₃ (TurnF names Inv i Q)
      | none => TX C k F o σ' Q)
    (hcalm : C.exc = none := by assumption) (hs : ∀ x, foldedSetIterable it F.env x = pure x := by intro _; rfl) : TS C k F (.For t it b o p) σ Q :=
  s_forI (TE.mono h fun v σ₁ hx => ex4 hx fun I l oI q hx => an4 hx fun e1 e2 e3 hx => ex2 hx fun Inv N hx => ⟨I, l, oI, q, e1, e2, e3, fun i σ' => Inv i (σ'.restrict names), N, hx.1, fun i σ' hInv => by
      obtain ⟨hi, us, hus, ht⟩ := hx.2 i _ hInv
      refine ⟨hi, us, hus, ?_⟩
      cases hg : us[i]? with
      | none => rw [hg] at ht; exact TT.weak (restrictL_sub σ'.loc names) ht
      | some v =>
        rw [hg] at ht
        exact fun A s a' hA S ra => wpAny_mono (ht A s a' hA (S.weak (restrictL_sub σ'.loc names)) ra) (fun a s' ⟨b, σ', r, S', M, q⟩ => ⟨b, σ', r, S', ⟨M.keep, M.dom, M.alive, M.rest⟩, TX.mono q fun f σ₂ h₂ => by cases f <;> exact h₂⟩) fun _ _ x => x⟩) hcalm hs
end
theorem none_if {sto : Addr → Option O} {a b : Addr} {o : O} (h : (if b = a then some o else sto b) = none) : b ≠ a ∧ sto b = none := by
  split at h
  · cases h
  · exact ⟨by assumption, h⟩
theorem rangeSize_up (n : Int) : Builtin.Range.rangeSize 0 n 1 = n.toNat := by simp [Builtin.Range.rangeSize]; omega
theorem rangeSize_down (n : Int) : Builtin.Range.rangeSize 0 (-n) (-1) = n.toNat := by simp [Builtin.Range.rangeSize]; omega
structure BestM (g : Int → Int) (pr : List Int → Int) (mk : Int → Int → List Int) (n : Nat) (ys : List Int) (o : Int) (H : List (List Int)) : Prop where
  of : ∀ t ∈ H, ∃ x o', t = mk x o'
  best : Best g pr n ys o H
theorem start_max {g : Int → Int} {pr : List Int → Int} {mk : Int → Int → List Int} {n : Nat} (m : MkOk g pr mk) {xs : List Int} (hn : n ≤ xs.length) {H : List (List Int)} (hp : H.Perm (zipG (fun j x => mk x (0 + (j : Int) * 1)) xs n)) : BestM g pr mk n (xs.take n) n H := by
  have e : (fun (j : Nat) (x : Int) => mk x (0 + (j : Int) * 1)) = fun (j : Nat) (x : Int) => mk x (j : Int) := by funext j x; congr 1; omega
  rw [e] at hp
  refine ⟨fun t ht => ?_, best_start m hn hp⟩
  have := hp.mem_iff.mp ht
  unfold zipG at this
  obtain ⟨j, hj, e⟩ := List.mem_mapIdx.mp this
  exact ⟨_, _, e.symm⟩
theorem stepM {g : Int → Int} {pr : List Int → Int} {mk : Int → Int → List Int} {n : Nat} {ys : List Int} {o x : Int} {v : List Int} {r : List (List Int)} (m : MkOk g pr mk) (hh : Heapd gtV 0 ((v :: r).map V.tup)) (b : BestM g pr mk n ys o (v :: r)) (hlt : g x < v.getD 0 0) :
    ∃ H', siftup gtV (.tup (mk x o) :: r.map V.tup) 0 = H'.map V.tup ∧ Heapd gtV 0 (H'.map V.tup) ∧ BestM g pr mk n (ys ++ [x]) (o + 1) H' := by
  obtain ⟨H', e, p, h'⟩ := replaceGT (x := mk x o) hh
  obtain ⟨H2, e2, h2, b2⟩ := step_max m hh b.best hlt
  have : H' = H2 := by
    have q : H'.map V.tup = H2.map V.tup := e.symm.trans e2
    exact List.map_inj_right (fun _ _ w => by cases w; rfl) |>.mp q
  subst this
  refine ⟨H', e, h', fun t ht => ?_, b2⟩
  rcases List.mem_cons.mp (p.mem_iff.mp ht) with q | q
  · exact ⟨x, o, q⟩
  · exact b.of t (.tail _ q)
theorem skipM {g : Int → Int} {pr : List Int → Int} {mk : Int → Int → List Int} {n : Nat} {ys : List Int} {o x : Int} {v : List Int} {r : List (List Int)} (hh : Heapd gtV 0 ((v :: r).map V.tup)) (b : BestM g pr mk n ys o (v :: r)) (hlt : ¬ g x < v.getD 0 0) : BestM g pr mk n (ys ++ [x]) o (v :: r) :=
  ⟨b.of, skip_max hh b.best hlt⟩
theorem finM {g : Int → Int} {pr : List Int → Int} {mk : Int → Int → List Int} {n : Nat} {xs : List Int} {o : Int} {H : List (List Int)} (b : BestM g pr mk n xs o H) : (sortT H).map pr = (srtB false g xs).take n := b.best.is
theorem BestM.ne {g : Int → Int} {pr : List Int → Int} {mk : Int → Int → List Int} {n : Nat} {xs : List Int} {o : Int} {H : List (List Int)} (b : BestM g pr mk n xs o H) (hn : 0 < n) : ∃ v r, H = v :: r := by
  have := b.best.len
  cases H with
  | nil => simp at this; omega
  | cons v r => exact ⟨v, r, rfl⟩
theorem BestN.ne {kf : Int → Int} {pr : List Int → Int} {mk : Int → Int → List Int} {n : Nat} {xs : List Int} {o : Int} {H : List (List Int)} (b : BestN kf pr mk n xs o H) (hn : 0 < n) : ∃ v r, H = v :: r := by
  have := b.best.len
  cases H with
  | nil => simp at this; omega
  | cons v r => exact ⟨v, r, rfl⟩
theorem BestN.len {kf : Int → Int} {pr : List Int → Int} {mk : Int → Int → List Int} {n : Nat} {xs : List Int} {o : Int} {H : List (List Int)} (b : BestN kf pr mk n xs o H) : H.length = n := by simpa using b.best.len
theorem take_snoc {xs : List Int} {i : Nat} (h : i < xs.length) : xs.take (i + 1) = xs.take i ++ [xs[i]] := by
  rw [List.take_add_one, List.getElem?_eq_getElem h]; rfl
end Mine
set_option maxRecDepth 100000
namespace Mine
open PySem PySem.W PyProof.Rows
theorem pylong_m1 (x : Int) : Builtin.divisionGoesByPylong x (-1) = false := by
  unfold Builtin.divisionGoesByPylong
  have h : Nat.log2 1 = 0 := by decide
  simp [h]
theorem ksort_perm (ts : List (List Int)) : (katRev true (sortT ts)).Perm ts := (katRev_perm true _).trans (sortT_perm ts)
theorem ksort_length (ts : List (List Int)) : (katRev true (sortT ts)).length = ts.length := (ksort_perm ts).length_eq
end Mine
set_option maxRecDepth 100000
namespace Mine
open PySem PySem.W PyProof.Rows
section
variable {C : Cx} {k : Nat} {F : FE} {σ : St}
-- the law's own call, where the law makes a def: its table P grows
theorem law_callP {a P : Addr} {fd : FuncData} {body : List Stmt} {names : List Str} {vs : List V} {vs' : List Value} {sto : Addr → Option O} {A : Around} {s : Shared} {Q : V → Prop} (cx : CxOk C) (f : FnAt C a fd body names) (hlen : vs.length = names.length)
    (hA : Room C (k + 1) ⟨default, [], []⟩ A) (hb : ∀ b o, C.GB.get? b = some o → s.heap.get? b = some o) (hsP : sto P = some (.raw (tabObj #[]))) (hP : s.heap.get? P = some (tabObj #[])) (hPg : C.GB.get? P = none) (hs : ∀ b o, b ≠ P → sto b = some o → o.isMut = false ∧ ORep s.heap b o) (rv : Reps s.heap vs vs')
    (h : ∀ L, TX C k (frameOf fd L a []) body ⟨names.zip vs, sto⟩ fun fl σ' => Q (retV fl) ∧ ∃ ps, σ'.sto P = some (.raw (tabObj ps))) :
    codeAny (model C.prog C.w) A (.call (.ref a) ⟨vs', []⟩) (fun r s' => ∃ v v', r = .ok (.ret v') ∧ Rep s'.heap v v' ∧ Q v ∧ (∀ b o, b ≠ P → s.heap.get? b = some o → s'.heap.get? b = some o) ∧ (∃ ps, s'.heap.get? P = some (tabObj ps)) ∧ s' = { s with heap := s'.heap, toks := s'.toks }) s := by
  obtain ⟨o, ho, hd⟩ := f.obj
  have hsz : ∀ b ob, s.heap.get? b = some ob → b < s.heap.objs.size := fun b ob e => Heap.lt_size e
  have hbind := f.bind vs' (by rw [rv.length, hlen])
  refine codeAny_call_cells (fd := fd) (body := body) (binds := names.zip vs') (Nat.lt_of_le_of_lt (Nat.le_add_right _ _) hA.2.1) (hb _ _ ho) hd (cx.nolimit.keeps hb) ?hcd f.body hbind f.clo ?hkind (fun s₁ x => ?hb) f.co f.gen f.kind
  case hcd =>
    obtain ⟨c, oc, ws, tq, h1, h2, h3⟩ := f.code
    exact ⟨c, oc, ws, tq, h1, hb _ _ h2, h3⟩
  case hkind =>
    intro y hy
    have hyn : y.1 ∈ names := by obtain ⟨y1, y2⟩ := y; exact (List.of_mem_zip hy).1
    rcases f.kinds _ hyn with q | ⟨q, q'⟩
    · exact .inl q
    · refine .inr ⟨q, ?_⟩
      rw [cellsFrom_names fd.scope.names 0 (s.heap.objs.size + 1) [] [] rfl] at q'
      obtain ⟨p, hp, e⟩ := List.mem_map.mp q'
      have hnd : ((cellsFrom (s.heap.objs.size + 1) fd.scope.names []).map (·.1)).Nodup := by
        rw [cellsFrom_names fd.scope.names (s.heap.objs.size + 1) 0 [] [] rfl]; exact f.cnodup
      rw [← e, lookup_of_nodup hnd p hp]; rfl
  case hb =>
    have hnd : ((callEnvC fd s.heap.objs.size a).cells.map (·.1)).Nodup := by
      show ((cellsFrom (s.heap.objs.size + 1) fd.scope.names []).map (·.1)).Nodup
      rw [cellsFrom_names fd.scope.names (s.heap.objs.size + 1) 0 [] [] rfl]; exact f.cnodup
    have hab : ∀ p ∈ (callEnvC fd s.heap.objs.size a).cells, s.heap.objs.size < p.2 := fun p hp => x.above p.1 p.2 hp
    have keep := x.toInCall.keep
    have hown : ∀ b ∈ (frameOf fd s.heap.objs.size a []).own, s.heap.objs.size ≤ b := fun b hb => by
      rcases List.mem_cons.mp hb with e | hb
      · exact Nat.le_of_eq e.symm
      · obtain ⟨p, hp, e⟩ := List.mem_map.mp hb
        rw [← e]; exact Nat.le_of_lt (hab p hp)
    have hnone : ∀ b, s.heap.objs.size ≤ b → s.heap.get? b = none := fun b hb => by
      cases hq : s.heap.get? b with
      | none => rfl
      | some ob => exact absurd (hsz b ob hq) (Nat.not_lt.mpr hb)
    have hgb : ∀ b, s.heap.objs.size ≤ b → C.GB.get? b = none := fun b hb' => by
      cases hq : C.GB.get? b with
      | none => rfl
      | some ob => have := hb b ob hq; rw [hnone b hb'] at this; cases this
    have S₁ : Sim C.GB (frameOf fd s.heap.objs.size a []) ⟨names.zip vs, sto⟩ s₁.heap := {
      base := fun b o e => keep b o (hb b o e)
      frame := by
        refine ⟨_, x.toInCall.ns, fun y v e => ?_⟩
        obtain ⟨v', r, hl, hc⟩ := bind_in (h := s.heap) (callEnvC fd s.heap.objs.size a).kindOf names vs vs' (fun _ => none) (fun _ => none) f.nodup rv y v e
        refine ⟨v', ?_, r.keeps (frz_of_keeps keep)⟩
        have hy : y ∈ names := (List.of_mem_zip (mem_of_lookup e)).1
        rcases f.kinds y hy with q | ⟨q, q'⟩
        · exact .inl ⟨q, hl q⟩
        · refine .inr ⟨.inl q, ?_⟩
          rw [cellsFrom_names fd.scope.names 0 (s.heap.objs.size + 1) [] [] rfl] at q'
          obtain ⟨p, hp, ep⟩ := List.mem_map.mp q'
          have hlk := lookup_of_nodup hnd p hp
          rw [ep] at hlk
          refine ⟨p.2, hlk, ?_⟩
          have := x.cell y p.2 hlk
          rwa [hc (by show fd.scope.names.lookup y ≠ _; rw [q]; decide)] at this
      cells := fun p hp => ⟨_, x.cell p.1 p.2 (lookup_of_nodup hnd p hp)⟩
      apart := x.apart
      sto := fun b ob e => by
        by_cases hbP : b = P
        · subst hbP
          have e' : some (O.raw (tabObj #[])) = some ob := hsP.symm.trans e
          cases e'
          exact ⟨keep _ _ hP, fun q => by rcases q with ⟨q, _⟩ | ⟨q, _⟩ <;> cases q⟩
        obtain ⟨hm, hr⟩ := hs b ob hbP e
        cases ob with
        | lst vs => cases hm
        | raw o => cases hm
        | rol vs =>
          obtain ⟨hl, vs', hL, hr⟩ := hr
          obtain ⟨o', ho', r⟩ := hL
          exact ⟨hl, vs', ⟨o', keep _ _ ho', r⟩, hr.keeps (frz_of_keeps keep)⟩
      inOwn := .head _
      ownIs := fun b hb => by
        rcases List.mem_cons.mp hb with e | hb
        · exact .inl e
        · obtain ⟨p, hp, e⟩ := List.mem_map.mp hb; exact .inr ⟨p, hp, e⟩
      new := fun b hb => hgb b (hown b hb)
      off := fun b ob e => by
        by_cases hbP : b = P
        · subst hbP
          have hlt := hsz b _ hP
          exact ⟨fun _ => hPg, Nat.ne_of_lt hlt, fun p hp q => by have := hab p hp; rw [q] at this; exact absurd hlt (Nat.lt_asymm this)⟩
        obtain ⟨hm, hr⟩ := hs b ob hbP e
        obtain ⟨o', ho'⟩ : ∃ o', s.heap.get? b = some o' := by
          cases ob with
          | lst vs => cases hm
          | raw o => cases hm
          | rol vs => obtain ⟨_, _, ⟨o', ho', _⟩, _⟩ := hr; exact ⟨o', ho'⟩
        have hlt := hsz b o' ho'
        exact ⟨fun q => absurd q (by rw [hm]; exact Bool.noConfusion), Nat.ne_of_lt hlt, fun p hp q => by have := hab p hp; rw [q] at this; exact absurd hlt (Nat.lt_asymm this)⟩ }
    have hA' : Room C k (frameOf fd s.heap.objs.size a []) (A.deeper (callEnvC fd s.heap.objs.size a)) := ⟨hA.1, by have := hA.2.1; show A.depth + 1 + k < _; omega, by have := hA.2.2.1; show A.units + 3 + 10 * k + 5 < _; omega, by show A.frames.map _ = _; rw [hA.2.2.2]; rfl⟩
    refine wpAny_mono (h s.heap.objs.size _ s₁ hA' S₁) (fun fl' s' ⟨fl, σ', rfl', S', M', hq, ps, hps⟩ => ?_) fun _ _ z => z.elim
    have hb₁ : ∀ b ob, s.heap.get? b = some ob → b ∉ (frameOf fd s.heap.objs.size a []).own := fun b ob e hb => absurd (hsz b ob e) (Nat.not_lt.mpr (hown b hb))
    have kp : ∀ b ob, b ≠ P → s.heap.get? b = some ob → s'.heap.get? b = some ob := fun b ob hbP e => M'.keep b ob (keep b ob e) (fun o' q => (hs b o' hbP q).1) (hb₁ b ob e)
    have hPs : ∃ ps, s'.heap.get? P = some (tabObj ps) := ⟨ps, (S'.sto P _ hps).1⟩
    have rest : s' = { s with heap := s'.heap, toks := s'.toks } := by
      obtain ⟨h₁, tk, e⟩ := x.toInCall.same
      rw [M'.rest, e]
    cases rfl' with
    | next => exact ⟨.none, _, rfl, .none, hq, kp, hPs, rest⟩
    | brk => exact ⟨.none, _, rfl, .none, hq, kp, hPs, rest⟩
    | cont => exact ⟨.none, _, rfl, .none, hq, kp, hPs, rest⟩
    | ret r => exact ⟨_, _, rfl, r, hq, kp, hPs, rest⟩

end
theorem law_doneP {c : ClaimW} {cl : Str → Option Addr} {mean : ExcName → Option Value} {args : List WData} {s₁ : Shared} {prog : Program} {w : World} {A : Around} {kd : Code} {cc P : Addr} (hT : TabsAt [(cc, P)] s₁.heap) (hg : s₁.gens = #[]) (hn : ∀ a cls, c.raises a cls = false) (hp : c.post args (.bool true) args = true)
    (h : codeAny (model prog w) A kd (fun r s' => ∃ v v', r = .ok (.ret v') ∧ Rep s'.heap v v' ∧ v = .bool true ∧ (∀ b o, b ≠ P → s₁.heap.get? b = some o → s'.heap.get? b = some o) ∧ (∃ ps, s'.heap.get? P = some (tabObj ps)) ∧ s' = { s₁ with heap := s'.heap, toks := s'.toks }) s₁) :
    codeAny (model prog w) A kd (GoodWG c cl mean args s₁) s₁ := kn_post hT hn (codeAny_mono h fun r s' ⟨v, v', e, rv, ev, kp, hps, rest⟩ => by
  subst ev
  obtain rfl := rv.inv_bool
  refine ⟨⟨.inl ⟨_, .bool true, [], e, hn args, .bool true, hp, unshared_nil⟩, fun b o e => ?_, ?_, ?_⟩, ?_⟩
  · refine kp b o (fun q => ?_) (of_hideAll _ e)
    subst q
    have e' := (hideAll_none [b] (h := s₁.heap) (List.mem_singleton.mpr rfl)).symm.trans e
    cases e'
  · rw [rest]
  · rw [rest]; exact hg
  · exact ⟨hps, trivial⟩)
theorem law_tab {p : Program} {loose : List Str} {mean : ExcName → Option Value} {mg mb : Str → Option Value} {h : Heap} {n : Str} {fa : Addr} {o : Obj} {fd : FuncData} (T : Top p loose mean mg mb h) (hr : ((recsOf p).find? (fun e => e.name == n)).isSome = true)
    (hmg : mg n = some (.ref fa)) (ho : h.get? fa = some o) (hd : o.data = .func fd) : ∃ c P, fd.code = .ref c ∧ TabsAt [(c, P)] h := by
  obtain ⟨d, hf⟩ := Option.isSome_iff_exists.mp hr
  have hn : d.name = n := beq_iff_eq.mp (List.find?_some (p := fun e : DefRec => e.name == n) hf)
  obtain ⟨a, o', fd', c, P, h1, h2, h3, h4, h5, h6⟩ := T.tab d (List.mem_of_find?_eq_some hf)
  rw [hn, hmg] at h1
  cases h1
  rw [ho] at h2
  cases h2
  rw [hd] at h3
  cases h3
  refine ⟨c, P, h4, fun q hq => ?_⟩
  rw [List.mem_singleton.mp hq]
  exact ⟨CodeHd.of h5 h6, h6.2⟩
theorem ghost_at {h : Heap} {c P : Addr} (hT : TabsAt [(c, P)] h) : (ghostOf h [(c, P)]).get? P = none ∧ CodeHd (ghostOf h [(c, P)]) c P ∧ h.get? P = some (tabObj #[]) :=
  ⟨hideAll_none _ (List.mem_singleton.mpr rfl), (ghost_code hT).1, (hT _ (.head _)).2⟩
theorem cx_ghost {p : Program} {loose : List Str} {mean : ExcName → Option Value} {mg mb : Str → Option Value} {h : Heap} {GT : List (Str × V)} {prog : Program} {w : World} {tabs : List (Addr × Addr)} (hT : TabsAt tabs h) (T : Top p loose mean mg mb h) (hg : GtOk mg mb GT) : CxOk ⟨prog, w, ghostOf h tabs, mg, mb, GT, none⟩ :=
  let T' := ghost_top hT T; ⟨T'.g, T'.b, T'.nolimit, hg⟩
theorem script_stoP {h : Heap} {sc P : Addr} {xs : List Int} {vs : List Value} (hL : h.IsList sc vs.toArray) (hI : IntsAre vs xs) (hl : xs.length ≤ maxLen) :
    ∀ b o, b ≠ P → (fun b => if b = P then some (O.raw (tabObj #[])) else if b = sc then some (O.rol (xs.map V.int)) else none) b = some o → o.isMut = false ∧ ORep h b o := fun b o hb e => by
  dsimp only at e
  rw [if_neg hb] at e
  exact script_sto hL hI hl b o e
end Mine
set_option maxRecDepth 100000
namespace Mine
open PySem PySem.W PyProof.Rows
/-- a def with one default, as the written part of the heap shows it -/
theorem fnD_K {K : Frag} {h : Heap} {pw : Program} {mg mb : Str → Option Value} {n : Str} {tabs : List (Addr × Addr)} {a T c nn : Addr} {pm doc u : Value} {vs : Array Value} {t : Tok} {cl cl2 : Value} {d1 d2 : Option Addr} {s1 s2} (X : K.In h) (g : h.Ns mainGlobals mg) (hT : TabsAt tabs h)
    (e1 : nsIn K mainGlobals n = some (some (.ref a))) (e2 : K.lookup a = some ⟨cl, d1, .func (fdD (stOf pw n) pm (.ref c) doc (.ref T)), s1⟩)
    (e3 : K.lookup c = some ⟨cl2, d2, .fields vs, s2⟩) (e5 : vs[1]? = some (.str (nameOf (stOf pw n)) t)) (e4 : K.lookup T = some { cls := .type "tuple", data := .seq #[u] nn }) (ok : DefOkD (stOf pw n)) :
    mg n = some (.ref a) ∧ ∀ prog w GT, FnD ⟨prog, w, ghostOf h tabs, mg, mb, GT, none⟩ pw n a := by
  refine ⟨mg_of X g e1, fun prog w GT => ⟨pm, .ref c, doc, .ref T, ⟨_, ghost_get hT (X _ _ e2) (fun q => by cases q), rfl⟩, ?_, rfl, rfl, rfl, rfl, ok.kind, ok.co, ok.gen, ok.nodup, ok.cnodup, ok.kinds, fun s vs kp hl => ?_⟩⟩
  · exact CodeRec.ghost hT ⟨c, _, vs, t, rfl, X _ _ e3, rfl, e5⟩
  · obtain ⟨kk, b1, b2⟩ := ok.bind pm (.ref c) doc (.ref T) vs hl
    exact BindsTo.of_defaults (T := T) (items := #[u]) (n := nn) rfl (kp _ _ (ghost_get hT (X _ _ e4) (fun q => by cases q))) rfl (by rw [b1]; rfl) (b2 u)
end Mine
namespace Mine
open PySem PySem.W PyProof.Rows
theorem up_ne {p : Prop} [Decidable p] {α : Type} {x y r : α} (h : ¬p) (q : y = r) : (if p then x else y) = r := (if_neg h).trans q
theorem up_eq {α : Type} {a : Addr} {x y : α} : (if a = a then x else y) = x := if_pos rfl
theorem up2 {b d : Addr} {α : Type} {x y z : α} : (if b = d then x else if b = d then y else z) = if b = d then x else z := by by_cases h : b = d <;> simp [h]
theorem items_lst {f : Option O} {vs : List V} (h : f = some (.lst vs)) : f.bind O.items = some vs := by rw [h]; rfl
theorem items_rol {f : Option O} {vs : List V} (h : f = some (.rol vs)) : f.bind O.items = some vs := by rw [h]; rfl
theorem go_yes {p : Prop} [Decidable p] {A B : Prop} (h : p) (a : A) : if p then A else B := by rw [if_pos h]; exact a
theorem go_no {p : Prop} [Decidable p] {A B : Prop} (h : ¬p) (b : B) : if p then A else B := by rw [if_neg h]; exact b
theorem not_dec {p : Prop} [Decidable p] (h : ¬p) : ¬ (decide p = true) := fun e => h (of_decide_eq_true e)
end Mine
set_option maxRecDepth 100000
namespace Mine
open PySem PySem.W PyProof.Rows
-- the walk's own line
local macro_rules | `(tactic| walk_at "m") => `(tactic| first
  | with_reducible first
    | refine then_next ?_ | refine then_brk ?_ | refine then_ret ?_ | refine then_cont ?_ | refine s_continue ?_ | refine turnW_brk ?_ | refine x_cons ?_ | refine x_nil ?_ | refine s_return ?_ | refine s_if ?_ | refine s_break ?_
    | refine e_int ?_ | refine e_bool ?_ | refine e_none ?_ | refine e_bin ?_ | refine e_un ?_ | refine e_slice ?_ | refine e_sub ?_ | refine e_list ?_ | refine e_tup ?_ | refine e_ifexp ?_
    | refine ks_cons ?_ | refine ks_nil ?_ | refine es_nil ?_ | refine b_not ?_ | refine b_and ?_ | refine b_or ?_
    | refine bin_add ?_ | refine bin_sub ?_ | refine un_neg ?_ | refine cmp_lt ?_ | refine cmp_gt ?_ | refine cmp_ge ?_ | refine cmp_eq ?_ | refine truth_bool ?_ | refine part_none ?_ | refine part_some ?_
  | ((with_reducible show TS _ _ _ (.Assign [.Name ..] ..) ..); refine s_assign (by assumption) ?_)
  | ((with_reducible show TS _ _ _ (.Assign [.Subscript ..] ..) ..); refine s_setitem ?_)
  | ((with_reducible show TS _ _ _ (.Expr ..) ..); refine s_expr ?_)
  | ((with_reducible show TE _ _ _ (.Name ..) ..); first | refine e_name (by assumption) rfl ?_ | refine e_glob (by assumption) (by assumption) (by assumption) ?_)
  | ((with_reducible show TE _ _ _ (.Call (.Name ..) ..) ..); first | refine e_call ?_ | refine e_callkw ?_)
  | ((with_reducible show TEs _ _ _ _ (_ :: _) ..); refine es_cons ?_)
  | ((with_reducible show TB _ _ _ (.Compare ..) ..); refine b_cmp ?_)
  | ((with_reducible show TB ..); refine b_val ?_)
  | ((with_reducible show BinOK _ _ _ .Mult (.int _) (.int _) ..); refine bin_mul (IntMulOk.of_left (by decide)) ?_)
  | ((with_reducible show ∃ i, V.int _ = V.int i ∧ _); refine ⟨_, rfl, ?_⟩)
  | ((with_reducible show IsFun _ (V.opq _)); exact trivial)
  | ((with_reducible show _ ∧ CallOK _ _ _ (V.opq _) ..); refine ⟨trivial, ?_⟩))
local macro_rules | `(tactic| walk_at "n") => `(tactic| ((fail_if_success (with_reducible show TX _ _ _ (Stmt.If _ _ _ _ :: _) _ _)); walk_at "m"))
local macro_rules | `(tactic| walk_at "v") => `(tactic| ((fail_if_success (with_reducible show TE _ _ _ (Expr.Tuple _ _ _) _ _)); walk_at "m"))
section
variable {C : Cx} {k : Nat} {F : FE} {σ : St} {E : V → Prop} {lt : V → V → Bool} {P : (Addr → Option O) → Prop}

set_option maxHeartbeats 4000000 in
theorem sd_ok {a d : Addr} {vs : List V} {sp p : Nat} {Q : V → St → Prop} (cx : CxOk C) (fn : Fn C PySem.Challenge.pw_dn0024_07 (Str.ofString "_siftdown") a)
    (o : Ord C E lt P) (hP : ∀ sto o, P sto → P (fun b => if b = d then some o else sto b)) (h0 : P σ.sto) (hd : σ.sto d = some (.lst vs)) (hp : p < vs.length) (hE : ∀ v ∈ vs, E v)
    (h : Q .none (σ.setSto d (.lst (sdGo lt (vs.getD p .none) sp p vs)))) : CallOK C (k + 1) F (.ref a) [.ref d, .int sp, .int p] σ Q := by
  obtain ⟨pm, cd, doc, f⟩ := fn
  refine call_own cx f rfl ?_
  intro L
  have ok := f.envOk L F.frames
  refine x_cons ?_
  (repeat walk_at "m")
  refine item_at (vs := vs) (v := vs.getD p .none) (items_lst hd) (by omega) (by simp [hp]) ?_
  (repeat walk_at "m")
  have hx : E (vs.getD p .none) := hE _ (by simp [hp])
  generalize hxe : vs.getD p .none = x at h hx ⊢
  refine s_whileN [Str.ofString "heap", Str.ofString "startpos", Str.ofString "pos", Str.ofString "newitem"]
    (fun n σ' => ∃ (p' : Nat) (vs' : List V), p' = n ∧ σ' = ⟨[(Str.ofString "heap", .ref d), (Str.ofString "startpos", .int sp), (Str.ofString "pos", .int p'), (Str.ofString "newitem", x)], fun b => if b = d then some (.lst vs') else σ.sto b⟩ ∧
      p' < vs'.length ∧ (∀ v ∈ vs', E v) ∧ sdGo lt x sp p' vs' = sdGo lt x sp p vs) p ⟨p, vs, rfl, ?_, hp, hE, rfl⟩ ?_
  · refine st_ext rfl ?_
    funext b
    by_cases hb : b = d
    · subst hb; simp [hd]
    · simp [hb]
  rintro n σ' ⟨p', vs', rfl, rfl, hp', hE', hgo⟩
  (repeat walk_at "m")
  by_cases hlt : sp < p'
  · rw [if_pos (by simpa using hlt)]
    (repeat walk_at "m")
    refine bin_rshift1 (by omega) ?_
    (repeat walk_at "m")
    have hpp : (((p' : Int) - 1) / 2).toNat = (p' - 1) / 2 := by omega
    have hl : (p' - 1) / 2 < vs'.length := by omega
    refine item_at (vs := vs') (v := vs'.getD ((p' - 1) / 2) .none) (by first | exact items_lst up_eq | simp [O.items]) (by omega) (by rw [hpp]; simp [hl]) ?_
    (repeat walk_at "m")
    have hpe : E (vs'.getD ((p' - 1) / 2) .none) := hE' _ (by simp [hl])
    refine o.cmp _ _ _ _ _ _ (hP _ _ h0) hx hpe ?_
    (repeat walk_at "m")
    rw [sdGo, dif_pos hlt] at hgo
    by_cases hc : lt x (vs'.getD ((p' - 1) / 2) .none) = true
    · rw [if_pos hc]
      rw [if_pos hc] at hgo
      (repeat walk_at "m")
      refine set_at (vs := vs') (by first | exact up_eq | simp) (by omega) (by omega) ?_
      (repeat walk_at "m")
      refine ⟨(p' - 1) / 2, by omega, (p' - 1) / 2, vs'.set p' (vs'.getD ((p' - 1) / 2) .none), rfl, ?_, by simpa using hl, ?_, hgo⟩
      · have e2 : ((p' : Int) - 1) / 2 = (((p' - 1) / 2 : Nat) : Int) := by omega
        refine st_ext ?_ ?_
        · rw [← e2]; rfl
        · funext b
          first | exact up2 | (by_cases hb : b = d <;> simp [St.setSto, hb])
      · intro v hv
        rcases List.mem_or_eq_of_mem_set hv with q | q
        · exact hE' v q
        · exact q ▸ hpe
    · rw [if_neg hc]
      rw [if_neg hc] at hgo
      (repeat walk_at "m")
      refine set_at (vs := vs') (by first | exact up_eq | simp) (by omega) (by omega) ?_
      (repeat walk_at "m")
      rw [← hgo] at h
      exact q_eq h fun b => by first | exact up2 | (by_cases hb : b = d <;> simp [St.setSto, St.setLoc, hb])
  · rw [if_neg (by simpa using hlt)]
    (repeat walk_at "m")
    refine set_at (vs := vs') (by first | exact up_eq | simp) (by omega) (by omega) ?_
    (repeat walk_at "m")
    rw [sdGo, dif_neg hlt] at hgo
    rw [← hgo] at h
    exact q_eq h fun b => by first | exact up2 | (by_cases hb : b = d <;> simp [St.setSto, St.setLoc, hb])

end
section
variable {C : Cx} {k : Nat} {F : FE} {σ : St} {E : V → Prop} {lt : V → V → Bool} {P : (Addr → Option O) → Prop}
set_option maxHeartbeats 4000000 in
theorem su_ok {a asd d : Addr} {vs : List V} {p : Nat} {Q : V → St → Prop} (cx : CxOk C) (gl : C.GT.lookup (Str.ofString "len") = some (.opq (.builtin "len"))) (fsd : Fn C PySem.Challenge.pw_dn0024_07 (Str.ofString "_siftdown") asd) (gsd : C.GT.lookup (Str.ofString "_siftdown") = some (.ref asd))
    (fn : Fn C PySem.Challenge.pw_dn0024_07 (Str.ofString "_siftup") a)
    (o : Ord C E lt P) (hP : ∀ sto o, P sto → P (fun b => if b = d then some o else sto b)) (h0 : P σ.sto) (hd : σ.sto d = some (.lst vs)) (hp : p < vs.length) (hE : ∀ v ∈ vs, E v)
    (h : Q .none (σ.setSto d (.lst (siftup lt vs p)))) : CallOK C (k + 2) F (.ref a) [.ref d, .int p] σ Q := by
  obtain ⟨pm, cd, doc, f⟩ := fn
  refine call_own cx f rfl ?_
  intro L
  have ok := f.envOk L F.frames
  refine x_cons ?_
  (repeat walk_at "m")
  refine call_len (vs := vs) (items_lst hd) ?_
  (repeat walk_at "m")
  refine item_at (vs := vs) (v := vs.getD p .none) (items_lst hd) (by omega) (by simp [hp]) ?_
  (repeat walk_at "m")
  have hx : E (vs.getD p .none) := hE _ (by simp [hp])
  unfold siftup at h
  generalize hxe : vs.getD p .none = x at h hx ⊢
  refine s_whileN [Str.ofString "heap", Str.ofString "endpos", Str.ofString "startpos", Str.ofString "newitem", Str.ofString "pos", Str.ofString "childpos"]
    (fun n σ' => ∃ (q : Nat) (vs' : List V), n = vs.length - q ∧ σ' = ⟨[(Str.ofString "heap", .ref d), (Str.ofString "endpos", .int vs.length), (Str.ofString "startpos", .int p), (Str.ofString "newitem", x), (Str.ofString "pos", .int q), (Str.ofString "childpos", .int (2 * q + 1))], fun b => if b = d then some (.lst vs') else σ.sto b⟩ ∧
      q < vs.length ∧ vs'.length = vs.length ∧ (∀ v ∈ vs', E v) ∧ suGo lt vs.length q vs' = suGo lt vs.length p vs) (vs.length - p) ⟨p, vs, rfl, ?_, hp, rfl, hE, rfl⟩ ?_
  · refine st_ext rfl ?_
    funext b
    by_cases hb : b = d
    · subst hb; simp [hd]
    · simp [hb]
  rintro n σ' ⟨q, vs', rfl, rfl, hq, hlen, hE', hgo⟩
  (repeat walk_at "m")
  by_cases hlt : 2 * q + 1 < vs.length
  · rw [if_pos (by simp; omega)]
    (repeat walk_at "n")
    have hc1 : (2 * (q : Int) + 1).toNat = 2 * q + 1 := by omega
    have hc2 : (2 * (q : Int) + 1 + 1).toNat = 2 * q + 2 := by omega
    have hpk := suPick_lt lt vs.length vs' q hlt
    rw [suGo, dif_pos hlt] at hgo
    refine x_ifJ [Str.ofString "heap", Str.ofString "endpos", Str.ofString "startpos", Str.ofString "newitem", Str.ofString "pos", Str.ofString "childpos"]
      (fun σ₂ => σ₂ = ⟨[(Str.ofString "heap", .ref d), (Str.ofString "endpos", .int vs.length), (Str.ofString "startpos", .int p), (Str.ofString "newitem", x), (Str.ofString "pos", .int q), (Str.ofString "childpos", .int (suPick lt vs.length vs' q))], fun b => if b = d then some (.lst vs') else σ.sto b⟩) ?_ ?_
    · (repeat walk_at "m")
      by_cases hr : 2 * q + 2 < vs.length
      · rw [if_pos (by simp; omega)]
        (repeat walk_at "m")
        refine item_at (vs := vs') (v := vs'.getD (2 * q + 1) .none) (by first | exact items_lst up_eq | simp [O.items]) (by omega) (by rw [hc1]; simp [hlen, hlt]) ?_
        (repeat walk_at "m")
        refine item_at (vs := vs') (v := vs'.getD (2 * q + 2) .none) (by first | exact items_lst up_eq | simp [O.items]) (by omega) (by rw [hc2]; simp [hlen, hr]) ?_
        refine o.cmp _ _ _ _ _ _ (hP _ _ h0) (hE' _ (getD_mem (by omega))) (hE' _ (getD_mem (by omega))) ?_
        (repeat walk_at "m")
        cases hb : lt (vs'.getD (2 * q + 1) .none) (vs'.getD (2 * q + 2) .none) with
        | true =>
          rw [if_neg (by simp)]
          (repeat walk_at "m")
          refine join_next (st_ext ?_ rfl)
          have e : suPick lt vs.length vs' q = 2 * q + 1 := by unfold suPick; rw [if_neg (by rw [hb]; simp)]
          rw [e]; rfl
        | false =>
          rw [if_pos (by simp)]
          (repeat walk_at "m")
          refine join_next (st_ext ?_ rfl)
          have e : suPick lt vs.length vs' q = 2 * q + 2 := by unfold suPick; rw [if_pos ⟨hr, hb⟩]
          rw [e]; rfl
      · rw [if_neg (by simp; omega)]
        (repeat walk_at "m")
        rw [if_neg (by simp)]
        (repeat walk_at "m")
        refine join_next (st_ext ?_ rfl)
        have e : suPick lt vs.length vs' q = 2 * q + 1 := by unfold suPick; rw [if_neg (by omega)]
        rw [e]; rfl
    · rintro σ₂ rfl
      generalize hck : suPick lt vs.length vs' q = c at hpk hgo ⊢
      (repeat walk_at "m")
      refine item_at (vs := vs') (v := vs'.getD c .none) (by first | exact items_lst up_eq | simp [O.items]) (by omega) (by simp [hlen, hpk.1]) ?_
      (repeat walk_at "m")
      refine set_at (vs := vs') (by first | exact up_eq | simp) (by omega) (by omega) ?_
      (repeat walk_at "m")
      refine turnW_next ⟨vs.length - c, by omega, c, vs'.set q (vs'.getD c .none), rfl, st_ext rfl ?_, hpk.1, by simpa using hlen, ?_, hgo⟩
      · funext b
        first | exact up2 | (by_cases hb : b = d <;> simp [St.setSto, St.setLoc, hb])
      · intro v hv
        rcases List.mem_or_eq_of_mem_set hv with r | r
        · exact hE' v r
        · exact r ▸ hE' _ (getD_mem (by omega))
  · rw [if_neg (by simp; omega)]
    (repeat walk_at "m")
    refine set_at (vs := vs') (by first | exact up_eq | simp) (by omega) (by omega) ?_
    (repeat walk_at "m")
    rw [suGo, dif_neg hlt] at hgo
    rw [← hgo] at h
    have hm : ∀ v ∈ vs'.set q x, E v := fun v hv => by
      rcases List.mem_or_eq_of_mem_set hv with r | r
      · exact hE' v r
      · exact r ▸ hx
    refine ⟨let ⟨_, _, _, g⟩ := fsd; g.isFun, sd_ok cx fsd o hP ?_ (d := d) (vs := vs'.set q x) (by first | exact up_eq | simp [St.setSto]) (by simp; omega) hm ?_⟩
    · exact hP _ _ (hP _ _ h0)
    · (repeat walk_at "m")
      have e : (vs'.set q x).getD q .none = x := by simp [hlen, hq]
      rw [e]
      exact q_eq h fun b => by first | exact up2 | (by_cases hb : b = d <;> simp [St.setSto, St.setLoc, hb])
end
section
variable {C : Cx} {k : Nat} {F : FE} {σ : St} {E : V → Prop} {lt : V → V → Bool} {P : (Addr → Option O) → Prop}
set_option maxHeartbeats 4000000 in
theorem heapify_ok {a asd asu d : Addr} {vs : List V} {Q : V → St → Prop} (cx : CxOk C) (gl : C.GT.lookup (Str.ofString "len") = some (.opq (.builtin "len"))) (gr : C.GT.lookup (Str.ofString "range") = some (.opq (.type "range"))) (gv : C.GT.lookup (Str.ofString "reversed") = some (.opq (.type "reversed")))
    (fsd : Fn C PySem.Challenge.pw_dn0024_07 (Str.ofString "_siftdown") asd) (gsd : C.GT.lookup (Str.ofString "_siftdown") = some (.ref asd))
    (fsu : Fn C PySem.Challenge.pw_dn0024_07 (Str.ofString "_siftup") asu) (gsu : C.GT.lookup (Str.ofString "_siftup") = some (.ref asu)) (fn : Fn C PySem.Challenge.pw_dn0024_07 (Str.ofString "heapify") a)
    (o : Ord C E lt P) (hP : ∀ sto o, P sto → P (fun b => if b = d then some o else sto b)) (h0 : P σ.sto) (hd : σ.sto d = some (.lst vs)) (hl : vs.length ≤ maxLen) (hE : ∀ v ∈ vs, E v)
    (h : Q .none (σ.setSto d (.lst (hfyGo lt (vs.length / 2) vs)))) : CallOK C (k + 3) F (.ref a) [.ref d] σ Q := by
  obtain ⟨pm, cd, doc, f⟩ := fn
  refine call_own cx f rfl ?_
  intro L
  have ok := f.envOk L F.frames
  have ifsu : IsFun C.GB (.ref asu) := let ⟨_, _, _, g⟩ := fsu; g.isFun
  refine x_cons ?_
  (repeat walk_at "m")
  refine call_len (vs := vs) (items_lst hd) ?_
  (repeat walk_at "m")
  refine s_forN [Str.ofString "x"] (titer_rit ?_)
  (repeat walk_at "m")
  refine bin_floordiv (by omega) (PyProof.noPylong_small (by decide)) ?_
  have hfd : ((vs.length : Nat) : Int).fdiv 2 = ((vs.length / 2 : Nat) : Int) := by rw [Int.fdiv_eq_ediv_of_nonneg _ (by omega)]; omega
  rw [hfd]
  (repeat walk_at "m")
  refine call_range1 ?_
  (repeat walk_at "m")
  refine call_reversed (n := vs.length / 2) (revSmall_of (by omega)) (rangeSize_nat _) fun I hI => ?_
  have nI : d ≠ I := fun e => by rw [← e] at hI; simp [St.setLoc, hd] at hI
  refine ⟨I, _, _, _, rfl, by simpa [St.setLoc] using hI, setSto_same _ _ _, ?_⟩
  refine ⟨fun j σ' => ∃ vs', σ' = ⟨[(Str.ofString "x", .ref d)], fun b => if b = d then some (.lst vs') else σ.sto b⟩ ∧ vs'.length = vs.length ∧ (∀ v ∈ vs', E v) ∧ j ≤ vs.length / 2 ∧ hfyGo lt (vs.length / 2 - j) vs' = hfyGo lt (vs.length / 2) vs, vs.length / 2, ?_, ?_⟩
  · refine ⟨vs, st_ext rfl ?_, rfl, hE, by omega, rfl⟩
    funext b
    have hI' : σ.sto I = none := by simpa [St.setLoc] using hI
    by_cases hbI : b = I
    · subst hbI; simp [St.delSto, St.setSto, Ne.symm nI, hI']
    · by_cases hb : b = d
      · subst hb; simp [St.delSto, St.setSto, hbI, hd, St.setLoc]
      · simp [St.delSto, St.setSto, hbI, hb, St.setLoc]
  rintro j σ' ⟨vs', rfl, hlen, hE', hj, hgo⟩
  refine ⟨hj, _, rfl, ?_⟩
  by_cases hlt : j < vs.length / 2
  · rw [if_pos hlt]
    refine asg_name ok ?_
    (repeat walk_at "m")
    have ei : (0 : Int) + (((vs.length / 2 : Nat) : Int) - 1) * 1 + (j : Int) * -1 = ((vs.length / 2 - 1 - j : Nat) : Int) := by omega
    rw [ei]
    refine ⟨ifsu, su_ok cx gl fsd gsd fsu o hP (hP _ _ h0) (d := d) (vs := vs') (by first | exact up_eq | simp [St.setLoc]) (by omega) hE' ?_⟩
    (repeat walk_at "m")
    refine ⟨siftup lt vs' (vs.length / 2 - 1 - j), st_ext rfl ?_, ?_, ?_, by omega, ?_⟩
    · funext b
      first | exact up2 | (by_cases hb : b = d <;> simp [St.setSto, St.setLoc, hb])
    · rw [siftup_length]; exact hlen
    · exact siftup_mem (by omega) hE'
    · rw [← hgo]
      have e : vs.length / 2 - j = (vs.length / 2 - 1 - j) + 1 := by omega
      have e' : vs.length / 2 - (j + 1) = vs.length / 2 - 1 - j := by omega
      rw [e, e', hfyGo]
  · rw [if_neg hlt]
    (repeat walk_at "m")
    have e : vs.length / 2 - j = 0 := by omega
    rw [e, hfyGo] at hgo
    rw [← hgo] at h
    exact q_eq h fun b => by first | exact up2 | (by_cases hb : b = d <;> simp [St.setSto, St.setLoc, hb])
end
section
variable {C : Cx} {k : Nat} {F : FE} {σ : St} {E : V → Prop} {lt : V → V → Bool} {P : (Addr → Option O) → Prop}
set_option maxHeartbeats 4000000 in
theorem replace_ok {a asd asu d : Addr} {v x : V} {r : List V} {Q : V → St → Prop} (cx : CxOk C) (gl : C.GT.lookup (Str.ofString "len") = some (.opq (.builtin "len")))
    (fsd : Fn C PySem.Challenge.pw_dn0024_07 (Str.ofString "_siftdown") asd) (gsd : C.GT.lookup (Str.ofString "_siftdown") = some (.ref asd))
    (fsu : Fn C PySem.Challenge.pw_dn0024_07 (Str.ofString "_siftup") asu) (gsu : C.GT.lookup (Str.ofString "_siftup") = some (.ref asu)) (fn : Fn C PySem.Challenge.pw_dn0024_07 (Str.ofString "heapreplace") a)
    (o : Ord C E lt P) (hP : ∀ sto o, P sto → P (fun b => if b = d then some o else sto b)) (h0 : P σ.sto) (hd : σ.sto d = some (.lst (v :: r))) (hE : ∀ u ∈ v :: r, E u) (hx : E x)
    (h : Q v (σ.setSto d (.lst (siftup lt (x :: r) 0)))) : CallOK C (k + 3) F (.ref a) [.ref d, x] σ Q := by
  obtain ⟨pm, cd, doc, f⟩ := fn
  refine call_own cx f rfl ?_
  intro L
  have ok := f.envOk L F.frames
  have ifsu : IsFun C.GB (.ref asu) := let ⟨_, _, _, g⟩ := fsu; g.isFun
  refine x_cons ?_
  (repeat walk_at "m")
  refine item_at (vs := v :: r) (v := v) (items_lst hd) (by omega) (by simp) ?_
  (repeat walk_at "m")
  refine set_at (vs := v :: r) (by first | exact hd | simp [hd, St.setLoc]) (by omega) (by simp) ?_
  (repeat walk_at "m")
  refine ⟨ifsu, su_ok (p := 0) cx gl fsd gsd fsu o hP (hP _ _ h0) (d := d) (vs := x :: r) (by first | exact up_eq | simp) (by simp) ?_ ?_⟩
  · intro u hu
    rcases List.mem_cons.mp hu with q | q
    · exact q ▸ hx
    · exact hE u (.tail _ q)
  · (repeat walk_at "m")
    exact q_eq h fun b => by first | exact up2 | (by_cases hb : b = d <;> simp [St.setSto, St.setLoc, hb])
end
section
variable {C : Cx} {k : Nat} {F : FE} {σ : St} {E : V → Prop} {lt : V → V → Bool} {P : (Addr → Option O) → Prop}

set_option maxHeartbeats 4000000 in
theorem sdm_ok {a d : Addr} {vs : List V} {sp p : Nat} {Q : V → St → Prop} (cx : CxOk C) (fn : Fn C PySem.Challenge.pw_dn0024_07 (Str.ofString "_siftdown_max") a)
    (o : OrdM C E lt P) (hP : ∀ sto o, P sto → P (fun b => if b = d then some o else sto b)) (h0 : P σ.sto) (hd : σ.sto d = some (.lst vs)) (hp : p < vs.length) (hE : ∀ v ∈ vs, E v)
    (h : Q .none (σ.setSto d (.lst (sdGo lt (vs.getD p .none) sp p vs)))) : CallOK C (k + 1) F (.ref a) [.ref d, .int sp, .int p] σ Q := by
  obtain ⟨pm, cd, doc, f⟩ := fn
  refine call_own cx f rfl ?_
  intro L
  have ok := f.envOk L F.frames
  refine x_cons ?_
  (repeat walk_at "m")
  refine item_at (vs := vs) (v := vs.getD p .none) (items_lst hd) (by omega) (by simp [hp]) ?_
  (repeat walk_at "m")
  have hx : E (vs.getD p .none) := hE _ (by simp [hp])
  generalize hxe : vs.getD p .none = x at h hx ⊢
  refine s_whileN [Str.ofString "heap", Str.ofString "startpos", Str.ofString "pos", Str.ofString "newitem"]
    (fun n σ' => ∃ (p' : Nat) (vs' : List V), p' = n ∧ σ' = ⟨[(Str.ofString "heap", .ref d), (Str.ofString "startpos", .int sp), (Str.ofString "pos", .int p'), (Str.ofString "newitem", x)], fun b => if b = d then some (.lst vs') else σ.sto b⟩ ∧
      p' < vs'.length ∧ (∀ v ∈ vs', E v) ∧ sdGo lt x sp p' vs' = sdGo lt x sp p vs) p ⟨p, vs, rfl, ?_, hp, hE, rfl⟩ ?_
  · refine st_ext rfl ?_
    funext b
    by_cases hb : b = d
    · subst hb; simp [hd]
    · simp [hb]
  rintro n σ' ⟨p', vs', rfl, rfl, hp', hE', hgo⟩
  (repeat walk_at "m")
  by_cases hlt : sp < p'
  · rw [if_pos (by simpa using hlt)]
    (repeat walk_at "m")
    refine bin_rshift1 (by omega) ?_
    (repeat walk_at "m")
    have hpp : (((p' : Int) - 1) / 2).toNat = (p' - 1) / 2 := by omega
    have hl : (p' - 1) / 2 < vs'.length := by omega
    refine item_at (vs := vs') (v := vs'.getD ((p' - 1) / 2) .none) (by first | exact items_lst up_eq | simp [O.items]) (by omega) (by rw [hpp]; simp [hl]) ?_
    (repeat walk_at "m")
    have hpe : E (vs'.getD ((p' - 1) / 2) .none) := hE' _ (by simp [hl])
    refine o.cmp _ _ _ _ _ _ (hP _ _ h0) hpe hx ?_
    (repeat walk_at "m")
    rw [sdGo, dif_pos hlt] at hgo
    by_cases hc : lt x (vs'.getD ((p' - 1) / 2) .none) = true
    · rw [if_pos hc]
      rw [if_pos hc] at hgo
      (repeat walk_at "m")
      refine set_at (vs := vs') (by first | exact up_eq | simp) (by omega) (by omega) ?_
      (repeat walk_at "m")
      refine ⟨(p' - 1) / 2, by omega, (p' - 1) / 2, vs'.set p' (vs'.getD ((p' - 1) / 2) .none), rfl, ?_, by simpa using hl, ?_, hgo⟩
      · have e2 : ((p' : Int) - 1) / 2 = (((p' - 1) / 2 : Nat) : Int) := by omega
        refine st_ext ?_ ?_
        · rw [← e2]; rfl
        · funext b
          first | exact up2 | (by_cases hb : b = d <;> simp [St.setSto, hb])
      · intro v hv
        rcases List.mem_or_eq_of_mem_set hv with q | q
        · exact hE' v q
        · exact q ▸ hpe
    · rw [if_neg hc]
      rw [if_neg hc] at hgo
      (repeat walk_at "m")
      refine set_at (vs := vs') (by first | exact up_eq | simp) (by omega) (by omega) ?_
      (repeat walk_at "m")
      rw [← hgo] at h
      exact q_eq h fun b => by first | exact up2 | (by_cases hb : b = d <;> simp [St.setSto, St.setLoc, hb])
  · rw [if_neg (by simpa using hlt)]
    (repeat walk_at "m")
    refine set_at (vs := vs') (by first | exact up_eq | simp) (by omega) (by omega) ?_
    (repeat walk_at "m")
    rw [sdGo, dif_neg hlt] at hgo
    rw [← hgo] at h
    exact q_eq h fun b => by first | exact up2 | (by_cases hb : b = d <;> simp [St.setSto, St.setLoc, hb])

end
section
variable {C : Cx} {k : Nat} {F : FE} {σ : St} {E : V → Prop} {lt : V → V → Bool} {P : (Addr → Option O) → Prop}
set_option maxHeartbeats 4000000 in
theorem sum_ok {a asd d : Addr} {vs : List V} {p : Nat} {Q : V → St → Prop} (cx : CxOk C) (gl : C.GT.lookup (Str.ofString "len") = some (.opq (.builtin "len"))) (fsd : Fn C PySem.Challenge.pw_dn0024_07 (Str.ofString "_siftdown_max") asd) (gsd : C.GT.lookup (Str.ofString "_siftdown_max") = some (.ref asd))
    (fn : Fn C PySem.Challenge.pw_dn0024_07 (Str.ofString "_siftup_max") a)
    (o : OrdM C E lt P) (hP : ∀ sto o, P sto → P (fun b => if b = d then some o else sto b)) (h0 : P σ.sto) (hd : σ.sto d = some (.lst vs)) (hp : p < vs.length) (hE : ∀ v ∈ vs, E v)
    (h : Q .none (σ.setSto d (.lst (siftup lt vs p)))) : CallOK C (k + 2) F (.ref a) [.ref d, .int p] σ Q := by
  obtain ⟨pm, cd, doc, f⟩ := fn
  refine call_own cx f rfl ?_
  intro L
  have ok := f.envOk L F.frames
  refine x_cons ?_
  (repeat walk_at "m")
  refine call_len (vs := vs) (items_lst hd) ?_
  (repeat walk_at "m")
  refine item_at (vs := vs) (v := vs.getD p .none) (items_lst hd) (by omega) (by simp [hp]) ?_
  (repeat walk_at "m")
  have hx : E (vs.getD p .none) := hE _ (by simp [hp])
  unfold siftup at h
  generalize hxe : vs.getD p .none = x at h hx ⊢
  refine s_whileN [Str.ofString "heap", Str.ofString "endpos", Str.ofString "startpos", Str.ofString "newitem", Str.ofString "pos", Str.ofString "childpos"]
    (fun n σ' => ∃ (q : Nat) (vs' : List V), n = vs.length - q ∧ σ' = ⟨[(Str.ofString "heap", .ref d), (Str.ofString "endpos", .int vs.length), (Str.ofString "startpos", .int p), (Str.ofString "newitem", x), (Str.ofString "pos", .int q), (Str.ofString "childpos", .int (2 * q + 1))], fun b => if b = d then some (.lst vs') else σ.sto b⟩ ∧
      q < vs.length ∧ vs'.length = vs.length ∧ (∀ v ∈ vs', E v) ∧ suGo lt vs.length q vs' = suGo lt vs.length p vs) (vs.length - p) ⟨p, vs, rfl, ?_, hp, rfl, hE, rfl⟩ ?_
  · refine st_ext rfl ?_
    funext b
    by_cases hb : b = d
    · subst hb; simp [hd]
    · simp [hb]
  rintro n σ' ⟨q, vs', rfl, rfl, hq, hlen, hE', hgo⟩
  (repeat walk_at "m")
  by_cases hlt : 2 * q + 1 < vs.length
  · rw [if_pos (by simp; omega)]
    (repeat walk_at "n")
    have hc1 : (2 * (q : Int) + 1).toNat = 2 * q + 1 := by omega
    have hc2 : (2 * (q : Int) + 1 + 1).toNat = 2 * q + 2 := by omega
    have hpk := suPick_lt lt vs.length vs' q hlt
    rw [suGo, dif_pos hlt] at hgo
    refine x_ifJ [Str.ofString "heap", Str.ofString "endpos", Str.ofString "startpos", Str.ofString "newitem", Str.ofString "pos", Str.ofString "childpos"]
      (fun σ₂ => σ₂ = ⟨[(Str.ofString "heap", .ref d), (Str.ofString "endpos", .int vs.length), (Str.ofString "startpos", .int p), (Str.ofString "newitem", x), (Str.ofString "pos", .int q), (Str.ofString "childpos", .int (suPick lt vs.length vs' q))], fun b => if b = d then some (.lst vs') else σ.sto b⟩) ?_ ?_
    · (repeat walk_at "m")
      by_cases hr : 2 * q + 2 < vs.length
      · rw [if_pos (by simp; omega)]
        (repeat walk_at "m")
        refine item_at (vs := vs') (v := vs'.getD (2 * q + 2) .none) (by first | exact items_lst up_eq | simp [O.items]) (by omega) (by rw [hc2]; simp [hlen, hr]) ?_
        (repeat walk_at "m")
        refine item_at (vs := vs') (v := vs'.getD (2 * q + 1) .none) (by first | exact items_lst up_eq | simp [O.items]) (by omega) (by rw [hc1]; simp [hlen, hlt]) ?_
        refine o.cmp _ _ _ _ _ _ (hP _ _ h0) (hE' _ (getD_mem (by omega))) (hE' _ (getD_mem (by omega))) ?_
        (repeat walk_at "m")
        cases hb : lt (vs'.getD (2 * q + 1) .none) (vs'.getD (2 * q + 2) .none) with
        | true =>
          rw [if_neg (by simp)]
          (repeat walk_at "m")
          refine join_next (st_ext ?_ rfl)
          have e : suPick lt vs.length vs' q = 2 * q + 1 := by unfold suPick; rw [if_neg (by rw [hb]; simp)]
          rw [e]; rfl
        | false =>
          rw [if_pos (by simp)]
          (repeat walk_at "m")
          refine join_next (st_ext ?_ rfl)
          have e : suPick lt vs.length vs' q = 2 * q + 2 := by unfold suPick; rw [if_pos ⟨hr, hb⟩]
          rw [e]; rfl
      · rw [if_neg (by simp; omega)]
        (repeat walk_at "m")
        rw [if_neg (by simp)]
        (repeat walk_at "m")
        refine join_next (st_ext ?_ rfl)
        have e : suPick lt vs.length vs' q = 2 * q + 1 := by unfold suPick; rw [if_neg (by omega)]
        rw [e]; rfl
    · rintro σ₂ rfl
      generalize hck : suPick lt vs.length vs' q = c at hpk hgo ⊢
      (repeat walk_at "m")
      refine item_at (vs := vs') (v := vs'.getD c .none) (by first | exact items_lst up_eq | simp [O.items]) (by omega) (by simp [hlen, hpk.1]) ?_
      (repeat walk_at "m")
      refine set_at (vs := vs') (by first | exact up_eq | simp) (by omega) (by omega) ?_
      (repeat walk_at "m")
      refine turnW_next ⟨vs.length - c, by omega, c, vs'.set q (vs'.getD c .none), rfl, st_ext rfl ?_, hpk.1, by simpa using hlen, ?_, hgo⟩
      · funext b
        first | exact up2 | (by_cases hb : b = d <;> simp [St.setSto, St.setLoc, hb])
      · intro v hv
        rcases List.mem_or_eq_of_mem_set hv with r | r
        · exact hE' v r
        · exact r ▸ hE' _ (getD_mem (by omega))
  · rw [if_neg (by simp; omega)]
    (repeat walk_at "m")
    refine set_at (vs := vs') (by first | exact up_eq | simp) (by omega) (by omega) ?_
    (repeat walk_at "m")
    rw [suGo, dif_neg hlt] at hgo
    rw [← hgo] at h
    have hm : ∀ v ∈ vs'.set q x, E v := fun v hv => by
      rcases List.mem_or_eq_of_mem_set hv with r | r
      · exact hE' v r
      · exact r ▸ hx
    refine ⟨let ⟨_, _, _, g⟩ := fsd; g.isFun, sdm_ok cx fsd o hP ?_ (d := d) (vs := vs'.set q x) (by first | exact up_eq | simp [St.setSto]) (by simp; omega) hm ?_⟩
    · exact hP _ _ (hP _ _ h0)
    · (repeat walk_at "m")
      have e : (vs'.set q x).getD q .none = x := by simp [hlen, hq]
      rw [e]
      exact q_eq h fun b => by first | exact up2 | (by_cases hb : b = d <;> simp [St.setSto, St.setLoc, hb])
end
section
variable {C : Cx} {k : Nat} {F : FE} {σ : St} {E : V → Prop} {lt : V → V → Bool} {P : (Addr → Option O) → Prop}
set_option maxHeartbeats 4000000 in
theorem heapifym_ok {a asd asu d : Addr} {vs : List V} {Q : V → St → Prop} (cx : CxOk C) (gl : C.GT.lookup (Str.ofString "len") = some (.opq (.builtin "len"))) (gr : C.GT.lookup (Str.ofString "range") = some (.opq (.type "range"))) (gv : C.GT.lookup (Str.ofString "reversed") = some (.opq (.type "reversed")))
    (fsd : Fn C PySem.Challenge.pw_dn0024_07 (Str.ofString "_siftdown_max") asd) (gsd : C.GT.lookup (Str.ofString "_siftdown_max") = some (.ref asd))
    (fsu : Fn C PySem.Challenge.pw_dn0024_07 (Str.ofString "_siftup_max") asu) (gsu : C.GT.lookup (Str.ofString "_siftup_max") = some (.ref asu)) (fn : Fn C PySem.Challenge.pw_dn0024_07 (Str.ofString "_heapify_max") a)
    (o : OrdM C E lt P) (hP : ∀ sto o, P sto → P (fun b => if b = d then some o else sto b)) (h0 : P σ.sto) (hd : σ.sto d = some (.lst vs)) (hl : vs.length ≤ maxLen) (hE : ∀ v ∈ vs, E v)
    (h : Q .none (σ.setSto d (.lst (hfyGo lt (vs.length / 2) vs)))) : CallOK C (k + 3) F (.ref a) [.ref d] σ Q := by
  obtain ⟨pm, cd, doc, f⟩ := fn
  refine call_own cx f rfl ?_
  intro L
  have ok := f.envOk L F.frames
  have ifsu : IsFun C.GB (.ref asu) := let ⟨_, _, _, g⟩ := fsu; g.isFun
  refine x_cons ?_
  (repeat walk_at "m")
  refine call_len (vs := vs) (items_lst hd) ?_
  (repeat walk_at "m")
  refine s_forN [Str.ofString "x"] (titer_rit ?_)
  (repeat walk_at "m")
  refine bin_floordiv (by omega) (PyProof.noPylong_small (by decide)) ?_
  have hfd : ((vs.length : Nat) : Int).fdiv 2 = ((vs.length / 2 : Nat) : Int) := by rw [Int.fdiv_eq_ediv_of_nonneg _ (by omega)]; omega
  rw [hfd]
  (repeat walk_at "m")
  refine call_range1 ?_
  (repeat walk_at "m")
  refine call_reversed (n := vs.length / 2) (revSmall_of (by omega)) (rangeSize_nat _) fun I hI => ?_
  have nI : d ≠ I := fun e => by rw [← e] at hI; simp [St.setLoc, hd] at hI
  refine ⟨I, _, _, _, rfl, by simpa [St.setLoc] using hI, setSto_same _ _ _, ?_⟩
  refine ⟨fun j σ' => ∃ vs', σ' = ⟨[(Str.ofString "x", .ref d)], fun b => if b = d then some (.lst vs') else σ.sto b⟩ ∧ vs'.length = vs.length ∧ (∀ v ∈ vs', E v) ∧ j ≤ vs.length / 2 ∧ hfyGo lt (vs.length / 2 - j) vs' = hfyGo lt (vs.length / 2) vs, vs.length / 2, ?_, ?_⟩
  · refine ⟨vs, st_ext rfl ?_, rfl, hE, by omega, rfl⟩
    funext b
    have hI' : σ.sto I = none := by simpa [St.setLoc] using hI
    by_cases hbI : b = I
    · subst hbI; simp [St.delSto, St.setSto, Ne.symm nI, hI']
    · by_cases hb : b = d
      · subst hb; simp [St.delSto, St.setSto, hbI, hd, St.setLoc]
      · simp [St.delSto, St.setSto, hbI, hb, St.setLoc]
  rintro j σ' ⟨vs', rfl, hlen, hE', hj, hgo⟩
  refine ⟨hj, _, rfl, ?_⟩
  by_cases hlt : j < vs.length / 2
  · rw [if_pos hlt]
    refine asg_name ok ?_
    (repeat walk_at "m")
    have ei : (0 : Int) + (((vs.length / 2 : Nat) : Int) - 1) * 1 + (j : Int) * -1 = ((vs.length / 2 - 1 - j : Nat) : Int) := by omega
    rw [ei]
    refine ⟨ifsu, sum_ok cx gl fsd gsd fsu o hP (hP _ _ h0) (d := d) (vs := vs') (by first | exact up_eq | simp [St.setLoc]) (by omega) hE' ?_⟩
    (repeat walk_at "m")
    refine ⟨siftup lt vs' (vs.length / 2 - 1 - j), st_ext rfl ?_, ?_, ?_, by omega, ?_⟩
    · funext b
      first | exact up2 | (by_cases hb : b = d <;> simp [St.setSto, St.setLoc, hb])
    · rw [siftup_length]; exact hlen
    · exact siftup_mem (by omega) hE'
    · rw [← hgo]
      have e : vs.length / 2 - j = (vs.length / 2 - 1 - j) + 1 := by omega
      have e' : vs.length / 2 - (j + 1) = vs.length / 2 - 1 - j := by omega
      rw [e, e', hfyGo]
  · rw [if_neg hlt]
    (repeat walk_at "m")
    have e : vs.length / 2 - j = 0 := by omega
    rw [e, hfyGo] at hgo
    rw [← hgo] at h
    exact q_eq h fun b => by first | exact up2 | (by_cases hb : b = d <;> simp [St.setSto, St.setLoc, hb])
end
section
variable {C : Cx} {k : Nat} {F : FE} {σ : St} {E : V → Prop} {lt : V → V → Bool} {P : (Addr → Option O) → Prop}
set_option maxHeartbeats 4000000 in
theorem replacem_ok {a asd asu d : Addr} {v x : V} {r : List V} {Q : V → St → Prop} (cx : CxOk C) (gl : C.GT.lookup (Str.ofString "len") = some (.opq (.builtin "len")))
    (fsd : Fn C PySem.Challenge.pw_dn0024_07 (Str.ofString "_siftdown_max") asd) (gsd : C.GT.lookup (Str.ofString "_siftdown_max") = some (.ref asd))
    (fsu : Fn C PySem.Challenge.pw_dn0024_07 (Str.ofString "_siftup_max") asu) (gsu : C.GT.lookup (Str.ofString "_siftup_max") = some (.ref asu)) (fn : Fn C PySem.Challenge.pw_dn0024_07 (Str.ofString "_heapreplace_max") a)
    (o : OrdM C E lt P) (hP : ∀ sto o, P sto → P (fun b => if b = d then some o else sto b)) (h0 : P σ.sto) (hd : σ.sto d = some (.lst (v :: r))) (hE : ∀ u ∈ v :: r, E u) (hx : E x)
    (h : Q v (σ.setSto d (.lst (siftup lt (x :: r) 0)))) : CallOK C (k + 3) F (.ref a) [.ref d, x] σ Q := by
  obtain ⟨pm, cd, doc, f⟩ := fn
  refine call_own cx f rfl ?_
  intro L
  have ok := f.envOk L F.frames
  have ifsu : IsFun C.GB (.ref asu) := let ⟨_, _, _, g⟩ := fsu; g.isFun
  refine x_cons ?_
  (repeat walk_at "m")
  refine item_at (vs := v :: r) (v := v) (items_lst hd) (by omega) (by simp) ?_
  (repeat walk_at "m")
  refine set_at (vs := v :: r) (by first | exact hd | simp [hd, St.setLoc]) (by omega) (by simp) ?_
  (repeat walk_at "m")
  refine ⟨ifsu, sum_ok (p := 0) cx gl fsd gsd fsu o hP (hP _ _ h0) (d := d) (vs := x :: r) (by first | exact up_eq | simp) (by simp) ?_ ?_⟩
  · intro u hu
    rcases List.mem_cons.mp hu with q | q
    · exact q ▸ hx
    · exact hE u (.tail _ q)
  · (repeat walk_at "m")
    exact q_eq h fun b => by first | exact up2 | (by_cases hb : b = d <;> simp [St.setSto, St.setLoc, hb])
end
section
variable {C : Cx} {k : Nat} {F : FE} {σ : St}
set_option maxHeartbeats 8000000 in
theorem nsm_ok {a asd asu ahf arp l : Addr} {kv : V} {kf : Int → Int} {n : Int} {xs : List Int} {Q : V → St → Prop} (cx : CxOk C) (hcalm : C.exc = none) (gl : C.GT.lookup (Str.ofString "len") = some (.opq (.builtin "len"))) (gr : C.GT.lookup (Str.ofString "range") = some (.opq (.type "range"))) (gv : C.GT.lookup (Str.ofString "reversed") = some (.opq (.type "reversed")))
    (gz : C.GT.lookup (Str.ofString "zip") = some (.opq (.type "zip"))) (gi : C.GT.lookup (Str.ofString "iter") = some (.opq (.builtin "iter"))) (gob : C.GT.lookup (Str.ofString "object") = some (.opq (.type "object"))) (gm : C.GT.lookup (Str.ofString "min") = some (.opq (.builtin "min"))) (gs : C.GT.lookup (Str.ofString "sorted") = some (.opq (.builtin "sorted")))
    (fsd : Fn C PySem.Challenge.pw_dn0024_07 (Str.ofString "_siftdown_max") asd) (gsd : C.GT.lookup (Str.ofString "_siftdown_max") = some (.ref asd)) (fsu : Fn C PySem.Challenge.pw_dn0024_07 (Str.ofString "_siftup_max") asu) (gsu : C.GT.lookup (Str.ofString "_siftup_max") = some (.ref asu))
    (fhf : Fn C PySem.Challenge.pw_dn0024_07 (Str.ofString "_heapify_max") ahf) (ghf : C.GT.lookup (Str.ofString "_heapify_max") = some (.ref ahf)) (frp : Fn C PySem.Challenge.pw_dn0024_07 (Str.ofString "_heapreplace_max") arp) (grp : C.GT.lookup (Str.ofString "_heapreplace_max") = some (.ref arp))
    (fn : FnD C PySem.Challenge.pw_dn0024_07 (Str.ofString "nsmallest") a) (hs : σ.sto l = some (.lst (xs.map V.int))) (h64 : xs.length < 64) (hkv : KeyV C kv kf) (hkf : ∀ ka, kv = .ref ka → IsFun C.GB (.ref ka))
    (h : ∀ D sto', sto' D = some (.lst (((srtB false kf xs).take n.toNat).map V.int)) → KeepA σ.sto sto' → Q (.ref D) ⟨σ.loc, sto'⟩) : CallOK C (k + 9) F (.ref a) [.int n, .ref l, kv] σ Q := by
  obtain ⟨pm, cd, doc, dV, f⟩ := fn
  refine call_ownD cx f rfl ?_
  intro L
  have ok := f.envOk L F.frames
  have hm : maxLen = 1048576 := by decide
  have ifhf : IsFun C.GB (.ref ahf) := let ⟨_, _, _, g⟩ := fhf; g.isFun
  have ifrp : IsFun C.GB (.ref arp) := let ⟨_, _, _, g⟩ := frp; g.isFun
  have hkq : ∀ v, kv ≠ .opq v := fun v e => by rcases hkv with ⟨q, _⟩ | ⟨_, q, _⟩ <;> rw [q] at e <;> cases e
  refine x_cons ?_
  (repeat walk_at "m")
  by_cases h1 : n = 1
  · subst h1
    rw [if_pos (by decide)]
    (repeat walk_at "m")
    refine call_iter (vs := xs.map V.int) (items_lst hs) fun I oI hI hIO => ?_
    have hlI : l ≠ I := ne_new hs hI
    (repeat walk_at "m")
    refine call_obj fun sn hsn => ?_
    obtain ⟨nsI, hsn'⟩ := none_if hsn
    (repeat walk_at "m")
    refine ⟨trivial, ckw_min (by omega) (o := oI) (l := l) (xs := xs) (by dsimp only [St.drop, St.restrict, St.setSto, St.setLoc]; (repeat (first | exact up_eq | assumption | refine up_ne (by first | assumption | exact Ne.symm (by assumption)) ?_))) hIO (items_lst (by have hq := ne_new hs hsn'; dsimp only [St.drop, St.restrict, St.setSto, St.setLoc]; (repeat (first | exact up_eq | assumption | refine up_ne (by first | assumption | exact Ne.symm (by assumption)) ?_)))) hkv (fun hx o' => ?_) fun x o' hfb => ?_⟩
    · (repeat walk_at "m")
      refine cmp_is_same ?_
      (repeat walk_at "m")
      rw [if_pos rfl]
      (repeat walk_at "m")
      refine ⟨by simp [maxLen], fun D hD => ?_⟩
      obtain ⟨_, hD1⟩ := none_if hD
      obtain ⟨_, hD2⟩ := none_if hD1
      obtain ⟨_, hD3⟩ := none_if hD2
      refine h D _ ?_ ((((KeepA.refl.upd hI).upd hsn').upd hI).upd hD3)
      have e0 : srtB false kf xs = [] := List.length_eq_zero_iff.mp (by rw [srtB_length, hx]; rfl)
      rw [e0]; simp
    · (repeat walk_at "m")
      refine cmp_is_int ?_
      (repeat walk_at "m")
      rw [if_neg (by simp)]
      (repeat walk_at "m")
      refine ⟨by simp [maxLen], fun D hD => ?_⟩
      obtain ⟨_, hD1⟩ := none_if hD
      obtain ⟨_, hD2⟩ := none_if hD1
      obtain ⟨_, hD3⟩ := none_if hD2
      refine h D _ ?_ ((((KeepA.refl.upd hI).upd hsn').upd hI).upd hD3)
      have e1 : (srtB false kf xs).take (1 : Int).toNat = [x] := fb_srtB hfb
      rw [e1]; simp
  rw [if_neg (by simpa using h1)]
  (repeat walk_at "m")
  refine s_tryelse ?_
  (repeat walk_at "m")
  refine call_len (vs := xs.map V.int) (items_lst hs) ?_
  (repeat walk_at "m")
  by_cases h2 : (((xs.map V.int).length : Nat) : Int) ≤ n
  · rw [if_pos (by simpa using h2)]
    (repeat walk_at "m")
    refine ⟨trivial, ckw_sorted1 (by omega) (xs := xs) (items_lst hs) h64 hkv fun D hD => ?_⟩
    (repeat walk_at "m")
    refine ⟨D, _, rfl, by simp [O.items]; rfl, by simp, Nat.le_trans (pickV_len_run ..) (by simp [srtB_length]; omega), fun D2 hD2 => ?_⟩
    rw [pickV_upto _ (by omega), ← List.map_take]
    obtain ⟨_, hD2'⟩ := none_if hD2
    exact h D2 _ (by simp) ((KeepA.refl.upd hD).upd hD2')
  rw [if_neg (by simpa using h2)]
  rw [List.length_map] at h2
  (repeat walk_at "m")
  refine cmp_is_none hkq ?_
  (repeat walk_at "m")
  rcases id hkv with ⟨rfl, rfl⟩ | ⟨ka, rfl, kc⟩
  · rw [if_pos (show isNoneV V.none = true from rfl)]
    (repeat walk_at "m")
    refine call_iter (vs := xs.map V.int) (items_lst hs) fun I oI hI hIO => ?_
    have hlI : l ≠ I := ne_new hs hI
    (repeat walk_at "m")
    refine s_compzip ok [] [] (fun x v e => by simp at e) ?_
    (repeat walk_at "m")
    refine call_range1 ?_
    (repeat walk_at "m")
    refine ⟨rfl, 0, n, 1, I, l, oI, xs, n.toNat, fun j x => [x, 0 + (j : Int) * 1], rfl, by simp [St.setLoc], hIO, by simp [St.setSto, St.setLoc, hlI, hs, O.items], rangeSize_up n, by omega, by omega, free0, fun c j x okc hj hx => ?_, fun D o' hIO' hD => ?_⟩
    · refine asg_tup rfl ?_
      refine asg_name okc ?_
      refine asg_name okc ?_
      show TEs _ _ _ _ _ _ _
      (repeat walk_at "m")
      exact ⟨rfl, by simp [maxLen]⟩
    have hD0 := (none_if hD).2
    have hDI := (none_if hD).1
    have hlD : l ≠ D := ne_new hs hD0
    (repeat walk_at "m")
    refine truth_list (vs := (zipG (fun j x => [x, 0 + (j : Int) * 1]) xs n.toNat).map V.tup) (items_lst up_eq) ?_
    have hzl := zipG_length (fun j x => [x, 0 + (j : Int) * 1]) (xs := xs) (n := n.toNat) (by omega)
    by_cases h3 : n ≤ 0
    · have e0 : zipG (fun j x => [x, 0 + (j : Int) * 1]) xs n.toNat = [] := List.length_eq_zero_iff.mp (by omega)
      rw [e0]
      rw [if_pos (by simp)]
      (repeat walk_at "m")
      refine h D _ ?_ (((KeepA.refl.upd hI).upd hI).upd hD0)
      rw [show n.toNat = 0 by omega]
      simp [St.setSto, St.setLoc, e0]
    rw [if_neg (by
      cases hz : zipG (fun j x => [x, 0 + (j : Int) * 1]) xs n.toNat with
      | nil => rw [hz] at hzl; simp at hzl; omega
      | cons _ _ => simp)]
    (repeat walk_at "m")
    obtain ⟨H, eH, pH, hh⟩ := heapifyGT (zipG (fun j x => [x, 0 + (j : Int) * 1]) xs n.toNat)
    refine ⟨ifhf, heapifym_ok (vs := (zipG (fun j x => [x, 0 + (j : Int) * 1]) xs n.toNat).map V.tup) cx gl gr gv fsd gsd fsu gsu fhf ordM_tup (fun _ _ _ => trivial) trivial up_eq (by rw [List.length_map, hzl]; omega) (tups_isT _) ?_⟩
    rw [eH]
    have hB := start_max mk2_max (by omega) pH
    obtain ⟨v, r, rfl⟩ := hB.ne (by omega)
    (repeat walk_at "m")
    refine item_at (vs := (v :: r).map V.tup) (v := .tup v) (items_lst up_eq) (by omega) (by simp) ?_
    (repeat walk_at "m")
    obtain ⟨xv, ov, ev⟩ := hB.of v (.head _)
    refine item_tup (xs := v) (x := v.getD 0 0) (by omega) (by rw [ev]; rfl) (by decide) ?_
    (repeat walk_at "m")
    refine s_forIN [Str.ofString "result", Str.ofString "top", Str.ofString "order", Str.ofString "_heapreplace"] ?_
    (repeat walk_at "m")
    refine ⟨I, l, o', n.toNat, rfl, by dsimp only [St.drop, St.restrict, St.setSto, St.setLoc]; (repeat (first | exact up_eq | assumption | refine up_ne (by first | assumption | exact Ne.symm (by assumption)) ?_)), hIO', ?_⟩
    refine ⟨fun i σ' => ∃ v r o sto', σ' = ⟨[(Str.ofString "result", .ref D), (Str.ofString "top", .int (v.getD 0 0)), (Str.ofString "order", .int o), (Str.ofString "_heapreplace", .ref arp)], sto'⟩ ∧ sto' l = some (.lst (xs.map V.int)) ∧ sto' D = some (.lst ((v :: r).map V.tup)) ∧ KeepA σ.sto sto' ∧
        Heapd gtV 0 ((v :: r).map V.tup) ∧ BestM (fun x => x) (fun t => t.getD 0 0) (fun x o => [x, o]) n.toNat (xs.take i) o (v :: r) ∧ i ≤ xs.length, xs.length, ?_, ?_⟩
    · refine ⟨v, r, n, _, by first | rfl | (refine st_ext ?_ rfl; rfl), ?_, ?_, ?_, hh, by rw [Int.toNat_of_nonneg (by omega)] at hB; exact hB, by omega⟩
      · dsimp only [St.drop, St.restrict, St.setSto, St.setLoc]; (repeat (first | exact up_eq | assumption | refine up_ne (by first | assumption | exact Ne.symm (by assumption)) ?_))
      · dsimp only [St.drop, St.restrict, St.setSto, St.setLoc]; (repeat (first | exact up_eq | assumption | refine up_ne (by first | assumption | exact Ne.symm (by assumption)) ?_))
      · intro b ob hb
        have b1 : b ≠ I := ne_new hb hI
        have b2 : b ≠ D := ne_new hb hD0
        dsimp only [St.drop, St.restrict, St.setSto, St.setLoc]; (repeat (first | exact up_eq | assumption | refine up_ne (by first | assumption | exact Ne.symm (by assumption)) ?_))
    clear hh hB ev pH eH hzl
    rintro i σ' ⟨v, r, o, sto', rfl, hsl, hsD, hkp, hh, hB, hi⟩
    refine ⟨hi, xs.map V.int, items_lst hsl, ?_⟩
    by_cases hil : i < xs.length
    · have hget : (xs.map V.int)[i]? = some (.int xs[i]) := by simp [hil]
      rw [hget]
      refine asg_name ok ?_
      (repeat walk_at "m")
      by_cases hlt : xs[i] < v.getD 0 0
      · rw [if_pos (by simpa using hlt)]
        (repeat walk_at "m")
        refine ⟨[xs[i], o], rfl, by simp [maxLen], ?_⟩
        (repeat walk_at "m")
        obtain ⟨H', eH', hh', hB'⟩ := stepM mk2_max hh hB hlt
        refine ⟨ifrp, replacem_ok (v := .tup v) (x := .tup [xs[i], o]) (r := r.map V.tup) cx gl fsd gsd fsu gsu frp ordM_tup (fun _ _ _ => trivial) trivial (d := D) hsD (tups_isT (v :: r)) ⟨_, rfl⟩ ?_⟩
        rw [eH']
        obtain ⟨v', r', rfl⟩ := hB'.ne (by omega)
        (repeat walk_at "m")
        refine s_asgtup ?_
        (repeat walk_at "m")
        refine item_at (vs := (v' :: r').map V.tup) (v := .tup v') (items_lst up_eq) (by omega) (by simp) ?_
        obtain ⟨xv, ov, ev⟩ := hB'.of v' (.head _)
        subst ev
        refine asg_tup rfl ?_
        refine asg_name ok ?_
        refine asg_name ok ?_
        show TX _ _ _ _ _ _
        (repeat walk_at "m")
        refine s_aug ok rfl ?_
        (repeat walk_at "m")
        refine ibin_add ?_
        (repeat walk_at "m")
        refine ⟨_, r', o + 1, _, by first | rfl | (refine st_ext ?_ rfl; rfl), ?_, ?_, ?_, hh', by rw [take_snoc hil]; exact hB', by omega⟩
        · dsimp only [St.drop, St.restrict, St.setSto, St.setLoc]; (repeat (first | exact up_eq | assumption | refine up_ne (by first | assumption | exact Ne.symm (by assumption)) ?_))
        · dsimp only [St.drop, St.restrict, St.setSto, St.setLoc]; (repeat (first | exact up_eq | assumption | refine up_ne (by first | assumption | exact Ne.symm (by assumption)) ?_))
        · intro b ob hb
          have b2 : b ≠ D := ne_new hb hD0
          have hkb := hkp b ob hb; dsimp only [St.drop, St.restrict, St.setSto, St.setLoc]; (repeat (first | exact up_eq | assumption | refine up_ne (by first | assumption | exact Ne.symm (by assumption)) ?_))
      · rw [if_neg (by simpa using hlt)]
        (repeat walk_at "m")
        exact ⟨v, r, o, _, rfl, hsl, hsD, hkp, hh, by rw [take_snoc hil]; exact skipM hh hB hlt, by omega⟩
    · have hget : (xs.map V.int)[i]? = none := by simp; omega
      rw [hget]
      have ei : xs.take i = xs := List.take_of_length_le (by omega)
      rw [ei] at hB
      (repeat walk_at "m")
      refine e_meth slot_list_sort rfl ?_
      (repeat walk_at "m")
      refine ⟨D, _, rfl, hsD, ?_⟩
      (repeat walk_at "m")
      have hlen := hB.best.len
      refine call_sort hsD (fun t ht e => by obtain ⟨x', o', q⟩ := hB.of t ht; rw [q] at e; cases e) (by omega) (by omega) ?_
      (repeat walk_at "m")
      refine e_comp ok [] [] (titer_of ?_)
      (repeat walk_at "m")
      refine iter_list (vs := (sortT (v :: r)).map V.tup) (items_lst up_eq) ?_
      refine ⟨free0, fun i out s => out = (((sortT (v :: r)).take i).map fun t => V.int (t.getD 0 0)) ∧ i ≤ (sortT (v :: r)).length ∧ s D = some (.lst ((sortT (v :: r)).map V.tup)) ∧ KeepA σ.sto s, (sortT (v :: r)).length, ⟨by simp, by omega, by simp, ?_⟩, ?_⟩
      · exact hkp.upd hD0
      rintro c j out s okc ⟨rfl, hj, hsD', hkp'⟩
      refine ⟨hj, _, getList_at (vs := (sortT (v :: r)).map V.tup) (items_lst hsD'), ?_⟩
      by_cases hjl : j < (sortT (v :: r)).length
      · have hgj : ((sortT (v :: r)).map V.tup)[j]? = some (.tup (sortT (v :: r))[j]) := by simp [hjl]
        rw [hgj]
        obtain ⟨x', o2, et⟩ := hB.of _ ((sortT_perm (v :: r)).mem_iff.mp (List.getElem_mem hjl))
        dsimp only
        rw [et]
        refine asg_tup rfl ?_
        refine asg_name okc ?_
        refine asg_name okc ?_
        show TE _ _ _ _ _ _
        (repeat walk_at "m")
        refine ⟨by rw [List.length_map, List.length_take]; have := sortT_length (v :: r); omega, rfl, ?_, by omega, hsD', hkp'⟩
        rw [List.take_add_one, List.getElem?_eq_getElem hjl, et]
        simp
      · have hgj : ((sortT (v :: r)).map V.tup)[j]? = none := by simp; omega
        rw [hgj]
        intro D2 hD2
        have ej : (sortT (v :: r)).take j = sortT (v :: r) := List.take_of_length_le (by omega)
        rw [ej]
        (repeat walk_at "m")
        have hD20 : σ.sto D2 = none := by
          cases hq : σ.sto D2 with
          | none => rfl
          | some ob => have := hkp' D2 ob hq; rw [hD2] at this; cases this
        refine h D2 _ ?_ (hkp'.upd hD20)
        rw [← finM hB, List.map_map]
        simp [Function.comp_def]
  · rw [if_neg (show ¬ isNoneV (V.ref ka) = true from Bool.false_ne_true)]
    (repeat walk_at "m")
    refine call_iter (vs := xs.map V.int) (items_lst hs) fun I oI hI hIO => ?_
    have hlI : l ≠ I := ne_new hs hI
    (repeat walk_at "m")
    refine s_compzip (hcl := fun p hp => by rw [List.mem_singleton.mp hp]; exact .head _) (hap := List.pairwise_singleton _ _) ok [(Str.ofString "key", L + 1)] [(Str.ofString "key", .ref ka)] (fun x v e => by
      rw [List.lookup_cons] at e
      split at e
      · cases e; exact ⟨ka, rfl⟩
      · simp at e) ?_
    (repeat walk_at "m")
    refine call_range1 ?_
    (repeat walk_at "m")
    refine ⟨rfl, 0, n, 1, I, l, oI, xs, n.toNat, fun j x => [kf x, 0 + (j : Int) * 1, x], rfl, by simp [St.setLoc], hIO, by simp [St.setSto, St.setLoc, hlI, hs, O.items], rangeSize_up n, by omega, by omega, free1 ⟨rfl, .inl rfl, .inl rfl, rfl⟩, fun c j x okc hj hx => ?_, fun D o' hIO' hD => ?_⟩
    · refine asg_tup rfl ?_
      refine asg_name okc ?_
      refine asg_name okc ?_
      show TEs _ _ _ _ _ _ _
      (repeat walk_at "m")
      refine ⟨hkf ka rfl, call_key (by omega) kc ?_⟩
      (repeat walk_at "m")
      exact ⟨rfl, by simp [maxLen]⟩
    have hD0 := (none_if hD).2
    have hDI := (none_if hD).1
    have hlD : l ≠ D := ne_new hs hD0
    (repeat walk_at "m")
    refine truth_list (vs := (zipG (fun j x => [kf x, 0 + (j : Int) * 1, x]) xs n.toNat).map V.tup) (items_lst up_eq) ?_
    have hzl := zipG_length (fun j x => [kf x, 0 + (j : Int) * 1, x]) (xs := xs) (n := n.toNat) (by omega)
    by_cases h3 : n ≤ 0
    · have e0 : zipG (fun j x => [kf x, 0 + (j : Int) * 1, x]) xs n.toNat = [] := List.length_eq_zero_iff.mp (by omega)
      rw [e0]
      rw [if_pos (by simp)]
      (repeat walk_at "m")
      refine h D _ ?_ (((KeepA.refl.upd hI).upd hI).upd hD0)
      rw [show n.toNat = 0 by omega]
      simp [St.setSto, St.setLoc, e0]
    rw [if_neg (by
      cases hz : zipG (fun j x => [kf x, 0 + (j : Int) * 1, x]) xs n.toNat with
      | nil => rw [hz] at hzl; simp at hzl; omega
      | cons _ _ => simp)]
    (repeat walk_at "m")
    obtain ⟨H, eH, pH, hh⟩ := heapifyGT (zipG (fun j x => [kf x, 0 + (j : Int) * 1, x]) xs n.toNat)
    refine ⟨ifhf, heapifym_ok (vs := (zipG (fun j x => [kf x, 0 + (j : Int) * 1, x]) xs n.toNat).map V.tup) cx gl gr gv fsd gsd fsu gsu fhf ordM_tup (fun _ _ _ => trivial) trivial up_eq (by rw [List.length_map, hzl]; omega) (tups_isT _) ?_⟩
    rw [eH]
    have hB := start_max (mk3_max kf) (by omega) pH
    obtain ⟨v, r, rfl⟩ := hB.ne (by omega)
    (repeat walk_at "m")
    refine item_at (vs := (v :: r).map V.tup) (v := .tup v) (items_lst up_eq) (by omega) (by simp) ?_
    (repeat walk_at "m")
    obtain ⟨xv, ov, ev⟩ := hB.of v (.head _)
    refine item_tup (xs := v) (x := v.getD 0 0) (by omega) (by rw [ev]; rfl) (by decide) ?_
    (repeat walk_at "m")
    refine s_forIN [Str.ofString "key", Str.ofString "result", Str.ofString "top", Str.ofString "order", Str.ofString "_heapreplace"] ?_
    (repeat walk_at "m")
    refine ⟨I, l, o', n.toNat, rfl, by dsimp only [St.drop, St.restrict, St.setSto, St.setLoc]; (repeat (first | exact up_eq | assumption | refine up_ne (by first | assumption | exact Ne.symm (by assumption)) ?_)), hIO', ?_⟩
    refine ⟨fun i σ' => ∃ v r o sto', σ' = ⟨[(Str.ofString "key", .ref ka), (Str.ofString "result", .ref D), (Str.ofString "top", .int (v.getD 0 0)), (Str.ofString "order", .int o), (Str.ofString "_heapreplace", .ref arp)], sto'⟩ ∧ sto' l = some (.lst (xs.map V.int)) ∧ sto' D = some (.lst ((v :: r).map V.tup)) ∧ KeepA σ.sto sto' ∧
        Heapd gtV 0 ((v :: r).map V.tup) ∧ BestM kf thr (fun x o => [kf x, o, x]) n.toNat (xs.take i) o (v :: r) ∧ i ≤ xs.length, xs.length, ?_, ?_⟩
    · refine ⟨v, r, n, _, by first | rfl | (refine st_ext ?_ rfl; rfl), ?_, ?_, ?_, hh, by rw [Int.toNat_of_nonneg (by omega)] at hB; exact hB, by omega⟩
      · dsimp only [St.drop, St.restrict, St.setSto, St.setLoc]; (repeat (first | exact up_eq | assumption | refine up_ne (by first | assumption | exact Ne.symm (by assumption)) ?_))
      · dsimp only [St.drop, St.restrict, St.setSto, St.setLoc]; (repeat (first | exact up_eq | assumption | refine up_ne (by first | assumption | exact Ne.symm (by assumption)) ?_))
      · intro b ob hb
        have b1 : b ≠ I := ne_new hb hI
        have b2 : b ≠ D := ne_new hb hD0
        dsimp only [St.drop, St.restrict, St.setSto, St.setLoc]; (repeat (first | exact up_eq | assumption | refine up_ne (by first | assumption | exact Ne.symm (by assumption)) ?_))
    clear hh hB ev pH eH hzl
    rintro i σ' ⟨v, r, o, sto', rfl, hsl, hsD, hkp, hh, hB, hi⟩
    refine ⟨hi, xs.map V.int, items_lst hsl, ?_⟩
    by_cases hil : i < xs.length
    · have hget : (xs.map V.int)[i]? = some (.int xs[i]) := by simp [hil]
      rw [hget]
      refine asg_name ok ?_
      (repeat walk_at "m")
      refine ⟨hkf ka rfl, call_key (by omega) kc ?_⟩
      (repeat walk_at "m")
      by_cases hlt : kf xs[i] < v.getD 0 0
      · rw [if_pos (by simpa using hlt)]
        (repeat walk_at "m")
        refine ⟨[kf xs[i], o, xs[i]], rfl, by simp [maxLen], ?_⟩
        (repeat walk_at "m")
        obtain ⟨H', eH', hh', hB'⟩ := stepM (mk3_max kf) hh hB hlt
        refine ⟨ifrp, replacem_ok (v := .tup v) (x := .tup [kf xs[i], o, xs[i]]) (r := r.map V.tup) cx gl fsd gsd fsu gsu frp ordM_tup (fun _ _ _ => trivial) trivial (d := D) hsD (tups_isT (v :: r)) ⟨_, rfl⟩ ?_⟩
        rw [eH']
        obtain ⟨v', r', rfl⟩ := hB'.ne (by omega)
        (repeat walk_at "m")
        refine s_asgtup ?_
        (repeat walk_at "m")
        refine item_at (vs := (v' :: r').map V.tup) (v := .tup v') (items_lst up_eq) (by omega) (by simp) ?_
        obtain ⟨xv, ov, ev⟩ := hB'.of v' (.head _)
        subst ev
        refine asg_tup rfl ?_
        refine asg_name ok ?_
        refine asg_name ok ?_
        refine asg_name ok ?_
        show TX _ _ _ _ _ _
        (repeat walk_at "m")
        refine s_aug ok rfl ?_
        (repeat walk_at "m")
        refine ibin_add ?_
        (repeat walk_at "m")
        refine ⟨_, r', o + 1, _, by first | rfl | (refine st_ext ?_ rfl; rfl), ?_, ?_, ?_, hh', by rw [take_snoc hil]; exact hB', by omega⟩
        · dsimp only [St.drop, St.restrict, St.setSto, St.setLoc]; (repeat (first | exact up_eq | assumption | refine up_ne (by first | assumption | exact Ne.symm (by assumption)) ?_))
        · dsimp only [St.drop, St.restrict, St.setSto, St.setLoc]; (repeat (first | exact up_eq | assumption | refine up_ne (by first | assumption | exact Ne.symm (by assumption)) ?_))
        · intro b ob hb
          have b2 : b ≠ D := ne_new hb hD0
          have hkb := hkp b ob hb; dsimp only [St.drop, St.restrict, St.setSto, St.setLoc]; (repeat (first | exact up_eq | assumption | refine up_ne (by first | assumption | exact Ne.symm (by assumption)) ?_))
      · rw [if_neg (by simpa using hlt)]
        (repeat walk_at "m")
        exact ⟨v, r, o, _, rfl, hsl, hsD, hkp, hh, by rw [take_snoc hil]; exact skipM hh hB hlt, by omega⟩
    · have hget : (xs.map V.int)[i]? = none := by simp; omega
      rw [hget]
      have ei : xs.take i = xs := List.take_of_length_le (by omega)
      rw [ei] at hB
      (repeat walk_at "m")
      refine e_meth slot_list_sort rfl ?_
      (repeat walk_at "m")
      refine ⟨D, _, rfl, hsD, ?_⟩
      (repeat walk_at "m")
      have hlen := hB.best.len
      refine call_sort hsD (fun t ht e => by obtain ⟨x', o', q⟩ := hB.of t ht; rw [q] at e; cases e) (by omega) (by omega) ?_
      (repeat walk_at "m")
      refine e_comp ok [] [] (titer_of ?_)
      (repeat walk_at "m")
      refine iter_list (vs := (sortT (v :: r)).map V.tup) (items_lst up_eq) ?_
      refine ⟨free0, fun i out s => out = (((sortT (v :: r)).take i).map fun t => V.int (thr t)) ∧ i ≤ (sortT (v :: r)).length ∧ s D = some (.lst ((sortT (v :: r)).map V.tup)) ∧ KeepA σ.sto s, (sortT (v :: r)).length, ⟨by simp, by omega, by simp, ?_⟩, ?_⟩
      · exact hkp.upd hD0
      rintro c j out s okc ⟨rfl, hj, hsD', hkp'⟩
      refine ⟨hj, _, getList_at (vs := (sortT (v :: r)).map V.tup) (items_lst hsD'), ?_⟩
      by_cases hjl : j < (sortT (v :: r)).length
      · have hgj : ((sortT (v :: r)).map V.tup)[j]? = some (.tup (sortT (v :: r))[j]) := by simp [hjl]
        rw [hgj]
        obtain ⟨x', o2, et⟩ := hB.of _ ((sortT_perm (v :: r)).mem_iff.mp (List.getElem_mem hjl))
        dsimp only
        rw [et]
        refine asg_tup rfl ?_
        refine asg_name okc ?_
        refine asg_name okc ?_
        refine asg_name okc ?_
        show TE _ _ _ _ _ _
        (repeat walk_at "m")
        refine ⟨by rw [List.length_map, List.length_take]; have := sortT_length (v :: r); omega, rfl, ?_, by omega, hsD', hkp'⟩
        rw [List.take_add_one, List.getElem?_eq_getElem hjl, et]
        simp [thr]
      · have hgj : ((sortT (v :: r)).map V.tup)[j]? = none := by simp; omega
        rw [hgj]
        intro D2 hD2
        have ej : (sortT (v :: r)).take j = sortT (v :: r) := List.take_of_length_le (by omega)
        rw [ej]
        (repeat walk_at "m")
        have hD20 : σ.sto D2 = none := by
          cases hq : σ.sto D2 with
          | none => rfl
          | some ob => have := hkp' D2 ob hq; rw [hD2] at this; cases this
        refine h D2 _ ?_ (hkp'.upd hD20)
        rw [← finM hB, List.map_map]
        simp [Function.comp_def]
end
section
variable {C : Cx} {k : Nat} {F : FE} {σ : St}
set_option maxHeartbeats 8000000 in
theorem nlg_ok {a asd asu ahf arp l : Addr} {kv : V} {kf : Int → Int} {n : Int} {xs : List Int} {Q : V → St → Prop} (cx : CxOk C) (hcalm : C.exc = none) (gl : C.GT.lookup (Str.ofString "len") = some (.opq (.builtin "len"))) (gr : C.GT.lookup (Str.ofString "range") = some (.opq (.type "range"))) (gv : C.GT.lookup (Str.ofString "reversed") = some (.opq (.type "reversed")))
    (gz : C.GT.lookup (Str.ofString "zip") = some (.opq (.type "zip"))) (gi : C.GT.lookup (Str.ofString "iter") = some (.opq (.builtin "iter"))) (gob : C.GT.lookup (Str.ofString "object") = some (.opq (.type "object"))) (gm : C.GT.lookup (Str.ofString "max") = some (.opq (.builtin "max"))) (gs : C.GT.lookup (Str.ofString "sorted") = some (.opq (.builtin "sorted")))
    (fsd : Fn C PySem.Challenge.pw_dn0024_07 (Str.ofString "_siftdown") asd) (gsd : C.GT.lookup (Str.ofString "_siftdown") = some (.ref asd)) (fsu : Fn C PySem.Challenge.pw_dn0024_07 (Str.ofString "_siftup") asu) (gsu : C.GT.lookup (Str.ofString "_siftup") = some (.ref asu))
    (fhf : Fn C PySem.Challenge.pw_dn0024_07 (Str.ofString "heapify") ahf) (ghf : C.GT.lookup (Str.ofString "heapify") = some (.ref ahf)) (frp : Fn C PySem.Challenge.pw_dn0024_07 (Str.ofString "heapreplace") arp) (grp : C.GT.lookup (Str.ofString "heapreplace") = some (.ref arp))
    (fn : FnD C PySem.Challenge.pw_dn0024_07 (Str.ofString "nlargest") a) (hs : σ.sto l = some (.lst (xs.map V.int))) (h64 : xs.length < 64) (hkv : KeyV C kv kf) (hkf : ∀ ka, kv = .ref ka → IsFun C.GB (.ref ka))
    (h : ∀ D sto', sto' D = some (.lst (((srtB true kf xs).take n.toNat).map V.int)) → KeepA σ.sto sto' → Q (.ref D) ⟨σ.loc, sto'⟩) : CallOK C (k + 9) F (.ref a) [.int n, .ref l, kv] σ Q := by
  obtain ⟨pm, cd, doc, dV, f⟩ := fn
  refine call_ownD cx f rfl ?_
  intro L
  have ok := f.envOk L F.frames
  have hm : maxLen = 1048576 := by decide
  have ifhf : IsFun C.GB (.ref ahf) := let ⟨_, _, _, g⟩ := fhf; g.isFun
  have ifrp : IsFun C.GB (.ref arp) := let ⟨_, _, _, g⟩ := frp; g.isFun
  have hkq : ∀ v, kv ≠ .opq v := fun v e => by rcases hkv with ⟨q, _⟩ | ⟨_, q, _⟩ <;> rw [q] at e <;> cases e
  refine x_cons ?_
  (repeat walk_at "m")
  by_cases h1 : n = 1
  · subst h1
    rw [if_pos (by decide)]
    (repeat walk_at "m")
    refine call_iter (vs := xs.map V.int) (items_lst hs) fun I oI hI hIO => ?_
    have hlI : l ≠ I := ne_new hs hI
    (repeat walk_at "m")
    refine call_obj fun sn hsn => ?_
    obtain ⟨nsI, hsn'⟩ := none_if hsn
    (repeat walk_at "m")
    refine ⟨trivial, ckw_max (by omega) (o := oI) (l := l) (xs := xs) (by dsimp only [St.drop, St.restrict, St.setSto, St.setLoc]; (repeat (first | exact up_eq | assumption | refine up_ne (by first | assumption | exact Ne.symm (by assumption)) ?_))) hIO (items_lst (by have hq := ne_new hs hsn'; dsimp only [St.drop, St.restrict, St.setSto, St.setLoc]; (repeat (first | exact up_eq | assumption | refine up_ne (by first | assumption | exact Ne.symm (by assumption)) ?_)))) hkv (fun hx o' => ?_) fun x o' hfb => ?_⟩
    · (repeat walk_at "m")
      refine cmp_is_same ?_
      (repeat walk_at "m")
      rw [if_pos rfl]
      (repeat walk_at "m")
      refine ⟨by simp [maxLen], fun D hD => ?_⟩
      obtain ⟨_, hD1⟩ := none_if hD
      obtain ⟨_, hD2⟩ := none_if hD1
      obtain ⟨_, hD3⟩ := none_if hD2
      refine h D _ ?_ ((((KeepA.refl.upd hI).upd hsn').upd hI).upd hD3)
      have e0 : srtB true kf xs = [] := List.length_eq_zero_iff.mp (by rw [srtB_length, hx]; rfl)
      rw [e0]; simp
    · (repeat walk_at "m")
      refine cmp_is_int ?_
      (repeat walk_at "m")
      rw [if_neg (by simp)]
      (repeat walk_at "m")
      refine ⟨by simp [maxLen], fun D hD => ?_⟩
      obtain ⟨_, hD1⟩ := none_if hD
      obtain ⟨_, hD2⟩ := none_if hD1
      obtain ⟨_, hD3⟩ := none_if hD2
      refine h D _ ?_ ((((KeepA.refl.upd hI).upd hsn').upd hI).upd hD3)
      have e1 : (srtB true kf xs).take (1 : Int).toNat = [x] := fb_srtB hfb
      rw [e1]; simp
  rw [if_neg (by simpa using h1)]
  (repeat walk_at "m")
  refine s_tryelse ?_
  (repeat walk_at "m")
  refine call_len (vs := xs.map V.int) (items_lst hs) ?_
  (repeat walk_at "m")
  by_cases h2 : (((xs.map V.int).length : Nat) : Int) ≤ n
  · rw [if_pos (by simpa using h2)]
    (repeat walk_at "m")
    refine ⟨trivial, ckw_sorted2 (b := true) (by omega) (xs := xs) (items_lst hs) h64 hkv fun D hD => ?_⟩
    (repeat walk_at "m")
    refine ⟨D, _, rfl, by simp [O.items]; rfl, by simp, Nat.le_trans (pickV_len_run ..) (by simp [srtB_length]; omega), fun D2 hD2 => ?_⟩
    rw [pickV_upto _ (by omega), ← List.map_take]
    obtain ⟨_, hD2'⟩ := none_if hD2
    exact h D2 _ (by simp) ((KeepA.refl.upd hD).upd hD2')
  rw [if_neg (by simpa using h2)]
  rw [List.length_map] at h2
  (repeat walk_at "m")
  refine cmp_is_none hkq ?_
  (repeat walk_at "m")
  rcases id hkv with ⟨rfl, rfl⟩ | ⟨ka, rfl, kc⟩
  · rw [if_pos (show isNoneV V.none = true from rfl)]
    (repeat walk_at "m")
    refine call_iter (vs := xs.map V.int) (items_lst hs) fun I oI hI hIO => ?_
    have hlI : l ≠ I := ne_new hs hI
    (repeat walk_at "m")
    refine s_compzip ok [] [] (fun x v e => by simp at e) ?_
    (repeat walk_at "m")
    refine call_range3 (by decide) (pylong_m1 _) ?_
    (repeat walk_at "m")
    refine ⟨rfl, 0, -n, -1, I, l, oI, xs, n.toNat, fun j x => [x, 0 + (j : Int) * -1], rfl, by simp [St.setLoc], hIO, by simp [St.setSto, St.setLoc, hlI, hs, O.items], rangeSize_down n, by omega, by omega, free0, fun c j x okc hj hx => ?_, fun D o' hIO' hD => ?_⟩
    · refine asg_tup rfl ?_
      refine asg_name okc ?_
      refine asg_name okc ?_
      show TEs _ _ _ _ _ _ _
      (repeat walk_at "m")
      exact ⟨rfl, by simp [maxLen]⟩
    have hD0 := (none_if hD).2
    have hDI := (none_if hD).1
    have hlD : l ≠ D := ne_new hs hD0
    (repeat walk_at "m")
    refine truth_list (vs := (zipG (fun j x => [x, 0 + (j : Int) * -1]) xs n.toNat).map V.tup) (items_lst up_eq) ?_
    have hzl := zipG_length (fun j x => [x, 0 + (j : Int) * -1]) (xs := xs) (n := n.toNat) (by omega)
    by_cases h3 : n ≤ 0
    · have e0 : zipG (fun j x => [x, 0 + (j : Int) * -1]) xs n.toNat = [] := List.length_eq_zero_iff.mp (by omega)
      rw [e0]
      rw [if_pos (by simp)]
      (repeat walk_at "m")
      refine h D _ ?_ (((KeepA.refl.upd hI).upd hI).upd hD0)
      rw [show n.toNat = 0 by omega]
      simp [St.setSto, St.setLoc, e0]
    rw [if_neg (by
      cases hz : zipG (fun j x => [x, 0 + (j : Int) * -1]) xs n.toNat with
      | nil => rw [hz] at hzl; simp at hzl; omega
      | cons _ _ => simp)]
    (repeat walk_at "m")
    obtain ⟨H, eH, pH, hh⟩ := heapifyT (zipG (fun j x => [x, 0 + (j : Int) * -1]) xs n.toNat)
    refine ⟨ifhf, heapify_ok (vs := (zipG (fun j x => [x, 0 + (j : Int) * -1]) xs n.toNat).map V.tup) cx gl gr gv fsd gsd fsu gsu fhf ord_tup (fun _ _ _ => trivial) trivial up_eq (by rw [List.length_map, hzl]; omega) (tups_isT _) ?_⟩
    rw [eH]
    have hB := start_min mk2_min (by omega) pH
    obtain ⟨v, r, rfl⟩ := hB.ne (by omega)
    (repeat walk_at "m")
    refine item_at (vs := (v :: r).map V.tup) (v := .tup v) (items_lst up_eq) (by omega) (by simp) ?_
    (repeat walk_at "m")
    obtain ⟨xv, ov, ev⟩ := hB.of v (.head _)
    refine item_tup (xs := v) (x := v.getD 0 0) (by omega) (by rw [ev]; rfl) (by decide) ?_
    (repeat walk_at "m")
    refine s_forIN [Str.ofString "result", Str.ofString "top", Str.ofString "order", Str.ofString "_heapreplace"] ?_
    (repeat walk_at "m")
    refine ⟨I, l, o', n.toNat, rfl, by dsimp only [St.drop, St.restrict, St.setSto, St.setLoc]; (repeat (first | exact up_eq | assumption | refine up_ne (by first | assumption | exact Ne.symm (by assumption)) ?_)), hIO', ?_⟩
    refine ⟨fun i σ' => ∃ v r o sto', σ' = ⟨[(Str.ofString "result", .ref D), (Str.ofString "top", .int (v.getD 0 0)), (Str.ofString "order", .int o), (Str.ofString "_heapreplace", .ref arp)], sto'⟩ ∧ sto' l = some (.lst (xs.map V.int)) ∧ sto' D = some (.lst ((v :: r).map V.tup)) ∧ KeepA σ.sto sto' ∧
        Heapd ltV 0 ((v :: r).map V.tup) ∧ BestN (fun x => x) (fun t => t.getD 0 0) (fun x o => [x, o]) n.toNat (xs.take i) o (v :: r) ∧ i ≤ xs.length, xs.length, ?_, ?_⟩
    · refine ⟨v, r, -n, _, by first | rfl | (refine st_ext ?_ rfl; rfl), ?_, ?_, ?_, hh, by rw [Int.toNat_of_nonneg (by omega)] at hB; exact hB, by omega⟩
      · dsimp only [St.drop, St.restrict, St.setSto, St.setLoc]; (repeat (first | exact up_eq | assumption | refine up_ne (by first | assumption | exact Ne.symm (by assumption)) ?_))
      · dsimp only [St.drop, St.restrict, St.setSto, St.setLoc]; (repeat (first | exact up_eq | assumption | refine up_ne (by first | assumption | exact Ne.symm (by assumption)) ?_))
      · intro b ob hb
        have b1 : b ≠ I := ne_new hb hI
        have b2 : b ≠ D := ne_new hb hD0
        dsimp only [St.drop, St.restrict, St.setSto, St.setLoc]; (repeat (first | exact up_eq | assumption | refine up_ne (by first | assumption | exact Ne.symm (by assumption)) ?_))
    clear hh hB ev pH eH hzl
    rintro i σ' ⟨v, r, o, sto', rfl, hsl, hsD, hkp, hh, hB, hi⟩
    refine ⟨hi, xs.map V.int, items_lst hsl, ?_⟩
    by_cases hil : i < xs.length
    · have hget : (xs.map V.int)[i]? = some (.int xs[i]) := by simp [hil]
      rw [hget]
      refine asg_name ok ?_
      (repeat walk_at "m")
      by_cases hlt : v.getD 0 0 < xs[i]
      · rw [if_pos (by simpa using hlt)]
        (repeat walk_at "m")
        refine ⟨[xs[i], o], rfl, by simp [maxLen], ?_⟩
        (repeat walk_at "m")
        obtain ⟨H', eH', hh', hB'⟩ := step_min mk2_min hh hB hlt
        refine ⟨ifrp, replace_ok (v := .tup v) (x := .tup [xs[i], o]) (r := r.map V.tup) cx gl fsd gsd fsu gsu frp ord_tup (fun _ _ _ => trivial) trivial (d := D) hsD (tups_isT (v :: r)) ⟨_, rfl⟩ ?_⟩
        rw [eH']
        obtain ⟨v', r', rfl⟩ := hB'.ne (by omega)
        (repeat walk_at "m")
        refine s_asgtup ?_
        (repeat walk_at "m")
        refine item_at (vs := (v' :: r').map V.tup) (v := .tup v') (items_lst up_eq) (by omega) (by simp) ?_
        obtain ⟨xv, ov, ev⟩ := hB'.of v' (.head _)
        subst ev
        refine asg_tup rfl ?_
        refine asg_name ok ?_
        refine asg_name ok ?_
        show TX _ _ _ _ _ _
        (repeat walk_at "m")
        refine s_aug ok rfl ?_
        (repeat walk_at "m")
        refine ibin_sub ?_
        (repeat walk_at "m")
        refine ⟨_, r', o - 1, _, by first | rfl | (refine st_ext ?_ rfl; rfl), ?_, ?_, ?_, hh', by rw [take_snoc hil]; exact hB', by omega⟩
        · dsimp only [St.drop, St.restrict, St.setSto, St.setLoc]; (repeat (first | exact up_eq | assumption | refine up_ne (by first | assumption | exact Ne.symm (by assumption)) ?_))
        · dsimp only [St.drop, St.restrict, St.setSto, St.setLoc]; (repeat (first | exact up_eq | assumption | refine up_ne (by first | assumption | exact Ne.symm (by assumption)) ?_))
        · intro b ob hb
          have b2 : b ≠ D := ne_new hb hD0
          have hkb := hkp b ob hb; dsimp only [St.drop, St.restrict, St.setSto, St.setLoc]; (repeat (first | exact up_eq | assumption | refine up_ne (by first | assumption | exact Ne.symm (by assumption)) ?_))
      · rw [if_neg (by simpa using hlt)]
        (repeat walk_at "m")
        exact ⟨v, r, o, _, rfl, hsl, hsD, hkp, hh, by rw [take_snoc hil]; exact skip_min mk2_min hh hB hlt, by omega⟩
    · have hget : (xs.map V.int)[i]? = none := by simp; omega
      rw [hget]
      have ei : xs.take i = xs := List.take_of_length_le (by omega)
      rw [ei] at hB
      (repeat walk_at "m")
      refine e_methkw slot_list_sort rfl ?_
      (repeat walk_at "m")
      refine ⟨D, _, rfl, hsD, ?_⟩
      (repeat walk_at "m")
      have hlen := hB.len
      refine ckw_sort (b := true) hsD (fun t ht e => by obtain ⟨x', o', q⟩ := hB.of t ht; rw [q] at e; cases e) (by omega) (by omega) ?_
      (repeat walk_at "m")
      refine e_comp ok [] [] (titer_of ?_)
      (repeat walk_at "m")
      refine iter_list (vs := (katRev true (sortT (v :: r))).map V.tup) (items_lst up_eq) ?_
      refine ⟨free0, fun i out s => out = (((katRev true (sortT (v :: r))).take i).map fun t => V.int (t.getD 0 0)) ∧ i ≤ (katRev true (sortT (v :: r))).length ∧ s D = some (.lst ((katRev true (sortT (v :: r))).map V.tup)) ∧ KeepA σ.sto s, (katRev true (sortT (v :: r))).length, ⟨by simp, by omega, by simp, ?_⟩, ?_⟩
      · exact hkp.upd hD0
      rintro c j out s okc ⟨rfl, hj, hsD', hkp'⟩
      refine ⟨hj, _, getList_at (vs := (katRev true (sortT (v :: r))).map V.tup) (items_lst hsD'), ?_⟩
      by_cases hjl : j < (katRev true (sortT (v :: r))).length
      · have hgj : ((katRev true (sortT (v :: r))).map V.tup)[j]? = some (.tup (katRev true (sortT (v :: r)))[j]) := by simp [hjl]
        rw [hgj]
        obtain ⟨x', o2, et⟩ := hB.of _ ((ksort_perm (v :: r)).mem_iff.mp (List.getElem_mem hjl))
        dsimp only
        rw [et]
        refine asg_tup rfl ?_
        refine asg_name okc ?_
        refine asg_name okc ?_
        show TE _ _ _ _ _ _
        (repeat walk_at "m")
        refine ⟨by rw [List.length_map, List.length_take]; have := ksort_length (v :: r); omega, rfl, ?_, by omega, hsD', hkp'⟩
        rw [List.take_add_one, List.getElem?_eq_getElem hjl, et]
        simp
      · have hgj : ((katRev true (sortT (v :: r))).map V.tup)[j]? = none := by simp; omega
        rw [hgj]
        intro D2 hD2
        have ej : (katRev true (sortT (v :: r))).take j = katRev true (sortT (v :: r)) := List.take_of_length_le (by omega)
        rw [ej]
        (repeat walk_at "m")
        have hD20 : σ.sto D2 = none := by
          cases hq : σ.sto D2 with
          | none => rfl
          | some ob => have := hkp' D2 ob hq; rw [hD2] at this; cases this
        refine h D2 _ ?_ (hkp'.upd hD20)
        rw [← fin_min mk2_min hB, List.map_map]
        simp [Function.comp_def]
  · rw [if_neg (show ¬ isNoneV (V.ref ka) = true from Bool.false_ne_true)]
    (repeat walk_at "m")
    refine call_iter (vs := xs.map V.int) (items_lst hs) fun I oI hI hIO => ?_
    have hlI : l ≠ I := ne_new hs hI
    (repeat walk_at "m")
    refine s_compzip (hcl := fun p hp => by rw [List.mem_singleton.mp hp]; exact .head _) (hap := List.pairwise_singleton _ _) ok [(Str.ofString "key", L + 1)] [(Str.ofString "key", .ref ka)] (fun x v e => by
      rw [List.lookup_cons] at e
      split at e
      · cases e; exact ⟨ka, rfl⟩
      · simp at e) ?_
    (repeat walk_at "m")
    refine call_range3 (by decide) (pylong_m1 _) ?_
    (repeat walk_at "m")
    refine ⟨rfl, 0, -n, -1, I, l, oI, xs, n.toNat, fun j x => [kf x, 0 + (j : Int) * -1, x], rfl, by simp [St.setLoc], hIO, by simp [St.setSto, St.setLoc, hlI, hs, O.items], rangeSize_down n, by omega, by omega, free1 ⟨rfl, .inl rfl, .inl rfl, rfl⟩, fun c j x okc hj hx => ?_, fun D o' hIO' hD => ?_⟩
    · refine asg_tup rfl ?_
      refine asg_name okc ?_
      refine asg_name okc ?_
      show TEs _ _ _ _ _ _ _
      (repeat walk_at "m")
      refine ⟨hkf ka rfl, call_key (by omega) kc ?_⟩
      (repeat walk_at "m")
      exact ⟨rfl, by simp [maxLen]⟩
    have hD0 := (none_if hD).2
    have hDI := (none_if hD).1
    have hlD : l ≠ D := ne_new hs hD0
    (repeat walk_at "m")
    refine truth_list (vs := (zipG (fun j x => [kf x, 0 + (j : Int) * -1, x]) xs n.toNat).map V.tup) (items_lst up_eq) ?_
    have hzl := zipG_length (fun j x => [kf x, 0 + (j : Int) * -1, x]) (xs := xs) (n := n.toNat) (by omega)
    by_cases h3 : n ≤ 0
    · have e0 : zipG (fun j x => [kf x, 0 + (j : Int) * -1, x]) xs n.toNat = [] := List.length_eq_zero_iff.mp (by omega)
      rw [e0]
      rw [if_pos (by simp)]
      (repeat walk_at "m")
      refine h D _ ?_ (((KeepA.refl.upd hI).upd hI).upd hD0)
      rw [show n.toNat = 0 by omega]
      simp [St.setSto, St.setLoc, e0]
    rw [if_neg (by
      cases hz : zipG (fun j x => [kf x, 0 + (j : Int) * -1, x]) xs n.toNat with
      | nil => rw [hz] at hzl; simp at hzl; omega
      | cons _ _ => simp)]
    (repeat walk_at "m")
    obtain ⟨H, eH, pH, hh⟩ := heapifyT (zipG (fun j x => [kf x, 0 + (j : Int) * -1, x]) xs n.toNat)
    refine ⟨ifhf, heapify_ok (vs := (zipG (fun j x => [kf x, 0 + (j : Int) * -1, x]) xs n.toNat).map V.tup) cx gl gr gv fsd gsd fsu gsu fhf ord_tup (fun _ _ _ => trivial) trivial up_eq (by rw [List.length_map, hzl]; omega) (tups_isT _) ?_⟩
    rw [eH]
    have hB := start_min (mk3_min kf) (by omega) pH
    obtain ⟨v, r, rfl⟩ := hB.ne (by omega)
    (repeat walk_at "m")
    refine item_at (vs := (v :: r).map V.tup) (v := .tup v) (items_lst up_eq) (by omega) (by simp) ?_
    (repeat walk_at "m")
    obtain ⟨xv, ov, ev⟩ := hB.of v (.head _)
    refine item_tup (xs := v) (x := v.getD 0 0) (by omega) (by rw [ev]; rfl) (by decide) ?_
    (repeat walk_at "m")
    refine s_forIN [Str.ofString "key", Str.ofString "result", Str.ofString "top", Str.ofString "order", Str.ofString "_heapreplace"] ?_
    (repeat walk_at "m")
    refine ⟨I, l, o', n.toNat, rfl, by dsimp only [St.drop, St.restrict, St.setSto, St.setLoc]; (repeat (first | exact up_eq | assumption | refine up_ne (by first | assumption | exact Ne.symm (by assumption)) ?_)), hIO', ?_⟩
    refine ⟨fun i σ' => ∃ v r o sto', σ' = ⟨[(Str.ofString "key", .ref ka), (Str.ofString "result", .ref D), (Str.ofString "top", .int (v.getD 0 0)), (Str.ofString "order", .int o), (Str.ofString "_heapreplace", .ref arp)], sto'⟩ ∧ sto' l = some (.lst (xs.map V.int)) ∧ sto' D = some (.lst ((v :: r).map V.tup)) ∧ KeepA σ.sto sto' ∧
        Heapd ltV 0 ((v :: r).map V.tup) ∧ BestN kf thr (fun x o => [kf x, o, x]) n.toNat (xs.take i) o (v :: r) ∧ i ≤ xs.length, xs.length, ?_, ?_⟩
    · refine ⟨v, r, -n, _, by first | rfl | (refine st_ext ?_ rfl; rfl), ?_, ?_, ?_, hh, by rw [Int.toNat_of_nonneg (by omega)] at hB; exact hB, by omega⟩
      · dsimp only [St.drop, St.restrict, St.setSto, St.setLoc]; (repeat (first | exact up_eq | assumption | refine up_ne (by first | assumption | exact Ne.symm (by assumption)) ?_))
      · dsimp only [St.drop, St.restrict, St.setSto, St.setLoc]; (repeat (first | exact up_eq | assumption | refine up_ne (by first | assumption | exact Ne.symm (by assumption)) ?_))
      · intro b ob hb
        have b1 : b ≠ I := ne_new hb hI
        have b2 : b ≠ D := ne_new hb hD0
        dsimp only [St.drop, St.restrict, St.setSto, St.setLoc]; (repeat (first | exact up_eq | assumption | refine up_ne (by first | assumption | exact Ne.symm (by assumption)) ?_))
    clear hh hB ev pH eH hzl
    rintro i σ' ⟨v, r, o, sto', rfl, hsl, hsD, hkp, hh, hB, hi⟩
    refine ⟨hi, xs.map V.int, items_lst hsl, ?_⟩
    by_cases hil : i < xs.length
    · have hget : (xs.map V.int)[i]? = some (.int xs[i]) := by simp [hil]
      rw [hget]
      refine asg_name ok ?_
      (repeat walk_at "m")
      refine ⟨hkf ka rfl, call_key (by omega) kc ?_⟩
      (repeat walk_at "m")
      by_cases hlt : v.getD 0 0 < kf xs[i]
      · rw [if_pos (by simpa using hlt)]
        (repeat walk_at "m")
        refine ⟨[kf xs[i], o, xs[i]], rfl, by simp [maxLen], ?_⟩
        (repeat walk_at "m")
        obtain ⟨H', eH', hh', hB'⟩ := step_min (mk3_min kf) hh hB hlt
        refine ⟨ifrp, replace_ok (v := .tup v) (x := .tup [kf xs[i], o, xs[i]]) (r := r.map V.tup) cx gl fsd gsd fsu gsu frp ord_tup (fun _ _ _ => trivial) trivial (d := D) hsD (tups_isT (v :: r)) ⟨_, rfl⟩ ?_⟩
        rw [eH']
        obtain ⟨v', r', rfl⟩ := hB'.ne (by omega)
        (repeat walk_at "m")
        refine s_asgtup ?_
        (repeat walk_at "m")
        refine item_at (vs := (v' :: r').map V.tup) (v := .tup v') (items_lst up_eq) (by omega) (by simp) ?_
        obtain ⟨xv, ov, ev⟩ := hB'.of v' (.head _)
        subst ev
        refine asg_tup rfl ?_
        refine asg_name ok ?_
        refine asg_name ok ?_
        refine asg_name ok ?_
        show TX _ _ _ _ _ _
        (repeat walk_at "m")
        refine s_aug ok rfl ?_
        (repeat walk_at "m")
        refine ibin_sub ?_
        (repeat walk_at "m")
        refine ⟨_, r', o - 1, _, by first | rfl | (refine st_ext ?_ rfl; rfl), ?_, ?_, ?_, hh', by rw [take_snoc hil]; exact hB', by omega⟩
        · dsimp only [St.drop, St.restrict, St.setSto, St.setLoc]; (repeat (first | exact up_eq | assumption | refine up_ne (by first | assumption | exact Ne.symm (by assumption)) ?_))
        · dsimp only [St.drop, St.restrict, St.setSto, St.setLoc]; (repeat (first | exact up_eq | assumption | refine up_ne (by first | assumption | exact Ne.symm (by assumption)) ?_))
        · intro b ob hb
          have b2 : b ≠ D := ne_new hb hD0
          have hkb := hkp b ob hb; dsimp only [St.drop, St.restrict, St.setSto, St.setLoc]; (repeat (first | exact up_eq | assumption | refine up_ne (by first | assumption | exact Ne.symm (by assumption)) ?_))
      · rw [if_neg (by simpa using hlt)]
        (repeat walk_at "m")
        exact ⟨v, r, o, _, rfl, hsl, hsD, hkp, hh, by rw [take_snoc hil]; exact skip_min (mk3_min kf) hh hB hlt, by omega⟩
    · have hget : (xs.map V.int)[i]? = none := by simp; omega
      rw [hget]
      have ei : xs.take i = xs := List.take_of_length_le (by omega)
      rw [ei] at hB
      (repeat walk_at "m")
      refine e_methkw slot_list_sort rfl ?_
      (repeat walk_at "m")
      refine ⟨D, _, rfl, hsD, ?_⟩
      (repeat walk_at "m")
      have hlen := hB.len
      refine ckw_sort (b := true) hsD (fun t ht e => by obtain ⟨x', o', q⟩ := hB.of t ht; rw [q] at e; cases e) (by omega) (by omega) ?_
      (repeat walk_at "m")
      refine e_comp ok [] [] (titer_of ?_)
      (repeat walk_at "m")
      refine iter_list (vs := (katRev true (sortT (v :: r))).map V.tup) (items_lst up_eq) ?_
      refine ⟨free0, fun i out s => out = (((katRev true (sortT (v :: r))).take i).map fun t => V.int (thr t)) ∧ i ≤ (katRev true (sortT (v :: r))).length ∧ s D = some (.lst ((katRev true (sortT (v :: r))).map V.tup)) ∧ KeepA σ.sto s, (katRev true (sortT (v :: r))).length, ⟨by simp, by omega, by simp, ?_⟩, ?_⟩
      · exact hkp.upd hD0
      rintro c j out s okc ⟨rfl, hj, hsD', hkp'⟩
      refine ⟨hj, _, getList_at (vs := (katRev true (sortT (v :: r))).map V.tup) (items_lst hsD'), ?_⟩
      by_cases hjl : j < (katRev true (sortT (v :: r))).length
      · have hgj : ((katRev true (sortT (v :: r))).map V.tup)[j]? = some (.tup (katRev true (sortT (v :: r)))[j]) := by simp [hjl]
        rw [hgj]
        obtain ⟨x', o2, et⟩ := hB.of _ ((ksort_perm (v :: r)).mem_iff.mp (List.getElem_mem hjl))
        dsimp only
        rw [et]
        refine asg_tup rfl ?_
        refine asg_name okc ?_
        refine asg_name okc ?_
        refine asg_name okc ?_
        show TE _ _ _ _ _ _
        (repeat walk_at "m")
        refine ⟨by rw [List.length_map, List.length_take]; have := ksort_length (v :: r); omega, rfl, ?_, by omega, hsD', hkp'⟩
        rw [List.take_add_one, List.getElem?_eq_getElem hjl, et]
        simp [thr]
      · have hgj : ((katRev true (sortT (v :: r))).map V.tup)[j]? = none := by simp; omega
        rw [hgj]
        intro D2 hD2
        have ej : (katRev true (sortT (v :: r))).take j = katRev true (sortT (v :: r)) := List.take_of_length_le (by omega)
        rw [ej]
        (repeat walk_at "m")
        have hD20 : σ.sto D2 = none := by
          cases hq : σ.sto D2 with
          | none => rfl
          | some ob => have := hkp' D2 ob hq; rw [hD2] at this; cases this
        refine h D2 _ ?_ (hkp'.upd hD20)
        rw [← fin_min (mk3_min kf) hB, List.map_map]
        simp [Function.comp_def]
end
section
variable {C : Cx} {k : Nat}
/-- what nsmallest and nlargest do -/
noncomputable def Pick (C : Cx) (k : Nat) (a : Addr) (b : Bool) : Prop := ∀ (F : FE) (σ : St) (l : Addr) (kv : V) (kf : Int → Int) (n : Int) (xs : List Int) (Q : V → St → Prop), σ.sto l = some (.lst (xs.map V.int)) → xs.length < 64 → KeyV C kv kf → (∀ ka, kv = .ref ka → IsFun C.GB (.ref ka)) →
  (∀ D sto', sto' D = some (.lst (((srtB b kf xs).take n.toNat).map V.int)) → KeepA σ.sto sto' → Q (.ref D) ⟨σ.loc, sto'⟩) → CallOK C k F (.ref a) [.int n, .ref l, kv] σ Q
theorem take_size (b : Bool) (kf : Int → Int) (xs : List Int) (n : Int) : (srtB b kf xs).take (min (max 0 n) (xs.length : Int)).toNat = (srtB b kf xs).take n.toNat := by
  have hl := srtB_length b kf xs
  rcases Int.le_total n 0 with h0 | h0
  · rw [Int.max_eq_left h0, Int.min_eq_left (Int.natCast_nonneg _), Int.toNat_of_nonpos h0]; rfl
  · rw [Int.max_eq_right h0]
    rcases Int.le_total n (xs.length : Int) with h | h
    · rw [Int.min_eq_left h]
    · rw [Int.min_eq_right h, Int.toNat_natCast, List.take_of_length_le (Nat.le_of_eq hl), List.take_of_length_le (hl.symm ▸ (Int.le_toNat h0).mpr h)]
set_option maxHeartbeats 8000000 in
theorem law_rest {a ans anl ka dr : Addr} {md m : Int} {row : List Int} (cx : CxOk C) (hcalm : C.exc = none) (gl : C.GT.lookup (Str.ofString "len") = some (.opq (.builtin "len")))
    (gli : C.GT.lookup (Str.ofString "list") = some (.opq (.type "list"))) (gm : C.GT.lookup (Str.ofString "min") = some (.opq (.builtin "min"))) (gx : C.GT.lookup (Str.ofString "max") = some (.opq (.builtin "max"))) (gs : C.GT.lookup (Str.ofString "sorted") = some (.opq (.builtin "sorted")))
    (gns : C.GT.lookup (Str.ofString "nsmallest") = some (.ref ans)) (gnl : C.GT.lookup (Str.ofString "nlargest") = some (.ref anl)) (ifns : IsFun C.GB (.ref ans)) (ifnl : IsFun C.GB (.ref anl)) (pks : Pick C (k + 12) ans false) (pkl : Pick C (k + 12) anl true)
    (kc : KeyCall C ka (fun y => y.fmod md)) (ifk : IsFun C.GB (.ref ka)) (hx : row.length < 64)
    {pm cd doc : Value} {L : Addr} {own : List Addr} {fr : List Env} (ok : EnvOk (callEnvC (fdOf (stOf PySem.Challenge.pw_dn0024_07 (Str.ofString "law")) pm cd doc) L a))
    {s : Addr → Option O} (hsr : s dr = some (.lst (row.map V.int))) :
    TX C (k + 12) ⟨callEnvC (fdOf (stOf PySem.Challenge.pw_dn0024_07 (Str.ofString "law")) pm cd doc) L a, own, fr⟩ ((bodyOf (stOf PySem.Challenge.pw_dn0024_07 (Str.ofString "law"))).drop 4)
      ⟨[(Str.ofString "many", .int m), (Str.ofString "row", .ref dr), (Str.ofString "_law_key", .ref ka)], s⟩ fun fl _ => fl = .ret (.bool true) := by
  have hm : maxLen = 1048576 := by decide
  refine x_cons ?_
  (repeat walk_at "m")
  refine call_max2 ?_
  (repeat walk_at "m")
  refine call_len (vs := row.map V.int) (by simp [hsr, O.items]) ?_
  rw [List.length_map]
  (repeat walk_at "m")
  refine call_min2 ?_
  (repeat walk_at "m")
  refine s_forN [Str.ofString "many", Str.ofString "row", Str.ofString "_law_key", Str.ofString "size"] (titer_of (e_vt ?_))
  refine es_cons (e_vt ?_)
  (repeat walk_at "v")
  refine ⟨by simp [maxLen], ?_⟩
  refine es_cons (e_vt ?_)
  (repeat walk_at "v")
  refine ⟨by simp [maxLen], ?_⟩
  (repeat walk_at "v")
  refine ⟨by simp [maxLen], ?_⟩
  refine iter_vt ?_
  generalize hsz : min (max 0 m) (row.length : Int) = sz
  refine ⟨fun i σ' => ∃ s, σ' = ⟨[(Str.ofString "many", .int m), (Str.ofString "row", .ref dr), (Str.ofString "_law_key", .ref ka), (Str.ofString "size", .int sz)], s⟩ ∧ s dr = some (.lst (row.map V.int)) ∧ i ≤ 2, 2, ⟨_, by first | rfl | (refine st_ext ?_ rfl; rfl), hsr, by omega⟩, ?_⟩
  clear hsr
  rintro i σ' ⟨s, rfl, hsr, hi⟩
  refine ⟨hi, _, rfl, ?_⟩
  have hus : (i < 2 ∧ ∃ w b, ([V.vt [.ref ans, .bool false], V.vt [.ref anl, .bool true]] : List V)[i]? = some (.vt [.ref w, .bool b]) ∧ Pick C (k + 12) w b ∧ IsFun C.GB (.ref w)) ∨ ([V.vt [.ref ans, .bool false], V.vt [.ref anl, .bool true]] : List V)[i]? = none := by
    match i, hi with
    | 0, _ => exact .inl ⟨by omega, ans, false, rfl, pks, ifns⟩
    | 1, _ => exact .inl ⟨by omega, anl, true, rfl, pkl, ifnl⟩
    | 2, _ => exact .inr rfl
  rcases hus with ⟨hi2, w, b, e, pk, ifw⟩ | e
  · rw [e]
    refine asg_vt rfl ?_
    refine asg_name ok ?_
    refine asg_name ok ?_
    show TX _ _ _ _ _ _
    refine x_cons ?_
    refine s_forN [Str.ofString "many", Str.ofString "row", Str.ofString "_law_key", Str.ofString "size", Str.ofString "what", Str.ofString "turned"] (titer_of (e_vt ?_))
    (repeat walk_at "v")
    refine ⟨by simp [maxLen], ?_⟩
    refine iter_vt ?_
    refine ⟨fun j σ' => ∃ s, σ' = ⟨[(Str.ofString "many", .int m), (Str.ofString "row", .ref dr), (Str.ofString "_law_key", .ref ka), (Str.ofString "size", .int sz), (Str.ofString "what", .ref w), (Str.ofString "turned", .bool b)], s⟩ ∧ s dr = some (.lst (row.map V.int)) ∧ j ≤ 2, 2, ⟨_, by first | rfl | (refine st_ext ?_ rfl; rfl), hsr, by omega⟩, ?_⟩
    clear hsr
    rintro j σ' ⟨s, rfl, hsr, hj⟩
    refine ⟨hj, _, rfl, ?_⟩
    have hks : (j < 2 ∧ ∃ kv kf, ([V.none, V.ref ka] : List V)[j]? = some kv ∧ KeyV C kv kf ∧ ∀ ka, kv = .ref ka → IsFun C.GB (.ref ka)) ∨ ([V.none, V.ref ka] : List V)[j]? = none := by
      match j, hj with
      | 0, _ => exact .inl ⟨by omega, .none, _, rfl, .inl ⟨rfl, rfl⟩, fun _ q => by cases q⟩
      | 1, _ => exact .inl ⟨by omega, .ref ka, _, rfl, .inr ⟨ka, rfl, kc⟩, fun _ q => by cases q; exact ifk⟩
      | 2, _ => exact .inr rfl
    rcases hks with ⟨hj2, kv, kf, e', hkv, hkf⟩ | e'
    · rw [e']
      refine asg_name ok ?_
      show TX _ _ _ _ _ _
      (repeat walk_at "m")
      refine ⟨trivial, ckw_sorted2 (by omega) (xs := row) (by simp [hsr, O.items, St.setLoc]) hx hkv fun D hD => ?_⟩
      (repeat walk_at "m")
      refine ⟨D, _, rfl, by simp [O.items, St.setLoc, St.setSto]; rfl, by simp, Nat.le_trans (pickV_len_run ..) (by simp [srtB_length]; omega), fun D2 hD2 => ?_⟩
      rw [pickV_upto _ (by omega), ← List.map_take, ← hsz, take_size]
      have hD' : s D = none := hD
      obtain ⟨n2, hD2'⟩ := none_if hD2
      have n1 : dr ≠ D := ne_new hsr hD'
      have n3 : dr ≠ D2 := ne_new hsr hD2'
      (repeat walk_at "m")
      refine call_list_list (vs := row.map V.int) (by simp [St.setSto, St.setLoc, n1, n3, hsr, O.items]) fun D3 hD3 => ?_
      obtain ⟨n4, hD3'⟩ := none_if hD3
      obtain ⟨n5, hD3''⟩ := none_if hD3'
      have n6 : dr ≠ D3 := ne_new hsr hD3''
      (repeat walk_at "m")
      refine ⟨ifw, pk _ _ D3 kv kf m row _ (by simp [St.setSto, St.setLoc]) hx hkv hkf fun D4 sto' hD4 kp => ?_⟩
      have q2 : sto' D2 = some (.lst (((srtB b kf row).take m.toNat).map V.int)) := kp _ _ (by simp [St.setSto, St.setLoc, Ne.symm n4])
      have q3 : sto' D3 = some (.lst (row.map V.int)) := kp _ _ (by simp [St.setSto, St.setLoc])
      have q1 : sto' dr = some (.lst (row.map V.int)) := kp _ _ (by simp [St.setSto, St.setLoc, n1, n3, n6, hsr])
      (repeat walk_at "m")
      refine cmp_ne_ints (by omega) (xs := (srtB b kf row).take m.toNat) (ys := (srtB b kf row).take m.toNat) (by simp [hD4, O.items]) (by simp [q2, O.items]) ?_
      (repeat walk_at "m")
      rw [if_neg (by simp)]
      (repeat walk_at "m")
      refine cmp_ne_ints (by omega) (xs := row) (ys := row) (by simp [q3, O.items]) (by simp [q1, O.items]) ?_
      (repeat walk_at "m")
      rw [if_neg (by simp)]
      (repeat walk_at "m")
      exact ⟨sto', by first | rfl | (refine st_ext ?_ rfl; rfl), q1, by omega⟩
    · rw [e']
      (repeat walk_at "m")
      exact ⟨s, by first | rfl | (refine st_ext ?_ rfl; rfl), hsr, by omega⟩
  · rw [e]
    (repeat walk_at "m")
    rfl
end
section
variable {C : Cx} {k : Nat}
theorem first2 (xs : List Int) : (xs.map V.int ++ [V.int 0, V.int 0]).take 2 = [.int ((xs ++ [0, 0]).getD 0 0), .int ((xs ++ [0, 0]).getD 1 0)] := by
  match xs with
  | [] => rfl
  | [x] => rfl
  | x :: y :: r => simp
set_option maxHeartbeats 8000000 in
theorem law_walk {a asd asu ahf arp asdm asum ahfm arpm ans anl sc P c : Addr} {xs : List Int} (cx : CxOk C) (hcalm : C.exc = none) (gl : C.GT.lookup (Str.ofString "len") = some (.opq (.builtin "len"))) (gr : C.GT.lookup (Str.ofString "range") = some (.opq (.type "range"))) (gv : C.GT.lookup (Str.ofString "reversed") = some (.opq (.type "reversed")))
    (gz : C.GT.lookup (Str.ofString "zip") = some (.opq (.type "zip"))) (gi : C.GT.lookup (Str.ofString "iter") = some (.opq (.builtin "iter"))) (gob : C.GT.lookup (Str.ofString "object") = some (.opq (.type "object"))) (gm : C.GT.lookup (Str.ofString "min") = some (.opq (.builtin "min"))) (gx : C.GT.lookup (Str.ofString "max") = some (.opq (.builtin "max"))) (gs : C.GT.lookup (Str.ofString "sorted") = some (.opq (.builtin "sorted")))
    (gli : C.GT.lookup (Str.ofString "list") = some (.opq (.type "list")))
    (fsd : Fn C PySem.Challenge.pw_dn0024_07 (Str.ofString "_siftdown") asd) (gsd : C.GT.lookup (Str.ofString "_siftdown") = some (.ref asd)) (fsu : Fn C PySem.Challenge.pw_dn0024_07 (Str.ofString "_siftup") asu) (gsu : C.GT.lookup (Str.ofString "_siftup") = some (.ref asu))
    (fhf : Fn C PySem.Challenge.pw_dn0024_07 (Str.ofString "heapify") ahf) (ghf : C.GT.lookup (Str.ofString "heapify") = some (.ref ahf)) (frp : Fn C PySem.Challenge.pw_dn0024_07 (Str.ofString "heapreplace") arp) (grp : C.GT.lookup (Str.ofString "heapreplace") = some (.ref arp))
    (fsdm : Fn C PySem.Challenge.pw_dn0024_07 (Str.ofString "_siftdown_max") asdm) (gsdm : C.GT.lookup (Str.ofString "_siftdown_max") = some (.ref asdm)) (fsum : Fn C PySem.Challenge.pw_dn0024_07 (Str.ofString "_siftup_max") asum) (gsum : C.GT.lookup (Str.ofString "_siftup_max") = some (.ref asum))
    (fhfm : Fn C PySem.Challenge.pw_dn0024_07 (Str.ofString "_heapify_max") ahfm) (ghfm : C.GT.lookup (Str.ofString "_heapify_max") = some (.ref ahfm)) (frpm : Fn C PySem.Challenge.pw_dn0024_07 (Str.ofString "_heapreplace_max") arpm) (grpm : C.GT.lookup (Str.ofString "_heapreplace_max") = some (.ref arpm))
    (fns : FnD C PySem.Challenge.pw_dn0024_07 (Str.ofString "nsmallest") ans) (gns : C.GT.lookup (Str.ofString "nsmallest") = some (.ref ans)) (fnl : FnD C PySem.Challenge.pw_dn0024_07 (Str.ofString "nlargest") anl) (gnl : C.GT.lookup (Str.ofString "nlargest") = some (.ref anl)) (hx : xs.length < 64)
    (hbm : ∃ bm ob, C.mg "__builtins__" = some (.ref bm) ∧ bm ≠ builtinsNs ∧ C.GB.get? bm = some ob ∧ ob.cls = .type "module" ∧ ob.dict = some builtinsNs ∧ ob.data = .plain)
    {pm cd doc : Value} (f : FnAt C a (fdOf (stOf PySem.Challenge.pw_dn0024_07 (Str.ofString "law")) pm cd doc) (bodyOf (stOf PySem.Challenge.pw_dn0024_07 (Str.ofString "law"))) (namesOf (stOf PySem.Challenge.pw_dn0024_07 (Str.ofString "law")))) (hcd : cd = .ref c) (hC : CodeHd C.GB c P) (hPs : sc ≠ P) (L : Addr) :
    TX C (k + 12) (frameOf (fdOf (stOf PySem.Challenge.pw_dn0024_07 (Str.ofString "law")) pm cd doc) L a []) (bodyOf (stOf PySem.Challenge.pw_dn0024_07 (Str.ofString "law"))) ⟨(namesOf (stOf PySem.Challenge.pw_dn0024_07 (Str.ofString "law"))).zip [.ref sc], fun b => if b = P then some (.raw (tabObj #[])) else if b = sc then some (.rol (xs.map V.int)) else none⟩
      fun fl σ' => fl = .ret (.bool true) ∧ ∃ ps, σ'.sto P = some (.raw (tabObj ps)) := by
  have ok := f.envOk L []
  have hm : maxLen = 1048576 := by decide
  generalize hs0 : (fun b => if b = P then some (O.raw (tabObj #[])) else if b = sc then some (.rol (xs.map V.int)) else none) = s0
  have e1 : s0 P = some (.raw (tabObj #[])) := by rw [← hs0]; simp
  have e2 : s0 sc = some (.rol (xs.map V.int)) := by rw [← hs0]; simp [hPs]
  clear hs0
  refine x_cons (s_asgtup ?_)
  (repeat walk_at "m")
  refine call_list_list (vs := xs.map V.int) (by simp [e2, O.items]) fun d1 hd1 => ?_
  (repeat walk_at "m")
  refine ⟨by simp [maxLen], fun d2 hd2 => ?_⟩
  obtain ⟨n12, hd2'⟩ := none_if hd2
  refine bin_cat (us := xs.map V.int) (vs := [V.int 0, V.int 0]) (by simp [St.setSto, Ne.symm n12, O.items]) (by simp [St.setSto, O.items]) (by simp; omega) fun d3 hd3 => ?_
  obtain ⟨n23, hd3'⟩ := none_if hd3
  obtain ⟨n13, hd3''⟩ := none_if hd3'
  (repeat walk_at "m")
  refine ⟨d3, _, rfl, by simp [O.items, St.setSto]; rfl, by simp, Nat.le_trans (pickV_len_run ..) (by simp; omega), fun d4 hd4 => ?_⟩
  rw [pickV_upto _ (by omega)]
  rw [show (2 : Int).toNat = 2 from rfl, first2]
  obtain ⟨n34, hd4'⟩ := none_if hd4
  obtain ⟨n24, hd4''⟩ := none_if hd4'
  obtain ⟨n14, hd4z⟩ := none_if hd4''
  generalize (xs ++ [0, 0]).getD 0 0 = m
  generalize (xs ++ [0, 0]).getD 1 0 = md0
  have k1 : P ≠ d1 := ne_new e1 hd1
  have k2 : P ≠ d2 := ne_new e1 hd2'
  have k3 : P ≠ d3 := ne_new e1 hd3''
  have k4 : P ≠ d4 := ne_new e1 hd4z
  have j1 : sc ≠ d1 := ne_new e2 hd1
  have j2 : sc ≠ d2 := ne_new e2 hd2'
  have j3 : sc ≠ d3 := ne_new e2 hd3''
  have j4 : sc ≠ d4 := ne_new e2 hd4z
  refine asg_list (vs := [.int m, .int md0]) (by simp [St.setSto, O.items]) rfl ?_
  refine asg_name ok ?_
  refine asg_name (hk := .inr ⟨rfl, L + 1, rfl, .tail _ (.head _)⟩) ok ?_
  show TX _ _ _ _ _ _
  refine x_cons (s_assign (hk := .inr ⟨rfl, L + 1, rfl, .tail _ (.head _)⟩) ok ?_)
  (repeat walk_at "m")
  refine bin_mod (by decide) ?_
  have hmd : 1 + md0.fmod 5 ≠ 0 := by
    rw [Int.fmod_eq_emod_of_nonneg _ (by decide)]
    have := Int.emod_nonneg md0 (b := 5) (by decide)
    omega
  (repeat walk_at "m")
  refine ⟨sc, _, rfl, by simp [O.items, St.setSto, St.setLoc, j1, j2, j3, j4, e2]; rfl, by simp, Nat.le_trans (pickV_len_run ..) (by simp; omega), fun dr hdr => ?_⟩
  rw [pickV_from _ (by omega), show (2 : Int).toNat = 2 from rfl, ← List.map_drop]
  obtain ⟨_, hr1⟩ := none_if hdr
  obtain ⟨_, hr2⟩ := none_if hr1
  obtain ⟨_, hr3⟩ := none_if hr2
  obtain ⟨_, hr4⟩ := none_if hr3
  have kr : P ≠ dr := ne_new e1 hr4
  refine then_next (x_cut [Str.ofString "many", Str.ofString "modulus", Str.ofString "row"] [(Str.ofString "many", .int m), (Str.ofString "modulus", .int (1 + md0.fmod 5)), (Str.ofString "row", .ref dr)] (fun s => s P = some (.raw (tabObj #[])) ∧ s dr = some (.lst ((xs.drop 2).map V.int))) rfl
    ⟨by simp [St.setSto, St.setLoc, k1, k2, k3, k4, kr, e1], by simp [St.setSto, St.setLoc]⟩ ?_)
  rintro s ⟨hsP, hsr⟩
  refine x_defkey (P := P) (c := c) (cm := L + 1) (md := 1 + md0.fmod 5) (x := Str.ofString "x") cx ok hcalm hsP hcd hC hbm rfl hmd rfl rfl rfl rfl fun GB' ka kp kc ifk => ?_
  refine x_cut [Str.ofString "many", Str.ofString "row", Str.ofString "_law_key"] [(Str.ofString "many", .int m), (Str.ofString "row", .ref dr), (Str.ofString "_law_key", .ref ka)] (fun s => s dr = some (.lst ((xs.drop 2).map V.int))) rfl (by simp [Ne.symm kr, hsr]) ?_
  intro s' hsr'
  have cx' : CxOk { C with GB := GB' } := cx.more (x := C.exc) kp
  have ifns : IsFun GB' (.ref ans) := let ⟨_, _, _, _, g⟩ := FnD.more (x := C.exc) fns kp; g.isFun
  have ifnl : IsFun GB' (.ref anl) := let ⟨_, _, _, _, g⟩ := FnD.more (x := C.exc) fnl kp; g.isFun
  exact law_rest (k := k) cx' hcalm gl gli gm gx gs gns gnl ifns ifnl
    (fun F σ l kv kf n ys Q hs h64 hkv hkf h => nsm_ok (k := k + 3) cx' hcalm gl gr gv gz gi gob gm gs (Fn.more (x := C.exc) fsdm kp) gsdm (Fn.more (x := C.exc) fsum kp) gsum (Fn.more (x := C.exc) fhfm kp) ghfm (Fn.more (x := C.exc) frpm kp) grpm (FnD.more (x := C.exc) fns kp) hs h64 hkv hkf h)
    (fun F σ l kv kf n ys Q hs h64 hkv hkf h => nlg_ok (k := k + 3) cx' hcalm gl gr gv gz gi gob gx gs (Fn.more (x := C.exc) fsd kp) gsd (Fn.more (x := C.exc) fsu kp) gsu (Fn.more (x := C.exc) fhf kp) ghf (Fn.more (x := C.exc) frp kp) grp (FnD.more (x := C.exc) fnl kp) hs h64 hkv hkf h)
    kc ifk (by rw [List.length_drop]; omega) ok hsr'
end
end Mine
set_option maxRecDepth 100000
set_option maxHeartbeats 8000000
namespace Mine
open PySem PySem.W PyProof.Rows
theorem len1 {α : Type} : ∀ {vs : List α}, vs.length = 1 → ∃ a, vs = [a]
  | [a], _ => ⟨a, rfl⟩
theorem len2 {α : Type} : ∀ {vs : List α}, vs.length = 2 → ∃ a b, vs = [a, b]
  | [a, b], _ => ⟨a, b, rfl⟩
theorem len3 {α : Type} : ∀ {vs : List α}, vs.length = 3 → ∃ a b c, vs = [a, b, c]
  | [a, b, c], _ => ⟨a, b, c, rfl⟩
theorem def_sd : DefOk (stOf PySem.Challenge.pw_dn0024_07 (Str.ofString "_siftdown")) :=
  ⟨rfl, rfl, rfl, by decide, by decide, by decide, fun pm cd doc vs h => by obtain ⟨_, _, _, rfl⟩ := len3 h; rfl⟩
theorem def_su : DefOk (stOf PySem.Challenge.pw_dn0024_07 (Str.ofString "_siftup")) :=
  ⟨rfl, rfl, rfl, by decide, by decide, by decide, fun pm cd doc vs h => by obtain ⟨_, _, rfl⟩ := len2 h; rfl⟩
theorem def_hf : DefOk (stOf PySem.Challenge.pw_dn0024_07 (Str.ofString "heapify")) :=
  ⟨rfl, rfl, rfl, by decide, by decide, by decide, fun pm cd doc vs h => by obtain ⟨_, rfl⟩ := len1 h; rfl⟩
theorem def_rp : DefOk (stOf PySem.Challenge.pw_dn0024_07 (Str.ofString "heapreplace")) :=
  ⟨rfl, rfl, rfl, by decide, by decide, by decide, fun pm cd doc vs h => by obtain ⟨_, _, rfl⟩ := len2 h; rfl⟩
theorem def_sdm : DefOk (stOf PySem.Challenge.pw_dn0024_07 (Str.ofString "_siftdown_max")) :=
  ⟨rfl, rfl, rfl, by decide, by decide, by decide, fun pm cd doc vs h => by obtain ⟨_, _, _, rfl⟩ := len3 h; rfl⟩
theorem def_sum : DefOk (stOf PySem.Challenge.pw_dn0024_07 (Str.ofString "_siftup_max")) :=
  ⟨rfl, rfl, rfl, by decide, by decide, by decide, fun pm cd doc vs h => by obtain ⟨_, _, rfl⟩ := len2 h; rfl⟩
theorem def_hfm : DefOk (stOf PySem.Challenge.pw_dn0024_07 (Str.ofString "_heapify_max")) :=
  ⟨rfl, rfl, rfl, by decide, by decide, by decide, fun pm cd doc vs h => by obtain ⟨_, rfl⟩ := len1 h; rfl⟩
theorem def_rpm : DefOk (stOf PySem.Challenge.pw_dn0024_07 (Str.ofString "_heapreplace_max")) :=
  ⟨rfl, rfl, rfl, by decide, by decide, by decide, fun pm cd doc vs h => by obtain ⟨_, _, rfl⟩ := len2 h; rfl⟩
theorem def_law : DefOk (stOf PySem.Challenge.pw_dn0024_07 (Str.ofString "law")) :=
  ⟨rfl, rfl, rfl, by decide, by decide, by decide, fun pm cd doc vs h => by obtain ⟨_, rfl⟩ := len1 h; rfl⟩
theorem def_ns : DefOkD (stOf PySem.Challenge.pw_dn0024_07 (Str.ofString "nsmallest")) :=
  ⟨rfl, rfl, rfl, by decide, by decide, by decide, rfl, fun pm cd doc dV vs h => by obtain ⟨_, _, _, rfl⟩ := len3 h; exact ⟨_, rfl, fun _ => rfl⟩⟩
theorem def_nl : DefOkD (stOf PySem.Challenge.pw_dn0024_07 (Str.ofString "nlargest")) :=
  ⟨rfl, rfl, rfl, by decide, by decide, by decide, rfl, fun pm cd doc dV vs h => by obtain ⟨_, _, _, rfl⟩ := len3 h; exact ⟨_, rfl, fun _ => rfl⟩⟩
end Mine
open PySem PySem.W PyProof.Rows Mine
open_top hd for PySem.Challenge.rw_dn0024_07
theorem PySem.Challenge.cw_dn0024_07_holds : PySem.Challenge.rw_dn0024_07.Holds :=
  hd (by
  intro w s₀ s₁ mg mb G Y fa o pm cd doc dV kV ho hd hcd hD hmg hg args vals as hpre hlay hrd hwl hlo
  refine Ground.open G ?_
  intro T B D TE TW
  obtain ⟨cc, P, ecc, hT⟩ := law_tab T (n := Str.ofString "law") rfl hmg ho hd
  wrow_args hpre hlay hrd hwl hlo
  first | refine callC_kw (enter_call ?_) | refine enter_call ?_ | refine callC_kw (enter_callW ?_) | refine enter_callW ?_
  rename_i ns _ _ _ _ _ _ _ sc vs _ hL _ _ _ hI _ hc _
  obtain ⟨a_sd, m_sd, F_sd⟩ := fn_top T (pw := PySem.Challenge.pw_dn0024_07) (n := Str.ofString "_siftdown") rfl rfl def_sd
  obtain ⟨a_su, m_su, F_su⟩ := fn_top T (pw := PySem.Challenge.pw_dn0024_07) (n := Str.ofString "_siftup") rfl rfl def_su
  obtain ⟨a_hf, m_hf, F_hf⟩ := fn_top T (pw := PySem.Challenge.pw_dn0024_07) (n := Str.ofString "heapify") rfl rfl def_hf
  obtain ⟨a_rp, m_rp, F_rp⟩ := fn_top T (pw := PySem.Challenge.pw_dn0024_07) (n := Str.ofString "heapreplace") rfl rfl def_rp
  obtain ⟨a_sdm, m_sdm, F_sdm⟩ := fn_top T (pw := PySem.Challenge.pw_dn0024_07) (n := Str.ofString "_siftdown_max") rfl rfl def_sdm
  obtain ⟨a_sum, m_sum, F_sum⟩ := fn_top T (pw := PySem.Challenge.pw_dn0024_07) (n := Str.ofString "_siftup_max") rfl rfl def_sum
  obtain ⟨a_hfm, m_hfm, F_hfm⟩ := fn_top T (pw := PySem.Challenge.pw_dn0024_07) (n := Str.ofString "_heapify_max") rfl rfl def_hfm
  obtain ⟨a_rpm, m_rpm, F_rpm⟩ := fn_top T (pw := PySem.Challenge.pw_dn0024_07) (n := Str.ofString "_heapreplace_max") rfl rfl def_rpm
  obtain ⟨a_law, m_law, F_law⟩ := fn_top T (pw := PySem.Challenge.pw_dn0024_07) (n := Str.ofString "law") rfl rfl def_law
  have KX := km_in_of Y
  obtain ⟨m_ns, F_ns⟩ := fnD_K (mb := mb) (a := 76) (T := 71) (c := 75) (pw := PySem.Challenge.pw_dn0024_07) (n := Str.ofString "nsmallest") KX T.g hT rfl rfl rfl rfl rfl def_ns
  obtain ⟨m_nl, F_nl⟩ := fnD_K (mb := mb) (a := 82) (T := 77) (c := 81) (pw := PySem.Challenge.pw_dn0024_07) (n := Str.ofString "nlargest") KX T.g hT rfl rfl rfl rfl rfl def_nl
  have gt : GtOk mg mb [(Str.ofString "len", V.opq (.builtin "len")), (Str.ofString "range", V.opq (.type "range")), (Str.ofString "reversed", V.opq (.type "reversed")), (Str.ofString "zip", V.opq (.type "zip")), (Str.ofString "iter", V.opq (.builtin "iter")), (Str.ofString "object", V.opq (.type "object")), (Str.ofString "min", V.opq (.builtin "min")), (Str.ofString "max", V.opq (.builtin "max")), (Str.ofString "sorted", V.opq (.builtin "sorted")), (Str.ofString "list", V.opq (.type "list")), (Str.ofString "_siftdown", V.ref a_sd), (Str.ofString "_siftup", V.ref a_su), (Str.ofString "heapify", V.ref a_hf), (Str.ofString "heapreplace", V.ref a_rp), (Str.ofString "_siftdown_max", V.ref a_sdm), (Str.ofString "_siftup_max", V.ref a_sum), (Str.ofString "_heapify_max", V.ref a_hfm), (Str.ofString "_heapreplace_max", V.ref a_rpm), (Str.ofString "nsmallest", V.ref 76), (Str.ofString "nlargest", V.ref 82)] := gt_bi T rfl rfl (fun _ e => nomatch e) (gt_bi T rfl rfl (fun _ e => nomatch e) (gt_bi T rfl rfl (fun _ e => nomatch e) (gt_bi T rfl rfl (fun _ e => nomatch e) (gt_bi T rfl rfl (fun _ e => nomatch e) (gt_bi T rfl rfl (fun _ e => nomatch e) (gt_bi T rfl rfl (fun _ e => nomatch e) (gt_bi T rfl rfl (fun _ e => nomatch e) (gt_bi T rfl rfl (fun _ e => nomatch e) (gt_bi T rfl rfl (fun _ e => nomatch e) (gt_fn m_sd (gt_fn m_su (gt_fn m_hf (gt_fn m_rp (gt_fn m_sdm (gt_fn m_sum (gt_fn m_hfm (gt_fn m_rpm (gt_fn m_ns (gt_fn m_nl (gt_nil))))))))))))))))))))
  have cx := cx_ghost (prog := PySem.Challenge.rw_dn0024_07.row.prog) (w := w) hT T gt
  obtain ⟨hPg, hC, hP⟩ := ghost_at hT
  obtain ⟨pm', cd', doc', f⟩ := F_law PySem.Challenge.rw_dn0024_07.row.prog w [(Str.ofString "len", V.opq (.builtin "len")), (Str.ofString "range", V.opq (.type "range")), (Str.ofString "reversed", V.opq (.type "reversed")), (Str.ofString "zip", V.opq (.type "zip")), (Str.ofString "iter", V.opq (.builtin "iter")), (Str.ofString "object", V.opq (.type "object")), (Str.ofString "min", V.opq (.builtin "min")), (Str.ofString "max", V.opq (.builtin "max")), (Str.ofString "sorted", V.opq (.builtin "sorted")), (Str.ofString "list", V.opq (.type "list")), (Str.ofString "_siftdown", V.ref a_sd), (Str.ofString "_siftup", V.ref a_su), (Str.ofString "heapify", V.ref a_hf), (Str.ofString "heapreplace", V.ref a_rp), (Str.ofString "_siftdown_max", V.ref a_sdm), (Str.ofString "_siftup_max", V.ref a_sum), (Str.ofString "_heapify_max", V.ref a_hfm), (Str.ofString "_heapreplace_max", V.ref a_rpm), (Str.ofString "nsmallest", V.ref 76), (Str.ofString "nlargest", V.ref 82)]
  have ea : fa = a_law := by
    have e : some (Value.ref fa) = some (Value.ref a_law) := hmg.symm.trans m_law
    cases e; rfl
  subst ea
  have ecd : cd' = .ref cc := by
    obtain ⟨o', h1, h2⟩ := f.obj
    have e : some o = some o' := ho.symm.trans h1
    cases e
    have e2 := hd.symm.trans h2
    have e3 := congrArg (fun d => match d with | Data.func fd => fd.code | _ => Value.none) e2
    exact e3.symm.trans ecc
  have hsP : sc ≠ P := fun q => by
    obtain ⟨oL, e, hcl, _⟩ := hL
    rw [q] at e
    have e2 := hP.symm.trans e
    cases e2
    cases hcl
  refine law_doneP hT hg (fun _ _ => rfl) (by first | wrow_post | kc_post) (law_callP (k := 60) (P := P) (sto := fun b => if b = P then some (.raw (tabObj #[])) else if b = sc then some (.rol (ns.map V.int)) else none) cx (FnAt.ghost hT f) rfl (by refine ⟨rfl, ?_, ?_, rfl⟩ <;> decide) (fun _ _ e => of_hideAll _ e) (by simp) hP hPg (script_stoP hL hI (by simp [maxLen]; omega)) (.cons (.ref sc) .nil)
    (fun L => TX.mono (law_walk (k := 48) cx rfl rfl rfl rfl rfl rfl rfl rfl rfl rfl rfl (Fn.ghost hT (F_sd _ _ _)) rfl (Fn.ghost hT (F_su _ _ _)) rfl (Fn.ghost hT (F_hf _ _ _)) rfl (Fn.ghost hT (F_rp _ _ _)) rfl (Fn.ghost hT (F_sdm _ _ _)) rfl (Fn.ghost hT (F_sum _ _ _)) rfl (Fn.ghost hT (F_hfm _ _ _)) rfl (Fn.ghost hT (F_rpm _ _ _)) rfl (F_ns _ _ _) rfl (F_nl _ _ _) rfl (by omega) (ghost_top hT T).bmain (FnAt.ghost hT f) ecd hC hsP L) fun fl _ h => ⟨by rw [h.1]; rfl, h.2⟩)))
