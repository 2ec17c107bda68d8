import PyProof.Rows.All
import Wide.All
import OpenK.AllK
import Wide.FinOn
import PySem.Challenge.RW_dn0024_01
set_option Elab.async false
set_option linter.unusedVariables false
namespace Mine
open PySem PySem.W PyProof.Rows

/-- abstract values -/
inductive V where
  | none
  | bool (b : Bool)
  | int (i : Int)
  | str (s : Str)
  | ref (a : Addr)
  | tup (xs : List Int)
  | rng (lo hi st : Int)
  | vt (vs : List V)
  | opq (v : Value)

/-- abstract objects of the call's own -/
inductive O where
  | lst (vs : List V)
  | rol (vs : List V)
  | raw (o : Obj)
def O.isMut : O → Bool
  | .rol _ => false
  | _ => true
def O.items : O → Option (List V)
  | .lst vs => some vs
  | .rol vs => some vs
  | .raw _ => none

structure St where
  loc : List (Str × V)
  sto : Addr → Option O

def locSet : List (Str × V) → Str → V → List (Str × V)
  | [], x, v => [(x, v)]
  | (y, u) :: r, x, v => if x == y then (y, v) :: r else (y, u) :: locSet r x v

theorem locSet_lookup (x : Str) (v : V) (y : Str) : ∀ l : List (Str × V), (locSet l x v).lookup y = if y == x then some v else l.lookup y
  | [] => by
    show ((x, v) :: []).lookup y = _
    rw [List.lookup_cons]
    cases y == x <;> rfl
  | (z, u) :: r => by
    unfold locSet
    by_cases hxz : (x == z) = true
    · rw [if_pos hxz, List.lookup_cons, List.lookup_cons]
      have e : x = z := beq_iff_eq.mp hxz
      subst e
      cases y == x <;> rfl
    · rw [if_neg hxz, List.lookup_cons, List.lookup_cons, locSet_lookup x v y r]
      by_cases hyz : (y == z) = true
      · have e : y = z := beq_iff_eq.mp hyz
        subst e
        have : (y == x) = false := by
          cases h : y == x with
          | false => rfl
          | true => exact absurd (beq_iff_eq.mpr (beq_iff_eq.mp h).symm) hxz
        simp [this]
      · simp [hyz]

def St.setLoc (σ : St) (x : Str) (v : V) : St := { σ with loc := locSet σ.loc x v }
def St.setSto (σ : St) (a : Addr) (o : O) : St := { σ with sto := fun b => if b = a then some o else σ.sto b }

@[simp] theorem setSto_loc (σ : St) (a : Addr) (o : O) : (σ.setSto a o).loc = σ.loc := rfl
@[simp] theorem setLoc_sto (σ : St) (x : Str) (v : V) : (σ.setLoc x v).sto = σ.sto := rfl
@[simp] theorem setSto_same (σ : St) (a : Addr) (o : O) : (σ.setSto a o).sto a = some o := by simp [St.setSto]
theorem setSto_other (σ : St) {a b : Addr} (o : O) (h : b ≠ a) : (σ.setSto a o).sto b = σ.sto b := by simp [St.setSto, h]

/-- objects that never change: tuples, ranges -/
def FrzO (o : Obj) : Prop := (o.cls = .type "tuple" ∧ ∃ items n, o.data = .seq items n) ∨ (o.cls = .type "range" ∧ ∃ vs, o.data = .fields vs)
mutual
/-- what an abstract value stands for -/
inductive Rep (h : Heap) : V → Value → Prop
  | none : Rep h .none .none
  | bool (b : Bool) : Rep h (.bool b) (.bool b)
  | int (i : Int) (t : Tok) : Rep h (.int i) (.int i t)
  | str (s : Str) (t : Tok) : Rep h (.str s) (.str s t)
  | ref (a : Addr) : Rep h (.ref a) (.ref a)
  | tup {a : Addr} {vs : List Value} {xs : List Int} : IsTup h a vs.toArray → IntsAre vs xs → Rep h (.tup xs) (.ref a)
  | rng {a : Addr} {lo hi st : Int} {t u v : Tok} : IsRange h a lo hi st t u v → Rep h (.rng lo hi st) (.ref a)
  | vt {a : Addr} {vs : List V} {vs' : List Value} : IsTup h a vs'.toArray → Reps h vs vs' → Rep h (.vt vs) (.ref a)
  | opq {v : Value} : (∀ a, v ≠ .ref a) → Rep h (.opq v) v
inductive Reps (h : Heap) : List V → List Value → Prop
  | nil : Reps h [] []
  | cons {v : V} {v' : Value} {vs : List V} {vs' : List Value} : Rep h v v' → Reps h vs vs' → Reps h (v :: vs) (v' :: vs')
end

def maxLen : Nat := 2 ^ 20

def ORep (h : Heap) (a : Addr) : O → Prop
  | .lst vs => vs.length ≤ maxLen ∧ ∃ vs' n, h.get? a = some (listOf vs'.toArray n) ∧ Reps h vs vs'
  | .rol vs => vs.length ≤ maxLen ∧ ∃ vs', h.IsList a vs'.toArray ∧ Reps h vs vs'
  | .raw o => h.get? a = some o ∧ ¬ FrzO o

def Place (env : Env) (m : Str → Option Value) (h : Heap) (x : Str) (v : Value) : Prop :=
  (env.kindOf x = some .local ∧ m x = some v) ∨ ((env.kindOf x = some .cell ∨ env.kindOf x = some .free) ∧ ∃ c, env.cells.lookup x = some c ∧ h.IsCell c (some v))

/-- a frame: its environment and the addresses that it may change -/
structure FE where
  env : Env
  own : List Addr
  frames : List Env

structure EnvOk (env : Env) : Prop where
  kind : env.scope.kind = .function
  globals : env.globals = mainGlobals
  builtins : env.builtins = builtinsNs

structure Sim (GB : Heap) (F : FE) (σ : St) (h : Heap) : Prop where
  base : ∀ b o, GB.get? b = some o → h.get? b = some o
  frame : ∃ m, h.Ns F.env.locals m ∧ ∀ x v, σ.loc.lookup x = some v → ∃ v', Place F.env m h x v' ∧ Rep h v v'
  cells : ∀ p ∈ F.env.cells, ∃ v₀, h.IsCell p.2 v₀
  apart : F.env.cells.Pairwise fun x y => x.2 ≠ y.2
  sto : ∀ a o, σ.sto a = some o → ORep h a o
  inOwn : F.env.locals ∈ F.own
  ownIs : ∀ b ∈ F.own, b = F.env.locals ∨ ∃ p ∈ F.env.cells, p.2 = b
  new : ∀ b ∈ F.own, GB.get? b = none
  off : ∀ a o, σ.sto a = some o → (o.isMut = true → GB.get? a = none) ∧ a ≠ F.env.locals ∧ ∀ p ∈ F.env.cells, p.2 ≠ a

def St.fixed (σ : St) (b : Addr) : Prop := ∀ o, σ.sto b = some o → o.isMut = false

structure Mod (own : List Addr) (σ σ' : St) (s s' : Shared) : Prop where
  keep : ∀ b o, s.heap.get? b = some o → σ.fixed b → b ∉ own → s'.heap.get? b = some o
  dom : ∀ b o, σ'.sto b = some o → (∃ o', σ.sto b = some o' ∧ (o.isMut = true → o'.isMut = true)) ∨ s.heap.get? b = none
  alive : ∀ b o, s.heap.get? b = some o → ∃ o', s'.heap.get? b = some o'
  rest : s' = { s with heap := s'.heap, toks := s'.toks }

theorem Mod.refl {own : List Addr} {σ : St} {s : Shared} : Mod own σ σ s s := ⟨fun _ _ e _ _ => e, fun _ _ e => .inl ⟨_, e, id⟩, fun _ _ e => ⟨_, e⟩, rfl⟩
theorem Mod.toks {own : List Addr} {σ : St} {s : Shared} (tk : Nat) : Mod own σ σ s { s with toks := tk } := ⟨fun _ _ e _ _ => e, fun _ _ e => .inl ⟨_, e, id⟩, fun _ _ e => ⟨_, e⟩, rfl⟩
theorem Sim.own_alive {GB : Heap} {F : FE} {σ : St} {h : Heap} (S : Sim GB F σ h) {b : Addr} (hb : b ∈ F.own) : ∃ o, h.get? b = some o := by
  rcases S.ownIs b hb with rfl | ⟨p, hp, rfl⟩
  · obtain ⟨m, ⟨o, _, _, ho, _⟩, _⟩ := S.frame; exact ⟨o, ho⟩
  · obtain ⟨v₀, o, ho, _⟩ := S.cells p hp; exact ⟨o, ho⟩
theorem Mod.trans' {own : List Addr} {σ σ' σ'' : St} {s s' s'' : Shared} (x : Mod own σ σ' s s') (y : Mod own σ' σ'' s' s'') : Mod own σ σ'' s s'' where
  keep := fun b o e n1 n2 => by
    refine y.keep b o (x.keep b o e n1 n2) (fun o' h => ?_) n2
    cases hm : o'.isMut with
    | false => rfl
    | true =>
      rcases x.dom b o' h with ⟨o'', h', hm'⟩ | h'
      · have := hm' hm; rw [n1 _ h'] at this; cases this
      · rw [e] at h'; cases h'
  dom := fun b o e => by
    rcases y.dom b o e with ⟨o', h', m'⟩ | h'
    · rcases x.dom b o' h' with ⟨o'', h'', m''⟩ | h''
      · exact .inl ⟨o'', h'', fun q => m'' (m' q)⟩
      · exact .inr h''
    · refine .inr ?_
      cases hs : s.heap.get? b with
      | none => rfl
      | some ob => obtain ⟨o', ho'⟩ := x.alive b ob hs; rw [h'] at ho'; cases ho'
  alive := fun b o e => let ⟨o', e'⟩ := x.alive b o e; y.alive b o' e'
  rest := by rw [y.rest, x.rest]
theorem Mod.trans {GB : Heap} {F : FE} {σ σ' σ'' : St} {s s' s'' : Shared} (S' : Sim GB F σ' s'.heap) (x : Mod F.own σ σ' s s') (y : Mod F.own σ' σ'' s' s'') : Mod F.own σ σ'' s s'' := x.trans' y
theorem Mod.back {own : List Addr} {σ σ' : St} {s s' : Shared} (x : Mod own σ σ' s s') {b : Addr} (h : s'.heap.get? b = none) : s.heap.get? b = none := by
  cases hs : s.heap.get? b with
  | none => rfl
  | some ob => obtain ⟨o', ho'⟩ := x.alive b ob hs; rw [h] at ho'; cases ho'
theorem Mod.more {own : List Addr} {σ σ' : St} {s s' : Shared} (x : Mod own σ σ' s s') (c : Addr) : Mod (c :: own) σ σ' s s' := ⟨fun b o e f n => x.keep b o e f fun h => n (.tail _ h), x.dom, x.alive, x.rest⟩
theorem Mod.endOf {own : List Addr} {σ σ' σ₄ : St} {s s' s₃ s₄ : Shared} {I : Addr} (M' : Mod (I :: own) σ σ' s s') (hI : s.heap.get? I = none) (ext : Heap.ExtBut I s'.heap s₃.heap) (rest : s₃ = { s' with heap := s₃.heap, toks := s₃.toks })
    (M₄ : Mod own σ' σ₄ s₃ s₄) : Mod own σ σ₄ s s₄ := by
  have ne : ∀ b o, s.heap.get? b = some o → b ≠ I := fun b o e q => by rw [q, hI] at e; cases e
  refine ⟨fun b o e f n => ?_, fun b o e => ?_, fun b o e => ?_, ?_⟩
  · have e' := M'.keep b o e f fun h => by
      cases h with
      | head => exact ne _ _ e rfl
      | tail _ h => exact n h
    refine M₄.keep b o (ext b o (ne b o e) e') (fun o' h => ?_) n
    cases hm : o'.isMut with
    | false => rfl
    | true =>
      rcases M'.dom b o' h with ⟨o'', h', hm'⟩ | h'
      · have := hm' hm; rw [f _ h'] at this; cases this
      · rw [e] at h'; cases h'
  · rcases M₄.dom b o e with ⟨o', h', m'⟩ | h'
    · rcases M'.dom b o' h' with ⟨o'', h'', m''⟩ | h''
      · exact .inl ⟨o'', h'', fun q => m'' (m' q)⟩
      · exact .inr h''
    · refine .inr ?_
      cases hs : s.heap.get? b with
      | none => rfl
      | some ob =>
        obtain ⟨o', ho'⟩ := M'.alive b ob hs
        rw [ext b o' (ne b ob hs) ho'] at h'; cases h'
  · obtain ⟨o', ho'⟩ := M'.alive b o e
    exact M₄.alive b o' (ext b o' (ne b o e) ho')
  · rw [M₄.rest, rest, M'.rest]
theorem Mod.less {own : List Addr} {σ σ' : St} {s s' : Shared} {c : Addr} (x : Mod (c :: own) σ σ' s s') (hc : s.heap.get? c = none) : Mod own σ σ' s s' :=
  ⟨fun b o e f n => x.keep b o e f fun h => by
    cases h with
    | head => rw [hc] at e; cases e
    | tail _ h => exact n h, x.dom, x.alive, x.rest⟩

theorem frz_not_dict {h : Heap} {a : Addr} {o : Obj} {m : Str → Option Value} (ho : h.get? a = some o) (hf : FrzO o) (n : h.Ns a m) : False := by
  obtain ⟨o', es, ep, ho', hd', _⟩ := n
  rw [ho] at ho'; cases ho'
  rcases hf with ⟨_, _, _, hd⟩ | ⟨_, _, hd⟩ <;> rw [hd] at hd' <;> cases hd'
theorem frz_not_cell {h : Heap} {a : Addr} {o : Obj} {v : Option Value} (ho : h.get? a = some o) (hf : FrzO o) (n : h.IsCell a v) : False := by
  obtain ⟨o', ho', hd'⟩ := n
  rw [ho] at ho'; cases ho'
  rcases hf with ⟨_, _, _, hd⟩ | ⟨_, _, hd⟩ <;> rw [hd] at hd' <;> cases hd'
theorem not_frz_list {o : Obj} (hc : o.cls = .type "list") : ¬ FrzO o := by
  rintro (⟨h, _⟩ | ⟨h, _⟩) <;> rw [hc] at h <;> exact absurd h (by decide)

variable {GB : Heap}
theorem ORep.not_frz {h : Heap} {a : Addr} {o : O} (r : ORep h a o) : ∀ ob, h.get? a = some ob → ¬ FrzO ob := by
  intro ob ho hf
  cases o with
  | lst vs =>
    obtain ⟨_, vs', n, ho', _⟩ := r
    rw [ho] at ho'; cases ho'
    exact not_frz_list rfl hf
  | rol vs =>
    obtain ⟨_, vs', ⟨o', ho', hc', _⟩, _⟩ := r
    rw [ho] at ho'; cases ho'
    exact not_frz_list hc' hf
  | raw o =>
    obtain ⟨ho', hc'⟩ := r
    rw [ho] at ho'; cases ho'
    exact hc' hf
theorem Sim.frz_off {F : FE} {σ : St} {h : Heap} (S : Sim GB F σ h) {a : Addr} {o : Obj} (ho : h.get? a = some o) (hf : FrzO o) : σ.fixed a ∧ a ∉ F.own := by
  constructor
  · intro o' hs
    exact ((S.sto a o' hs).not_frz o ho hf).elim
  · intro hb
    rcases S.ownIs a hb with rfl | ⟨p, hp, rfl⟩
    · obtain ⟨m, hm, _⟩ := S.frame; exact frz_not_dict ho hf hm
    · obtain ⟨v₀, hv⟩ := S.cells p hp; exact frz_not_cell ho hf hv

theorem tup_keeps {h h' : Heap} {a : Addr} {items : Array Value} (h1 : IsTup h a items) (k : ∀ a o, h.get? a = some o → FrzO o → h'.get? a = some o) : IsTup h' a items :=
  let ⟨o, ho, hc, n, hd⟩ := h1; ⟨o, k _ o ho (.inl ⟨hc, _, n, hd⟩), hc, n, hd⟩
mutual
theorem Rep.keeps {h h' : Heap} {v : V} {v' : Value} (x : Rep h v v') (k : ∀ a o, h.get? a = some o → FrzO o → h'.get? a = some o) : Rep h' v v' :=
  match x with
  | .none => .none
  | .bool b => .bool b
  | .int i t => .int i t
  | .str s t => .str s t
  | .ref a => .ref a
  | .tup h1 h2 => .tup (tup_keeps h1 k) h2
  | .rng h1 => .rng (k _ _ h1 (.inr ⟨rfl, _, rfl⟩))
  | .vt h1 h2 => .vt (tup_keeps h1 k) (h2.keeps k)
  | .opq h1 => .opq h1
theorem Reps.keeps {h h' : Heap} {vs : List V} {vs' : List Value} (x : Reps h vs vs') (k : ∀ a o, h.get? a = some o → FrzO o → h'.get? a = some o) : Reps h' vs vs' :=
  match x with
  | .nil => .nil
  | .cons h1 h2 => .cons (h1.keeps k) (h2.keeps k)
end

theorem Mod.frz {F : FE} {σ σ' : St} {s s' : Shared} (S : Sim GB F σ s.heap) (x : Mod F.own σ σ' s s') : ∀ a o, s.heap.get? a = some o → FrzO o → s'.heap.get? a = some o :=
  fun a o ho hf => x.keep a o ho (S.frz_off ho hf).1 (S.frz_off ho hf).2
theorem Mod.rep {F : FE} {σ σ' : St} {s s' : Shared} (S : Sim GB F σ s.heap) (x : Mod F.own σ σ' s s') {v : V} {v' : Value} (r : Rep s.heap v v') : Rep s'.heap v v' := r.keeps (x.frz S)
theorem Mod.reps {F : FE} {σ σ' : St} {s s' : Shared} (S : Sim GB F σ s.heap) (x : Mod F.own σ σ' s s') {vs : List V} {vs' : List Value} (r : Reps s.heap vs vs') : Reps s'.heap vs vs' := r.keeps (x.frz S)

theorem Reps.length {h : Heap} : ∀ {vs : List V} {vs' : List Value}, Reps h vs vs' → vs'.length = vs.length
  | _, _, .nil => rfl
  | _, _, .cons _ r => by simp [r.length]
theorem Reps.get {h : Heap} : ∀ {vs : List V} {vs' : List Value}, Reps h vs vs' → ∀ {i : Nat} {v : V}, vs[i]? = some v → ∃ v', vs'[i]? = some v' ∧ Rep h v v'
  | _, _, .nil, i, v, e => by simp at e
  | _, _, .cons h1 r, 0, v, e => by simp at e; subst e; exact ⟨_, rfl, h1⟩
  | _, _, .cons h1 r, i + 1, v, e => by simp at e; simpa using r.get e
theorem Reps.set {h : Heap} {v : V} {v' : Value} (r : Rep h v v') : ∀ {vs : List V} {vs' : List Value}, Reps h vs vs' → ∀ i : Nat, Reps h (vs.set i v) (vs'.set i v')
  | _, _, .nil, i => .nil
  | _, _, .cons h1 h2, 0 => .cons r h2
  | _, _, .cons h1 h2, i + 1 => .cons h1 (h2.set r i)
theorem Reps.append {h : Heap} : ∀ {vs : List V} {vs' : List Value}, Reps h vs vs' → ∀ {us : List V} {us' : List Value}, Reps h us us' → Reps h (vs ++ us) (vs' ++ us')
  | _, _, .nil, _, _, y => y
  | _, _, .cons h1 h2, _, _, y => .cons h1 (h2.append y)
theorem reps_ints : ∀ {h : Heap} {xs : List Int} {vs' : List Value}, IntsAre vs' xs → Reps h (xs.map V.int) vs'
  | _, _, _, .nil => .nil
  | _, _, _, .cons _ _ r => .cons (.int _ _) (reps_ints r)
theorem ints_reps : ∀ {h : Heap} {xs : List Int} {vs' : List Value}, Reps h (xs.map V.int) vs' → IntsAre vs' xs
  | _, [], _, .nil => .nil
  | _, _ :: _, _, .cons (.int _ _) r => .cons _ _ (ints_reps r)

/-- Sim carried along a change outside the frame's own and the store -/
theorem Sim.keeps {F : FE} {σ : St} {h h' : Heap} (S : Sim GB F σ h) (k : ∀ b o, h.get? b = some o → h'.get? b = some o) : Sim GB F σ h' where
  base := fun b o e => k b o (S.base b o e)
  frame := by
    obtain ⟨m, hm, hl⟩ := S.frame
    refine ⟨m, hm.keeps k, fun x v e => ?_⟩
    obtain ⟨v', hp, hr⟩ := hl x v e
    refine ⟨v', ?_, hr.keeps fun a o ho _ => k a o ho⟩
    rcases hp with hp | ⟨hk, c, hc, hcell⟩
    · exact .inl hp
    · exact .inr ⟨hk, c, hc, hcell.keeps k⟩
  cells := fun p hp => let ⟨v₀, hv⟩ := S.cells p hp; ⟨v₀, hv.keeps k⟩
  apart := S.apart
  sto := fun a o e => by
    have r := S.sto a o e
    cases o with
    | lst vs => obtain ⟨hb, vs', n, ho, r2⟩ := r; exact ⟨hb, vs', n, k _ _ ho, r2.keeps fun a o ho _ => k a o ho⟩
    | rol vs => obtain ⟨hb, vs', ⟨o, ho, r1⟩, r2⟩ := r; exact ⟨hb, vs', ⟨o, k _ _ ho, r1⟩, r2.keeps fun a o ho _ => k a o ho⟩
    | raw o => exact ⟨k _ _ r.1, r.2⟩
  inOwn := S.inOwn
  ownIs := S.ownIs
  new := S.new
  off := S.off


theorem not_frz_ext {h h' : Heap} {c : Addr} (hc : ∀ o, h.get? c = some o → ¬ FrzO o) (k : Heap.ExtBut c h h') : ∀ a o, h.get? a = some o → FrzO o → h'.get? a = some o :=
  fun a o ho hf => k a o (fun e => hc o (e ▸ ho) hf) ho

theorem ORep.ext {h h' : Heap} {a c : Addr} {o : O} (r : ORep h a o) (hac : a ≠ c) (hc : ∀ o, h.get? c = some o → ¬ FrzO o) (k : Heap.ExtBut c h h') : ORep h' a o := by
  cases o with
  | lst vs => obtain ⟨hb, vs', n, ho, r2⟩ := r; exact ⟨hb, vs', n, k _ _ hac ho, r2.keeps (not_frz_ext hc k)⟩
  | rol vs => obtain ⟨hb, vs', ⟨o, ho, r1⟩, r2⟩ := r; exact ⟨hb, vs', ⟨o, k _ _ hac ho, r1⟩, r2.keeps (not_frz_ext hc k)⟩
  | raw o => exact ⟨k _ _ hac r.1, r.2⟩

theorem Sim.local_not_cell {F : FE} {σ : St} {h : Heap} (S : Sim GB F σ h) {p : Str × Addr} (hp : p ∈ F.env.cells) : p.2 ≠ F.env.locals := by
  intro e
  obtain ⟨v₀, o, ho, hd⟩ := S.cells p hp
  obtain ⟨m, ⟨o', es, ep, ho', hd', _⟩, _⟩ := S.frame
  rw [e, ho'] at ho; cases ho
  rw [hd'] at hd; cases hd

/-- a store into an object of the call's own -/
theorem Sim.change {F : FE} {σ : St} {h h' : Heap} {a : Addr} {o₀ o : O} (S : Sim GB F σ h) (ha : σ.sto a = some o₀) (hm : o₀.isMut = true) (k : Heap.ExtBut a h h') (ho : ORep h' a o) : Sim GB F (σ.setSto a o) h' := by
  have hnt := (S.sto a o₀ ha).not_frz
  have hoff := S.off a o₀ ha
  exact {
    base := fun b ob e => k b ob (fun q => by rw [q, hoff.1 hm] at e; cases e) (S.base b ob e)
    frame := by
      obtain ⟨m, hn, hl⟩ := S.frame
      refine ⟨m, hn.extBut k (Ne.symm hoff.2.1), fun x v e => ?_⟩
      obtain ⟨v', hp, hr⟩ := hl x v e
      refine ⟨v', ?_, hr.keeps (not_frz_ext hnt k)⟩
      rcases hp with hp | ⟨hk, c, hc, oc, hcell, hd⟩
      · exact .inl hp
      · exact .inr ⟨hk, c, hc, oc, k c oc (hoff.2.2 _ (mem_of_lookup hc)) hcell, hd⟩
    cells := fun p hp => by obtain ⟨v₀, oc, hcell, hd⟩ := S.cells p hp; exact ⟨v₀, oc, k _ _ (hoff.2.2 p hp) hcell, hd⟩
    apart := S.apart
    sto := fun b ob e => by
      by_cases hb : b = a
      · subst hb; rw [setSto_same] at e; cases e; exact ho
      · rw [setSto_other _ _ hb] at e; exact (S.sto b ob e).ext hb hnt k
    inOwn := S.inOwn
    ownIs := S.ownIs
    new := S.new
    off := fun b ob e => by
      by_cases hb : b = a
      · subst hb; exact ⟨fun _ => hoff.1 hm, hoff.2⟩
      · rw [setSto_other _ _ hb] at e; exact S.off b ob e }

theorem Mod.change {F : FE} {σ : St} {s : Shared} {h' : Heap} {tk : Nat} {a : Addr} {o₀ o : O} (S : Sim GB F σ s.heap) (ha : σ.sto a = some o₀) (hm : o₀.isMut = true) (k : Heap.ExtBut a s.heap h') (hal : ∃ ob, h'.get? a = some ob) :
    Mod F.own σ (σ.setSto a o) s { s with heap := h', toks := tk } where
  alive := fun b ob e => by
    by_cases hb : b = a
    · subst hb; exact hal
    · exact ⟨ob, k b ob hb e⟩
  keep := fun b ob e hf _ => k b ob (fun q => by subst q; rw [hf o₀ ha] at hm; cases hm) e
  dom := fun b ob e => by
    by_cases hb : b = a
    · subst hb; exact .inl ⟨o₀, ha, fun _ => hm⟩
    · rw [setSto_other _ _ hb] at e; exact .inl ⟨ob, e, id⟩
  rest := rfl

/-- new objects, one of them into the store -/
theorem Sim.alloc {F : FE} {σ : St} {h h' : Heap} {a : Addr} {o : O} (S : Sim GB F σ h) (k : ∀ b ob, h.get? b = some ob → h'.get? b = some ob) (ha : h.get? a = none) (ho : ORep h' a o) : Sim GB F (σ.setSto a o) h' := by
  have S' := S.keeps k
  have hnot : ∀ ob, h.get? a ≠ some ob := fun ob e => by rw [ha] at e; cases e
  exact {
    base := S'.base
    frame := S'.frame
    cells := S'.cells
    apart := S'.apart
    sto := fun b ob e => by
      by_cases hb : b = a
      · subst hb; rw [setSto_same] at e; cases e; exact ho
      · rw [setSto_other _ _ hb] at e; exact S'.sto b ob e
    inOwn := S.inOwn
    ownIs := S.ownIs
    new := S.new
    off := fun b ob e => by
      by_cases hb : b = a
      · subst hb
        refine ⟨fun _ => ?_, fun e => ?_, fun p hp e => ?_⟩
        · cases hq : GB.get? b with
          | none => rfl
          | some ob => exact (hnot _ (S.base b ob hq)).elim
        · obtain ⟨m, ⟨o', _, _, ho', _⟩, _⟩ := S.frame
          exact hnot _ (e ▸ ho')
        · obtain ⟨v₀, oc, hoc, _⟩ := S.cells p hp
          exact hnot _ (e ▸ hoc)
      · rw [setSto_other _ _ hb] at e; exact S.off b ob e }
theorem Mod.alloc {F : FE} {σ : St} {s : Shared} {h' : Heap} {tk : Nat} {a : Addr} {o : O} (k : ∀ b ob, s.heap.get? b = some ob → h'.get? b = some ob) (ha : s.heap.get? a = none) :
    Mod F.own σ (σ.setSto a o) s { s with heap := h', toks := tk } where
  alive := fun b ob e => ⟨ob, k b ob e⟩
  keep := fun b ob e _ _ => k b ob e
  dom := fun b ob e => by
    by_cases hb : b = a
    · subst hb; exact .inr ha
    · rw [setSto_other _ _ hb] at e; exact .inl ⟨ob, e, id⟩
  rest := rfl
theorem Mod.pure {F : FE} {σ : St} {s : Shared} {h' : Heap} {tk : Nat} (k : ∀ b ob, s.heap.get? b = some ob → h'.get? b = some ob) :
    Mod F.own σ σ s { s with heap := h', toks := tk } := ⟨fun b ob e _ _ => k b ob e, fun b ob e => .inl ⟨ob, e, id⟩, fun b ob e => ⟨ob, k b ob e⟩, rfl⟩

theorem Sim.fresh_none {F : FE} {σ : St} {h : Heap} (S : Sim GB F σ h) {a : Addr} (ha : h.get? a = none) : σ.sto a = none := by
  cases hs : σ.sto a with
  | none => rfl
  | some o =>
    exfalso
    have hnot : ∀ ob, h.get? a ≠ some ob := fun ob e => by rw [ha] at e; cases e
    have r := S.sto a o hs
    cases o with
    | lst vs => obtain ⟨_, _, _, e, _⟩ := r; exact hnot _ e
    | rol vs => obtain ⟨_, _, ⟨_, e, _⟩, _⟩ := r; exact hnot _ e
    | raw o => exact hnot _ r.1

/-- a store into a name -/
theorem store_name {prog : Program} {w : World} {A : Around} {E : Value → Shared → Prop} {F : FE} {σ : St} {s : Shared} {x : Str} {v : V} {v' : Value} {Q : Unit → Shared → Prop}
    (ok : EnvOk F.env) (S : Sim GB F σ s.heap) (hr : Rep s.heap v v')
    (hk : F.env.kindOf x = some .local ∨ (F.env.kindOf x = some .cell ∧ ∃ c, F.env.cells.lookup x = some c ∧ c ∈ F.own))
    (h : ∀ h' tk, Sim GB F (σ.setLoc x v) h' → Mod F.own σ (σ.setLoc x v) s { s with heap := h', toks := tk } → Q () { s with heap := h', toks := tk }) :
    wpAny (model prog w) A (storeName F.env x v') Q E s := by
  obtain ⟨m, hn, hl⟩ := S.frame
  rcases hk with hk | ⟨hk, c, hc, hown⟩
  · refine wpAny_storeName_local hk hn (fun h' hn' hs => ?_) (by rw [ok.kind]; rfl)
    have hnt : ∀ o, s.heap.get? F.env.locals = some o → ¬ FrzO o := fun o ho hf => frz_not_dict ho hf hn
    have k := hs.extBut
    refine h h' (s.toks + 1) ?_ ⟨fun b ob e _ ho => k b ob (fun q => ho (q ▸ S.inOwn)) e, fun b ob e => .inl ⟨ob, e, id⟩, fun b ob e => by
      by_cases hb : b = F.env.locals
      · subst hb; obtain ⟨o', _, _, ho', _⟩ := hn'; exact ⟨o', ho'⟩
      · exact ⟨ob, k b ob hb e⟩, rfl⟩
    exact {
      base := fun b ob e => k b ob (fun q => by rw [q, S.new _ S.inOwn] at e; cases e) (S.base b ob e)
      frame := by
        refine ⟨_, hn', fun y u e => ?_⟩
        rw [show (σ.setLoc x v).loc = locSet σ.loc x v from rfl, locSet_lookup] at e
        by_cases hy : (y == x) = true
        · rw [if_pos hy] at e; cases e
          have hyx := beq_iff_eq.mp hy
          subst hyx
          exact ⟨v', .inl ⟨hk, by simp⟩, hr.keeps (not_frz_ext hnt k)⟩
        · rw [if_neg hy] at e
          obtain ⟨u', hp, hru⟩ := hl y u e
          refine ⟨u', ?_, hru.keeps (not_frz_ext hnt k)⟩
          rcases hp with ⟨h1, h2⟩ | ⟨h1, c, hc, oc, hcell, hd⟩
          · exact .inl ⟨h1, by show (if y = x then some v' else m y) = some u'; rw [if_neg (fun q => hy (beq_iff_eq.mpr q))]; exact h2⟩
          · exact .inr ⟨h1, c, hc, oc, k c oc (S.local_not_cell (mem_of_lookup hc)) hcell, hd⟩
      cells := fun p hp => by obtain ⟨v₀, oc, hcell, hd⟩ := S.cells p hp; exact ⟨v₀, oc, k _ _ (S.local_not_cell hp) hcell, hd⟩
      apart := S.apart
      sto := fun b ob e => (S.sto b ob e).ext (S.off b ob e).2.1 hnt k
      inOwn := S.inOwn
      ownIs := S.ownIs
      new := S.new
      off := S.off }
  · obtain ⟨v₀, hv₀⟩ := S.cells _ (mem_of_lookup hc)
    refine wpAny_storeName_cell ok.kind hk hc hv₀ fun h' hc' hs => ?_
    have hnt : ∀ o, s.heap.get? c = some o → ¬ FrzO o := fun o ho hf => frz_not_cell ho hf hv₀
    have k := hs.extBut
    have hcL : F.env.locals ≠ c := fun q => S.local_not_cell (mem_of_lookup hc) q.symm
    refine h h' s.toks ?_ ⟨fun b ob e _ ho => k b ob (fun q => ho (q ▸ hown)) e, fun b ob e => .inl ⟨ob, e, id⟩, fun b ob e => by
      by_cases hb : b = c
      · subst hb; obtain ⟨o', ho', _⟩ := hc'; exact ⟨o', ho'⟩
      · exact ⟨ob, k b ob hb e⟩, rfl⟩
    exact {
      base := fun b ob e => k b ob (fun q => by rw [q, S.new _ hown] at e; cases e) (S.base b ob e)
      frame := by
        refine ⟨m, hn.extBut k hcL, fun y u e => ?_⟩
        rw [show (σ.setLoc x v).loc = locSet σ.loc x v from rfl, locSet_lookup] at e
        by_cases hy : (y == x) = true
        · rw [if_pos hy] at e; cases e
          have hyx := beq_iff_eq.mp hy
          subst hyx
          exact ⟨v', .inr ⟨.inl hk, c, hc, hc'⟩, hr.keeps (not_frz_ext hnt k)⟩
        · rw [if_neg hy] at e
          obtain ⟨u', hp, hru⟩ := hl y u e
          refine ⟨u', ?_, hru.keeps (not_frz_ext hnt k)⟩
          rcases hp with ⟨h1, h2⟩ | ⟨h1, d, hd, oc, hcell, hdd⟩
          · exact .inl ⟨h1, h2⟩
          · refine .inr ⟨h1, d, hd, oc, k d oc (fun q => ?_) hcell, hdd⟩
            subst q
            exact hy (beq_iff_eq.mpr (name_of_addr S.apart (mem_of_lookup hd) (mem_of_lookup hc)))
      cells := fun p hp => by
        by_cases hpc : p.2 = c
        · exact ⟨some v', hpc ▸ hc'⟩
        · obtain ⟨v₀, oc, hcell, hd⟩ := S.cells p hp; exact ⟨v₀, oc, k _ _ hpc hcell, hd⟩
      apart := S.apart
      sto := fun b ob e => (S.sto b ob e).ext (fun q => (S.off b ob e).2.2 _ (mem_of_lookup hc) q.symm) hnt k
      inOwn := S.inOwn
      ownIs := S.ownIs
      new := S.new
      off := S.off }

/-- a name is read -/
theorem load_name {prog : Program} {w : World} {A : Around} {E : Value → Shared → Prop} {F : FE} {σ : St} {s : Shared} {x : Str} {v : V} {Q : Value → Shared → Prop}
    (ok : EnvOk F.env) (S : Sim GB F σ s.heap) (hx : σ.loc.lookup x = some v) (hd : (x == ("__classdict__" : Str)) = false) (h : ∀ v', Rep s.heap v v' → Q v' s) : wpAny (model prog w) A (loadName F.env x) Q E s := by
  obtain ⟨m, hn, hl⟩ := S.frame
  obtain ⟨v', hp, hr⟩ := hl x v hx
  rcases hp with ⟨h1, h2⟩ | ⟨h1 | h1, c, hc, hcell⟩
  · exact wpAny_loadName_local ok.kind h1 hn h2 (h v' hr)
  · exact wpAny_loadName_cell ok.kind h1 hc hcell (h v' hr)
  · exact wpAny_loadName_free ok.kind h1 hc hcell (h v' hr) hd

/-- an object that is neither the frame's nor the store's -/
structure Loose (GB : Heap) (F : FE) (σ : St) (h : Heap) (c : Addr) : Prop where
  new : GB.get? c = none
  loc : c ≠ F.env.locals
  cell : ∀ p ∈ F.env.cells, p.2 ≠ c
  sto : σ.sto c = none
  frz : ∀ o, h.get? c = some o → ¬ FrzO o
theorem Loose.own {F : FE} {σ : St} {h : Heap} {c : Addr} (S : Sim GB F σ h) (l : Loose GB F σ h c) : c ∉ F.own := fun hc => by
  rcases S.ownIs c hc with e | ⟨p, hp, e⟩
  · exact l.loc e
  · exact l.cell p hp e
theorem Sim.extBut {F : FE} {σ : St} {h h' : Heap} {c : Addr} (S : Sim GB F σ h) (l : Loose GB F σ h c) (k : Heap.ExtBut c h h') : Sim GB F σ h' where
  base := fun b o e => k b o (fun q => by rw [q, l.new] at e; cases e) (S.base b o e)
  frame := by
    obtain ⟨m, hn, hl⟩ := S.frame
    refine ⟨m, hn.extBut k (Ne.symm l.loc), fun x v e => ?_⟩
    obtain ⟨v', hp, hr⟩ := hl x v e
    refine ⟨v', ?_, hr.keeps (not_frz_ext l.frz k)⟩
    rcases hp with hp | ⟨hk, c, hc, oc, hcell, hd⟩
    · exact .inl hp
    · exact .inr ⟨hk, c, hc, oc, k c oc (l.cell _ (mem_of_lookup hc)) hcell, hd⟩
  cells := fun p hp => by obtain ⟨v₀, oc, hcell, hd⟩ := S.cells p hp; exact ⟨v₀, oc, k _ _ (l.cell p hp) hcell, hd⟩
  apart := S.apart
  sto := fun b o e => (S.sto b o e).ext (fun q => by rw [q, l.sto] at e; cases e) l.frz k
  inOwn := S.inOwn
  ownIs := S.ownIs
  new := S.new
  off := S.off
theorem Loose.fresh {F : FE} {σ : St} {h h' : Heap} {c : Addr} (S : Sim GB F σ h) (hc : h.get? c = none) (ht : ∀ o, h'.get? c = some o → ¬ FrzO o) : Loose GB F σ h' c where
  new := by
    cases hq : GB.get? c with
    | none => rfl
    | some o => have := S.base c o hq; rw [hc] at this; cases this
  loc := fun e => by obtain ⟨m, ⟨o, _, _, ho, _⟩, _⟩ := S.frame; rw [← e, hc] at ho; cases ho
  cell := fun p hp e => by obtain ⟨v₀, o, ho, _⟩ := S.cells p hp; rw [e, hc] at ho; cases ho
  sto := S.fresh_none hc
  frz := ht

/-- the frame of the caller, behind what left it alone -/
theorem Sim.back {F : FE} {σ : St} {h h' : Heap} {sto' : Addr → Option O} (S : Sim GB F σ h) (X : Addr → Prop) (kp : ∀ b ob, h.get? b = some ob → σ.fixed b → ¬ X b → h'.get? b = some ob)
    (xl : ¬ X F.env.locals) (xc : ∀ p ∈ F.env.cells, ¬ X p.2) (xf : ∀ b o, h.get? b = some o → FrzO o → ¬ X b) (base : ∀ b o, GB.get? b = some o → h'.get? b = some o) (sto : ∀ a o, sto' a = some o → ORep h' a o) (gb : ∀ a o, sto' a = some o → o.isMut = true → GB.get? a = none)
    (dm : ∀ b ob, sto' b = some ob → (∃ o', σ.sto b = some o') ∨ h.get? b = none) : Sim GB F ⟨σ.loc, sto'⟩ h' where
  base := base
  frame := by
    obtain ⟨m, hn, hl⟩ := S.frame
    have fixL : σ.fixed F.env.locals := fun o' e => absurd rfl (S.off _ o' e).2.1
    refine ⟨m, ?_, fun y v e => ?_⟩
    · obtain ⟨oL, es, ep, hoL, r⟩ := hn
      exact ⟨oL, es, ep, kp _ _ hoL fixL xl, r⟩
    · obtain ⟨v', hp, hr⟩ := hl y v e
      refine ⟨v', ?_, hr.keeps fun c o hoc hf => kp c o hoc (S.frz_off hoc hf).1 (xf c o hoc hf)⟩
      rcases hp with hp | ⟨hk, c, hc, oc, hoc, hdc⟩
      · exact .inl hp
      · exact .inr ⟨hk, c, hc, oc, kp c oc hoc (fun o' e => absurd rfl ((S.off _ o' e).2.2 _ (mem_of_lookup hc))) (xc _ (mem_of_lookup hc)), hdc⟩
  cells := fun p hp => by
    obtain ⟨v₀, oc, hoc, hdc⟩ := S.cells p hp
    exact ⟨v₀, oc, kp _ oc hoc (fun o' e => absurd rfl ((S.off _ o' e).2.2 _ hp)) (xc p hp), hdc⟩
  apart := S.apart
  sto := sto
  inOwn := S.inOwn
  ownIs := S.ownIs
  new := S.new
  off := fun b ob e => by
    refine ⟨gb b ob e, ?_⟩
    rcases dm b ob e with ⟨o', ho'⟩ | q
    · exact (S.off b o' ho').2
    · refine ⟨fun e' => ?_, fun p hp e' => ?_⟩
      · obtain ⟨m, ⟨oL, _, _, hoL, _⟩, _⟩ := S.frame
        rw [← e', q] at hoL; cases hoL
      · obtain ⟨v₀, oc, hoc, _⟩ := S.cells p hp
        rw [e', q] at hoc; cases hoc
/-- an object joins the store -/
theorem Sim.adopt {F : FE} {σ : St} {h : Heap} {a : Addr} {o : O} (S : Sim GB F σ h) (ho : ORep h a o) (hg : GB.get? a = none) (hl : a ≠ F.env.locals) (hc : ∀ p ∈ F.env.cells, p.2 ≠ a) : Sim GB F (σ.setSto a o) h :=
  ⟨S.base, S.frame, S.cells, S.apart, fun b ob e => by
    by_cases hb : b = a
    · subst hb; rw [setSto_same] at e; cases e; exact ho
    · rw [setSto_other _ _ hb] at e; exact S.sto b ob e, S.inOwn, S.ownIs, S.new, fun b ob e => by
    by_cases hb : b = a
    · subst hb; exact ⟨fun _ => hg, hl, hc⟩
    · rw [setSto_other _ _ hb] at e; exact S.off b ob e⟩
theorem Mod.adopt {own : List Addr} {σ σ' : St} {s s' : Shared} {a : Addr} {o : O} (x : Mod own σ σ' s s') (ha : s.heap.get? a = none) : Mod own σ (σ'.setSto a o) s s' :=
  ⟨x.keep, fun b ob e => by
    by_cases hb : b = a
    · subst hb; exact .inr ha
    · rw [setSto_other _ _ hb] at e; exact x.dom b ob e, x.alive, x.rest⟩
theorem Mod.wide {own own' : List Addr} {σ σ' : St} {s s' : Shared} (x : Mod own σ σ' s s') (h : ∀ b ∈ own, b ∈ own') : Mod own' σ σ' s s' := ⟨fun b o e f n => x.keep b o e f fun q => n (h b q), x.dom, x.alive, x.rest⟩

theorem get_size (h : Heap) : h.get? h.objs.size = none := by
  cases hq : h.get? h.objs.size with
  | none => rfl
  | some o => exact absurd (Heap.lt_size hq) (Nat.lt_irrefl _)

end Mine
set_option Elab.async false
set_option linter.unusedVariables false
namespace Mine
open PySem PySem.W PyProof.Rows

structure Cx where
  prog : Program
  w : World
  GB : Heap
  mg : Str → Option Value
  mb : Str → Option Value
  GT : List (Str × V)
  exc : Option Addr := none

structure CxOk (C : Cx) : Prop where
  g : C.GB.Ns mainGlobals C.mg
  b : C.GB.Ns builtinsNs C.mb
  nolimit : C.GB.NoLimit
  gt : ∀ x v, C.GT.lookup x = some v → ∃ v', (C.mg x = some v' ∨ (C.mg x = none ∧ C.mb x = some v')) ∧ ∀ h, Rep h v v'

/-- an exception without one behind it -/
def Tame (o : Obj) : Prop := ∃ vs, o.data = .fields vs ∧ vs[2]? = some .none
/-- what is being handled -/
def HOk (C : Cx) (A : Around) : Prop := match C.exc with
  | none => A.handled = none
  | some ea => A.handled = some (.ref ea) ∧ ∃ o, C.GB.get? ea = some o ∧ Tame o
theorem HOk.calm {C : Cx} {A : Around} (h : HOk C A) (hx : C.exc = none) : A.handled = none := by unfold HOk at h; rw [hx] at h; exact h
def Room (C : Cx) (k : Nat) (F : FE) (A : Around) : Prop := HOk C A ∧ A.depth + k < recursionLimit ∧ A.units + 10 * k + 5 < cLine ∧ A.frames = some F.frames

inductive Fl where
  | next
  | brk
  | cont
  | ret (v : V)

inductive FlRep (h : Heap) : Fl → Flow → Prop
  | next : FlRep h .next .next
  | brk : FlRep h .brk .brk
  | cont : FlRep h .cont .cont
  | ret {v : V} {v' : Value} : Rep h v v' → FlRep h (.ret v) (.ret v')

/-- what holds behind a tree -/
def Post (C : Cx) (F : FE) {α β : Type} (R : Heap → β → α → Prop) (σ : St) (s : Shared) (Q : β → St → Prop) : α → Shared → Prop :=
  fun a s' => ∃ b σ', R s'.heap b a ∧ Sim C.GB F σ' s'.heap ∧ Mod F.own σ σ' s s' ∧ Q b σ'

abbrev No : Value → Shared → Prop := fun _ _ => False

def TT (C : Cx) (k : Nat) (F : FE) {α β : Type} (R : Heap → β → α → Prop) (t : Sem α) (σ : St) (Q : β → St → Prop) : Prop :=
  ∀ A s, Room C k F A → Sim C.GB F σ s.heap → wpAny (model C.prog C.w) A t (Post C F R σ s Q) No s
def T1 (C : Cx) (k : Nat) (F : FE) {α β : Type} (R : Heap → β → α → Prop) (t : Value → Sem α) (a : V) (σ : St) (Q : β → St → Prop) : Prop :=
  ∀ A s a', Room C k F A → Sim C.GB F σ s.heap → Rep s.heap a a' → wpAny (model C.prog C.w) A (t a') (Post C F R σ s Q) No s
def T2 (C : Cx) (k : Nat) (F : FE) {α β : Type} (R : Heap → β → α → Prop) (t : Value → Value → Sem α) (a b : V) (σ : St) (Q : β → St → Prop) : Prop :=
  ∀ A s a' b', Room C k F A → Sim C.GB F σ s.heap → Rep s.heap a a' → Rep s.heap b b' → wpAny (model C.prog C.w) A (t a' b') (Post C F R σ s Q) No s
def T3 (C : Cx) (k : Nat) (F : FE) {α β : Type} (R : Heap → β → α → Prop) (t : Value → Value → Value → Sem α) (a b c : V) (σ : St) (Q : β → St → Prop) : Prop :=
  ∀ A s a' b' c', Room C k F A → Sim C.GB F σ s.heap → Rep s.heap a a' → Rep s.heap b b' → Rep s.heap c c' → wpAny (model C.prog C.w) A (t a' b' c') (Post C F R σ s Q) No s
def TN (C : Cx) (k : Nat) (F : FE) {α β : Type} (R : Heap → β → α → Prop) (t : List Value → Sem α) (vs : List V) (σ : St) (Q : β → St → Prop) : Prop :=
  ∀ A s vs', Room C k F A → Sim C.GB F σ s.heap → Reps s.heap vs vs' → wpAny (model C.prog C.w) A (t vs') (Post C F R σ s Q) No s

abbrev REq {α : Type} : Heap → α → α → Prop := fun _ a b => a = b

def TE (C : Cx) (k : Nat) (F : FE) (e : Expr) (σ : St) (Q : V → St → Prop) : Prop := TT C k F Rep (eval e F.env) σ Q
def TB (C : Cx) (k : Nat) (F : FE) (e : Expr) (σ : St) (Q : Bool → St → Prop) : Prop := TT C k F REq (isTrue e F.env (eval e F.env)) σ Q
def TEs (C : Cx) (k : Nat) (F : FE) (pos : Pos) (es : List Expr) (σ : St) (Q : List V → St → Prop) : Prop := TT C k F Reps (spliced (backTo pos (starEach es F.env))) σ Q
def TS (C : Cx) (k : Nat) (F : FE) (s : Stmt) (σ : St) (Q : Fl → St → Prop) : Prop := TT C k F FlRep (exec s F.env) σ Q
def TX (C : Cx) (k : Nat) (F : FE) (ss : List Stmt) (σ : St) (Q : Fl → St → Prop) : Prop := TT C k F FlRep (execs ss F.env) σ Q
def BinOK (C : Cx) (k : Nat) (F : FE) (op : Operator) (a b : V) (σ : St) (Q : V → St → Prop) : Prop := T2 C k F Rep (binaryOp op) a b σ Q
def IBinOK (C : Cx) (k : Nat) (F : FE) (op : Operator) (a b : V) (σ : St) (Q : V → St → Prop) : Prop := T2 C k F Rep (inplaceOp op) a b σ Q
def CmpOK (C : Cx) (k : Nat) (F : FE) (op : CmpOp) (a b : V) (σ : St) (Q : V → St → Prop) : Prop := T2 C k F Rep (compareOp op) a b σ Q
def UnOK (C : Cx) (k : Nat) (F : FE) (op : UnaryOp) (a : V) (σ : St) (Q : V → St → Prop) : Prop := T1 C k F Rep (unaryOp op) a σ Q
def TruthOK (C : Cx) (k : Nat) (F : FE) (a : V) (σ : St) (Q : Bool → St → Prop) : Prop := T1 C k F REq truthy a σ Q
def ItemOK (C : Cx) (k : Nat) (F : FE) (e sl : Expr) (a b : V) (σ : St) (Q : V → St → Prop) : Prop := T2 C k F Rep (subscriptTail e sl) a b σ Q
def SetOK (C : Cx) (k : Nat) (F : FE) (o i v : V) (σ : St) (Q : Unit → St → Prop) : Prop := T3 C k F REq setItem o i v σ Q
def CallOK (C : Cx) (k : Nat) (F : FE) (f : V) (vs : List V) (σ : St) (Q : V → St → Prop) : Prop :=
  ∀ A s f' vs', Room C k F A → Sim C.GB F σ s.heap → Rep s.heap f f' → Reps s.heap vs vs' → wpAny (model C.prog C.w) A (call f' vs' []) (Post C F Rep σ s Q) No s

section
variable {C : Cx} {k : Nat} {F : FE} {σ : St}

theorem Post.mono {α β : Type} {R : Heap → β → α → Prop} {s : Shared} {Q Q' : β → St → Prop} (hq : ∀ b σ', Q b σ' → Q' b σ') {a : α} {s' : Shared} (h : Post C F R σ s Q a s') : Post C F R σ s Q' a s' :=
  let ⟨b, σ', r, S, M, q⟩ := h; ⟨b, σ', r, S, M, hq b σ' q⟩
theorem TT.mono {α β : Type} {R : Heap → β → α → Prop} {t : Sem α} {Q Q' : β → St → Prop} (h : TT C k F R t σ Q) (hq : ∀ b σ', Q b σ' → Q' b σ') : TT C k F R t σ Q' :=
  fun A s hA S => wpAny_mono (h A s hA S) (fun _ _ x => x.mono hq) fun _ _ x => x
theorem TX.mono {ss : List Stmt} {Q Q' : Fl → St → Prop} (h : TX C k F ss σ Q) (hq : ∀ b σ', Q b σ' → Q' b σ') : TX C k F ss σ Q' := TT.mono h hq
/-- behind a step the next one -/
theorem go {α β : Type} {A : Around} {R : Heap → β → α → Prop} {s : Shared} {Q : β → St → Prop} {t : Sem α} {K : α → Shared → Prop} (h : wpAny (model C.prog C.w) A t (Post C F R σ s Q) No s)
    (n : ∀ b a σ₁ s₁, R s₁.heap b a → Sim C.GB F σ₁ s₁.heap → Mod F.own σ σ₁ s s₁ → Q b σ₁ → K a s₁) : wpAny (model C.prog C.w) A t K No s :=
  wpAny_mono h (fun a s₁ ⟨b, σ₁, r, S₁, M, q⟩ => n b a σ₁ s₁ r S₁ M q) fun _ _ x => x
theorem post_on {α β : Type} {R : Heap → β → α → Prop} {σ₁ : St} {s s₁ : Shared} {Q : β → St → Prop} {a : α} {s' : Shared} (S₁ : Sim C.GB F σ₁ s₁.heap) (M : Mod F.own σ σ₁ s s₁) (h : Post C F R σ₁ s₁ Q a s') : Post C F R σ s Q a s' :=
  let ⟨b, σ₂, r, S, M₂, q⟩ := h; ⟨b, σ₂, r, S, M.trans S₁ M₂, q⟩
theorem fin {α β : Type} {A : Around} {R : Heap → β → α → Prop} {σ₁ : St} {s s₁ : Shared} {Q : β → St → Prop} {t : Sem α} (S₁ : Sim C.GB F σ₁ s₁.heap) (M : Mod F.own σ σ₁ s s₁) (h : wpAny (model C.prog C.w) A t (Post C F R σ₁ s₁ Q) No s₁) :
    wpAny (model C.prog C.w) A t (Post C F R σ s Q) No s₁ := wpAny_mono h (fun _ _ x => post_on S₁ M x) fun _ _ x => x

theorem post_pure {α β : Type} {R : Heap → β → α → Prop} {s : Shared} {Q : β → St → Prop} {a : α} {b : β} (S : Sim C.GB F σ s.heap) (r : R s.heap b a) (q : Q b σ) : Post C F R σ s Q a s := ⟨b, σ, r, S, .refl, q⟩
theorem post_tok {α β : Type} {R : Heap → β → α → Prop} {s : Shared} {Q : β → St → Prop} {a : α} {b : β} {tk : Nat} (S : Sim C.GB F σ s.heap) (r : R s.heap b a) (q : Q b σ) : Post C F R σ s Q a { s with toks := tk } := ⟨b, σ, r, S, .toks tk, q⟩

-- expressions
theorem e_int {i : Int} {n : Nat} {p : Pos} {Q : V → St → Prop} (h : Q (.int i) σ) : TE C k F (.Constant (.int i) n p) σ Q :=
  fun A s _ S => wpAny_Constant_int (post_tok S (.int _ _) h)
theorem e_none {n : Nat} {p : Pos} {Q : V → St → Prop} (h : Q .none σ) : TE C k F (.Constant .none n p) σ Q :=
  fun A s _ S => wpAny_Constant_none (post_pure S .none h)
theorem e_str {x : Str} {n : Nat} {p : Pos} {Q : V → St → Prop} (h : Q (.str x) σ) : TE C k F (.Constant (.str x) n p) σ Q :=
  fun A s _ S => wpAny_Constant_str (post_tok S (.str _ _) h)
theorem e_name {x : Str} {p : Pos} {v : V} {Q : V → St → Prop} (ok : EnvOk F.env) (hx : σ.loc.lookup x = some v) (h : Q v σ)
    (hd : (x == ("__debug__" : Str)) = false := by rfl) (hc : (x == ("__classdict__" : Str)) = false := by rfl) : TE C k F (.Name x p) σ Q :=
  fun A s _ S => wpAny_Name (load_name ok S hx hc fun v' r => post_pure S r h) hd
theorem e_glob {x : Str} {p : Pos} {v : V} {Q : V → St → Prop} (cx : CxOk C) (ok : EnvOk F.env) (hx : C.GT.lookup x = some v) (h : Q v σ)
    (hk : F.env.kindOf x = some .globalImplicit := by rfl) (hd : (x == ("__debug__" : Str)) = false := by rfl) : TE C k F (.Name x p) σ Q :=
  fun A s _ S => by
    obtain ⟨v', hv, hr⟩ := cx.gt x v hx
    refine Calls.Name_function_global ok.kind hk ?_ hd
    have hg : s.heap.Ns F.env.globals C.mg := by rw [ok.globals]; exact cx.g.keeps S.base
    have hb : s.heap.Ns F.env.builtins C.mb := by rw [ok.builtins]; exact cx.b.keeps S.base
    rcases hv with hv | ⟨hm, hv⟩
    · exact Calls.loadGlobal_global hg hv (post_pure S (hr _) h)
    · exact Calls.loadGlobal_builtin hg hm hb hv (post_pure S (hr _) h)
theorem e_bin {l r : Expr} {op : Operator} {p : Pos} {Q : V → St → Prop} (h : TE C k F l σ fun a σ₁ => TE C k F r σ₁ fun b σ₂ => BinOK C k F op a b σ₂ Q) : TE C k F (.BinOp l op r p) σ Q :=
  fun A s hA S => wpAny_BinOp (go (h A s hA S) fun a a' σ₁ s₁ ra S₁ M₁ h₁ => go (h₁ A s₁ hA S₁) fun b b' σ₂ s₂ rb S₂ M₂ h₂ => fin S₂ (M₁.trans S₁ M₂) (h₂ A s₂ a' b' hA S₂ (M₂.rep S₁ ra) rb))
theorem e_cmp {l r : Expr} {op : CmpOp} {p : Pos} {Q : V → St → Prop} (h : TE C k F l σ fun a σ₁ => TE C k F r σ₁ fun b σ₂ => CmpOK C k F op a b σ₂ Q)
    (hm : behindInMarks op r = false := by with_unfolding_all rfl) : TE C k F (.Compare l [op] [r] p) σ Q :=
  fun A s hA S => wpAny_Compare1 (go (h A s hA S) fun a a' σ₁ s₁ ra S₁ M₁ h₁ => go (h₁ A s₁ hA S₁) fun b b' σ₂ s₂ rb S₂ M₂ h₂ => fin S₂ (M₁.trans S₁ M₂) (h₂ A s₂ a' b' hA S₂ (M₂.rep S₁ ra) rb)) hm
theorem e_un {x : Expr} {op : UnaryOp} {p : Pos} {Q : V → St → Prop} (h : TE C k F x σ fun a σ₁ => UnOK C k F op a σ₁ Q) : TE C k F (.UnaryOp op x p) σ Q :=
  fun A s hA S => wpAny_UnaryOp (go (h A s hA S) fun a a' σ₁ s₁ ra S₁ M₁ h₁ => fin S₁ M₁ (h₁ A s₁ a' hA S₁ ra))
theorem e_ifexp {t b o : Expr} {p : Pos} {Q : V → St → Prop} (h : TB C k F t σ fun c σ₁ => if c then TE C k F b σ₁ Q else TE C k F o σ₁ Q) : TE C k F (.IfExp t b o p) σ Q :=
  fun A s hA S => wpAny_IfExp (wpAny_mono (h A s hA S) (fun c s₁ ⟨b', σ₁, r, S₁, M, q⟩ => by
    cases r
    cases c <;> simp only [Bool.false_eq_true, if_false, if_true] at q ⊢ <;>
      exact wpAny_mono (q A s₁ hA S₁) (fun _ _ ⟨v, σ₂, r', S₂, M₂, q'⟩ => ⟨v, σ₂, r', S₂, M.trans S₁ M₂, q'⟩) fun _ _ x => x) fun _ _ x => x)
theorem e_and {x y : Expr} {p : Pos} {Q : V → St → Prop} (h : TE C k F x σ fun a σ₁ => TruthOK C k F a σ₁ fun b σ₂ => if b then TE C k F y σ₂ Q else Q a σ₂) : TE C k F (.BoolOp .And [x, y] p) σ Q :=
  fun A s hA S => wpAny_And2 (wpAny_mono (h A s hA S) (fun a' s₁ ⟨a, σ₁, ra, S₁, M, q⟩ =>
    wpAny_mono (q A s₁ a' hA S₁ ra) (fun b s₂ ⟨b', σ₂, rb, S₂, M₂, q₂⟩ => by
      cases rb
      cases b with
      | true => exact wpAny_mono (q₂ A s₂ hA S₂) (fun _ _ ⟨v, σ₃, r', S₃, M₃, q'⟩ => ⟨v, σ₃, r', S₃, (M.trans S₁ M₂).trans S₂ M₃, q'⟩) fun _ _ x => x
      | false => exact ⟨a, σ₂, M₂.rep S₁ ra, S₂, M.trans S₁ M₂, q₂⟩) fun _ _ x => x) fun _ _ x => x)
theorem e_sub {v sl : Expr} {p : Pos} {Q : V → St → Prop} (h : TE C k F v σ fun a σ₁ => TE C k F sl σ₁ fun b σ₂ => ItemOK C k F v sl a b σ₂ Q) : TE C k F (.Subscript v sl p) σ Q :=
  fun A s hA S => Subscript_ (go (h A s hA S) fun a a' σ₁ s₁ ra S₁ M₁ h₁ => go (h₁ A s₁ hA S₁) fun b b' σ₂ s₂ rb S₂ M₂ h₂ => fin S₂ (M₁.trans S₁ M₂) (h₂ A s₂ a' b' hA S₂ (M₂.rep S₁ ra) rb))
theorem es_nil {p : Pos} {Q : List V → St → Prop} (h : Q [] σ) : TEs C k F p [] σ Q := fun A s hA S => spliced_none (post_pure S .nil h)
theorem es_cons {p : Pos} {e : Expr} {r : List Expr} {Q : List V → St → Prop} (h : TE C k F e σ fun v σ₁ => TEs C k F p r σ₁ fun vs σ₂ => Q (v :: vs) σ₂)
    (he : starEach (e :: r) F.env = (false, eval e F.env) :: starEach r F.env := by rfl) : TEs C k F p (e :: r) σ Q :=
  fun A s hA S => spliced_more (wpAny_mono (h A s hA S) (fun a' s₁ ⟨a, σ₁, ra, S₁, M₁, h₁⟩ => wpAny_mono (h₁ A s₁ hA S₁) (fun vs' s₂ ⟨vs, σ₂, rv, S₂, M₂, h₂⟩ =>
    ⟨a :: vs, σ₂, .cons (M₂.rep S₁ ra) rv, S₂, M₁.trans S₁ M₂, h₂⟩) fun _ _ x => x) fun _ _ x => x) he

theorem keeps_push {h : Heap} (o : Obj) : ∀ b ob, h.get? b = some ob → (h.push o).get? b = some ob := fun _ _ e => Heap.get?_push_of_some _ e
theorem frz_of_keeps {h h' : Heap} (k : ∀ b ob, h.get? b = some ob → h'.get? b = some ob) : ∀ a o, h.get? a = some o → FrzO o → h'.get? a = some o := fun a o ho _ => k a o ho
theorem maxLen_le : maxLen ≤ sizeLine := by decide

/-- a new list onto the heap -/
theorem post_newList {s : Shared} {tk : Nat} {vs : List V} {vs' : List Value} {Q : V → St → Prop} (S : Sim C.GB F σ s.heap) (r : Reps s.heap vs vs') (hl : vs.length ≤ maxLen) (h : ∀ a, σ.sto a = none → Q (.ref a) (σ.setSto a (.lst vs))) :
    Post C F Rep σ s Q (.ref s.heap.objs.size) { s with heap := s.heap.push { cls := .type "list", data := .seq vs'.toArray }, toks := tk } :=
  ⟨.ref s.heap.objs.size, σ.setSto s.heap.objs.size (.lst vs), .ref _, S.alloc (keeps_push _) (get_size _) ⟨hl, vs', 0, Heap.get?_push_size _ rfl, r.keeps (frz_of_keeps (keeps_push _))⟩,
    .alloc (keeps_push _) (get_size _), h _ (S.fresh_none (get_size _))⟩

theorem e_list {es : List Expr} {p : Pos} {Q : V → St → Prop} (h : TEs C k F p es σ fun vs σ₁ => vs.length ≤ maxLen ∧ ∀ a, σ₁.sto a = none → Q (.ref a) (σ₁.setSto a (.lst vs))) : TE C k F (.List es p) σ Q :=
  fun A s hA S => wpAny_List_spliced (wpAny_mono (h A s hA S) (fun vs' s₁ ⟨vs, σ₁, rv, S₁, M₁, hl, h₁⟩ => by
    refine ⟨by rw [rv.length]; exact Nat.le_trans hl maxLen_le, ?_⟩
    obtain ⟨b, σ₂, r, S₂, M₂, q⟩ := post_newList (tk := s₁.toks) S₁ rv hl h₁
    exact ⟨b, σ₂, r, S₂, M₁.trans S₁ M₂, q⟩) fun _ _ x => x)
-- tests
theorem b_not {x : Expr} {p : Pos} {Q : Bool → St → Prop} (h : TB C k F x σ fun b σ₁ => Q (!b) σ₁) : TB C k F (.UnaryOp .Not x p) σ Q :=
  fun A s hA S => wpAny_isTrue_Not (wpAny_mono (h A s hA S) (fun b s₁ ⟨b', σ₁, r, S₁, M, q⟩ => by cases r; exact ⟨_, σ₁, rfl, S₁, M, q⟩) fun _ _ x => x)
theorem b_cmp {l r : Expr} {op : CmpOp} {p : Pos} {Q : Bool → St → Prop} (h : TE C k F l σ fun a σ₁ => TE C k F r σ₁ fun b σ₂ => CmpOK C k F op a b σ₂ fun v σ₃ => TruthOK C k F v σ₃ Q)
    (hm : behindInMarks op r = false := by with_unfolding_all rfl) : TB C k F (.Compare l [op] [r] p) σ Q :=
  fun A s hA S => wpAny_isTrue_Compare1 (go (h A s hA S) fun a a' σ₁ s₁ ra S₁ M₁ h₁ => go (h₁ A s₁ hA S₁) fun b b' σ₂ s₂ rb S₂ M₂ h₂ =>
    go (h₂ A s₂ a' b' hA S₂ (M₂.rep S₁ ra) rb) fun v v' σ₃ s₃ rv S₃ M₃ h₃ => fin S₃ ((M₁.trans S₁ M₂).trans S₂ M₃) (h₃ A s₃ v' hA S₃ rv)) hm
theorem b_val {e : Expr} {Q : Bool → St → Prop} (h : TE C k F e σ fun v σ₁ => TruthOK C k F v σ₁ Q)
    (he : isTrue e F.env (eval e F.env) = (do let v ← eval e F.env; standAt e.pos; holding [v] (truthy v)) := by rfl) : TB C k F e σ Q :=
  fun A s hA S => wpAny_isTrue_value (go (h A s hA S) fun v v' σ₁ s₁ rv S₁ M₁ h₁ => fin S₁ M₁ (h₁ A s₁ v' hA S₁ rv)) he
theorem b_and {x y : Expr} {p : Pos} {Q : Bool → St → Prop} (h : TB C k F x σ fun b σ₁ => if b then TB C k F y σ₁ Q else Q false σ₁) : TB C k F (.BoolOp .And [x, y] p) σ Q :=
  fun A s hA S => wpAny_isTrue_BoolOp (wpAny_allTrue_And_cons (go (h A s hA S) fun b b' σ₁ s₁ rb S₁ M₁ h₁ => by
    cases rb
    cases b with
    | true => exact wpAny_allTrue_And_cons (go (h₁ A s₁ hA S₁) fun c c' σ₂ s₂ rc S₂ M₂ h₂ => by
        cases rc
        cases c with
        | true => exact wpAny_allTrue_And_nil ⟨true, σ₂, rfl, S₂, M₁.trans S₁ M₂, h₂⟩
        | false => exact ⟨false, σ₂, rfl, S₂, M₁.trans S₁ M₂, h₂⟩)
    | false => exact ⟨false, σ₁, rfl, S₁, M₁, h₁⟩))
theorem b_or {x y : Expr} {p : Pos} {Q : Bool → St → Prop} (h : TB C k F x σ fun b σ₁ => if b then Q true σ₁ else TB C k F y σ₁ Q) : TB C k F (.BoolOp .Or [x, y] p) σ Q :=
  fun A s hA S => wpAny_isTrue_BoolOp (wpAny_allTrue_Or_cons (go (h A s hA S) fun b b' σ₁ s₁ rb S₁ M₁ h₁ => by
    cases rb
    cases b with
    | false => exact wpAny_allTrue_Or_cons (go (h₁ A s₁ hA S₁) fun c c' σ₂ s₂ rc S₂ M₂ h₂ => by
        cases rc
        cases c with
        | false => exact wpAny_allTrue_Or_nil ⟨false, σ₂, rfl, S₂, M₁.trans S₁ M₂, h₂⟩
        | true => exact ⟨true, σ₂, rfl, S₂, M₁.trans S₁ M₂, h₂⟩)
    | true => exact ⟨true, σ₁, rfl, S₁, M₁, h₁⟩))

-- calls
def IsFun (GB : Heap) : V → Prop
  | .opq (.builtin _) => True
  | .opq (.type _) => True
  | .ref a => ∃ o fd, GB.get? a = some o ∧ o.data = .func fd
  | _ => False
theorem keeper_of {M : Model} {h : Heap} {f : V} {f' : Value} (hf : IsFun C.GB f) (r : Rep h f f') (hb : ∀ b o, C.GB.get? b = some o → h.get? b = some o) :
    ∃ k, (k = Keeper.frame ∨ k = Keeper.machine ∨ k = Keeper.boundFrame) ∧ Looks M h (keeperOf f') k := by
  cases r with
  | ref a =>
    obtain ⟨o, fd, ho, hd⟩ := hf
    refine ⟨.frame, .inl rfl, (Looks.ld (part := none) (hb _ _ ho)).andThen ?_⟩
    rw [hd]; exact .now
  | opq hn =>
    cases f' <;> first | exact hf.elim | exact ⟨.machine, .inr (.inl rfl), .of_pure rfl⟩
  | _ => exact hf.elim
theorem evalArgs_none {M : Model} {A : Around} {E : Value → Shared → Prop} {s : Shared} {f : Value} {Q : Args → Shared → Prop}
    (h : wpAny M A (spliced []) (fun vs s' => Q ⟨vs, []⟩ s') E s) : wpAny M A (evalArgs f true [] []) Q E s := by
  unfold evalArgs
  show wpAny M A (spliced [] >>= _) Q E s
  refine wpAny_bind (wpAny_mono h (fun vs s' h' => ?_) fun _ _ x => x)
  exact wpAny_bind (wpAny_pure (wpAny_holding (wpAny_bind (wpAny_pure (wpAny_bind (wpAny_pure (wpAny_pure h')))))))
theorem e_call {fe : Expr} {es : List Expr} {p : Pos} {Q : V → St → Prop} (h : TE C k F fe σ fun f σ₁ => TEs C k F p es σ₁ fun vs σ₂ => IsFun C.GB f ∧ CallOK C k F f vs σ₂ Q)
    (hn : eval (.Call fe es [] p) F.env = (do callWith p (← eval fe F.env) [] (backTo p (starEach es F.env)) (backToKw p (keywordEach [] F.env))) := by rfl)
    (hs : (starEach es F.env).all (fun x => !x.1) = true := by rfl) : TE C k F (.Call fe es [] p) σ Q :=
  fun A s hA S => by
    rw [TE] at h
    show wpAny _ A (eval (.Call fe es [] p) F.env) _ _ s
    rw [hn]
    refine wpAny_bind (go (h A s hA S) fun f f' σ₁ s₁ rf S₁ M₁ h₁ => ?_)
    have hst : ((backTo p (starEach es F.env)).any (·.1) || (backToKw p (keywordEach [] F.env)).any (·.1.isNone)) = false := by
      have : (backTo p (starEach es F.env)).any (·.1) = false := by
        rw [List.any_eq_false]
        intro x hx
        obtain ⟨y, hy, rfl⟩ := List.mem_map.mp hx
        have := List.all_eq_true.mp hs y hy
        simpa using this
      rw [this]; rfl
    refine callWith_of (P := fun h => Rep h f f' ∧ IsFun C.GB f ∧ ∀ b o, C.GB.get? b = some o → h.get? b = some o) hst (fun h ⟨r, hf, hb⟩ => keeper_of hf r hb) ?_
    have ha : wpAny (model C.prog C.w) A (spliced (backTo p (starEach es F.env))) (fun vs' s' => (Rep s'.heap f f' ∧ IsFun C.GB f ∧ ∀ b o, C.GB.get? b = some o → s'.heap.get? b = some o) ∧
        wpAny (model C.prog C.w) A (call f' vs' []) (Post C F Rep σ s Q) No s') No s₁ :=
      go (h₁ A s₁ hA S₁) fun vs vs' σ₂ s₂ rv S₂ M₂ ⟨hf, h₂⟩ => ⟨⟨M₂.rep S₁ rf, hf, S₂.base⟩, fin S₂ (M₁.trans S₁ M₂) (h₂ A s₂ f' vs' hA S₂ (M₂.rep S₁ rf) rv)⟩
    show wpAny _ A (evalArgs f' true (backTo p (starEach es F.env)) []) _ _ s₁
    cases hes : backTo p (starEach es F.env) with
    | nil =>
      rw [hes] at ha
      exact evalArgs_none ha
    | cons x r =>
      obtain ⟨b, t⟩ := x
      have hb : b = false := by
        have : ((b, t) :: r).any (·.1) = false := by rw [← hes]; simpa using (Bool.or_eq_false_iff.mp hst).1
        simpa using (List.any_eq_false.mp this (b, t) (.head _))
      subst hb
      rw [hes] at ha
      exact Calls.evalArgs_plain ha
end
end Mine
set_option Elab.async false
set_option linter.unusedVariables false
namespace Mine
open PySem PySem.W PyProof.Rows

section
variable {C : Cx} {k : Nat} {F : FE} {σ : St}

def StoreOk (F : FE) (x : Str) : Prop := F.env.kindOf x = some .local ∨ (F.env.kindOf x = some .cell ∧ ∃ c, F.env.cells.lookup x = some c ∧ c ∈ F.own)

-- statements
theorem x_nil {Q : Fl → St → Prop} (h : Q .next σ) : TX C k F [] σ Q := fun A s _ S => wpAny_execs_nil (post_pure S .next h)
/-- behind a statement the rest -/
def Then (C : Cx) (k : Nat) (F : FE) (r : List Stmt) (Q : Fl → St → Prop) (f : Fl) (σ₁ : St) : Prop := match f with | .next => TX C k F r σ₁ Q | f => Q f σ₁
theorem then_next {r : List Stmt} {Q : Fl → St → Prop} (h : TX C k F r σ Q) : Then C k F r Q .next σ := h
theorem then_brk {r : List Stmt} {Q : Fl → St → Prop} (h : Q .brk σ) : Then C k F r Q .brk σ := h
theorem then_cont {r : List Stmt} {Q : Fl → St → Prop} (h : Q .cont σ) : Then C k F r Q .cont σ := h
theorem then_ret {r : List Stmt} {v : V} {Q : Fl → St → Prop} (h : Q (.ret v) σ) : Then C k F r Q (.ret v) σ := h
theorem x_cons {st : Stmt} {r : List Stmt} {Q : Fl → St → Prop} (h : TS C k F st σ (Then C k F r Q)) : TX C k F (st :: r) σ Q :=
  fun A s hA S => wpAny_execs_cons (go (h A s hA S) fun f f' σ₁ s₁ rf S₁ M₁ h₁ => by
    cases rf with
    | next => exact fin S₁ M₁ (h₁ A s₁ hA S₁)
    | brk => exact ⟨_, σ₁, .brk, S₁, M₁, h₁⟩
    | cont => exact ⟨_, σ₁, .cont, S₁, M₁, h₁⟩
    | ret r => exact ⟨_, σ₁, .ret r, S₁, M₁, h₁⟩)
theorem s_assign {x : Str} {p' p : Pos} {e : Expr} {Q : Fl → St → Prop} (ok : EnvOk F.env) (h : TE C k F e σ fun v σ₁ => Q .next (σ₁.setLoc x v))
    (hk : StoreOk F x := by exact .inl rfl) (hs : swapsWith e (some (.Name x p')) p.line F.env = pure false := by rfl) : TS C k F (.Assign [.Name x p'] e p) σ Q :=
  fun A s hA S => wpAny_Assign_Name (go (h A s hA S) fun v v' σ₁ s₁ rv S₁ M₁ h₁ => store_name ok S₁ rv hk fun h' tk S₂ M₂ => ⟨_, _, .next, S₂, M₁.trans S₁ M₂, h₁⟩) hs
theorem s_setitem {o i e : Expr} {p' p : Pos} {Q : Fl → St → Prop} (h : TE C k F e σ fun v σ₁ => TE C k F o σ₁ fun ov σ₂ => TE C k F i σ₂ fun iv σ₃ => SetOK C k F ov iv v σ₃ fun _ σ₄ => Q .next σ₄)
    (hs : swapsWith e (some (.Subscript o i p')) p.line F.env = pure false := by rfl) : TS C k F (.Assign [.Subscript o i p'] e p) σ Q :=
  fun A s hA S => wpAny_Assign_Subscript (go (h A s hA S) fun v v' σ₁ s₁ rv S₁ M₁ h₁ => go (h₁ A s₁ hA S₁) fun ov ov' σ₂ s₂ ro S₂ M₂ h₂ => go (h₂ A s₂ hA S₂) fun iv iv' σ₃ s₃ ri S₃ M₃ h₃ =>
    go (h₃ A s₃ ov' iv' v' hA S₃ (M₃.rep S₂ ro) ri (M₃.rep S₂ (M₂.rep S₁ rv))) fun _ _ σ₄ s₄ _ S₄ M₄ h₄ => ⟨_, σ₄, .next, S₄, ((M₁.trans S₁ M₂).trans S₂ M₃).trans S₃ M₄, h₄⟩) hs
theorem s_expr {e : Expr} {p : Pos} {Q : Fl → St → Prop} (h : TE C k F e σ fun _ σ₁ => Q .next σ₁) (hi : interactive F.env = false := by rfl) (hs : swapsWith e none p.line F.env = pure false := by rfl) : TS C k F (.Expr e p) σ Q :=
  fun A s hA S => wpAny_Expr_any (go (h A s hA S) fun v v' σ₁ s₁ rv S₁ M₁ h₁ => ⟨_, σ₁, .next, S₁, M₁, h₁⟩) hi hs
theorem s_return {e : Expr} {p : Pos} {Q : Fl → St → Prop} (h : TE C k F e σ fun v σ₁ => Q (.ret v) σ₁) : TS C k F (.Return (some e) p) σ Q :=
  fun A s hA S => wpAny_Return_some (go (h A s hA S) fun v v' σ₁ s₁ rv S₁ M₁ h₁ => ⟨_, σ₁, .ret rv, S₁, M₁, h₁⟩)
theorem s_break {p : Pos} {Q : Fl → St → Prop} (h : Q .brk σ) : TS C k F (.Break p) σ Q := fun A s hA S => wpAny_Break (post_pure S .brk h)
theorem s_continue {p : Pos} {Q : Fl → St → Prop} (h : Q .cont σ) : TS C k F (.Continue p) σ Q := fun A s hA S => wpAny_Continue (post_pure S .cont h)
theorem s_if {t : Expr} {b o : List Stmt} {p : Pos} {Q : Fl → St → Prop} (h : TB C k F t σ fun c σ₁ => if c then TX C k F b σ₁ Q else TX C k F o σ₁ Q) : TS C k F (.If t b o p) σ Q :=
  fun A s hA S => wpAny_If (go (h A s hA S) fun c c' σ₁ s₁ rc S₁ M₁ h₁ => by
    cases rc
    cases c <;> simp only [Bool.false_eq_true, if_false, if_true] at h₁ ⊢ <;> exact fin S₁ M₁ (h₁ A s₁ hA S₁))
theorem no_mono {α : Type} {M : Model} {A : Around} {t : Sem α} {Q : α → Shared → Prop} {E : Value → Shared → Prop} {s : Shared} (h : wpAny M A t Q No s) : wpAny M A t Q E s := wpAny_mono h (fun _ _ x => x) fun _ _ x => x.elim

/-- a while by what holds between its turns -/
theorem s_while {t : Expr} {b o : List Stmt} {p : Pos} {Q : Fl → St → Prop} (Inv : Nat → St → Prop) (n : Nat) (h0 : Inv n σ)
    (turn : ∀ n σ', Inv n σ' → TB C k F t σ' fun c σ₁ => if c then TX C k F b σ₁ fun f σ₂ => (match f with
        | .next => ∃ m, m < n ∧ Inv m σ₂
        | .cont => ∃ m, m < n ∧ Inv m σ₂
        | .brk => Q .next σ₂
        | .ret v => Q (.ret v) σ₂) else TX C k F o σ₁ Q) : TS C k F (.While t b o p) σ Q :=
  fun A s hA S => wpAny_While (codeAny_whileLoop (fun n s' => ∃ σ', Sim C.GB F σ' s'.heap ∧ Mod F.own σ σ' s s' ∧ Inv n σ') (fun n s' ⟨σ', S', M', hI⟩ => by
    refine no_mono (go (turn n σ' hI A s' hA S') fun c c' σ₁ s₁ rc S₁ M₁ h₁ => ?_)
    cases rc
    cases c with
    | true =>
      simp only [if_true] at h₁ ⊢
      refine no_mono (go (h₁ A s₁ hA S₁) fun f f' σ₂ s₂ rf S₂ M₂ h₂ => ?_)
      have M := (M'.trans S' M₁).trans S₁ M₂
      cases rf with
      | next => obtain ⟨m, hm, hI⟩ := h₂; exact ⟨m, hm, σ₂, S₂, M, hI⟩
      | cont => obtain ⟨m, hm, hI⟩ := h₂; exact ⟨m, hm, σ₂, S₂, M, hI⟩
      | brk => exact ⟨_, σ₂, .next, S₂, M, h₂⟩
      | ret r => exact ⟨_, σ₂, .ret r, S₂, M, h₂⟩
    | false =>
      simp only [Bool.false_eq_true, if_false] at h₁ ⊢
      refine no_mono (go (h₁ A s₁ hA S₁) fun f f' σ₂ s₂ rf S₂ M₂ h₂ => ?_)
      exact ⟨f, σ₂, rf, S₂, (M'.trans S' M₁).trans S₁ M₂, h₂⟩) n ⟨σ, S, .refl, h0⟩)

-- iterators
/-- what an iterator yields; none: not known -/
abbrev Get := Nat → (Addr → Option O) → Option (Option V)
structure Iter (C : Cx) (k : Nat) (it : Addr) (get : Get) (K : Nat → Heap → Prop) : Prop where
  next : ∀ A F σ s i r₀, Room C k F A → Sim C.GB F σ s.heap → Loose C.GB F σ s.heap it → K i s.heap → get i σ.sto = some r₀ → wpAny (model C.prog C.w) A (pyNext (.ref it)) (fun r s' => Heap.ExtBut it s.heap s'.heap ∧
    s' = { s with heap := s'.heap, toks := s'.toks } ∧ match r₀ with | some v => ∃ v', r = some v' ∧ Rep s.heap v v' ∧ K (i + 1) s'.heap | none => r = none) No s
  only : ∀ i h h', K i h → (∀ o, h.get? it = some o → h'.get? it = some o) → (∀ a o, h.get? a = some o → FrzO o → h'.get? a = some o) → K i h'
  alive : ∀ i h, K i h → ∃ o, h.get? it = some o ∧ ¬ FrzO o
  again : ∀ (A : Around) (s : Shared) (i : Nat) (Q : Value → Shared → Prop), K i s.heap → Q (.ref it) s → wpAny (model C.prog C.w) A (pyIter (.ref it)) Q No s
  lot : ∀ (A : Around) (s : Shared) (i : Nat) (target : Expr) (v : Value) (Q : Unit → Shared → Prop), K i s.heap → Q () s → wpAny (model C.prog C.w) A (letOwnedTupleGo target (.ref it) v) Q No s

/-- the iterator of a value -/
def IterOK (C : Cx) (k : Nat) (F : FE) (a : V) (σ : St) (P : Get → St → Prop) : Prop :=
  ∀ A s a', Room C k F A → Sim C.GB F σ s.heap → Rep s.heap a a' → wpAny (model C.prog C.w) A (pyIter a') (fun it s' => ∃ I get K σ', it = .ref I ∧ s.heap.get? I = none ∧ Iter C k I get K ∧ K 0 s'.heap ∧ Sim C.GB F σ' s'.heap ∧ Mod F.own σ σ' s s' ∧ σ'.sto I = none ∧ P get σ') No s

/-- the iterator of an expression -/
def TIter (C : Cx) (k : Nat) (F : FE) (e : Expr) (σ : St) (P : Get → St → Prop) : Prop :=
  ∀ A s, Room C k F A → Sim C.GB F σ s.heap → wpAny (model C.prog C.w) A (eval e F.env) (fun x s₁ => wpAny (model C.prog C.w) A (pyIter x) (fun it s' => ∃ I get K σ', it = .ref I ∧ s.heap.get? I = none ∧ Iter C k I get K ∧ K 0 s'.heap ∧ Sim C.GB F σ' s'.heap ∧ Mod F.own σ σ' s s' ∧ σ'.sto I = none ∧ P get σ') No s₁) No s
theorem titer_of {e : Expr} {P : Get → St → Prop} (h : TE C k F e σ fun v σ₁ => IterOK C k F v σ₁ P) : TIter C k F e σ P :=
  fun A s hA S => go (h A s hA S) fun v v' σ₁ s₁ rv S₁ M₁ h₁ => wpAny_mono (h₁ A s₁ v' hA S₁ rv) (fun itv s₂ ⟨I, get, K, σ₂, e, hI, IT, hK, S₂, M₂, hsI, hP⟩ =>
    ⟨I, get, K, σ₂, e, M₁.back hI, IT, hK, S₂, M₁.trans S₁ M₂, hsI, hP⟩) fun _ _ x => x

def AsgOK (C : Cx) (k : Nat) (F : FE) (t : Expr) (v : V) (σ : St) (Q : St → Prop) : Prop := T1 C k F REq (assign t F.env) v σ fun (_ : Unit) σ₁ => Q σ₁

theorem not_frz_of {h : Heap} {a : Addr} {o : Obj} (ho : h.get? a = some o) (hc : ¬ FrzO o) : ∀ o', h.get? a = some o' → ¬ FrzO o' := fun o' ho' => by rw [ho] at ho'; cases ho'; exact hc

theorem Sim.sto_alive {GB : Heap} {h : Heap} (S : Sim GB F σ h) {a : Addr} {o : O} (e : σ.sto a = some o) : ∃ ob, h.get? a = some ob := by
  have r := S.sto a o e
  cases o with
  | lst vs => obtain ⟨_, _, _, e, _⟩ := r; exact ⟨_, e⟩
  | rol vs => obtain ⟨_, _, ⟨_, e, _⟩, _⟩ := r; exact ⟨_, e⟩
  | raw o => exact ⟨_, r.1⟩

theorem s_for {t it : Expr} {b o : List Stmt} {p : Pos} {Q : Fl → St → Prop} (h : TIter C k F it σ fun get σ₂ => ∃ (Inv : Nat → St → Prop) (N : Nat), Inv 0 σ₂ ∧ ∀ i σ', Inv i σ' → i ≤ N ∧ ∃ r₀, get i σ'.sto = some r₀ ∧
      match r₀ with
      | some v => AsgOK C k F t v σ' fun σ₃ => TX C k F b σ₃ fun f σ₄ => (match f with
          | .next => Inv (i + 1) σ₄
          | .cont => Inv (i + 1) σ₄
          | .brk => Q .next σ₄
          | .ret v => Q (.ret v) σ₄)
      | none => TX C k F o σ' Q)
    (hs : ∀ x, foldedSetIterable it F.env x = pure x := by intro _; rfl) : TS C k F (.For t it b o p) σ Q :=
  fun A s hA S => wpAny_For (wpAny_mono (h A s hA S) (fun x s₁ h₁ => wpAny_mono h₁ (fun itv s₂ ⟨I, get, K, σ₂, e, hI, IT, hK, S₂, M₂, hsI, Inv, N, h0, turn⟩ => by
    subst e
    have L₂ : Loose C.GB F σ₂ s₂.heap I := by
      obtain ⟨ob, ho, hc⟩ := IT.alive 0 _ hK
      have l := Loose.fresh (h' := s₂.heap) S hI (not_frz_of ho hc)
      exact ⟨l.new, l.loc, l.cell, hsI, l.frz⟩
    have stoI : ∀ {σ' σ'' : St} {s' s'' : Shared} {ob : Obj}, Mod F.own σ' σ'' s' s'' → s'.heap.get? I = some ob → σ'.sto I = none → σ''.sto I = none := fun M' ho hs' => by
      cases hq : (_ : St).sto I with
      | none => rfl
      | some o₁ =>
        rcases M'.dom I o₁ hq with ⟨o', h', _⟩ | h'
        · rw [hs'] at h'; cases h'
        · rw [ho] at h'; cases h'
    refine codeAny_forLoop_any (fun n s' => ∃ i σ', n = N + 1 - i ∧ Sim C.GB F σ' s'.heap ∧ Mod (I :: F.own) σ σ' s s' ∧ K i s'.heap ∧ Loose C.GB F σ' s'.heap I ∧ Inv i σ') (fun n s' ⟨i, σ', hn, S', M', hK', L', hInv⟩ => ?_) (N + 1) ⟨0, σ₂, rfl, S₂, M₂.more I, hK, L₂, h0⟩
    obtain ⟨hi, r₀, hg, ht⟩ := turn i σ' hInv
    refine no_mono (wpAny_mono (IT.next A F σ' s' i r₀ hA S' L' hK' hg) (fun r s₃ ⟨hext, hrest, hget⟩ => ?_) fun _ _ x => x)
    have S₃ : Sim C.GB F σ' s₃.heap := S'.extBut L' hext
    cases r₀ with
    | none =>
      subst hget
      refine no_mono (go (ht A s₃ hA S₃) fun f f' σ₄ s₄ rf S₄ M₄ h₄ => ?_)
      exact ⟨f, σ₄, rf, S₄, M'.endOf hI hext hrest M₄, h₄⟩
    | some v =>
      obtain ⟨v', rfl, rv', hK₃⟩ := hget
      obtain ⟨oI, hoI, hcI⟩ := IT.alive _ _ hK₃
      have M₃ : Mod (I :: F.own) σ' σ' s' s₃ := ⟨fun b o e _ nb => hext b o (fun q => nb (q ▸ .head _)) e, fun b o e => .inl ⟨o, e, id⟩, fun b o e => by
        by_cases hb : b = I
        · subst hb; exact ⟨oI, hoI⟩
        · exact ⟨o, hext b o hb e⟩, hrest⟩
      have M₁₃ := M'.trans' M₃
      refine no_mono (IT.lot A s₃ (i + 1) t v' _ hK₃ ?_)
      have L₃ : Loose C.GB F σ' s₃.heap I := ⟨L'.new, L'.loc, L'.cell, L'.sto, not_frz_of hoI hcI⟩
      refine no_mono (go (ht A s₃ v' hA S₃ (rv'.keeps (not_frz_ext L'.frz hext))) fun _ _ σ₄ s₄ _ S₄ M₄ h₄ => ?_)
      have hK₄ : K (i + 1) s₄.heap := IT.only _ _ _ hK₃ (fun o ho => M₄.keep I o ho (fun o' q => by rw [L₃.sto] at q; cases q) (L₃.own S₃)) (M₄.frz S₃)
      have hs₄ := stoI M₄ hoI L₃.sto
      refine no_mono (go (h₄ A s₄ hA S₄) fun f f' σ₅ s₅ rf S₅ M₅ h₅ => ?_)
      obtain ⟨o₄, ho₄, hc₄⟩ := IT.alive _ _ hK₄
      have L₄ : Loose C.GB F σ₄ s₄.heap I := ⟨L'.new, L'.loc, L'.cell, hs₄, not_frz_of ho₄ hc₄⟩
      have hK₅ : K (i + 1) s₅.heap := IT.only _ _ _ hK₄ (fun o ho => M₅.keep I o ho (fun o' q => by rw [L₄.sto] at q; cases q) (L₄.own S₄)) (M₅.frz S₄)
      have hs₅ := stoI M₅ ho₄ L₄.sto
      obtain ⟨o₅, ho₅, hc₅⟩ := IT.alive _ _ hK₅
      have M := (M₁₃.trans' (M₄.more I)).trans' (M₅.more I)
      cases rf with
      | next => exact ⟨N + 1 - (i + 1), by omega, i + 1, σ₅, rfl, S₅, M, hK₅, ⟨L'.new, L'.loc, L'.cell, hs₅, not_frz_of ho₅ hc₅⟩, h₅⟩
      | cont => exact ⟨N + 1 - (i + 1), by omega, i + 1, σ₅, rfl, S₅, M, hK₅, ⟨L'.new, L'.loc, L'.cell, hs₅, not_frz_of ho₅ hc₅⟩, h₅⟩
      | brk => exact ⟨_, σ₅, .next, S₅, M.less hI, h₅⟩
      | ret r => exact ⟨_, σ₅, .ret r, S₅, M.less hI, h₅⟩) fun _ _ x => x) fun _ _ x => x) hs

-- fewer names
def restrictL (names : List Str) (l : List (Str × V)) : List (Str × V) := names.filterMap fun x => (l.lookup x).map fun v => (x, v)
def St.restrict (σ : St) (names : List Str) : St := ⟨restrictL names σ.loc, σ.sto⟩
theorem restrictL_sub (l : List (Str × V)) : ∀ (names : List Str) (x : Str) (v : V), (restrictL names l).lookup x = some v → l.lookup x = some v
  | [], x, v, e => by simp [restrictL] at e
  | n :: r, x, v, e => by
    unfold restrictL at e
    rw [List.filterMap_cons] at e
    cases hn : l.lookup n with
    | none => rw [hn] at e; exact restrictL_sub l r x v e
    | some u =>
      rw [hn] at e
      simp only [Option.map_some] at e
      rw [List.lookup_cons] at e
      by_cases hx : (x == n) = true
      · rw [hx] at e; cases e; rw [beq_iff_eq.mp hx]; exact hn
      · have hx' : (x == n) = false := by simpa using hx
        rw [hx'] at e
        exact restrictL_sub l r x v e
theorem Sim.weak {GB : Heap} {h : Heap} {l : List (Str × V)} (S : Sim GB F σ h) (hs : ∀ x v, l.lookup x = some v → σ.loc.lookup x = some v) : Sim GB F ⟨l, σ.sto⟩ h :=
  ⟨S.base, (let ⟨m, hn, hl⟩ := S.frame; ⟨m, hn, fun x v e => hl x v (hs x v e)⟩), S.cells, S.apart, S.sto, S.inOwn, S.ownIs, S.new, S.off⟩
theorem TT.weak {α β : Type} {R : Heap → β → α → Prop} {t : Sem α} {Q : β → St → Prop} {l : List (Str × V)} (hs : ∀ x v, l.lookup x = some v → σ.loc.lookup x = some v) (h : TT C k F R t ⟨l, σ.sto⟩ Q) : TT C k F R t σ Q :=
  fun A s hA S => wpAny_mono (h A s hA (S.weak hs)) (fun a s' ⟨b, σ', r, S', M, q⟩ => ⟨b, σ', r, S', ⟨M.keep, M.dom, M.alive, M.rest⟩, q⟩) fun _ _ x => x
theorem x_weak {ss : List Stmt} {Q : Fl → St → Prop} (names : List Str) (h : TX C k F ss (σ.restrict names) Q) : TX C k F ss σ Q := TT.weak (restrictL_sub σ.loc names) h

theorem st_ext {l l' : List (Str × V)} {f f' : Addr → Option O} (h1 : l = l') (h2 : f = f') : St.mk l f = St.mk l' f' := by rw [h1, h2]
theorem q_eq {α : Type} {Q : α → St → Prop} {v : α} {l : List (Str × V)} {f f' : Addr → Option O} (h : Q v ⟨l, f⟩) (e : ∀ b, f' b = f b) : Q v ⟨l, f'⟩ := by rw [show f' = f from funext e]; exact h
/-- behind a turn of a while -/
def TurnW (names : List Str) (Inv : Nat → St → Prop) (n : Nat) (Q : Fl → St → Prop) (f : Fl) (σ₂ : St) : Prop := match f with
  | .next => ∃ m, m < n ∧ Inv m (σ₂.restrict names)
  | .cont => ∃ m, m < n ∧ Inv m (σ₂.restrict names)
  | .brk => Q .next σ₂
  | .ret v => Q (.ret v) σ₂
theorem turnW_next {names : List Str} {Inv : Nat → St → Prop} {n : Nat} {Q : Fl → St → Prop} (h : ∃ m, m < n ∧ Inv m (σ.restrict names)) : TurnW names Inv n Q .next σ := h
theorem turnW_brk {names : List Str} {Inv : Nat → St → Prop} {n : Nat} {Q : Fl → St → Prop} (h : Q .next σ) : TurnW names Inv n Q .brk σ := h
/-- behind a turn of a for -/
def TurnF (names : List Str) (Inv : Nat → St → Prop) (i : Nat) (Q : Fl → St → Prop) (f : Fl) (σ₂ : St) : Prop := match f with
  | .next => Inv (i + 1) (σ₂.restrict names)
  | .cont => Inv (i + 1) (σ₂.restrict names)
  | .brk => Q .next σ₂
  | .ret v => Q (.ret v) σ₂
theorem turnF_next {names : List Str} {Inv : Nat → St → Prop} {n : Nat} {Q : Fl → St → Prop} (h : Inv (n + 1) (σ.restrict names)) : TurnF names Inv n Q .next σ := h
/-- a while by what holds between its turns, of the names that are kept -/
theorem s_whileN {t : Expr} {b o : List Stmt} {p : Pos} {Q : Fl → St → Prop} (names : List Str) (Inv : Nat → St → Prop) (n : Nat) (h0 : Inv n (σ.restrict names))
    (turn : ∀ n σ', Inv n σ' → TB C k F t σ' fun c σ₁ => if c then TX C k F b σ₁ (TurnW names Inv n Q) else TX C k F o σ₁ Q) : TS C k F (.While t b o p) σ Q :=
  s_while (fun n σ' => Inv n (σ'.restrict names)) n h0 fun n σ' hI => TT.weak (restrictL_sub σ'.loc names) (TT.mono (turn n _ hI) fun c σ₁ h => by
    cases c with
    | false => exact h
    | true => exact TX.mono h fun f σ₂ h₂ => by cases f <;> exact h₂)

/-- a for, likewise -/
theorem TIter.mono {e : Expr} {P P' : Get → St → Prop} (h : TIter C k F e σ P) (hp : ∀ g σ', P g σ' → P' g σ') : TIter C k F e σ P' :=
  fun A s hA S => wpAny_mono (h A s hA S) (fun x s₁ h₁ => wpAny_mono h₁ (fun itv s₂ ⟨I, get, K, σ₂, e, hI, IT, hK, S₂, M₂, hsI, hP⟩ => ⟨I, get, K, σ₂, e, hI, IT, hK, S₂, M₂, hsI, hp _ _ hP⟩) fun _ _ x => x) fun _ _ x => x
theorem s_forN {t it : Expr} {b o : List Stmt} {p : Pos} {Q : Fl → St → Prop} (names : List Str) (h : TIter C k F it σ fun get σ₂ => ∃ (Inv : Nat → St → Prop) (N : Nat), Inv 0 (σ₂.restrict names) ∧ ∀ i σ', Inv i σ' → i ≤ N ∧ ∃ r₀, get i σ'.sto = some r₀ ∧
      match r₀ with
      | some v => AsgOK C k F t v σ' fun σ₃ => TX C k F b σ₃ (TurnF names Inv i Q)
      | none => TX C k F o σ' Q)
    (hs : ∀ x, foldedSetIterable it F.env x = pure x := by intro _; rfl) : TS C k F (.For t it b o p) σ Q :=
  s_for (TIter.mono h fun get σ₂ ⟨Inv, N, h0, turn⟩ => ⟨fun i σ' => Inv i (σ'.restrict names), N, h0, fun i σ' hInv => by
      obtain ⟨hi, r₀, hg, ht⟩ := turn i _ hInv
      refine ⟨hi, r₀, hg, ?_⟩
      cases r₀ with
      | none => exact TT.weak (restrictL_sub σ'.loc names) ht
      | some v =>
        exact fun A s a' hA S ra => wpAny_mono (ht A s a' hA (S.weak (restrictL_sub σ'.loc names)) ra) (fun a s' ⟨b, σ', r, S', M, q⟩ => ⟨b, σ', r, S', ⟨M.keep, M.dom, M.alive, M.rest⟩, TX.mono q fun f σ₂ h₂ => by cases f <;> exact h₂⟩) fun _ _ x => x⟩) hs

/-- behind a branch that joins -/
def JoinF (names : List Str) (J : St → Prop) (Q : Fl → St → Prop) (f : Fl) (σ₂ : St) : Prop := match f with
  | .next => J (σ₂.restrict names)
  | f => Q f σ₂
theorem join_next {names : List Str} {J : St → Prop} {Q : Fl → St → Prop} (h : J (σ.restrict names)) : JoinF names J Q .next σ := h
theorem x_ifJ {t : Expr} {b o r : List Stmt} {p : Pos} {Q : Fl → St → Prop} (names : List Str) (J : St → Prop) (h : TB C k F t σ fun c σ₁ => if c then TX C k F b σ₁ (JoinF names J Q) else TX C k F o σ₁ (JoinF names J Q))
    (h2 : ∀ σ₂, J σ₂ → TX C k F r σ₂ Q) : TX C k F (.If t b o p :: r) σ Q := by
  have hj : ∀ f σ₂, JoinF names J Q f σ₂ → Then C k F r Q f σ₂ := fun f σ₂ h => by
    cases f with
    | next => exact x_weak names (h2 _ h)
    | brk => exact h
    | cont => exact h
    | ret v => exact h
  refine x_cons (s_if (TT.mono h fun c σ₁ h₁ => ?_))
  cases c with
  | true => exact TX.mono h₁ hj
  | false => exact TX.mono h₁ hj
end
end Mine
set_option Elab.async false
set_option linter.unusedVariables false
namespace Mine
open PySem PySem.W PyProof.Rows

section
variable {C : Cx} {k : Nat} {F : FE} {σ : St}

-- a call of a def of the text's
theorem bindL_out (kd : Str → Option NameKind) (x : Str) : ∀ (l : List (Str × Value)) (m : Str → Option Value), (∀ p ∈ l, p.1 ≠ x) → bindL kd l m x = m x
  | [], m, _ => rfl
  | (n, v) :: r, m, h => by
    unfold bindL
    rw [bindL_out kd x r _ fun p hp => h p (.tail _ hp)]
    split
    · exact if_neg (fun (e : x = n) => h (n, v) (.head _) e.symm)
    · rfl
theorem bindC_out (kd : Str → Option NameKind) (x : Str) : ∀ (l : List (Str × Value)) (m : Str → Option Value), (∀ p ∈ l, p.1 ≠ x) → bindC kd l m x = m x
  | [], m, _ => rfl
  | (n, v) :: r, m, h => by
    unfold bindC
    rw [bindC_out kd x r _ fun p hp => h p (.tail _ hp)]
    split
    · rfl
    · exact if_neg (fun (e : x = n) => h (n, v) (.head _) e.symm)

theorem bind_in {h : Heap} (kd : Str → Option NameKind) : ∀ (ns : List Str) (vs : List V) (vs' : List Value) (m cm : Str → Option Value), ns.Nodup → Reps h vs vs' → ∀ x v, (ns.zip vs).lookup x = some v →
    ∃ v', Rep h v v' ∧ (kd x = some .local → bindL kd (ns.zip vs') m x = some v') ∧ (kd x ≠ some .local → bindC kd (ns.zip vs') cm x = some v')
  | [], _, _, _, _, _, _, _, _, e => by simp at e
  | n :: ns, [], _, _, _, _, _, _, _, e => by simp at e
  | n :: ns, u :: us, _, m, cm, hnd, .cons (v' := u') (vs' := us') ru rs, x, v, e => by
    rw [List.zip_cons_cons, List.lookup_cons] at e
    obtain ⟨hn, hnd'⟩ := List.nodup_cons.mp hnd
    by_cases hx : (x == n) = true
    · rw [hx] at e
      cases e
      have hxn := beq_iff_eq.mp hx
      subst hxn
      have hout : ∀ p ∈ ns.zip us', p.1 ≠ x := fun p hp q => hn (q ▸ (List.of_mem_zip hp).1)
      refine ⟨u', ru, fun hk => ?_, fun hk => ?_⟩
      · rw [List.zip_cons_cons, bindL, bindL_out kd x _ _ hout, if_pos hk]; simp
      · rw [List.zip_cons_cons, bindC, bindC_out kd x _ _ hout, if_neg hk]; simp
    · have hx' : (x == n) = false := by simpa using hx
      rw [hx'] at e
      rw [List.zip_cons_cons, bindL, bindC]
      exact bind_in kd ns us us' _ _ hnd' rs x v e

theorem cellsFrom_names (names : List (Str × NameKind)) : ∀ (n n' : Nat) (acc acc' : List (Str × Addr)), acc.map (·.1) = acc'.map (·.1) → (cellsFrom n names acc).map (·.1) = (cellsFrom n' names acc').map (·.1) := by
  induction names with
  | nil => intro n n' acc acc' h; exact h
  | cons p r ih =>
    obtain ⟨x, kd⟩ := p
    intro n n' acc acc' h
    unfold cellsFrom
    split
    · exact ih _ _ _ _ (by simp [h])
    · exact ih _ _ _ _ h
theorem lookup_of_nodup {α : Type} : ∀ {l : List (Str × α)}, (l.map (·.1)).Nodup → ∀ p ∈ l, l.lookup p.1 = some p.2
  | q :: r, hnd, p, hp => by
    rw [List.map_cons] at hnd
    obtain ⟨h1, h2⟩ := List.nodup_cons.mp hnd
    rw [List.lookup_cons]
    rcases List.mem_cons.mp hp with e | hp
    · subst e; simp
    · have : (p.1 == q.1) = false := by
        cases hq : p.1 == q.1 with
        | false => rfl
        | true => exact absurd (List.mem_map.mpr ⟨p, hp, beq_iff_eq.mp hq⟩) h1
      rw [this]
      exact lookup_of_nodup h2 p hp

/-- the frame of a call -/
def frameOf (fd : FuncData) (L a : Addr) (fr : List Env) : FE := ⟨callEnvC fd L a, L :: (callEnvC fd L a).cells.map (·.2), callEnvC fd L a :: fr⟩

def retV : Fl → V
  | .ret v => v
  | _ => .none

/-- a def of the text's, as the top left it -/
structure FnAt (C : Cx) (a : Addr) (fd : FuncData) (body : List Stmt) (names : List Str) : Prop where
  obj : ∃ o, C.GB.get? a = some o ∧ o.data = .func fd
  code : C.GB.CodeRec fd.code fd.qualname
  body : fd.body = .stmts body
  clo : fd.closure = []
  globals : fd.globals = mainGlobals
  builtins : fd.builtins = builtinsNs
  kind : fd.scope.kind = .function
  co : fd.scope.isCoroutine = false
  gen : fd.scope.isGenerator = false
  nodup : names.Nodup
  cnodup : ((cellsFrom 0 fd.scope.names []).map (·.1)).Nodup
  kinds : ∀ x ∈ names, fd.scope.names.lookup x = some .local ∨ (fd.scope.names.lookup x = some .cell ∧ x ∈ (cellsFrom 0 fd.scope.names []).map (·.1))
  bind : ∀ vs : List Value, vs.length = names.length → bindArgs fd ⟨vs, []⟩ = pure (names.zip vs)

theorem FnAt.envOk {a : Addr} {fd : FuncData} {body : List Stmt} {names : List Str} (f : FnAt C a fd body names) (L : Addr) (fr : List Env) : EnvOk (frameOf fd L a fr).env := ⟨f.kind, f.globals, f.builtins⟩
theorem FnAt.isFun {a : Addr} {fd : FuncData} {body : List Stmt} {names : List Str} (f : FnAt C a fd body names) : IsFun C.GB (.ref a) := let ⟨o, h1, h2⟩ := f.obj; ⟨o, fd, h1, h2⟩

theorem call_own {a : Addr} {fd : FuncData} {body : List Stmt} {names : List Str} {vs : List V} {Q : V → St → Prop} (cx : CxOk C) (f : FnAt C a fd body names) (hlen : vs.length = names.length)
    (h : ∀ L, TX C k (frameOf fd L a F.frames) body ⟨names.zip vs, σ.sto⟩ fun fl σ' => Q (retV fl) ⟨σ.loc, σ'.sto⟩) : CallOK C (k + 1) F (.ref a) vs σ Q := by
  intro A s f' vs' hA S rf rv
  cases rf
  obtain ⟨o, ho, hd⟩ := f.obj
  have hsz : ∀ b ob, s.heap.get? b = some ob → b < s.heap.objs.size := fun b ob e => Heap.lt_size e
  have hbind := f.bind vs' (by rw [rv.length, hlen])
  refine wpAny_call (codeAny_call_cells (fd := fd) (body := body) (binds := names.zip vs') (Nat.lt_of_le_of_lt (Nat.le_add_right _ _) hA.2.1) (S.base _ _ ho) hd (cx.nolimit.keeps S.base) ?hcd f.body hbind f.clo ?hkind (fun s₁ x => ?hb) f.co f.gen f.kind)
  case hcd =>
    obtain ⟨c, oc, ws, tq, h1, h2, h3⟩ := f.code
    exact ⟨c, oc, ws, tq, h1, S.base _ _ h2, h3⟩
  case hkind =>
    intro y hy
    have hyn : y.1 ∈ names := by obtain ⟨y1, y2⟩ := y; exact (List.of_mem_zip hy).1
    rcases f.kinds _ hyn with q | ⟨q, q'⟩
    · exact .inl q
    · refine .inr ⟨q, ?_⟩
      rw [cellsFrom_names fd.scope.names 0 (s.heap.objs.size + 1) [] [] rfl] at q'
      obtain ⟨p, hp, e⟩ := List.mem_map.mp q'
      have hnd : ((cellsFrom (s.heap.objs.size + 1) fd.scope.names []).map (·.1)).Nodup := by
        rw [cellsFrom_names fd.scope.names (s.heap.objs.size + 1) 0 [] [] rfl]; exact f.cnodup
      rw [← e, lookup_of_nodup hnd p hp]; rfl
  case hb =>
    have hnd : ((callEnvC fd s.heap.objs.size a).cells.map (·.1)).Nodup := by
      show ((cellsFrom (s.heap.objs.size + 1) fd.scope.names []).map (·.1)).Nodup
      rw [cellsFrom_names fd.scope.names (s.heap.objs.size + 1) 0 [] [] rfl]; exact f.cnodup
    have hab : ∀ p ∈ (callEnvC fd s.heap.objs.size a).cells, s.heap.objs.size < p.2 := fun p hp => x.above p.1 p.2 hp
    have keep := x.toInCall.keep
    have hown : ∀ b ∈ (frameOf fd s.heap.objs.size a F.frames).own, s.heap.objs.size ≤ b := fun b hb => by
      rcases List.mem_cons.mp hb with e | hb
      · exact Nat.le_of_eq e.symm
      · obtain ⟨p, hp, e⟩ := List.mem_map.mp hb
        rw [← e]; exact Nat.le_of_lt (hab p hp)
    have hnone : ∀ b, s.heap.objs.size ≤ b → s.heap.get? b = none := fun b hb => by
      cases hq : s.heap.get? b with
      | none => rfl
      | some ob => exact absurd (hsz b ob hq) (Nat.not_lt.mpr hb)
    have hgb : ∀ b, s.heap.objs.size ≤ b → C.GB.get? b = none := fun b hb => by
      cases hq : C.GB.get? b with
      | none => rfl
      | some ob => have := S.base b ob hq; rw [hnone b hb] at this; cases this
    have S0 := S.keeps keep
    have S₁ : Sim C.GB (frameOf fd s.heap.objs.size a F.frames) ⟨names.zip vs, σ.sto⟩ s₁.heap := {
      base := S0.base
      frame := by
        refine ⟨_, x.toInCall.ns, fun y v e => ?_⟩
        obtain ⟨v', r, hl, hc⟩ := bind_in (h := s.heap) (callEnvC fd s.heap.objs.size a).kindOf names vs vs' (fun _ => none) (fun _ => none) f.nodup rv y v e
        refine ⟨v', ?_, r.keeps (frz_of_keeps keep)⟩
        have hy : y ∈ names := (List.of_mem_zip (mem_of_lookup e)).1
        rcases f.kinds y hy with q | ⟨q, q'⟩
        · exact .inl ⟨q, hl q⟩
        · refine .inr ⟨.inl q, ?_⟩
          rw [cellsFrom_names fd.scope.names 0 (s.heap.objs.size + 1) [] [] rfl] at q'
          obtain ⟨p, hp, ep⟩ := List.mem_map.mp q'
          have hlk := lookup_of_nodup hnd p hp
          rw [ep] at hlk
          refine ⟨p.2, hlk, ?_⟩
          have := x.cell y p.2 hlk
          rwa [hc (by show fd.scope.names.lookup y ≠ _; rw [q]; decide)] at this
      cells := fun p hp => ⟨_, x.cell p.1 p.2 (lookup_of_nodup hnd p hp)⟩
      apart := x.apart
      sto := S0.sto
      inOwn := .head _
      ownIs := fun b hb => by
        rcases List.mem_cons.mp hb with e | hb
        · exact .inl e
        · obtain ⟨p, hp, e⟩ := List.mem_map.mp hb; exact .inr ⟨p, hp, e⟩
      new := fun b hb => hgb b (hown b hb)
      off := fun b ob e => by
        obtain ⟨o', ho'⟩ := S.sto_alive e
        have hlt := hsz b o' ho'
        exact ⟨(S.off b ob e).1, Nat.ne_of_lt hlt, fun p hp q => by have := hab p hp; rw [q] at this; exact absurd hlt (Nat.lt_asymm this)⟩ }
    have hA' : Room C k (frameOf fd s.heap.objs.size a F.frames) (A.deeper (callEnvC fd s.heap.objs.size a)) := ⟨hA.1, by have := hA.2.1; show A.depth + 1 + k < _; omega, by have := hA.2.2.1; show A.units + 3 + 10 * k + 5 < _; omega, by show A.frames.map _ = _; rw [hA.2.2.2]; rfl⟩
    refine wpAny_mono (h s.heap.objs.size _ s₁ hA' S₁) (fun fl' s' ⟨fl, σ', rfl', S', M', hq⟩ => ?_) fun _ _ z => z.elim
    have hb₁ : ∀ b ob, s.heap.get? b = some ob → b ∉ (frameOf fd s.heap.objs.size a F.frames).own := fun b ob e hb => absurd (hsz b ob e) (Nat.not_lt.mpr (hown b hb))
    have kp : ∀ b ob, s.heap.get? b = some ob → σ.fixed b → s'.heap.get? b = some ob := fun b ob e hf => M'.keep b ob (keep b ob e) hf (hb₁ b ob e)
    have tp : ∀ c o, s.heap.get? c = some o → FrzO o → s'.heap.get? c = some o := fun c o hoc hf => kp c o hoc (S.frz_off hoc hf).1
    have dm : ∀ b ob, σ'.sto b = some ob → (∃ o', σ.sto b = some o' ∧ (ob.isMut = true → o'.isMut = true)) ∨ s.heap.get? b = none := fun b ob e => by
      rcases M'.dom b ob e with q | q
      · exact .inl q
      · refine .inr ?_
        cases hq : s.heap.get? b with
        | none => rfl
        | some oo => rw [keep b oo hq] at q; cases q
    have S₂ : Sim C.GB F ⟨σ.loc, σ'.sto⟩ s'.heap := {
      base := S'.base
      frame := by
        obtain ⟨m, hn, hl⟩ := S.frame
        have fixL : σ.fixed F.env.locals := fun o' e => absurd rfl (S.off _ o' e).2.1
        refine ⟨m, ?_, fun y v e => ?_⟩
        · obtain ⟨oL, es, ep, hoL, r⟩ := hn
          exact ⟨oL, es, ep, kp _ _ hoL fixL, r⟩
        · obtain ⟨v', hp, hr⟩ := hl y v e
          refine ⟨v', ?_, hr.keeps tp⟩
          rcases hp with hp | ⟨hk, c, hc, oc, hoc, hdc⟩
          · exact .inl hp
          · exact .inr ⟨hk, c, hc, oc, kp c oc hoc (fun o' e => absurd rfl ((S.off _ o' e).2.2 _ (mem_of_lookup hc))), hdc⟩
      cells := fun p hp => by
        obtain ⟨v₀, oc, hoc, hdc⟩ := S.cells p hp
        exact ⟨v₀, oc, kp _ oc hoc (fun o' e => absurd rfl ((S.off _ o' e).2.2 _ hp)), hdc⟩
      apart := S.apart
      sto := S'.sto
      inOwn := S.inOwn
      ownIs := S.ownIs
      new := S.new
      off := fun b ob e => by
        refine ⟨(S'.off b ob e).1, ?_⟩
        rcases dm b ob e with ⟨o', ho', _⟩ | q
        · exact (S.off b o' ho').2
        · refine ⟨fun e' => ?_, fun p hp e' => ?_⟩
          · obtain ⟨m, ⟨oL, _, _, hoL, _⟩, _⟩ := S.frame
            rw [← e', q] at hoL; cases hoL
          · obtain ⟨v₀, oc, hoc, _⟩ := S.cells p hp
            rw [e', q] at hoc; cases hoc }
    have M₂ : Mod F.own σ ⟨σ.loc, σ'.sto⟩ s s' := ⟨fun b ob e hf _ => kp b ob e hf, dm, fun b ob e => M'.alive b ob (keep b ob e), by
      obtain ⟨h₁, tk, e⟩ := x.toInCall.same
      rw [M'.rest, e]⟩
    cases rfl' with
    | next => exact ⟨.none, _, .none, S₂, M₂, hq⟩
    | brk => exact ⟨.none, _, .none, S₂, M₂, hq⟩
    | cont => exact ⟨.none, _, .none, S₂, M₂, hq⟩
    | ret r => exact ⟨_, _, r, S₂, M₂, hq⟩
end
end Mine
set_option Elab.async false
set_option linter.unusedVariables false
namespace Mine
open PySem PySem.W PyProof.Rows

section
variable {C : Cx} {k : Nat} {F : FE} {σ : St}

-- ints
theorem bin_add {x y : Int} {Q : V → St → Prop} (h : Q (.int (x + y)) σ) : BinOK C k F .Add (.int x) (.int y) σ Q :=
  fun A s a' b' hA S ra rb => by cases ra; cases rb; exact PySem.P.add_int (post_tok S (.int _ _) h)
theorem bin_sub {x y : Int} {Q : V → St → Prop} (h : Q (.int (x - y)) σ) : BinOK C k F .Sub (.int x) (.int y) σ Q :=
  fun A s a' b' hA S ra rb => by cases ra; cases rb; exact PySem.P.sub_int (post_tok S (.int _ _) h)
theorem bin_mul {x y : Int} {Q : V → St → Prop} (hm : IntMulOk x y) (h : Q (.int (x * y)) σ) : BinOK C k F .Mult (.int x) (.int y) σ Q :=
  fun A s a' b' hA S ra rb => by cases ra; cases rb; exact PySem.P.mul_int (post_tok S (.int _ _) h) hm
theorem bin_mod {x y : Int} {Q : V → St → Prop} (hy : y ≠ 0) (h : Q (.int (x.fmod y)) σ) : BinOK C k F .Mod (.int x) (.int y) σ Q :=
  fun A s a' b' hA S ra rb => by cases ra; cases rb; exact mod_int' hy (post_tok S (.int _ _) h)
theorem bin_floordiv {x y : Int} {Q : V → St → Prop} (hy : y ≠ 0) (hp : Builtin.divisionGoesByPylong x y = false) (h : Q (.int (x.fdiv y)) σ) : BinOK C k F .FloorDiv (.int x) (.int y) σ Q :=
  fun A s a' b' hA S ra rb => by cases ra; cases rb; exact floordiv_int hy (post_tok S (.int _ _) h) (.inl hp)
theorem bin_rshift1 {x : Int} {Q : V → St → Prop} (hx : 0 ≤ x) (h : Q (.int (x / 2)) σ) : BinOK C k F .RShift (.int x) (.int 1) σ Q :=
  fun A s a' b' hA S ra rb => by cases ra; cases rb; exact wpAny_rshift1_int hx (post_tok S (.int _ _) h)
theorem un_neg {x : Int} {Q : V → St → Prop} (h : Q (.int (-x)) σ) : UnOK C k F .USub (.int x) σ Q :=
  fun A s a' hA S ra => by cases ra; exact PySem.P.neg_int (post_tok S (.int _ _) h)
theorem cmp_lt {x y : Int} {Q : V → St → Prop} (h : Q (.bool (decide (x < y))) σ) : CmpOK C k F .Lt (.int x) (.int y) σ Q :=
  fun A s a' b' hA S ra rb => by cases ra; cases rb; exact PySem.P.lt_int (post_pure S (.bool _) h)
theorem cmp_gt {x y : Int} {Q : V → St → Prop} (h : Q (.bool (decide (y < x))) σ) : CmpOK C k F .Gt (.int x) (.int y) σ Q :=
  fun A s a' b' hA S ra rb => by cases ra; cases rb; exact PySem.P.gt_int (post_pure S (.bool _) h)
theorem cmp_eq {x y : Int} {Q : V → St → Prop} (h : Q (.bool (x == y)) σ) : CmpOK C k F .Eq (.int x) (.int y) σ Q :=
  fun A s a' b' hA S ra rb => by cases ra; cases rb; exact PySem.P.eq_int (post_pure S (.bool _) h)
theorem truth_bool {b : Bool} {Q : Bool → St → Prop} (h : Q b σ) : TruthOK C k F (.bool b) σ Q :=
  fun A s a' hA S ra => by cases ra; exact wpAny_truthy_bool (post_pure S rfl h)
def isNoneV : V → Bool
  | .none => true
  | _ => false
theorem rep_none {h : Heap} {a : V} {a' : Value} (r : Rep h a a') (hq : ∀ v, a ≠ .opq v) : (a' == Value.none) = isNoneV a := by
  cases r <;> first | rfl | exact absurd rfl (hq _)
theorem cmp_isnot_none {a : V} {Q : V → St → Prop} (hq : ∀ v, a ≠ .opq v) (h : Q (.bool (!isNoneV a)) σ) : CmpOK C k F .IsNot a .none σ Q :=
  fun A s a' b' hA S ra rb => by cases rb; exact isnot_none_gen (by rw [rep_none ra hq]; exact post_pure S (.bool _) h)

-- lists
theorem Sim.list {GB : Heap} {h : Heap} (S : Sim GB F σ h) {a : Addr} {vs : List V} (hs : (σ.sto a).bind O.items = some vs) : vs.length ≤ maxLen ∧ ∃ vs', h.IsList a vs'.toArray ∧ Reps h vs vs' := by
  cases e : σ.sto a with
  | none => rw [e] at hs; cases hs
  | some o =>
    rw [e] at hs
    have r := S.sto a o e
    cases o with
    | lst us => cases hs; obtain ⟨h1, vs', n, ho, hr⟩ := r; exact ⟨h1, vs', ⟨_, ho, rfl, n, rfl⟩, hr⟩
    | rol us => cases hs; exact r
    | raw o => cases hs
theorem maxLen_lt : (maxLen : Int) < 2 ^ 63 := by decide

theorem item_at {e sl : Expr} {a : Addr} {vs : List V} {i : Int} {v : V} {Q : V → St → Prop} (hs : (σ.sto a).bind O.items = some vs) (h0 : 0 ≤ i) (hv : vs[i.toNat]? = some v) (h : Q v σ)
    (hsl : ∀ o i, subscripted sl false o i = operate [o, i] (getItem o i) := by intro _ _; with_unfolding_all rfl) : ItemOK C k F e sl (.ref a) (.int i) σ Q :=
  fun A s a' b' hA S ra rb => by
    cases ra; cases rb
    obtain ⟨hl, vs', hL, hr⟩ := S.list hs
    obtain ⟨v', hv', rv⟩ := hr.get hv
    have hlt : i.toNat < vs.length := by
      rcases Nat.lt_or_ge i.toNat vs.length with q | q
      · exact q
      · rw [List.getElem?_eq_none q] at hv; cases hv
    have hm := maxLen_lt
    exact tail_any hL.typeIs slot_list_getitem.lookup (wpAny_getItem_list hL h0 (by omega) (by simpa using hv') (post_pure S rv h)) (hsl _ _)
theorem item_neg {e sl : Expr} {a : Addr} {vs : List V} {i : Int} {v : V} {Q : V → St → Prop} (hs : (σ.sto a).bind O.items = some vs) (h0 : i < 0) (h1 : -(vs.length : Int) ≤ i) (hv : vs[(i + vs.length).toNat]? = some v) (h : Q v σ)
    (hsl : ∀ o i, subscripted sl false o i = operate [o, i] (getItem o i) := by intro _ _; with_unfolding_all rfl) : ItemOK C k F e sl (.ref a) (.int i) σ Q :=
  fun A s a' b' hA S ra rb => by
    cases ra; cases rb
    obtain ⟨hl, vs', hL, hr⟩ := S.list hs
    obtain ⟨v', hv', rv⟩ := hr.get hv
    have hm := maxLen_lt
    have hz : (vs'.toArray.size : Int) = vs.length := by simp [hr.length]
    exact tail_any hL.typeIs slot_list_getitem.lookup (wpAny_getItem_list_neg hL h0 (by rw [hz]; exact h1) (by omega) (by rw [hz]; simpa using hv') (post_pure S rv h)) (hsl _ _)
theorem set_at {a : Addr} {vs : List V} {i : Int} {v : V} {Q : Unit → St → Prop} (hs : σ.sto a = some (.lst vs)) (h0 : 0 ≤ i) (hi : i < vs.length) (h : Q () (σ.setSto a (.lst (vs.set i.toNat v)))) : SetOK C k F (.ref a) (.int i) v σ Q :=
  fun A s a' b' c' hA S ra rb rc => by
    cases ra; cases rb
    obtain ⟨hl, vs', n, ho, hr⟩ := S.sto a _ hs
    have hm := maxLen_lt
    have hlen := hr.length
    refine ki_setAt ho h0 (by omega) (by simp; omega) ?_
    have hq := PySem.IsL.update ho (·.setIfInBounds i.toNat c')
    have k' : Heap.ExtBut a s.heap (s.heap.update a (Obj.mapSeq (·.setIfInBounds i.toNat c'))) := (Heap.SameBut.update ..).extBut
    have hnt := (S.sto a _ hs).not_frz
    refine ⟨(), σ.setSto a (.lst (vs.set i.toNat v)), rfl, S.change hs rfl k' ⟨by simpa using hl, vs'.set i.toNat c', n, ?_, (hr.set rc _).keeps (not_frz_ext hnt k')⟩, Mod.change (tk := s.toks) S hs rfl k' ⟨_, hq⟩, h⟩
    simpa using hq
end
end Mine
set_option Elab.async false
set_option linter.unusedVariables false
set_option linter.unusedSimpArgs false
namespace Mine
open PySem PySem.W PyProof.Rows

section
variable {C : Cx} {k : Nat} {F : FE} {σ : St}

-- methods of lists
theorem e_meth {oe : Expr} {name : Str} {ap p : Pos} {es : List Expr} {id : String} {Q : V → St → Prop} (slot : Slot "list" name id) (hty : typeOf (.builtin id) = pure (.type "method_descriptor"))
    (h : TE C k F oe σ fun ov σ₁ => ∃ a vs, ov = .ref a ∧ σ₁.sto a = some (.lst vs) ∧ TEs C k F p es σ₁ fun us σ₂ => CallOK C k F (.opq (.builtin id)) (.ref a :: us) σ₂ Q)
    (hbase : attributeBase oe name F.env (eval oe F.env) = eval oe F.env := by rfl)
    (hfew : ((backTo p (starEach es F.env)).all (fun x => !x.1) && (backToKw p (keywordEach [] F.env)).all (fun x => x.1.isSome) && decide (es.length + ([] : List Keyword).length + (if ([] : List Keyword).isEmpty then 0 else 1) < 30)) = true := by rfl)
    (hline : (ap.endLine == p.line) = true := by rfl) (hs : (starEach es F.env).all (fun x => !x.1) = true := by rfl) : TE C k F (.Call (.Attribute oe name ap) es [] p) σ Q :=
  fun A s hA S => wpAny_Call_method_lateS hbase hfew hline (go (h A s hA S) fun ov ov' σ₁ s₁ ro S₁ M₁ ⟨a, vs, e, hsto, h₁⟩ => by
    subst e
    cases ro
    obtain ⟨hl, vs', n, ho, hr⟩ := S₁.sto a _ hsto
    refine ⟨"list", id, PySem.F.plainAttrs_list, slot, hty, ⟨_, ho, rfl⟩, fun b e => by cases e; exact ⟨_, ho, rfl⟩, ?_⟩
    have hst : (backTo p (starEach es F.env)).any (·.1) = false := by
      rw [List.any_eq_false]
      intro x hx
      obtain ⟨y, hy, rfl⟩ := List.mem_map.mp hx
      have := List.all_eq_true.mp hs y hy
      simpa using this
    refine Calls.callWith_builtin hst ?_
    have ha : wpAny (model C.prog C.w) A (spliced (backTo p (starEach es F.env))) (fun us' s' => wpAny (model C.prog C.w) A (call (.builtin id) ([.ref a] ++ us') []) (Post C F Rep σ s Q) No s') No s₁ :=
      go (h₁ A s₁ hA S₁) fun us us' σ₂ s₂ ru S₂ M₂ h₂ => fin S₂ (M₁.trans S₁ M₂) (h₂ A s₂ (.builtin id) (.ref a :: us') hA S₂ (.opq fun a e => by cases e) (.cons (.ref a) ru))
    cases hes : backTo p (starEach es F.env) with
    | nil => rw [hes] at ha; exact evalArgs_none ha
    | cons x r =>
      obtain ⟨b, t⟩ := x
      have hb : b = false := by
        rw [hes] at hst
        simpa using (List.any_eq_false.mp hst (b, t) (.head _))
      subst hb
      rw [hes] at ha
      exact Calls.evalArgs_plain ha)

/-- an object of the store changed -/
theorem post_upd {s : Shared} {tk : Nat} {a : Addr} {vs ws : List V} {vs' ws' : List Value} {n : Nat} {f : Array Value → Array Value} {α β : Type} {R : Heap → β → α → Prop} {r : β} {r' : α} {Q : β → St → Prop} (S : Sim C.GB F σ s.heap) (hs : σ.sto a = some (.lst vs))
    (ho : s.heap.get? a = some (listOf vs'.toArray n)) (hf : f vs'.toArray = ws'.toArray) (hl : ws.length ≤ maxLen) (hr : Reps s.heap ws ws') (rr : ∀ h', (∀ c o, s.heap.get? c = some o → FrzO o → h'.get? c = some o) → R h' r r') (h : Q r (σ.setSto a (.lst ws))) :
    Post C F R σ s Q r' { s with heap := s.heap.update a (Obj.mapSeq f), toks := tk } := by
  have hq := PySem.IsL.update ho f
  have k' : Heap.ExtBut a s.heap (s.heap.update a (Obj.mapSeq f)) := (Heap.SameBut.update ..).extBut
  have hnt := (S.sto a _ hs).not_frz
  refine ⟨r, σ.setSto a (.lst ws), rr _ (not_frz_ext hnt k'), S.change hs rfl k' ⟨hl, ws', if ((f vs'.toArray).size == vs'.toArray.size) = true then n else n + 1, ?_, hr.keeps (not_frz_ext hnt k')⟩, Mod.change (tk := tk) S hs rfl k' ⟨_, hq⟩, h⟩
  rw [← hf]
  exact hq

theorem call_append {a : Addr} {vs : List V} {v : V} {Q : V → St → Prop} (hs : σ.sto a = some (.lst vs)) (hl : vs.length < maxLen) (h : Q .none (σ.setSto a (.lst (vs ++ [v])))) : CallOK C k F (.opq (.builtin "list.append")) [.ref a, v] σ Q :=
  fun A s f' us' hA S rf ru => by
    cases rf
    cases ru with | cons ra ru => cases ra; cases ru with | cons rv ru => cases ru with | nil =>
    rename_i v'
    obtain ⟨hb, vs', n, ho, hr⟩ := S.sto a _ hs
    have hz : vs'.toArray.size ≤ sizeLine := by rw [List.size_toArray, hr.length]; exact Nat.le_trans hb maxLen_le
    refine call_meets slot_list_append ⟨_, ho, rfl⟩ entry_list_append (args_list_append _ _) (PySem.list_append a _ n v' hz) ⟨ho, ?_⟩
    exact post_upd (tk := s.toks) S hs ho (ws' := vs' ++ [v']) (by simp) (by simp; omega) (hr.append (.cons rv .nil)) (fun _ _ => .none) h

theorem call_len {a : Addr} {vs : List V} {Q : V → St → Prop} (hs : (σ.sto a).bind O.items = some vs) (h : Q (.int vs.length) σ) : CallOK C k F (.opq (.builtin "len")) [.ref a] σ Q :=
  fun A s f' us' hA S rf ru => by
    cases rf
    cases ru with | cons ra ru => cases ra; cases ru with | nil =>
    obtain ⟨hb, vs', hL, hr⟩ := S.list hs
    have hm := maxLen_lt
    have hlen := hr.length
    refine len_list hL (by simp; omega) ?_
    have e : (vs'.toArray.size : Int) = vs.length := by simp [hlen]
    rw [e]
    exact ⟨_, σ, .int _ _, S, .toks _, h⟩

end
end Mine
set_option Elab.async false
set_option linter.unusedVariables false
set_option linter.unusedSimpArgs false
namespace Mine
open PySem PySem.W PyProof.Rows

section
variable {C : Cx} {k : Nat} {F : FE} {σ : St}

-- targets
theorem asg_name {x : Str} {p : Pos} {v : V} {Q : St → Prop} (ok : EnvOk F.env) (h : Q (σ.setLoc x v)) (hk : StoreOk F x := by exact .inl rfl) : AsgOK C k F (.Name x p) v σ Q :=
  fun A s a' hA S ra => wpAny_assign_Name (store_name ok S ra hk fun h' tk S' M' => ⟨(), _, rfl, S', M', h⟩)

/-- several targets in order -/
def Asgs (C : Cx) (k : Nat) (F : FE) : List Expr → List V → St → (St → Prop) → Prop
  | [], [], σ, Q => Q σ
  | t :: ts, v :: vs, σ, Q => AsgOK C k F t v σ fun σ₁ => Asgs C k F ts vs σ₁ Q
  | _, _, _, _ => False
-- iterators
theorem lot_plain {A : Around} {s : Shared} {it : Addr} {o : Obj} {n : String} {target : Expr} {v : Value} {Q : Unit → Shared → Prop} {M : Model} {E : Value → Shared → Prop} (ho : s.heap.get? it = some o) (hc : o.cls = .type n)
    (hn : (["enumerate", "zip", "dict_itemiterator", "dict_reverseitemiterator", "odict_iterator", "itertools.zip_longest", "itertools.pairwise"] : List String).contains n = false) (h : Q () s) : wpAny M A (letOwnedTupleGo target (.ref it) v) Q E s := by
  unfold letOwnedTupleGo
  split
  · cases v <;> first | exact wpAny_pure h | skip
    refine wpAny_bind (wpAny_load ho ?_)
    rw [hc]
    split
    · rename_i e _
      cases e
      simp only [hn, Bool.false_and, Bool.false_eq_true, if_false]
      exact wpAny_pure h
    · exact wpAny_pure h
  · cases v <;> first | exact wpAny_pure h | skip
    refine wpAny_bind (wpAny_load ho ?_)
    rw [hc]
    split
    · rename_i e _
      cases e
      simp only [hn, Bool.false_and, Bool.false_eq_true, if_false]
      exact wpAny_pure h
    · exact wpAny_pure h
  · exact wpAny_pure h

theorem not_frz_cls {o : Obj} {n : String} (hc : o.cls = .type n) (h1 : n ≠ "tuple") (h2 : n ≠ "range") : ¬ FrzO o := by
  rintro (⟨h, _⟩ | ⟨h, _⟩) <;> rw [hc] at h <;> cases h <;> contradiction

def getList (l : Addr) : Get := fun i sto => ((sto l).bind O.items).map fun vs => vs[i]?
theorem iter_list {l : Addr} {vs : List V} {P : Get → St → Prop} (hs : (σ.sto l).bind O.items = some vs) (h : P (getList l) σ) (hcalm : C.exc = none := by assumption) : IterOK C k F (.ref l) σ P :=
  fun A s a' hA S ra => by
    cases ra
    obtain ⟨hb, vs', hL, hr⟩ := S.list hs
    refine wpAny_pyIter_list hL ?_
    refine ⟨_, getList l, fun i h => h.IsListIter s.heap.objs.size l i, σ, rfl, get_size _, ?_, ⟨_, Heap.get?_push_size _ rfl, rfl, rfl⟩, S.keeps (keeps_push _), .pure (tk := s.toks) (keeps_push _), S.fresh_none (get_size _), h⟩
    refine ⟨fun A F σ s i r₀ hA S hL hK hg => ?_, fun i h h' hK hk _ => ?_, fun i h hK => ?_, fun A s i Q hK hq => ?_, fun A s i target v Q hK hq => ?_⟩
    · unfold getList at hg
      cases hi : (σ.sto l).bind O.items with
      | none => rw [hi] at hg; cases hg
      | some us =>
        rw [hi] at hg
        obtain ⟨hb, us', hL', hr⟩ := S.list hi
        cases r₀ with
        | none =>
          have hn : us'.toArray[i]? = none := by
            have : us[i]? = none := by simpa using hg
            rw [List.getElem?_eq_none_iff] at this
            simp [hr.length, this]
          refine wpAny_pyNext_list_end (hA.1.calm hcalm) hK hL' hn fun h' hext => ⟨hext, rfl, rfl⟩
        | some v =>
          have hv : us[i]? = some v := by simpa using hg
          obtain ⟨v', hv', rv⟩ := hr.get hv
          refine wpAny_pyNext_list_item hK hL' (by simpa using hv') fun h' hK' hsb => ⟨hsb.extBut, rfl, v', rfl, rv, hK'⟩
    · obtain ⟨o, ho, r⟩ := hK; exact ⟨o, hk o ho, r⟩
    · obtain ⟨o, ho, hc, _⟩ := hK; exact ⟨o, ho, not_frz_cls hc (by decide) (by decide)⟩
    · exact wpAny_pyIter_listiter hK hq
    · obtain ⟨o, ho, hc, _⟩ := hK; exact lot_plain ho hc (by decide) hq

theorem entry_unchain : entryFor table "proto.unchain" = some Builtin.«proto.unchain» := entryFor_of_tree (by kernel_rfl)
/-- StopIteration comes, whatever is being handled -/
theorem raise_stop {α : Type} {A : Around} {s : Shared} {Q : α → Shared → Prop} {E : Value → Shared → Prop} (hh : HOk C A) (hb : ∀ b o, C.GB.get? b = some o → s.heap.get? b = some o)
    (h : ∀ h' e, (∀ b o, s.heap.get? b = some o → h'.get? b = some o) → (∃ o, h'.get? e = some o ∧ o.cls = .type "StopIteration") → E (.ref e) { s with heap := h' }) :
    wpAny (model C.prog C.w) A (newExc (.type "StopIteration") [] >>= fun e => (raiseNew e : Sem α)) Q E s := by
  refine wpAny_bind ?_
  simp only [newExc, newTuple]
  refine wpAny_bind (wpAny_newObj_type ?_ (by size_fits))
  refine wpAny_bind (m := firstArgMember _ _) (wpAny_of_eq (a := Value.none) (by first | rfl | (simp only [firstArgMember]; rfl)) ?_)
  refine wpAny_newObj_type ?_ (by size_fits)
  simp only [raiseNew]
  refine wpAny_bind (wpAny_handled ?_)
  generalize hs1 : (s.heap.push _) = h1
  have k1 : ∀ b o, s.heap.get? b = some o → h1.get? b = some o := fun b o e => by rw [← hs1]; exact Heap.get?_push_of_some _ e
  unfold HOk at hh
  cases hx : C.exc with
  | none =>
    rw [hx] at hh
    rw [show A.handled = none from hh]
    refine wpAny_bind (wpAny_pure (wpAny_throw ?_))
    exact h _ _ (fun b o e => Heap.get?_push_of_some _ (k1 b o e)) ⟨_, Heap.get?_push_size _ rfl, rfl⟩
  | some ea =>
    rw [hx] at hh
    obtain ⟨hh, o, ho, vs, hd, hv⟩ := hh
    rw [hh]
    have hoa := k1 ea o (hb ea o ho)
    have hne : ea ≠ h1.objs.size := fun q => by rw [q, get_size] at hoa; cases hoa
    show wpAny _ A (if (Value.ref ea != Value.ref h1.objs.size) = true then _ else _) Q E _
    rw [if_pos (by simpa using hne)]
    have hoa' : (h1.push { cls := Value.type "StopIteration", data := Data.fields (#[Value.ref s.heap.objs.size, Value.none, Value.none, Value.none, Value.bool false, Value.none] ++ ownMembersOf (Value.type "StopIteration") []) }).get? ea = some o := Heap.get?_push_of_some _ hoa
    refine wpAny_bind (wpAny_holding (wpAny_runValue (codeAny_builtin entry_unchain ?_)))
    unfold Builtin.«proto.unchain»
    dsimp only
    refine wpAny_bind (wpAny_field hoa' hd hv ?_)
    rw [if_pos (show (Value.none == Value.none) = true by rfl)]
    refine wpAny_pure ?_
    show wpAny _ A (setField (.ref h1.objs.size) 2 (.ref ea) >>= fun _ => throw _) Q E _
    refine wpAny_bind (wpAny_setField (Heap.get?_push_size _ rfl) rfl (by simp [ownMembersOf]) (wpAny_throw ?_))
    refine h _ _ (fun b o e => ?_) ⟨_, Heap.get?_update_self _ (Heap.get?_push_size _ rfl) (Obj.isFreed_of_fields (Obj.data_mapFields rfl _)), Obj.cls_mapFields ..⟩
    have e1 := k1 b o e
    have nb : b ≠ h1.objs.size := fun q => by rw [q, get_size] at e1; cases e1
    exact (Heap.SameBut.update ..).extBut b o nb (Heap.get?_push_of_some _ e1)
theorem range_end {it : Addr} {A : Around} {s : Shared} {x left step : Int} {Q : Option Value → Shared → Prop} {E : Value → Shared → Prop} (hh : HOk C A) (hb : ∀ b o, C.GB.get? b = some o → s.heap.get? b = some o) (hit : IsRangeIter s.heap it x left step) (hleft : left ≤ 0)
    (hQ : ∀ h', Heap.ExtBut it s.heap h' → Q none { s with heap := h' }) : wpAny (model C.prog C.w) A (pyNext (.ref it)) Q E s := by
  have hT : s.TypeIs (.ref it) "range_iterator" := ⟨_, hit, rfl⟩
  unfold pyNext
  refine wpAny_bind (wpAny_attempt (wpAny_callSpecial?_slot (name := Str.ofString "__next__") hT PySem.F.slot_range_iterator_next
    (wpAny_call_entry PySem.F.slot_range_iterator_next hT PySem.F.entry_range_iterator_next ?_ (PySem.F.args_range_iterator_next_1 _))))
  show wpAny _ _ (field (.ref it) 0 >>= _) _ _ s
  refine wpAny_bind (wpAny_field hit rfl (x := rawInt x) rfl ?_)
  show wpAny _ _ (field (.ref it) 1 >>= _) _ _ s
  refine wpAny_bind (wpAny_field hit rfl (x := rawInt left) rfl ?_)
  show wpAny _ _ (field (.ref it) 2 >>= _) _ _ s
  refine wpAny_bind (wpAny_field hit rfl (x := rawInt step) rfl ?_)
  show wpAny _ _ (if left ≤ 0 then _ else _) _ _ s
  rw [if_pos hleft]
  refine wpAny_bind (wpAny_rule ?_)
  refine wpAny_bind (raise_stop (C := C) (A := A.in1) hh hb fun h' e kp ⟨o, ho, hc⟩ => ?_)
  refine wpAny_bind (wpAny_isInstance (T := "StopIteration") (b := true) ⟨_, ho, hc⟩ isSubtype_stop ?_)
  exact wpAny_pure (hQ _ fun b o _ e => kp b o e)
def getRange (x : Int) (n : Nat) (st : Int) : Get := fun i _ => some (if i < n then some (.int (x + i * st)) else none)
theorem iter_rangeiter {I : Addr} {x : Int} {n : Nat} {st : Int} : Iter C k I (getRange x n st) fun i h => IsRangeIter h I (x + i * st) ((n : Int) - i) st := by
  refine ⟨fun A F σ s i r₀ hA S hL hK hg => ?_, fun i h h' hK hk _ => hk _ hK, fun i h hK => ⟨_, hK, not_frz_cls rfl (by decide) (by decide)⟩, fun A s i Q hK hq => wpAny_pyIter_rangeiter hK hq, fun A s i target v Q hK hq => lot_plain hK rfl (by decide) hq⟩
  unfold getRange at hg
  cases hg
  by_cases hi : i < n
  · rw [if_pos hi]
    refine wpAny_pyNext_range_item hK (by omega) fun h' hK' hsb => ⟨hsb.extBut, rfl, _, rfl, .int _ _, ?_⟩
    have e1 : x + (i : Int) * st + st = x + ((i + 1 : Nat) : Int) * st := by push_cast; rw [Int.add_mul]; omega
    have e2 : (n : Int) - i - 1 = (n : Int) - ((i + 1 : Nat) : Int) := by push_cast; omega
    rw [e1, e2] at hK'
    exact hK'
  · rw [if_neg hi]
    exact range_end hA.1 (fun b o e => S.base b o e) hK (by omega) fun h' hext => ⟨hext, rfl, rfl⟩
theorem iter_rng {lo hi st : Int} {n : Nat} {P : Get → St → Prop} (hs : Builtin.Range.small lo hi st = true) (hn : Builtin.Range.rangeSize lo hi st = n) (h : P (getRange lo n st) σ) : IterOK C k F (.rng lo hi st) σ P :=
  fun A s a' hA S ra => by
    cases ra with
    | rng hr =>
      refine wpAny_pyIter_range hr hs ?_
      refine ⟨_, getRange lo n st, _, σ, rfl, get_size _, iter_rangeiter, ?_, S.keeps (keeps_push _), .pure (tk := s.toks) (keeps_push _), S.fresh_none (get_size _), h⟩
      have := Heap.get?_push_size s.heap (o := { cls := .type "range_iterator", data := .fields #[rawInt lo, rawInt (Builtin.Range.rangeSize lo hi st), rawInt st] }) rfl
      rw [hn] at this ⊢
      simpa [IsRangeIter] using this
theorem call_range1 {n : Int} {Q : V → St → Prop} (h : Q (.rng 0 n 1) σ) : CallOK C k F (.opq (.type "range")) [.int n] σ Q :=
  fun A s f' us' hA S rf ru => by
    cases rf
    cases ru with | cons ra ru => cases ra; cases ru with | nil =>
    exact call_range_1 ⟨_, σ, .rng (IsRange.new ..), S.keeps (keeps_push _), .pure (keeps_push _), h⟩
theorem call_range2 {a b : Int} {Q : V → St → Prop} (h : Q (.rng a b 1) σ) : CallOK C k F (.opq (.type "range")) [.int a, .int b] σ Q :=
  fun A s f' us' hA S rf ru => by
    cases rf
    cases ru with | cons ra ru => cases ra; cases ru with | cons rb ru => cases rb; cases ru with | nil =>
    exact call_range_2 ⟨_, σ, .rng (IsRange.new ..), S.keeps (keeps_push _), .pure (keeps_push _), h⟩
end
end Mine
set_option Elab.async false
set_option linter.unusedVariables false
set_option linter.unusedSimpArgs false
namespace Mine
open PySem PySem.W PyProof.Rows

section
variable {C : Cx} {k : Nat} {F : FE} {σ : St}

theorem fixed_none {b : Addr} (h : σ.sto b = none) : σ.fixed b := fun o e => by rw [h] at e; cases e
/-- the frame of a comprehension -/
def compF (scope : Scope) (cl : List (Str × Addr)) (c : Addr) (F : FE) : FE := ⟨compEnvC scope cl c F.env, [c], F.frames⟩

/-- the tests of a comprehension -/
def Tests (C : Cx) (k : Nat) (F : FE) : List Expr → St → (Bool → St → Prop) → Prop
  | [], σ, Q => Q true σ
  | [c], σ, Q => TB C k F c σ Q
  | _, _, _ => False
theorem tests_go {A : Around} {s : Shared} {ifs : List Expr} {Q : Bool → St → Prop} (hA : Room C k F A) (S : Sim C.GB F σ s.heap) (h : Tests C k F ifs σ Q) :
    wpAny (model C.prog C.w) A (forIn ifs true fun c r => if r = true then do let ok ← isTrue c F.env (eval c F.env); pure (ForInStep.yield ok) else pure (ForInStep.yield r)) (Post C F REq σ s Q) No s := by
  match ifs, h with
  | [], h => exact wpAny_tests_nil (post_pure S rfl h)
  | [c], h => exact wpAny_tests_one (h A s hA S)

/-- behind a comprehension's element -/
def CompPush (loc0 : List (Str × V)) (Inv : Nat → List V → (Addr → Option O) → Prop) (i : Nat) (out : List V) (y : V) (σ' : St) : Prop :=
  out.length < maxLen ∧ restrictL (loc0.map (·.1)) σ'.loc = loc0 ∧ Inv (i + 1) (out ++ [y]) σ'.sto
def CompSkip (loc0 : List (Str × V)) (Inv : Nat → List V → (Addr → Option O) → Prop) (i : Nat) (out : List V) (σ' : St) : Prop :=
  restrictL (loc0.map (·.1)) σ'.loc = loc0 ∧ Inv (i + 1) out σ'.sto

/-- what a free name of a comprehension needs -/
def FreeOk (F : FE) (scope : Scope) (cl : List (Str × Addr)) (loc0 loc : List (Str × V)) : Prop :=
  ∀ x v, loc0.lookup x = some v → loc.lookup x = some v ∧ (F.env.kindOf x = some .cell ∨ F.env.kindOf x = some .free) ∧ ((relabel scope F.env).names.lookup x = some .cell ∨ (relabel scope F.env).names.lookup x = some .free) ∧ cl.lookup x = F.env.cells.lookup x

theorem comp_loop {A : Around} {elt target iter : Expr} {ifs : List Expr} {scope : Scope} {pos : Pos} {cl : List (Str × Addr)} {s s₂ s₄ : Shared} {I D c : Addr} {get : Get} {K : Nat → Heap → Prop} {σ₂ : St} {loc0 : List (Str × V)} {Inv : Nat → List V → (Addr → Option O) → Prop} {N : Nat} {Fin' : List V → (Addr → Option O) → Prop} {R : Result → Shared → Prop}
    (hA : Room C k F A) (S : Sim C.GB F σ s.heap) (hI : s.heap.get? I = none) (IT : Iter C k I get K) (S₂ : Sim C.GB F σ₂ s₂.heap) (M₂ : Mod F.own σ σ₂ s s₂) (hsI : σ₂.sto I = none)
    (hD : s₂.heap.get? D = none) (hc : s₂.heap.get? c = none) (hDc : D ≠ c) (hoI : ∃ o, s₂.heap.get? I = some o) (L₂ : ∀ o, s₂.heap.get? I = some o → ¬ FrzO o) (hcl : ∀ p ∈ cl, p ∈ F.env.cells)
    (turn : ∀ i out sto', Inv i out sto' → i ≤ N ∧ ∃ r₀, get i sto' = some r₀ ∧ match r₀ with
      | some v => AsgOK C k (compF scope cl c F) target v ⟨loc0, sto'⟩ fun σ₅ => Tests C k (compF scope cl c F) ifs σ₅ fun b σ₆ => if b then TE C k (compF scope cl c F) elt σ₆ (CompPush loc0 Inv i out) else CompSkip loc0 Inv i out σ₆
      | none => Fin' out sto')
    (done : ∀ s₅ out sto', Sim C.GB F (St.setSto ⟨σ₂.loc, sto'⟩ D (.lst out)) s₅.heap → Mod (c :: F.own) σ (St.setSto ⟨σ₂.loc, sto'⟩ D (.lst out)) s s₅ → Loose C.GB F (St.setSto ⟨σ₂.loc, sto'⟩ D (.lst out)) s₅.heap c → (∃ m, s₅.heap.Ns c m) → sto' D = none → Fin' out sto' → R (.ok .next) s₅)
    (S₄ : Sim C.GB (compF scope cl c F) ⟨loc0, σ₂.sto⟩ s₄.heap) (kp₄ : ∀ b ob, s₂.heap.get? b = some ob → s₄.heap.get? b = some ob) (hD₄ : s₄.heap.get? D = some (listOf #[] 0)) (hK₄ : K 0 s₄.heap) (r₄ : s₄ = { s₂ with heap := s₄.heap, toks := s₄.toks }) (h0 : Inv 0 [] σ₂.sto) :
    codeAny (model C.prog C.w) A (.compLoop (.ListComp elt [⟨target, iter, ifs, 0⟩] scope pos) 0 (.ref I) (.ref D) (compEnvC scope cl c F.env)) R s₄ := by
  obtain ⟨oI, hoI⟩ := hoI
  have hID : I ≠ D := fun e => by rw [e, hD] at hoI; cases hoI
  have hIc : I ≠ c := fun e => by rw [e, hc] at hoI; cases hoI
  have cellO : ∀ p ∈ F.env.cells, p.2 ≠ D ∧ p.2 ≠ c ∧ p.2 ≠ I := fun p hp => by
    obtain ⟨v₀, oc, hoc, _⟩ := S₂.cells p hp
    obtain ⟨v₀', oc', hoc', _⟩ := S.cells p hp
    refine ⟨fun e => ?_, fun e => ?_, fun e => ?_⟩
    · rw [e, hD] at hoc; cases hoc
    · rw [e, hc] at hoc; cases hoc
    · rw [e, hI] at hoc'; cases hoc'
  have locO : F.env.locals ≠ D ∧ F.env.locals ≠ c ∧ F.env.locals ≠ I := by
    obtain ⟨m, ⟨oL, _, _, hoL, _⟩, _⟩ := S₂.frame
    obtain ⟨m', ⟨oL', _, _, hoL', _⟩, _⟩ := S.frame
    refine ⟨fun e => ?_, fun e => ?_, fun e => ?_⟩
    · rw [e, hD] at hoL; cases hoL
    · rw [e, hc] at hoL; cases hoL
    · rw [e, hI] at hoL'; cases hoL'
  have gbn : ∀ b, s₂.heap.get? b = none → C.GB.get? b = none := fun b hb => by
    cases hq : C.GB.get? b with
    | none => rfl
    | some o => have := S₂.base b o hq; rw [hb] at this; cases this
  have gbI : C.GB.get? I = none := by
    cases hq : C.GB.get? I with
    | none => rfl
    | some o => have := S.base I o hq; rw [hI] at this; cases this
  have looseI : ∀ {sto' : Addr → Option O} {l : List (Str × V)} {i : Nat} {h : Heap}, K i h → sto' I = none → Loose C.GB (compF scope cl c F) ⟨l, sto'⟩ h I := fun hK hs => by
    obtain ⟨o, ho, hf⟩ := IT.alive _ _ hK
    exact ⟨gbI, hIc, fun p hp => (cellO p (hcl p hp)).2.2, hs, not_frz_of ho hf⟩
  have looseD : ∀ {sto' : Addr → Option O} {l : List (Str × V)} {its : Array Value} {e : Nat} {h : Heap}, h.get? D = some (listOf its e) → sto' D = none → Loose C.GB (compF scope cl c F) ⟨l, sto'⟩ h D := fun ho hs =>
    ⟨gbn D hD, hDc, fun p hp => (cellO p (hcl p hp)).1, hs, not_frz_of ho (not_frz_list rfl)⟩
  have stoX : ∀ {x : Addr} {own : List Addr} {σ' σ'' : St} {s' s'' : Shared} {ob : Obj}, Mod own σ' σ'' s' s'' → s'.heap.get? x = some ob → σ'.sto x = none → σ''.sto x = none := fun M' ho hs' => by
    cases hq : (_ : St).sto _ with
    | none => rfl
    | some o₁ =>
      rcases M'.dom _ o₁ hq with ⟨o', h', _⟩ | h'
      · rw [hs'] at h'; cases h'
      · rw [ho] at h'; cases h'
  refine codeAny_loop rfl (fun n s' => ∃ i out out' e sto', n = N + 1 - i ∧ Sim C.GB (compF scope cl c F) ⟨loc0, sto'⟩ s'.heap ∧ Mod (c :: I :: D :: []) σ₂ ⟨loc0, sto'⟩ s₂ s' ∧ K i s'.heap ∧ s'.heap.get? D = some (listOf (List.toArray out') e) ∧
    Reps s'.heap out out' ∧ out.length ≤ maxLen ∧ sto' I = none ∧ sto' D = none ∧ Inv i out sto') (fun n s' ⟨i, out, out', e, sto', hn, S', M', hK', hD', hr, hlen, hsI', hsD', hInv⟩ => ?_) (N + 1)
    ⟨0, [], [], 0, σ₂.sto, rfl, S₄, ⟨fun b o e _ _ => kp₄ b o e, fun b o e => .inl ⟨o, e, id⟩, fun b o e => ⟨o, kp₄ b o e⟩, r₄⟩, hK₄, hD₄, .nil, Nat.zero_le _, hsI, S₂.fresh_none hD, h0⟩
  obtain ⟨hi, r₀, hg, ht⟩ := turn i out sto' hInv
  show wpAny _ A ((compTurn (.ListComp elt [⟨target, iter, ifs, 0⟩] scope pos) 0 (.ref I) (.ref D) (compEnvC scope cl c F.env)).onRaise (fun x => do noteFrame x (compEnvC scope cl c F.env); theTreesLotGoes x)) _ _ s'
  refine wpAny_noted ?_
  rw [compTurn_list]
  refine wpAny_bind (wpAny_standAt (wpAny_bind ?_))
  refine no_mono (wpAny_mono (IT.next A (compF scope cl c F) ⟨loc0, sto'⟩ s' i r₀ hA S' (looseI hK' hsI') hK' hg) (fun r s₅ ⟨hext, hrest, hget⟩ => ?_) fun _ _ x => x)
  have S₅ : Sim C.GB (compF scope cl c F) ⟨loc0, sto'⟩ s₅.heap := S'.extBut (looseI hK' hsI') hext
  have hD₅ := hext D _ hID.symm hD'
  have fz₅ := not_frz_ext (looseI (l := loc0) hK' hsI').frz hext
  cases r₀ with
  | none =>
    subst hget
    refine wpAny_pure ?_
    obtain ⟨m, hm, _⟩ := S₅.frame
    have kpAll : ∀ b ob, s₂.heap.get? b = some ob → σ₂.fixed b → ¬ (b = I) → s₅.heap.get? b = some ob := fun b ob eb fb hbI => by
      have hbc : b ≠ c := fun q => by rw [q, hc] at eb; cases eb
      have hbD : b ≠ D := fun q => by rw [q, hD] at eb; cases eb
      refine hext b ob hbI (M'.keep b ob eb fb fun hm => ?_)
      rcases List.mem_cons.mp hm with q | hm
      · exact hbc q
      · rcases List.mem_cons.mp hm with q | hm
        · exact hbI q
        · rcases List.mem_cons.mp hm with q | hm
          · exact hbD q
          · cases hm
    have SB : Sim C.GB F ⟨σ₂.loc, sto'⟩ s₅.heap := by
      refine S₂.back (fun b => b = I) kpAll locO.2.2 (fun p hp => (cellO p hp).2.2) (fun b o ho hf q => ?_) S₅.base S₅.sto (fun a o ea hm => (S₅.off a o ea).1 hm) (fun b ob eb => ?_)
      · subst q
        exact (L₂ o ho) hf
      · rcases M'.dom b ob eb with ⟨o', q, _⟩ | q
        · exact .inl ⟨o', q⟩
        · exact .inr q
    have SF : Sim C.GB F (St.setSto ⟨σ₂.loc, sto'⟩ D (.lst out)) s₅.heap := SB.adopt ⟨hlen, out', e, hD₅, hr.keeps fz₅⟩ (gbn D hD) locO.1.symm fun p hp => (cellO p hp).1
    have MA : Mod (I :: D :: c :: F.own) σ ⟨loc0, sto'⟩ s s' := (M₂.wide fun b hb => .tail _ (.tail _ (.tail _ hb))).trans' (M'.wide fun b hb => by
      rcases List.mem_cons.mp hb with q | hb
      · exact q ▸ .tail _ (.tail _ (.head _))
      · rcases List.mem_cons.mp hb with q | hb
        · exact q ▸ .head _
        · rcases List.mem_cons.mp hb with q | hb
          · exact q ▸ .tail _ (.head _)
          · cases hb)
    have MB : Mod (D :: c :: F.own) σ ⟨loc0, sto'⟩ s s₅ := MA.endOf hI hext hrest .refl
    have MC : Mod (c :: F.own) σ ⟨σ₂.loc, sto'⟩ s s₅ := let x := MB.less (M₂.back hD); ⟨x.keep, x.dom, x.alive, x.rest⟩
    have hsc : sto' c = none := by
      cases hq : sto' c with
      | none => rfl
      | some o => exact absurd rfl (S₅.off c o hq).2.1
    exact done s₅ out sto' SF (MC.adopt (M₂.back hD)) ⟨gbn c hc, locO.2.1.symm, fun p hp => (cellO p hp).2.1, by
      rw [setSto_other _ _ (Ne.symm hDc)]; exact hsc, fun o ho hf => frz_not_dict ho hf hm⟩ ⟨m, hm⟩ hsD' ht
  | some v =>
    obtain ⟨v', rfl, rv', hK₅⟩ := hget
    obtain ⟨oI', hoI', hcI⟩ := IT.alive _ _ hK₅
    have M₅ : Mod (c :: I :: D :: []) (⟨loc0, sto'⟩ : St) ⟨loc0, sto'⟩ s' s₅ := ⟨fun b o eb _ nb => hext b o (fun q => nb (q ▸ .tail _ (.head _))) eb, fun b o eb => .inl ⟨o, eb, id⟩, fun b o eb => by
      by_cases hb : b = I
      · subst hb; exact ⟨oI', hoI'⟩
      · exact ⟨o, hext b o hb eb⟩, hrest⟩
    refine wpAny_bind (no_mono (IT.lot A s₅ (i + 1) target v' _ hK₅ ?_))
    refine wpAny_bind (no_mono (go (ht A s₅ v' hA S₅ (rv'.keeps fz₅)) fun _ _ σ₆ s₆ _ S₆ M₆ h₆ => ?_))
    have LI₅ := looseI (l := loc0) hK₅ hsI'
    have LD₅ := looseD (l := loc0) hD₅ hsD'
    have hK₆ : K (i + 1) s₆.heap := IT.only _ _ _ hK₅ (fun o ho => M₆.keep I o ho (fixed_none hsI') (LI₅.own S₅)) (M₆.frz S₅)
    have hD₆ := M₆.keep D _ hD₅ (fixed_none hsD') (LD₅.own S₅)
    have hsI₆ := stoX (x := I) M₆ hoI' hsI'
    have hsD₆ := stoX (x := D) M₆ hD₅ hsD'
    have wid : ∀ b ∈ (compF scope cl c F).own, b ∈ c :: I :: D :: [] := fun b hb => by
      rcases List.mem_cons.mp hb with q | hb
      · exact q ▸ .head _
      · cases hb
    have M₂₆ := (M'.trans' M₅).trans' (M₆.wide wid)
    refine wpAny_bind (no_mono (go (tests_go (F := compF scope cl c F) hA S₆ h₆) fun b b' σ₇ s₇ rb S₇ M₇ h₇ => ?_))
    cases rb
    obtain ⟨o₆, ho₆, hf₆⟩ := IT.alive _ _ hK₆
    have LI₆ : Loose C.GB (compF scope cl c F) σ₆ s₆.heap I := looseI (l := σ₆.loc) hK₆ hsI₆
    have LD₆ : Loose C.GB (compF scope cl c F) σ₆ s₆.heap D := looseD (l := σ₆.loc) hD₆ hsD₆
    have hK₇ : K (i + 1) s₇.heap := IT.only _ _ _ hK₆ (fun o ho => M₇.keep I o ho (fixed_none hsI₆) (LI₆.own S₆)) (M₇.frz S₆)
    have hD₇ := M₇.keep D _ hD₆ (fixed_none hsD₆) (LD₆.own S₆)
    have hsI₇ := stoX (x := I) M₇ ho₆ hsI₆
    have hsD₇ := stoX (x := D) M₇ hD₆ hsD₆
    have M₂₇ := M₂₆.trans' (M₇.wide wid)
    have hr₇ : Reps s₇.heap out out' := M₇.reps S₆ (M₆.reps S₅ (hr.keeps fz₅))
    cases b with
    | false =>
      obtain ⟨hl0, hInv'⟩ := h₇
      refine wpAny_pure ⟨rfl, N + 1 - (i + 1), by omega, i + 1, out, out', e, σ₇.sto, rfl, ?_, ⟨M₂₇.keep, M₂₇.dom, M₂₇.alive, M₂₇.rest⟩, hK₇, hD₇, hr₇, hlen, hsI₇, hsD₇, hInv'⟩
      have := S₇.weak (l := loc0) (by intro x v hx; rw [← hl0] at hx; exact restrictL_sub _ _ x v hx)
      exact this
    | true =>
      refine wpAny_bind (wpAny_bind (no_mono (go (h₇ A s₇ hA S₇) fun y y' σ₈ s₈ ry S₈ M₈ h₈ => ?_)))
      obtain ⟨hlt, hl0, hInv'⟩ := h₈
      obtain ⟨o₇, ho₇, hf₇⟩ := IT.alive _ _ hK₇
      have LI₇ : Loose C.GB (compF scope cl c F) σ₇ s₇.heap I := looseI (l := σ₇.loc) hK₇ hsI₇
      have LD₇ : Loose C.GB (compF scope cl c F) σ₇ s₇.heap D := looseD (l := σ₇.loc) hD₇ hsD₇
      have hK₈ : K (i + 1) s₈.heap := IT.only _ _ _ hK₇ (fun o ho => M₈.keep I o ho (fixed_none hsI₇) (LI₇.own S₇)) (M₈.frz S₇)
      have hD₈ := M₈.keep D _ hD₇ (fixed_none hsD₇) (LD₇.own S₇)
      have hsI₈ := stoX (x := I) M₈ ho₇ hsI₇
      have hsD₈ := stoX (x := D) M₈ hD₇ hsD₇
      have M₂₈ := M₂₇.trans' (M₈.wide wid)
      have hr₈ : Reps s₈.heap out out' := M₈.reps S₇ hr₇
      have hz : (List.toArray out').size ≤ sizeLine := by rw [List.size_toArray, hr₈.length]; exact Nat.le_trans hlen maxLen_le
      refine wpAny_bind (append_at (hsz := hz) hD₈ fun h' hsb hD' => wpAny_pure (wpAny_pure ?_))
      have LD₈ : Loose C.GB (compF scope cl c F) σ₈ s₈.heap D := looseD (l := σ₈.loc) hD₈ hsD₈
      have S₉ : Sim C.GB (compF scope cl c F) σ₈ h' := S₈.extBut LD₈ hsb.extBut
      have fz₉ := not_frz_ext LD₈.frz hsb.extBut
      refine ⟨rfl, N + 1 - (i + 1), by omega, i + 1, out ++ [y], out' ++ [y'], e + 1, σ₈.sto, rfl, ?_, ?_, ?_, ?_, ?_, ?_, hsI₈, hsD₈, hInv'⟩
      · exact S₉.weak (l := loc0) (by intro x v hx; rw [← hl0] at hx; exact restrictL_sub _ _ x v hx)
      · have M₉ : Mod (c :: I :: D :: []) σ₈ σ₈ s₈ { s₈ with heap := h' } := ⟨fun b o eb _ nb => hsb.extBut b o (fun q => nb (q ▸ .tail _ (.tail _ (.head _)))) eb, fun b o eb => .inl ⟨o, eb, id⟩, fun b o eb => by
          by_cases hb : b = D
          · subst hb; exact ⟨_, hD'⟩
          · exact ⟨o, hsb.extBut b o hb eb⟩, rfl⟩
        have := M₂₈.trans' M₉
        exact ⟨this.keep, this.dom, this.alive, this.rest⟩
      · exact IT.only _ _ _ hK₈ (fun o ho => hsb.extBut I o hID ho) fz₉
      · show h'.get? D = _
        rw [hD']
        simp
      · exact (hr₈.append (.cons ry .nil)).keeps fz₉
      · simp; omega

/-- the head of a comprehension -/
theorem comp_head {A : Around} {elt target iter : Expr} {ifs : List Expr} {scope : Scope} {pos : Pos} {cl : List (Str × Addr)} {s s₂ : Shared} {I : Addr} {get : Get} {K : Nat → Heap → Prop} {σ₂ : St} {loc0 : List (Str × V)} {Inv : Nat → List V → (Addr → Option O) → Prop} {N : Nat} {Fin' : List V → (Addr → Option O) → Prop}
    {RR : Value → Addr → Result → Shared → Prop} (ok : EnvOk F.env) (hkind : scope.kind = .function) (hcell : ∀ y ∈ scope.names, y.2 ≠ .cell) (hcl : ∀ p ∈ cl, p ∈ F.env.cells) (hap : cl.Pairwise fun x y => x.2 ≠ y.2)
    (hA : Room C k F A) (S : Sim C.GB F σ s.heap) (hI : s.heap.get? I = none) (IT : Iter C k I get K) (hK : K 0 s₂.heap) (S₂ : Sim C.GB F σ₂ s₂.heap) (M₂ : Mod F.own σ σ₂ s s₂) (hsI : σ₂.sto I = none) (fr : FreeOk F scope cl loc0 σ₂.loc)
    (turn : ∀ c i out sto', Inv i out sto' → i ≤ N ∧ ∃ r₀, get i sto' = some r₀ ∧ match r₀ with
      | some v => AsgOK C k (compF scope cl c F) target v ⟨loc0, sto'⟩ fun σ₅ => Tests C k (compF scope cl c F) ifs σ₅ fun b σ₆ => if b then TE C k (compF scope cl c F) elt σ₆ (CompPush loc0 Inv i out) else CompSkip loc0 Inv i out σ₆
      | none => Fin' out sto') (h0 : Inv 0 [] σ₂.sto)
    (done : ∀ D c s₅ out sto', Sim C.GB F (St.setSto ⟨σ₂.loc, sto'⟩ D (.lst out)) s₅.heap → Mod (c :: F.own) σ (St.setSto ⟨σ₂.loc, sto'⟩ D (.lst out)) s s₅ → Loose C.GB F (St.setSto ⟨σ₂.loc, sto'⟩ D (.lst out)) s₅.heap c → (∃ m, s₅.heap.Ns c m) → s.heap.get? c = none → sto' D = none → Fin' out sto' → RR (.ref D) c (.ok .next) s₅) :
    wpAny (model C.prog C.w) A (newList []) (fun acc s₃ => wpAny (model C.prog C.w) A (newFunctionEnv scope F.env.globals cl [] F.env.qual none .none (some F.env)) (fun cenv s₄ =>
      codeAny (model C.prog C.w) A (.compStart (.ListComp elt [⟨target, iter, ifs, 0⟩] scope pos) 0 (.ref I) acc { cenv with scope := relabel scope F.env }) (RR acc cenv.locals) s₄) No s₃) No s₂ := by
  refine wpAny_newList ?_ (by show 0 ≤ _; exact Nat.zero_le _)
  refine wpAny_newFunctionEnv hcell (fun x hx => nomatch hx) (fun h' hns hsb => ?_) hkind
  have hD : s₂.heap.get? s₂.heap.objs.size = none := get_size _
  have hsz : (s₂.heap.push { cls := .type "list", data := .seq ([] : List Value).toArray }).objs.size = s₂.heap.objs.size + 1 := Heap.size_push ..
  have hc : s₂.heap.get? (s₂.heap.objs.size + 1) = none := by
    cases hq : s₂.heap.get? (s₂.heap.objs.size + 1) with
    | none => rfl
    | some o => exact absurd (Heap.lt_size hq) (Nat.not_lt.mpr (Nat.le_succ _))
  obtain ⟨oI, hoI, hfI⟩ := IT.alive _ _ hK
  have kp : ∀ b ob, s₂.heap.get? b = some ob → h'.get? b = some ob := fun b ob e =>
    hsb.extBut b ob (by have := Heap.lt_size e; show b ≠ (s₂.heap.push _).objs.size; rw [hsz]; exact Nat.ne_of_lt (Nat.lt_succ_of_lt this)) (Heap.get?_push_of_some _ (Heap.get?_push_of_some _ e))
  have hDh : h'.get? s₂.heap.objs.size = some (listOf #[] 0) := hsb.extBut _ _ (by show s₂.heap.objs.size ≠ (s₂.heap.push _).objs.size; rw [hsz]; exact Nat.ne_of_lt (Nat.lt_succ_self _)) (Heap.get?_push_of_some _ (Heap.get?_push_size _ rfl))
  have gbn : ∀ b, s₂.heap.get? b = none → C.GB.get? b = none := fun b hb => by
    cases hq : C.GB.get? b with
    | none => rfl
    | some o => have := S₂.base b o hq; rw [hb] at this; cases this
  have S0 := S₂.keeps kp
  have hns' : h'.Ns (s₂.heap.objs.size + 1) (fun x => ([] : List (Str × Value)).reverse.lookup x) := by rw [← hsz]; exact hns
  have S₄ : Sim C.GB (compF scope cl (s₂.heap.objs.size + 1) F) ⟨loc0, σ₂.sto⟩ h' := {
    base := S0.base
    frame := by
      refine ⟨_, hns', fun x v e => ?_⟩
      obtain ⟨h1, h2, h3, h4⟩ := fr x v e
      obtain ⟨m, hn, hl⟩ := S0.frame
      obtain ⟨v', hp, hr⟩ := hl x v h1
      refine ⟨v', .inr ⟨h3, ?_⟩, hr⟩
      rcases hp with ⟨hp, _⟩ | ⟨_, cc, hcc, hce⟩
      · rcases h2 with h2 | h2 <;> rw [h2] at hp <;> cases hp
      · exact ⟨cc, h4.trans hcc, hce⟩
    cells := fun p hp => S0.cells p (hcl p hp)
    apart := hap
    sto := S0.sto
    inOwn := .head _
    ownIs := fun b hb => by
      rcases List.mem_cons.mp hb with q | hb
      · exact .inl q
      · cases hb
    new := fun b hb => by
      rcases List.mem_cons.mp hb with q | hb
      · rw [q]; exact gbn _ hc
      · cases hb
    off := fun a o e => by
      refine ⟨(S₂.off a o e).1, fun q => ?_, fun p hp q => (S₂.off a o e).2.2 p (hcl p hp) q⟩
      obtain ⟨ob, hob⟩ := S₂.sto_alive e
      rw [show a = s₂.heap.objs.size + 1 from q, hc] at hob; cases hob }
  have hK' : K 0 h' := IT.only _ _ _ hK (fun o ho => kp _ _ ho) fun a o ho _ => kp a o ho
  have loop := comp_loop (s := s) (s₂ := s₂) (s₄ := { s₂ with heap := h' }) (elt := elt) (target := target) (iter := iter) (ifs := ifs) (scope := scope) (pos := pos) (cl := cl) (D := s₂.heap.objs.size) (c := s₂.heap.objs.size + 1) (R := RR (.ref s₂.heap.objs.size) (s₂.heap.objs.size + 1)) hA S hI IT S₂ M₂ hsI hD hc (Nat.ne_of_lt (Nat.lt_succ_self _)) ⟨oI, hoI⟩ (not_frz_of hoI hfI) hcl
    (turn _) (fun s₅ out sto' a1 a2 a3 a4 a5 a6 => done _ _ s₅ out sto' a1 a2 a3 a4 (M₂.back hc) a5 a6) S₄ kp hDh hK' rfl h0
  have e1 : ({ newEnv scope (s₂.heap.push { cls := .type "list", data := .seq ([] : List Value).toArray }).objs.size F.env.globals cl F.env.qual none .none (some F.env) 0 with scope := relabel scope F.env } : Env) = compEnvC scope cl (s₂.heap.objs.size + 1) F.env := by rw [hsz]; rfl
  show codeAny _ A (.compStart _ 0 (.ref I) (.ref s₂.heap.objs.size) { newEnv scope (s₂.heap.push { cls := .type "list", data := .seq ([] : List Value).toArray }).objs.size F.env.globals cl F.env.qual none .none (some F.env) 0 with scope := relabel scope F.env }) (RR (.ref s₂.heap.objs.size) (s₂.heap.push { cls := .type "list", data := .seq ([] : List Value).toArray }).objs.size) { s₂ with heap := h' }
  rw [e1, hsz]
  exact codeAny_compStart_list loop (no_mono (IT.again A _ 0 _ hK' loop))

theorem comp_ok {scope : Scope} {cl : List (Str × Addr)} {c : Addr} (ok : EnvOk F.env) (hkind : scope.kind = .function) : EnvOk (compF scope cl c F).env := ⟨hkind, ok.globals, ok.builtins⟩
def CompOK (C : Cx) (k : Nat) (F : FE) (elt target : Expr) (ifs : List Expr) (scope : Scope) (cl : List (Str × Addr)) (loc0 : List (Str × V)) (get : Get) (σ₁ : St) (Q : V → St → Prop) : Prop :=
  FreeOk F scope cl loc0 σ₁.loc ∧ ∃ (Inv : Nat → List V → (Addr → Option O) → Prop) (N : Nat), Inv 0 [] σ₁.sto ∧ ∀ c i out sto', EnvOk (compF scope cl c F).env → Inv i out sto' → i ≤ N ∧ ∃ r₀, get i sto' = some r₀ ∧ match r₀ with
      | some v => AsgOK C k (compF scope cl c F) target v ⟨loc0, sto'⟩ fun σ₅ => Tests C k (compF scope cl c F) ifs σ₅ fun b σ₆ => if b then TE C k (compF scope cl c F) elt σ₆ (CompPush loc0 Inv i out) else CompSkip loc0 Inv i out σ₆
      | none => ∀ D, sto' D = none → Q (.ref D) (St.setSto ⟨σ₁.loc, sto'⟩ D (.lst out))

theorem e_comp {elt target iter : Expr} {ifs : List Expr} {scope : Scope} {pos : Pos} {Q : V → St → Prop} (ok : EnvOk F.env) (cl : List (Str × Addr)) (loc0 : List (Str × V)) (h : TIter C k F iter σ fun get σ₁ => CompOK C k F elt target ifs scope cl loc0 get σ₁ Q)
    (hclos : closureFor scope F.env = pure cl := by rfl) (hcl : ∀ p ∈ cl, p ∈ F.env.cells := by intro p hp; first | exact (nomatch hp) | simpa using hp) (hap : cl.Pairwise fun x y => x.2 ≠ y.2 := by first | exact List.Pairwise.nil | simp)
    (hkind : scope.kind = .function := by rfl) (hcell : ∀ y ∈ scope.names, y.2 ≠ .cell := by decide) (hnames : ∀ x ∈ scope.names, x.2 = .local → scope.names.lookup x.1 = some .local := by decide)
    (hs : ∀ x, foldedSetIterable iter F.env x = pure x := by intro _; rfl) : TE C k F (.ListComp elt [⟨target, iter, ifs, 0⟩] scope pos) σ Q :=
  fun A s hA S => by
    show wpAny _ A (eval (.ListComp elt [⟨target, iter, ifs, 0⟩] scope pos) F.env) _ _ s
    rw [eval_ListComp]
    refine wpAny_comprehension_free (use := none) rfl hs hclos hkind hnames (wpAny_mono (h A s hA S) (fun x s₁ h₁ => wpAny_mono h₁ (fun itv s₂ ⟨I, get, K, σ₂, e, hI, IT, hK, S₂, M₂, hsI, fr, Inv, N, h0, turn⟩ => ?_) fun _ _ x => x) fun _ _ x => x)
    subst e
    refine comp_head (RR := fun acc c => compPost (model C.prog C.w) A No none (Post C F Rep σ s Q) acc c) ok hkind hcell hcl hap hA S hI IT hK S₂ M₂ hsI fr (fun c i out sto' hi => turn c i out sto' (comp_ok ok hkind) hi) h0 fun D c s₅ out sto' SF MC LC ⟨m, hm⟩ hsc hsD hq => ?_
    refine ⟨m, hm, fun h' hsb => ?_⟩
    exact ⟨.ref D, _, .ref D, SF.extBut LC hsb.extBut, MC.endOf (s₃ := { s₅ with heap := h' }) hsc hsb.extBut rfl .refl, hq D hsD⟩
end
end Mine
set_option Elab.async false
set_option linter.unusedVariables false
set_option linter.unusedSimpArgs false
namespace Mine
open PySem PySem.W PyProof.Rows PySem.SeqAt PyProof.V

section
variable {C : Cx} {k : Nat} {F : FE} {σ : St}

-- a comprehension stored at once
theorem s_comp {x : Str} {p' p : Pos} {elt target iter : Expr} {ifs : List Expr} {scope : Scope} {pos : Pos} {Q : Fl → St → Prop} (ok : EnvOk F.env) (cl : List (Str × Addr)) (loc0 : List (Str × V))
    (h : TIter C k F iter σ fun get σ₁ => CompOK C k F elt target ifs scope cl loc0 get σ₁ fun v σ₂ => Q .next (σ₂.setLoc x v))
    (hsw : swapsWith (.ListComp elt [⟨target, iter, ifs, 0⟩] scope pos) (some (.Name x p')) p.line F.env = pure true := by rfl) (hk : StoreOk F x := by exact .inl rfl)
    (hclos : closureFor scope F.env = pure cl := by rfl) (hcl : ∀ p ∈ cl, p ∈ F.env.cells := by intro p hp; first | exact (nomatch hp) | simpa using hp) (hap : cl.Pairwise fun x y => x.2 ≠ y.2 := by first | exact List.Pairwise.nil | simp)
    (hkind : scope.kind = .function := by rfl) (hcell : ∀ y ∈ scope.names, y.2 ≠ .cell := by decide) (hnames : ∀ x ∈ scope.names, x.2 = .local → scope.names.lookup x.1 = some .local := by decide)
    (hs : ∀ x, foldedSetIterable iter F.env x = pure x := by intro _; rfl) : TS C k F (.Assign [.Name x p'] (.ListComp elt [⟨target, iter, ifs, 0⟩] scope pos) p) σ Q :=
  fun A s hA S => by
    show wpAny _ A (exec (.Assign [.Name x p'] (.ListComp elt [⟨target, iter, ifs, 0⟩] scope pos) p) F.env) _ _ s
    rw [arm_exec_Assign]
    refine wpAny_bind (wpAny_standAt (wpAny_bind (wpAny_of_eq (a := true) hsw ?_)))
    simp only [if_true]
    rw [arm_evalThenUse_ListComp]
    refine wpAny_bind (wpAny_bind ?_)
    refine wpAny_comprehension_free (use := some fun v => assignAll v ((assignEach [.Name x p'] F.env).map (·.2))) rfl hs hclos hkind hnames (wpAny_mono (h A s hA S) (fun xv s₁ h₁ => wpAny_mono h₁ (fun itv s₂ ⟨I, get, K, σ₂, e, hI, IT, hK, S₂, M₂, hsI, fr, Inv, N, h0, turn⟩ => ?_) fun _ _ x => x) fun _ _ x => x)
    subst e
    refine comp_head (RR := fun acc c => compPost (model C.prog C.w) A No (some fun v => assignAll v ((assignEach [.Name x p'] F.env).map (·.2))) _ acc c) ok hkind hcell hcl hap hA S hI IT hK S₂ M₂ hsI fr (fun c i out sto' hi => turn c i out sto' (comp_ok ok hkind) hi) h0 fun D c s₅ out sto' SF MC LC ⟨m, hm⟩ hsc hsD hq => ?_
    show wpAny _ A (assign (.Name x p') F.env (.ref D)) _ _ s₅
    refine wpAny_assign_Name (store_name ok SF (.ref D) hk fun h₆ tk S₆ M₆ => ?_)
    have hm₆ : h₆.Ns c m := by
      obtain ⟨oc, es, ep, hoc, r⟩ := hm
      exact ⟨oc, es, ep, M₆.keep c oc hoc (fixed_none LC.sto) (LC.own SF), r⟩
    refine ⟨m, hm₆, fun h' hsb => ?_⟩
    have LC₆ : Loose C.GB F ((St.setSto ⟨σ₂.loc, sto'⟩ D (.lst out)).setLoc x (.ref D)) h₆ c := ⟨LC.new, LC.loc, LC.cell, LC.sto, fun o ho hf => frz_not_dict ho hf hm₆⟩
    have M₇ := MC.trans' (M₆.more c)
    refine wpAny_pure (wpAny_pure ?_)
    exact ⟨.next, _, .next, S₆.extBut LC₆ hsb.extBut, M₇.endOf (s₃ := { s₅ with heap := h', toks := tk }) hsc hsb.extBut rfl .refl, hq D hsD⟩

-- slices
def pickV (vs : List V) (lo hi st : Option Int) : List V :=
  (sliceRange (sliceBounds lo hi st vs.length).1 (sliceBounds lo hi st vs.length).2.1 (sliceBounds lo hi st vs.length).2.2).filterMap fun i => vs[i]?
theorem reps_pick {h : Heap} {vs : List V} {vs' : List Value} (r : Reps h vs vs') : ∀ l : List Nat, Reps h (l.filterMap fun i => vs[i]?) (l.filterMap fun i => vs'[i]?)
  | [] => .nil
  | i :: l => by
    rw [List.filterMap_cons, List.filterMap_cons]
    cases hv : vs[i]? with
    | none =>
      have : vs'[i]? = none := by
        rw [List.getElem?_eq_none_iff] at hv ⊢
        rw [r.length]; exact hv
      rw [this]; exact reps_pick r l
    | some v =>
      obtain ⟨v', hv', rv⟩ := r.get hv
      rw [hv']; exact .cons rv (reps_pick r l)
def PartOK (C : Cx) (k : Nat) (F : FE) : Option Expr → St → (Option Int → St → Prop) → Prop
  | none, σ, Q => Q none σ
  | some e, σ, Q => TE C k F e σ fun v σ₁ => ∃ i, v = .int i ∧ Q (some i) σ₁
theorem part_go {A : Around} {s : Shared} {e : Option Expr} {Q : Option Int → St → Prop} (hA : Room C k F A) (S : Sim C.GB F σ s.heap) (h : PartOK C k F e σ Q) : wpAny (model C.prog C.w) A (evalPart e F.env) (Post C F (fun _ p v => IsPart v p) σ s Q) No s := by
  cases e with
  | none => exact wpAny_pure (post_pure S .none h)
  | some e => exact go (h A s hA S) fun v v' σ₁ s₁ rv S₁ M₁ ⟨i, e, h₁⟩ => by subst e; cases rv; exact ⟨some i, σ₁, .int _ _, S₁, M₁, h₁⟩
theorem e_slice {ve : Expr} {lo hi st : Option Expr} {p q : Pos} {Q : V → St → Prop}
    (h : TE C k F ve σ fun v σ₁ => PartOK C k F lo σ₁ fun l σ₂ => PartOK C k F hi σ₂ fun u σ₃ => PartOK C k F st σ₃ fun c σ₄ => ∃ a vs, v = .ref a ∧ (σ₄.sto a).bind O.items = some vs ∧ c ≠ some 0 ∧ (pickV vs l u c).length ≤ maxLen ∧
      ∀ b, σ₄.sto b = none → Q (.ref b) (σ₄.setSto b (.lst (pickV vs l u c)))) : TE C k F (.Subscript ve (.Slice lo hi st p) q) σ Q :=
  fun A s hA S => Subscript_ (go (h A s hA S) fun v v' σ₁ s₁ rv S₁ M₁ h₁ => wpAny_Slice (go (part_go hA S₁ h₁) fun l l' σ₂ s₂ rl S₂ M₂ h₂ => go (part_go hA S₂ h₂) fun u u' σ₃ s₃ ru S₃ M₃ h₃ => go (part_go hA S₃ h₃) fun c c' σ₄ s₄ rc S₄ M₄ ⟨a, vs, e, hs, hc, hlen, hq⟩ => by
    subst e
    cases rv
    obtain ⟨hb, vs', hL, hr⟩ := S₄.list hs
    have kp := keeps_push (h := s₄.heap) { cls := .type "slice", data := .fields #[l', u', c'] }
    have hL' : (s₄.heap.push { cls := .type "slice", data := .fields #[l', u', c'] }).IsList a vs'.toArray := hL.push _
    have hz : vs'.toArray.size ≤ sizeLine := by rw [List.size_toArray, hr.length]; exact Nat.le_trans hb maxLen_le
    have S₅ : Sim C.GB F σ₄ (s₄.heap.push { cls := .type "slice", data := .fields #[l', u', c'] }) := S₄.keeps kp
    have M₅ : Mod F.own σ₄ σ₄ s₄ { s₄ with heap := s₄.heap.push { cls := .type "slice", data := .fields #[l', u', c'] } } := .pure (tk := s₄.toks) kp
    have hg : wpAny (model C.prog C.w) A (getItem (.ref a) (.ref s₄.heap.objs.size)) (Post C F Rep σ s Q) No { s₄ with heap := s₄.heap.push { cls := .type "slice", data := .fields #[l', u', c'] } } := by
      refine wpAny_getItem_list_slice hL' ⟨_, Heap.get?_push_size _ rfl, rfl, rfl⟩ rl ru rc hc ?_ hz
      have e2 : slicePick vs'.toArray l u c = ((sliceRange (sliceBounds l u c vs.length).1 (sliceBounds l u c vs.length).2.1 (sliceBounds l u c vs.length).2.2).filterMap fun i => vs'[i]?).toArray := by
        unfold slicePick
        rw [List.size_toArray, hr.length]
        congr 1
        simp
      have hP := post_newList (s := { s₄ with heap := s₄.heap.push { cls := .type "slice", data := .fields #[l', u', c'] } }) (tk := s₄.toks) (vs := pickV vs l u c) S₅ ((reps_pick hr _).keeps (frz_of_keeps kp)) hlen hq
      rw [e2]
      exact post_on S₁ M₁ (post_on S₂ M₂ (post_on S₃ M₃ (post_on S₄ M₄ (post_on (s₁ := { s₄ with heap := s₄.heap.push { cls := .type "slice", data := .fields #[l', u', c'] } }) S₅ M₅ hP))))
    cases st with
    | none => exact tail_any hL'.typeIs slot_list_getitem.lookup hg rfl
    | some e => exact tail_any hL'.typeIs slot_list_getitem.lookup hg rfl))

-- + of lists
theorem bin_cat {a b : Addr} {us vs : List V} {Q : V → St → Prop} (ha : (σ.sto a).bind O.items = some us) (hb : (σ.sto b).bind O.items = some vs) (hl : us.length + vs.length ≤ maxLen) (h : ∀ c, σ.sto c = none → Q (.ref c) (σ.setSto c (.lst (us ++ vs)))) :
    BinOK C k F .Add (.ref a) (.ref b) σ Q :=
  fun A s a' b' hA S ra rb => by
    cases ra; cases rb
    obtain ⟨h1, us', hL, hr⟩ := S.list ha
    obtain ⟨h2, vs', hL2, hr2⟩ := S.list hb
    obtain ⟨⟨cls, dd, data, sl⟩, ho, hc, n, hd⟩ := id hL
    obtain ⟨⟨cls2, dd2, data2, sl2⟩, ho2, hc2, n2, hd2⟩ := id hL2
    simp only at hc hd hc2 hd2
    subst hc hd hc2 hd2
    have hz : us'.toArray.size + vs'.toArray.size ≤ sizeLine := by rw [List.size_toArray, List.size_toArray, hr.length, hr2.length]; exact Nat.le_trans hl maxLen_le
    refine wpAny_binaryOp_concat hL.typeIs hL2.typeIs noFill_list_add seq_list_add (call_meets PySem.F.slot_list_add hL.typeIs PySem.F.entry_list_add (PySem.F.args_list_add_2 _ _) (list_addW a b _ _ n n2 dd dd2 sl sl2 hz) ⟨ho, ho2, ?_⟩)
    have hP := post_newList (C := C) (F := F) (σ := σ) (s := s) (tk := s.toks) (vs := us ++ vs) (vs' := us' ++ vs') (Q := Q) S (hr.append hr2) (by simpa using hl) h
    simpa using hP

-- == and != of lists and tuples
theorem reads_tup {h : Heap} {a : Addr} {vs' : List Value} {xs : List Int} (ht : IsTup h a vs'.toArray) (hi : IntsAre vs' xs) : Reads h (.ref a) (.tuple (xs.map .int)) [] := by
  obtain ⟨o, ho, hc, n, hd⟩ := ht
  exact Reads.tuple ho hc hd (by simpa using readsAll_of_ints hi)
theorem room64 {A : Around} (hA : Room C k F A) (hk : 7 ≤ k) : A.units + 64 < cLine := by have := hA.2.2.1; omega

theorem cmp_eq_ints {a b : Addr} {xs ys : List Int} {Q : V → St → Prop} (hk : 7 ≤ k) (ha : (σ.sto a).bind O.items = some (xs.map V.int)) (hb : (σ.sto b).bind O.items = some (ys.map V.int)) (h : Q (.bool (decide (xs = ys))) σ) : CmpOK C k F .Eq (.ref a) (.ref b) σ Q :=
  fun A s a' b' hA S ra rb => by
    cases ra; cases rb
    obtain ⟨_, us', hL, hr⟩ := S.list ha
    obtain ⟨_, vs', hL2, hr2⟩ := S.list hb
    exact eq_intsK hL (ints_reps hr) hL2 (ints_reps hr2) (room64 hA hk) (post_pure S (.bool _) h)
-- < of tuples
end
end Mine
set_option Elab.async false
set_option linter.unusedVariables false
set_option linter.unusedSimpArgs false
namespace Mine
open PySem PySem.W PyProof.Rows

-- the whole heap as a ledger
def allNews (h : Heap) (L : Addr) : List (Addr × Obj) := (List.range h.objs.size).filterMap fun b => if b = L then none else (h.get? b).map fun o => (b, o)
theorem allNews_mem {h : Heap} {L b : Addr} {o : Obj} (hb : b ≠ L) (ho : h.get? b = some o) : (b, o) ∈ allNews h L :=
  List.mem_filterMap.mpr ⟨b, List.mem_range.mpr (Heap.lt_size ho), by rw [if_neg hb, ho]; rfl⟩
theorem allNews_of {h : Heap} {L : Addr} {p : Addr × Obj} (hp : p ∈ allNews h L) : h.get? p.1 = some p.2 ∧ p.1 ≠ L := by
  obtain ⟨b, _, e⟩ := List.mem_filterMap.mp hp
  by_cases hb : b = L
  · rw [if_pos hb] at e; cases e
  · rw [if_neg hb] at e
    obtain ⟨o, ho, e⟩ := Option.map_eq_some_iff.mp e
    subst e
    exact ⟨ho, hb⟩
theorem empty_get (b : Addr) : ({} : Heap).get? b = none := by
  show (match (#[] : Array Obj)[b]? with | some ⟨_, _, .freed, _⟩ => none | o => o) = none
  simp
theorem fr_empty {h : Heap} {L : Addr} {m : Str → Option Value} (hn : h.Ns L m) : Fr {} L h m := ⟨hn, (fun b o e => by rw [empty_get] at e; cases e), Nat.zero_le _⟩
theorem news_all (h : Heap) (L : Addr) : News {} L h (allNews h L) := fun p hp => ⟨(allNews_of hp).1, (allNews_of hp).2, empty_get _⟩

section
variable {C : Cx} {k : Nat} {F : FE} {σ : St}

/-- behind a rule of the ledger's -/
theorem Sim.ledger {s : Shared} {h' : Heap} {m : Str → Option Value} (S : Sim C.GB F σ s.heap) (hn : s.heap.Ns F.env.locals m) (hl : ∀ x v, σ.loc.lookup x = some v → ∃ v', Place F.env m s.heap x v' ∧ Rep s.heap v v')
    (F' : Fr {} F.env.locals h' m) (N' : News {} F.env.locals h' (allNews s.heap F.env.locals)) : Sim C.GB F σ h' ∧ (∀ b o, b ≠ F.env.locals → s.heap.get? b = some o → h'.get? b = some o) := by
  have kp : ∀ b o, b ≠ F.env.locals → s.heap.get? b = some o → h'.get? b = some o := fun b o hb e => (N' (b, o) (allNews_mem hb e)).1
  have ext : Heap.ExtBut F.env.locals s.heap h' := fun b o hb e => kp b o hb e
  have hnt : ∀ o, s.heap.get? F.env.locals = some o → ¬ FrzO o := fun o ho hf => frz_not_dict ho hf hn
  refine ⟨{
    base := fun b o e => kp b o (fun q => by rw [q, S.new _ S.inOwn] at e; cases e) (S.base b o e)
    frame := by
      refine ⟨m, F'.ns, fun x v e => ?_⟩
      obtain ⟨v', hp, hr⟩ := hl x v e
      refine ⟨v', ?_, hr.keeps (not_frz_ext hnt ext)⟩
      rcases hp with hp | ⟨hk, c, hc, oc, hoc, hd⟩
      · exact .inl hp
      · exact .inr ⟨hk, c, hc, oc, kp c oc (S.local_not_cell (mem_of_lookup hc)) hoc, hd⟩
    cells := fun p hp => by obtain ⟨v₀, oc, hoc, hd⟩ := S.cells p hp; exact ⟨v₀, oc, kp _ _ (S.local_not_cell hp) hoc, hd⟩
    apart := S.apart
    sto := fun b o e => (S.sto b o e).ext (S.off b o e).2.1 hnt ext
    inOwn := S.inOwn
    ownIs := S.ownIs
    new := S.new
    off := S.off }, kp⟩
theorem Mod.ledger {s : Shared} {h' : Heap} {tk : Nat} {m : Str → Option Value} (S : Sim C.GB F σ s.heap) (hn' : h'.Ns F.env.locals m) (kp : ∀ b o, b ≠ F.env.locals → s.heap.get? b = some o → h'.get? b = some o) : Mod F.own σ σ s { s with heap := h', toks := tk } :=
  ⟨fun b o e _ nb => kp b o (fun q => nb (q ▸ S.inOwn)) e, fun b o e => .inl ⟨o, e, id⟩, fun b o e => by
    by_cases hb : b = F.env.locals
    · subst hb; obtain ⟨o', _, _, ho', _⟩ := hn'; exact ⟨o', ho'⟩
    · exact ⟨o, kp b o hb e⟩, rfl⟩

def sortI (xs : List Int) : List Int := xs.mergeSort fun a b => decide (a ≤ b)
end
end Mine
set_option Elab.async false
set_option linter.unusedVariables false
set_option linter.unusedSimpArgs false
namespace Mine
open PySem PySem.W PyProof.Rows

-- the text's defs
def isDef (n : Str) : Stmt → Bool
  | .FunctionDef m _ _ _ _ _ _ _ _ _ => m == n
  | _ => false
def stOf (p : Program) (n : Str) : Stmt := (p.main.body.find? (isDef n)).getD (.Pass ⟨0, 0, 0, 0⟩)
def bodyOf : Stmt → List Stmt
  | .FunctionDef _ _ b _ _ _ _ _ _ _ => b
  | _ => []
def scopeOf : Stmt → Scope
  | .FunctionDef _ _ _ _ _ _ s _ _ _ => s
  | _ => default
def paramsOf : Stmt → Arguments
  | .FunctionDef _ a _ _ _ _ _ _ _ _ => a
  | _ => default
def nameOf : Stmt → Str
  | .FunctionDef n _ _ _ _ _ _ _ _ _ => n
  | _ => Str.empty
def fdOf (st : Stmt) (pm cd doc : Value) : FuncData := Calls.docDef (nameOf st) (paramsOf st) (bodyOf st) (scopeOf st) pm cd doc
def namesOf (st : Stmt) : List Str := (paramsOf st).args.map (·.arg)
/-- a def of the text stands under its name -/
def Fn (C : Cx) (p : Program) (n : Str) (a : Addr) : Prop := ∃ pm cd doc, FnAt C a (fdOf (stOf p n) pm cd doc) (bodyOf (stOf p n)) (namesOf (stOf p n))

/-- what the elements' order is -/
structure Ord (C : Cx) (E : V → Prop) (lt : V → V → Bool) (P : (Addr → Option O) → Prop) : Prop where
  cmp : ∀ (k : Nat) (F : FE) (σ : St) (x y : V) (Q : V → St → Prop), P σ.sto → E x → E y → Q (.bool (lt x y)) σ → CmpOK C k F .Lt x y σ Q

theorem getD_mem {l : List V} {i : Nat} (h : i < l.length) : l.getD i .none ∈ l := by simp [h]
def sdGo (lt : V → V → Bool) (x : V) (sp p : Nat) (vs : List V) : List V :=
  if h : sp < p then
    if lt x (vs.getD ((p - 1) / 2) .none) then sdGo lt x sp ((p - 1) / 2) (vs.set p (vs.getD ((p - 1) / 2) .none)) else vs.set p x
  else vs.set p x
termination_by p
decreasing_by omega
theorem sdGo_length (lt : V → V → Bool) (x : V) (sp p : Nat) (vs : List V) : (sdGo lt x sp p vs).length = vs.length := by
  induction p using Nat.strongRecOn generalizing vs with
  | ind p ih =>
    rw [sdGo]
    split
    · split
      · rw [ih _ (by omega)]; simp
      · simp
    · simp
theorem sdGo_mem (lt : V → V → Bool) (x : V) (sp p : Nat) (vs : List V) (E : V → Prop) (hx : E x) (hp : p < vs.length) (h : ∀ v ∈ vs, E v) : ∀ v ∈ sdGo lt x sp p vs, E v := by
  induction p using Nat.strongRecOn generalizing vs with
  | ind p ih =>
    rw [sdGo]
    have hset : ∀ (y : V) (q : Nat), E y → ∀ v ∈ vs.set q y, E v := fun y q hy v hv => by
      rcases List.mem_or_eq_of_mem_set hv with a | a
      · exact h v a
      · exact a ▸ hy
    split
    · split
      · exact ih _ (by omega) _ (by simp; omega) (hset _ _ (h _ (getD_mem (by omega))))
      · exact hset _ _ hx
    · exact hset _ _ hx

/-- the lesser child -/
def suPick (lt : V → V → Bool) (n : Nat) (vs : List V) (p : Nat) : Nat :=
  if 2 * p + 2 < n ∧ lt (vs.getD (2 * p + 1) .none) (vs.getD (2 * p + 2) .none) = false then 2 * p + 2 else 2 * p + 1
theorem suPick_lt (lt : V → V → Bool) (n : Nat) (vs : List V) (p : Nat) (h : 2 * p + 1 < n) : suPick lt n vs p < n ∧ p < suPick lt n vs p := by
  unfold suPick
  split <;> omega
def suGo (lt : V → V → Bool) (n p : Nat) (vs : List V) : List V × Nat :=
  if h : 2 * p + 1 < n then suGo lt n (suPick lt n vs p) (vs.set p (vs.getD (suPick lt n vs p) .none)) else (vs, p)
termination_by n - p
decreasing_by have := suPick_lt lt n vs p h; omega
def siftup (lt : V → V → Bool) (vs : List V) (p : Nat) : List V :=
  sdGo lt (vs.getD p .none) p (suGo lt vs.length p vs).2 ((suGo lt vs.length p vs).1.set (suGo lt vs.length p vs).2 (vs.getD p .none))
end Mine
set_option Elab.async false
set_option linter.unusedVariables false
set_option linter.unusedSimpArgs false
namespace Mine
open PySem PySem.W PyProof.Rows

section
variable {C : Cx} {k : Nat} {F : FE} {σ : St}

-- several targets
-- the law's own call
theorem law_call {a : Addr} {fd : FuncData} {body : List Stmt} {names : List Str} {vs : List V} {vs' : List Value} {sto : Addr → Option O} {A : Around} {s : Shared} {Q : V → Prop} (cx : CxOk C) (f : FnAt C a fd body names) (hlen : vs.length = names.length)
    (hA : Room C (k + 1) ⟨default, [], []⟩ A) (hb : ∀ b o, C.GB.get? b = some o → s.heap.get? b = some o) (hs : ∀ b o, sto b = some o → o.isMut = false ∧ ORep s.heap b o) (rv : Reps s.heap vs vs')
    (h : ∀ L, TX C k (frameOf fd L a []) body ⟨names.zip vs, sto⟩ fun fl σ' => Q (retV fl)) :
    codeAny (model C.prog C.w) A (.call (.ref a) ⟨vs', []⟩) (fun r s' => ∃ v v', r = .ok (.ret v') ∧ Rep s'.heap v v' ∧ Q v ∧ (∀ b o, s.heap.get? b = some o → s'.heap.get? b = some o) ∧ s' = { s with heap := s'.heap, toks := s'.toks }) s := by
  obtain ⟨o, ho, hd⟩ := f.obj
  have hsz : ∀ b ob, s.heap.get? b = some ob → b < s.heap.objs.size := fun b ob e => Heap.lt_size e
  have hbind := f.bind vs' (by rw [rv.length, hlen])
  refine codeAny_call_cells (fd := fd) (body := body) (binds := names.zip vs') (Nat.lt_of_le_of_lt (Nat.le_add_right _ _) hA.2.1) (hb _ _ ho) hd (cx.nolimit.keeps hb) ?hcd f.body hbind f.clo ?hkind (fun s₁ x => ?hb) f.co f.gen f.kind
  case hcd =>
    obtain ⟨c, oc, ws, tq, h1, h2, h3⟩ := f.code
    exact ⟨c, oc, ws, tq, h1, hb _ _ h2, h3⟩
  case hkind =>
    intro y hy
    have hyn : y.1 ∈ names := by obtain ⟨y1, y2⟩ := y; exact (List.of_mem_zip hy).1
    rcases f.kinds _ hyn with q | ⟨q, q'⟩
    · exact .inl q
    · refine .inr ⟨q, ?_⟩
      rw [cellsFrom_names fd.scope.names 0 (s.heap.objs.size + 1) [] [] rfl] at q'
      obtain ⟨p, hp, e⟩ := List.mem_map.mp q'
      have hnd : ((cellsFrom (s.heap.objs.size + 1) fd.scope.names []).map (·.1)).Nodup := by
        rw [cellsFrom_names fd.scope.names (s.heap.objs.size + 1) 0 [] [] rfl]; exact f.cnodup
      rw [← e, lookup_of_nodup hnd p hp]; rfl
  case hb =>
    have hnd : ((callEnvC fd s.heap.objs.size a).cells.map (·.1)).Nodup := by
      show ((cellsFrom (s.heap.objs.size + 1) fd.scope.names []).map (·.1)).Nodup
      rw [cellsFrom_names fd.scope.names (s.heap.objs.size + 1) 0 [] [] rfl]; exact f.cnodup
    have hab : ∀ p ∈ (callEnvC fd s.heap.objs.size a).cells, s.heap.objs.size < p.2 := fun p hp => x.above p.1 p.2 hp
    have keep := x.toInCall.keep
    have hown : ∀ b ∈ (frameOf fd s.heap.objs.size a []).own, s.heap.objs.size ≤ b := fun b hb => by
      rcases List.mem_cons.mp hb with e | hb
      · exact Nat.le_of_eq e.symm
      · obtain ⟨p, hp, e⟩ := List.mem_map.mp hb
        rw [← e]; exact Nat.le_of_lt (hab p hp)
    have hnone : ∀ b, s.heap.objs.size ≤ b → s.heap.get? b = none := fun b hb => by
      cases hq : s.heap.get? b with
      | none => rfl
      | some ob => exact absurd (hsz b ob hq) (Nat.not_lt.mpr hb)
    have hgb : ∀ b, s.heap.objs.size ≤ b → C.GB.get? b = none := fun b hb' => by
      cases hq : C.GB.get? b with
      | none => rfl
      | some ob => have := hb b ob hq; rw [hnone b hb'] at this; cases this
    have S₁ : Sim C.GB (frameOf fd s.heap.objs.size a []) ⟨names.zip vs, sto⟩ s₁.heap := {
      base := fun b o e => keep b o (hb b o e)
      frame := by
        refine ⟨_, x.toInCall.ns, fun y v e => ?_⟩
        obtain ⟨v', r, hl, hc⟩ := bind_in (h := s.heap) (callEnvC fd s.heap.objs.size a).kindOf names vs vs' (fun _ => none) (fun _ => none) f.nodup rv y v e
        refine ⟨v', ?_, r.keeps (frz_of_keeps keep)⟩
        have hy : y ∈ names := (List.of_mem_zip (mem_of_lookup e)).1
        rcases f.kinds y hy with q | ⟨q, q'⟩
        · exact .inl ⟨q, hl q⟩
        · refine .inr ⟨.inl q, ?_⟩
          rw [cellsFrom_names fd.scope.names 0 (s.heap.objs.size + 1) [] [] rfl] at q'
          obtain ⟨p, hp, ep⟩ := List.mem_map.mp q'
          have hlk := lookup_of_nodup hnd p hp
          rw [ep] at hlk
          refine ⟨p.2, hlk, ?_⟩
          have := x.cell y p.2 hlk
          rwa [hc (by show fd.scope.names.lookup y ≠ _; rw [q]; decide)] at this
      cells := fun p hp => ⟨_, x.cell p.1 p.2 (lookup_of_nodup hnd p hp)⟩
      apart := x.apart
      sto := fun b ob e => by
        obtain ⟨hm, hr⟩ := hs b ob e
        cases ob with
        | lst vs => cases hm
        | raw o => cases hm
        | rol vs =>
          obtain ⟨hl, vs', hL, hr⟩ := hr
          obtain ⟨o', ho', r⟩ := hL
          exact ⟨hl, vs', ⟨o', keep _ _ ho', r⟩, hr.keeps (frz_of_keeps keep)⟩
      inOwn := .head _
      ownIs := fun b hb => by
        rcases List.mem_cons.mp hb with e | hb
        · exact .inl e
        · obtain ⟨p, hp, e⟩ := List.mem_map.mp hb; exact .inr ⟨p, hp, e⟩
      new := fun b hb => hgb b (hown b hb)
      off := fun b ob e => by
        obtain ⟨hm, hr⟩ := hs b ob e
        obtain ⟨o', ho'⟩ : ∃ o', s.heap.get? b = some o' := by
          cases ob with
          | lst vs => cases hm
          | raw o => cases hm
          | rol vs => obtain ⟨_, _, ⟨o', ho', _⟩, _⟩ := hr; exact ⟨o', ho'⟩
        have hlt := hsz b o' ho'
        exact ⟨fun q => absurd q (by rw [hm]; exact Bool.noConfusion), Nat.ne_of_lt hlt, fun p hp q => by have := hab p hp; rw [q] at this; exact absurd hlt (Nat.lt_asymm this)⟩ }
    have hA' : Room C k (frameOf fd s.heap.objs.size a []) (A.deeper (callEnvC fd s.heap.objs.size a)) := ⟨hA.1, by have := hA.2.1; show A.depth + 1 + k < _; omega, by have := hA.2.2.1; show A.units + 3 + 10 * k + 5 < _; omega, by show A.frames.map _ = _; rw [hA.2.2.2]; rfl⟩
    refine wpAny_mono (h s.heap.objs.size _ s₁ hA' S₁) (fun fl' s' ⟨fl, σ', rfl', S', M', hq⟩ => ?_) fun _ _ z => z.elim
    have hb₁ : ∀ b ob, s.heap.get? b = some ob → b ∉ (frameOf fd s.heap.objs.size a []).own := fun b ob e hb => absurd (hsz b ob e) (Nat.not_lt.mpr (hown b hb))
    have kp : ∀ b ob, s.heap.get? b = some ob → s'.heap.get? b = some ob := fun b ob e => M'.keep b ob (keep b ob e) (fun o' q => (hs b o' q).1) (hb₁ b ob e)
    have rest : s' = { s with heap := s'.heap, toks := s'.toks } := by
      obtain ⟨h₁, tk, e⟩ := x.toInCall.same
      rw [M'.rest, e]
    cases rfl' with
    | next => exact ⟨.none, _, rfl, .none, hq, kp, rest⟩
    | brk => exact ⟨.none, _, rfl, .none, hq, kp, rest⟩
    | cont => exact ⟨.none, _, rfl, .none, hq, kp, rest⟩
    | ret r => exact ⟨_, _, rfl, r, hq, kp, rest⟩

/-- the facts about a def that its text decides -/
structure DefOk (st : Stmt) : Prop where
  kind : (scopeOf st).kind = .function
  co : (scopeOf st).isCoroutine = false
  gen : (scopeOf st).isGenerator = false
  nodup : (namesOf st).Nodup
  cnodup : ((cellsFrom 0 (scopeOf st).names []).map (·.1)).Nodup
  kinds : ∀ x ∈ namesOf st, (scopeOf st).names.lookup x = some .local ∨ ((scopeOf st).names.lookup x = some .cell ∧ x ∈ (cellsFrom 0 (scopeOf st).names []).map (·.1))
  bind : ∀ (pm cd doc : Value) (vs : List Value), vs.length = (namesOf st).length → bindArgs (fdOf st pm cd doc) ⟨vs, []⟩ = pure ((namesOf st).zip vs)

theorem fn_of_top {p pw : Program} {loose : List Str} {mean : ExcName → Option Value} {mg mb : Str → Option Value} {h : Heap} {n : Str} (T : Top p loose mean mg mb h) (d : DefRec) (hd : d ∈ recsOf p)
    (h1 : d.name = n) (h2 : d.params = paramsOf (stOf pw n)) (h3 : d.body = bodyOf (stOf pw n)) (h4 : d.scope = scopeOf (stOf pw n)) (h5 : nameOf (stOf pw n) = n) (ok : DefOk (stOf pw n)) :
    ∃ a, mg n = some (.ref a) ∧ ∀ prog w GT, Fn ⟨prog, w, h, mg, mb, GT, none⟩ pw n a := by
  obtain ⟨a, o, pm, cd, doc, e1, e2, e3, e4⟩ := T.fn d hd
  rw [h1] at e1
  refine ⟨a, e1, fun prog w GT => ⟨pm, cd, doc, ⟨o, e2, ?_⟩, ?_, rfl, rfl, rfl, rfl, ok.kind, ok.co, ok.gen, ok.nodup, ok.cnodup, ok.kinds, ok.bind pm cd doc⟩⟩
  · rw [e3, h1, h2, h3, h4]; unfold fdOf; rw [h5]
  · show h.CodeRec cd (nameOf (stOf pw n))
    rw [h5, ← h1]; exact e4
end
end Mine
set_option Elab.async false
set_option linter.unusedVariables false
set_option linter.unusedSimpArgs false
namespace Mine
open PySem PySem.W PyProof.Rows

/-- an order on the elements -/
structure SWO (E : V → Prop) (lt : V → V → Bool) : Prop where
  asymm : ∀ x y, E x → E y → lt x y = true → lt y x = false
  trans : ∀ x y z, E x → E y → E z → lt y x = false → lt z y = false → lt z x = false
theorem SWO.lt_le {E : V → Prop} {lt : V → V → Bool} (o : SWO E lt) {x y z : V} (hx : E x) (hy : E y) (hz : E z) (h1 : lt x y = true) (h2 : lt z y = false) : lt z x = false :=
  o.trans x y z hx hy hz (o.asymm x y hx hy h1) h2
theorem SWO.refl {E : V → Prop} {lt : V → V → Bool} (o : SWO E lt) {x : V} (hx : E x) : lt x x = false := by
  cases h : lt x x with
  | false => rfl
  | true => have q := o.asymm x x hx hx h; rw [h] at q; exact q

abbrev gt (vs : List V) (i : Nat) : V := vs.getD i .none
theorem gt_set (vs : List V) (i j : Nat) (x : V) : gt (vs.set i x) j = if j = i ∧ i < vs.length then x else gt vs j := by
  unfold gt
  simp only [List.getD_eq_getElem?_getD, List.getElem?_set]
  by_cases h : i = j
  · subst h
    by_cases hl : i < vs.length
    · simp [hl]
    · simp [hl]
  · simp [h, Ne.symm h]
theorem gt_set_same {vs : List V} {i : Nat} {x : V} (h : i < vs.length) : gt (vs.set i x) i = x := by rw [gt_set, if_pos ⟨rfl, h⟩]
theorem gt_set_ne {vs : List V} {i j : Nat} {x : V} (h : j ≠ i) : gt (vs.set i x) j = gt vs j := by rw [gt_set, if_neg (fun q => h q.1)]
theorem gt_mem {vs : List V} {i : Nat} (h : i < vs.length) : gt vs i ∈ vs := getD_mem h

/-- the heap's order from a place on -/
def Heapd (lt : V → V → Bool) (s : Nat) (vs : List V) : Prop := ∀ i, i < vs.length → 0 < i → s ≤ (i - 1) / 2 → lt (gt vs i) (gt vs ((i - 1) / 2)) = false
inductive Desc (s : Nat) : Nat → Prop
  | here : Desc s s
  | down {p : Nat} : 0 < p → Desc s ((p - 1) / 2) → Desc s p
theorem Desc.le {s p : Nat} (d : Desc s p) : s ≤ p := by
  induction d with
  | here => exact Nat.le_refl _
  | down _ _ ih => omega
theorem Desc.up {s p : Nat} (d : Desc s p) (h : s < p) : Desc s ((p - 1) / 2) := by
  cases d with
  | here => omega
  | down _ d => exact d
section
variable {E : V → Prop} {lt : V → V → Bool}

theorem swap_perm {vs : List V} {q c : Nat} {x : V} (hq : q < vs.length) (hc : c < vs.length) (hne : c ≠ q) : ((vs.set q (gt vs c)).set c x).Perm (vs.set q x) := by
  have h := (Array.swap_perm (xs := (vs.set q x).toArray) (i := q) (j := c) (by simpa using hq) (by simpa using hc)).toList
  simp only [Array.swap_def, Array.toList_set, List.getElem_toArray] at h
  have e1 : (vs.set q x)[q]'(by simpa using hq) = x := by simp
  have e2 : (vs.set q x)[c]'(by simpa using hc) = gt vs c := by
    rw [List.getElem_set_ne (Ne.symm hne)]; unfold gt; simp [hc]
  simp only [e1, e2, List.set_set] at h
  exact h

theorem sdGo_perm (x : V) (sp : Nat) : ∀ (p : Nat) (vs : List V), p < vs.length → (sdGo lt x sp p vs).Perm (vs.set p x) := by
  intro p
  induction p using Nat.strongRecOn with
  | ind p ih =>
    intro vs hp
    rw [sdGo]
    split
    · split
      · refine (ih _ (by omega) _ (by simp; omega)).trans ?_
        exact swap_perm hp (by omega) (by omega)
      · exact .refl _
    · exact .refl _

theorem sdGo_heap (o : SWO E lt) {x : V} (hx : E x) (sp : Nat) : ∀ (p : Nat) (vs : List V), (∀ v ∈ vs, E v) → p < vs.length → Desc sp p →
    (∀ i, i < vs.length → 0 < i → sp ≤ (i - 1) / 2 → i ≠ p → (i - 1) / 2 ≠ p → lt (gt vs i) (gt vs ((i - 1) / 2)) = false) →
    (∀ i, i < vs.length → 0 < i → (i - 1) / 2 = p → lt (gt vs i) x = false ∧ (sp < p → lt (gt vs i) (gt vs ((p - 1) / 2)) = false)) →
    Heapd lt sp (sdGo lt x sp p vs) := by
  intro p
  induction p using Nat.strongRecOn with
  | ind p ih =>
    intro vs hE hp hd hA hB
    have hEi : ∀ i, i < vs.length → E (gt vs i) := fun i hi => hE _ (gt_mem hi)
    have last : (sp < p → lt x (gt vs ((p - 1) / 2)) = false) → Heapd lt sp (vs.set p x) := by
      intro hlast i hi h0 hs
      rw [List.length_set] at hi
      by_cases hip : i = p
      · subst hip
        rw [gt_set_same hp, gt_set_ne (by omega)]
        exact hlast (by omega)
      · rw [gt_set_ne hip]
        by_cases hpp : (i - 1) / 2 = p
        · rw [hpp, gt_set_same hp]
          exact (hB i hi h0 hpp).1
        · rw [gt_set_ne hpp]
          exact hA i hi h0 hs hip hpp
    rw [sdGo]
    split
    · rename_i hsp
      have hq : (p - 1) / 2 < p := by omega
      have hdq := hd.up hsp
      have hsq := hdq.le
      split
      · rename_i hlt
        have hlt' : lt x (gt vs ((p - 1) / 2)) = true := hlt
        have hmove : vs.getD ((p - 1) / 2) .none = gt vs ((p - 1) / 2) := rfl
        rw [hmove]
        refine ih _ hq _ ?_ (by simp; omega) hdq ?_ ?_
        · intro v hv
          rcases List.mem_or_eq_of_mem_set hv with a | a
          · exact hE v a
          · exact a ▸ hEi _ (by omega)
        · intro i hi h0 hs hi1 hi2
          rw [List.length_set] at hi
          have hip : i ≠ p := fun e => hi2 (by rw [e])
          rw [gt_set_ne hip]
          by_cases hpp : (i - 1) / 2 = p
          · rw [hpp, gt_set_same hp]
            exact (hB i hi h0 hpp).2 hsp
          · rw [gt_set_ne hpp]
            exact hA i hi h0 hs hip hpp
        · intro i hi h0 hpar
          rw [List.length_set] at hi
          by_cases hip : i = p
          · subst hip
            rw [gt_set_same hp]
            refine ⟨o.asymm _ _ hx (hEi _ (by omega)) hlt', fun hs2 => ?_⟩
            rw [gt_set_ne (by omega)]
            exact hA _ (by omega) (by omega) (by have := (hdq.up hs2).le; omega) (by omega) (by omega)
          · rw [gt_set_ne hip]
            have h1 : lt (gt vs i) (gt vs ((p - 1) / 2)) = false := by
              have := hA i hi h0 (by omega) hip (by omega)
              rwa [hpar] at this
            refine ⟨o.lt_le hx (hEi _ (by omega)) (hEi _ hi) hlt' h1, fun hs2 => ?_⟩
            rw [gt_set_ne (by omega)]
            exact o.trans _ _ _ (hEi _ (by omega)) (hEi _ (by omega)) (hEi _ hi) (hA _ (by omega) (by omega) (by have := (hdq.up hs2).le; omega) (by omega) (by omega)) h1
      · rename_i hlt
        exact last fun _ => by simpa using hlt
    · rename_i hsp
      exact last fun h => absurd h hsp

theorem suGo_spec (o : SWO E lt) (n : Nat) (x : V) (sp : Nat) : ∀ (m p : Nat) (vs : List V), m = n - p → (∀ v ∈ vs, E v) → vs.length = n → p < n → Desc sp p →
    (suGo lt n p vs).1.length = n ∧ (suGo lt n p vs).2 < n ∧ n ≤ 2 * (suGo lt n p vs).2 + 1 ∧ Desc sp (suGo lt n p vs).2 ∧ (∀ v ∈ (suGo lt n p vs).1, E v) ∧ ((suGo lt n p vs).1.set (suGo lt n p vs).2 x).Perm (vs.set p x) ∧
    ((∀ i, i < n → 0 < i → sp ≤ (i - 1) / 2 → i ≠ p → (i - 1) / 2 ≠ p → lt (gt vs i) (gt vs ((i - 1) / 2)) = false) →
      (∀ i, i < n → 0 < i → (i - 1) / 2 = p → sp < p → lt (gt vs i) (gt vs ((p - 1) / 2)) = false) →
      ∀ i, i < n → 0 < i → sp ≤ (i - 1) / 2 → i ≠ (suGo lt n p vs).2 → (i - 1) / 2 ≠ (suGo lt n p vs).2 → lt (gt (suGo lt n p vs).1 i) (gt (suGo lt n p vs).1 ((i - 1) / 2)) = false) := by
  intro m
  induction m using Nat.strongRecOn with
  | ind m ih =>
    intro p vs hm hE hlen hp hd
    by_cases h : 2 * p + 1 < n
    · rw [suGo, dif_pos h]
      have hpk := suPick_lt lt n vs p h
      have hmin : ∀ i, i < n → 0 < i → (i - 1) / 2 = p → lt (gt vs i) (gt vs (suPick lt n vs p)) = false := by
        intro i hi h0 hpar
        have hEl := hE _ (gt_mem (i := 2 * p + 1) (by omega))
        unfold suPick
        by_cases hr : 2 * p + 2 < n
        · have hEr := hE _ (gt_mem (i := 2 * p + 2) (by omega))
          cases hb : lt (vs.getD (2 * p + 1) .none) (vs.getD (2 * p + 2) .none) with
          | true =>
            rw [if_neg (by simp)]
            rcases (by omega : i = 2 * p + 1 ∨ i = 2 * p + 2) with e | e
            · subst e; exact o.refl hEl
            · subst e; exact o.asymm _ _ hEl hEr hb
          | false =>
            rw [if_pos ⟨hr, rfl⟩]
            rcases (by omega : i = 2 * p + 1 ∨ i = 2 * p + 2) with e | e
            · subst e; exact hb
            · subst e; exact o.refl hEr
        · rw [if_neg (by omega)]
          have : i = 2 * p + 1 := by omega
          subst this; exact o.refl hEl
      have hpar : (suPick lt n vs p - 1) / 2 = p := by unfold suPick; split <;> omega
      generalize suPick lt n vs p = c at hpk hmin hpar ⊢
      have hE2 : ∀ v ∈ vs.set p (vs.getD c .none), E v := fun v hv => by
        rcases List.mem_or_eq_of_mem_set hv with a | a
        · exact hE v a
        · exact a ▸ hE _ (getD_mem (by omega))
      obtain ⟨h1, h2, h3, h4, h5, h6, h7⟩ := ih (n - c) (by omega) c (vs.set p (vs.getD c .none)) rfl hE2 (by simpa using hlen) hpk.1 (.down (by omega) (by rw [hpar]; exact hd))
      refine ⟨h1, h2, h3, h4, h5, h6.trans (swap_perm (by omega) (by omega) (by omega)), fun hA hB => h7 ?_ ?_⟩
      · intro i hi h0 hs hi1 hi2
        have hmove : vs.getD c .none = gt vs c := rfl
        rw [hmove]
        by_cases hip : i = p
        · subst hip
          rw [gt_set_same (by omega), gt_set_ne (by omega)]
          exact hB c hpk.1 (by omega) hpar (by omega)
        · rw [gt_set_ne hip]
          by_cases hpp : (i - 1) / 2 = p
          · rw [hpp, gt_set_same (by omega)]
            exact hmin i hi h0 hpp
          · rw [gt_set_ne hpp]
            exact hA i hi h0 hs hip hpp
      · intro i hi h0 hpi hs
        rw [hpar]
        have hmove : vs.getD c .none = gt vs c := rfl
        rw [hmove, gt_set_same (by omega), gt_set_ne (by omega)]
        have := hA i hi h0 (by have := hd.le; omega) (by omega) (by omega)
        rwa [hpi] at this
    · rw [suGo, dif_neg h]
      exact ⟨hlen, hp, by omega, hd, hE, .refl _, fun hA _ => hA⟩

theorem siftup_perm (o : SWO E lt) {vs : List V} {p : Nat} (hE : ∀ v ∈ vs, E v) (hp : p < vs.length) : (siftup lt vs p).Perm vs := by
  obtain ⟨h1, h2, h3, h4, h5, h6, h7⟩ := suGo_spec o vs.length (vs.getD p .none) p _ p vs rfl hE rfl hp .here
  unfold siftup
  refine (sdGo_perm _ _ _ _ (by simp; omega)).trans ?_
  rw [List.set_set]
  refine h6.trans ?_
  have e : vs.set p (vs.getD p .none) = vs := by
    rw [List.getD_eq_getElem?_getD, List.getElem?_eq_getElem hp]; simp
  rw [e]
theorem siftup_heap (o : SWO E lt) {vs : List V} {p : Nat} (hE : ∀ v ∈ vs, E v) (hp : p < vs.length) (hh : Heapd lt (p + 1) vs) : Heapd lt p (siftup lt vs p) := by
  obtain ⟨h1, h2, h3, h4, h5, h6, h7⟩ := suGo_spec o vs.length (vs.getD p .none) p _ p vs rfl hE rfl hp .here
  unfold siftup
  have hx := hE _ (getD_mem hp)
  refine sdGo_heap o hx p _ _ ?_ (by simp; omega) h4 ?_ ?_
  · intro v hv
    rcases List.mem_or_eq_of_mem_set hv with a | a
    · exact h5 v a
    · exact a ▸ hx
  · intro i hi h0 hs hi1 hi2
    rw [gt_set_ne hi1, gt_set_ne hi2]
    rw [List.length_set, h1] at hi
    exact h7 (fun i hi h0 hs hi1 hi2 => hh i hi h0 (by omega)) (fun i _ _ _ hs => absurd hs (by omega)) i hi h0 hs hi1 hi2
  · intro i hi h0 hpar
    rw [List.length_set, h1] at hi
    omega
/-- a push -/
def pushL (lt : V → V → Bool) (vs : List V) (x : V) : List V := sdGo lt x 0 vs.length (vs ++ [x])
/-- a pop: of the first, when the last has gone -/
def popL (lt : V → V → Bool) (vs : List V) (l : V) : List V := match vs with
  | [] => []
  | v :: r => siftup lt (l :: r) 0
def popV (vs : List V) (l : V) : V := match vs with
  | [] => l
  | v :: _ => v
end
end Mine
set_option Elab.async false
set_option linter.unusedVariables false
set_option linter.unusedSimpArgs false
namespace Mine
open PySem PySem.W PyProof.Rows

def ltV : V → V → Bool
  | .int a, .int b => decide (a < b)
  | .tup a, .tup b => decide (a < b)
  | _, _ => false
def isI (v : V) : Prop := ∃ i, v = .int i
def isT (v : V) : Prop := ∃ xs, v = .tup xs
abbrev PT : (Addr → Option O) → Prop := fun _ => True

/-- push, then pop -/
def ppL (lt : V → V → Bool) (vs : List V) (x : V) : List V := match vs with
  | [] => []
  | v :: r => if lt v x then siftup lt (x :: r) 0 else v :: r
def ppV (lt : V → V → Bool) (vs : List V) (x : V) : V := match vs with
  | [] => x
  | v :: r => if lt v x then v else x
-- lists of ints
end Mine
set_option Elab.async false
set_option linter.unusedVariables false
set_option linter.unusedSimpArgs false
namespace Mine
open PySem PySem.W PyProof.Rows

section
variable {C : Cx} {k : Nat} {F : FE} {σ : St}
-- ranges
theorem getList_at {l : Addr} {vs : List V} {sto : Addr → Option O} {i : Nat} (h : (sto l).bind O.items = some vs) : getList l i sto = some vs[i]? := by simp [getList, h]
theorem small_of {a n : Int} (ha : 0 ≤ a) (hn : n ≤ maxLen) (han : a ≤ n) : Builtin.Range.small a n 1 = true := by
  have hm : (maxLen : Int) = 1048576 := by decide
  simp [Builtin.Range.small, Builtin.Range.rangeFitsLong, Builtin.Range.rangeSize]
  omega
theorem iter_range0 {n : Nat} {P : Get → St → Prop} (hn : n ≤ maxLen) (h : P (getRange 0 n 1) σ) : IterOK C k F (.rng 0 n 1) σ P := by
  refine iter_rng (small_of (by omega) (by omega) (by omega)) ?_ h
  simp [Builtin.Range.rangeSize]; omega
theorem iter_range2 {a n : Int} {P : Get → St → Prop} (ha : 0 ≤ a) (hn : n ≤ maxLen) (han : a ≤ n) (h : P (getRange a (n - a).toNat 1) σ) : IterOK C k F (.rng a n 1) σ P := by
  refine iter_rng (small_of ha hn han) ?_ h
  simp [Builtin.Range.rangeSize]; omega
-- slices
theorem part_none {Q : Option Int → St → Prop} (h : Q none σ) : PartOK C k F none σ Q := h
theorem part_some {e : Expr} {Q : Option Int → St → Prop} (h : TE C k F e σ fun v σ₁ => ∃ i, v = .int i ∧ Q (some i) σ₁) : PartOK C k F (some e) σ Q := h
theorem pickV_run (vs : List V) (lo hi : Option Int) : pickV vs lo hi none = (vs.drop (kms_lo lo vs.length)).take (kms_hi hi vs.length - kms_lo lo vs.length) := by
  unfold pickV
  rw [kms_bounds]
  simp only [sliceRange_one]
  have := pick_run vs.toArray (kms_lo lo vs.length) (kms_hi hi vs.length - kms_lo lo vs.length)
  simpa using this
theorem pickV_from (vs : List V) {x : Int} (h : 0 ≤ x) : pickV vs (some x) none none = vs.drop x.toNat := by
  rw [pickV_run]
  simp only [kms_lo, kms_hi]
  rw [if_neg (by omega)]
  rcases Nat.le_total x.toNat vs.length with q | q
  · rw [Nat.min_eq_left q, List.take_of_length_le (by simp)]
  · rw [Nat.min_eq_right q, List.drop_eq_nil_of_le (Nat.le_refl _), List.drop_eq_nil_of_le q]; simp
end

-- medians
/-- the two heaps -/
structure Med (lo up ys : List Int) : Prop where
  hl : Heapd ltV 0 (lo.map V.int)
  hu : Heapd ltV 0 (up.map V.int)
  p : (lo.map (0 - ·) ++ up).Perm ys
  le : ∀ a ∈ lo, ∀ b ∈ up, 0 - a ≤ b
end Mine
set_option Elab.async false
set_option linter.unusedVariables false
set_option linter.unusedSimpArgs false
namespace Mine
open PySem PySem.W PyProof.Rows

theorem fn_top {p pw : Program} {loose : List Str} {mean : ExcName → Option Value} {mg mb : Str → Option Value} {h : Heap} {n : Str} (T : Top p loose mean mg mb h)
    (hf : ((recsOf p).find? (fun e => e.name == n)).map (fun d => (d.name, d.params, d.body, d.scope)) = some (n, paramsOf (stOf pw n), bodyOf (stOf pw n), scopeOf (stOf pw n))) (h5 : nameOf (stOf pw n) = n) (ok : DefOk (stOf pw n)) :
    ∃ a, mg n = some (.ref a) ∧ ∀ prog w GT, Fn ⟨prog, w, h, mg, mb, GT, none⟩ pw n a := by
  cases hq : (recsOf p).find? (fun e => e.name == n) with
  | none => rw [hq] at hf; cases hf
  | some d =>
    rw [hq] at hf
    simp only [Option.map_some, Option.some.injEq, Prod.mk.injEq] at hf
    obtain ⟨h1, h2, h3, h4⟩ := hf
    exact fn_of_top T d (List.mem_of_find?_eq_some hq) h1 h2 h3 h4 h5 ok

/-- the globals that a text reads -/
def GtOk (mg mb : Str → Option Value) (GT : List (Str × V)) : Prop := ∀ x v, GT.lookup x = some v → ∃ v', (mg x = some v' ∨ (mg x = none ∧ mb x = some v')) ∧ ∀ h, Rep h v v'
theorem gt_nil {mg mb : Str → Option Value} : GtOk mg mb [] := fun x v e => by simp at e
theorem gt_fn {mg mb : Str → Option Value} {GT : List (Str × V)} {n : Str} {a : Addr} (hm : mg n = some (.ref a)) (r : GtOk mg mb GT) : GtOk mg mb ((n, .ref a) :: GT) := fun x v e => by
  rw [List.lookup_cons] at e
  by_cases hx : (x == n) = true
  · rw [hx] at e; cases e; rw [beq_iff_eq.mp hx]; exact ⟨_, .inl hm, fun _ => .ref a⟩
  · rw [show (x == n) = false by simpa using hx] at e; exact r x v e
theorem gt_bi {p : Program} {loose : List Str} {mean : ExcName → Option Value} {mg mb : Str → Option Value} {h : Heap} {GT : List (Str × V)} {n : Str} {v : Value} (T : Top p loose mean mg mb h)
    (hfree : (startupNames.contains n || loose.contains n || ((recsOf p).map (·.name)).contains n || ((litsOf p).map (·.1)).contains n || ((clssOf p loose).map (·.name)).contains n || (n == ("__name__" : Str))) = false) (hv : bootBuiltins n = some v) (hr : ∀ a, v ≠ .ref a) (r : GtOk mg mb GT) :
    GtOk mg mb ((n, .opq v) :: GT) := fun x u e => by
  rw [List.lookup_cons] at e
  by_cases hx : (x == n) = true
  · rw [hx] at e; cases e; rw [beq_iff_eq.mp hx]
    simp only [Bool.or_eq_false_iff] at hfree
    obtain ⟨⟨⟨⟨⟨h1, h2⟩, h3⟩, h4⟩, h5⟩, h6⟩ := hfree
    have nin : ∀ {l : List Str}, l.contains n = false → n ∉ l := fun hl hq => by
      rw [List.contains_iff_mem.mpr hq] at hl; cases hl
    exact ⟨v, .inr ⟨T.free n (nin h1) (nin h2) (nin h3) (nin h4) (nin h5), by rw [T.builtins n (fun e => by rw [e] at h6; simp at h6)]; exact hv⟩, fun _ => .opq hr⟩
  · rw [show (x == n) = false by simpa using hx] at e; exact r x u e
theorem cx_top {p : Program} {loose : List Str} {mean : ExcName → Option Value} {mg mb : Str → Option Value} {h : Heap} {GT : List (Str × V)} {prog : Program} {w : World} (T : Top p loose mean mg mb h) (hg : GtOk mg mb GT) : CxOk ⟨prog, w, h, mg, mb, GT, none⟩ := ⟨T.g, T.b, T.nolimit, hg⟩

/-- the end of a law -/
theorem law_done {c : ClaimW} {cl : Str → Option Addr} {mean : ExcName → Option Value} {args : List WData} {s₁ : Shared} {prog : Program} {w : World} {A : Around} {kd : Code} (hg : s₁.gens = #[]) (hn : ∀ cls, c.raises args cls = false) (hp : c.post args (.bool true) args = true)
    (h : codeAny (model prog w) A kd (fun r s' => ∃ v v', r = .ok (.ret v') ∧ Rep s'.heap v v' ∧ v = .bool true ∧ (∀ b o, s₁.heap.get? b = some o → s'.heap.get? b = some o) ∧ s' = { s₁ with heap := s'.heap, toks := s'.toks }) s₁) :
    codeAny (model prog w) A kd (GoodW c cl mean args s₁) s₁ := codeAny_mono h fun r s' ⟨v, v', e, rv, ev, kp, rest⟩ => by
  subst ev
  cases rv
  refine ⟨.inl ⟨_, .bool true, [], e, hn, .bool true, hp, unshared_nil⟩, kp, ?_, ?_⟩
  · rw [rest]
  · rw [rest]; exact hg
theorem script_sto {h : Heap} {sc : Addr} {xs : List Int} {vs : List Value} (hL : h.IsList sc vs.toArray) (hI : IntsAre vs xs) (hl : xs.length ≤ maxLen) :
    ∀ b o, (fun b => if b = sc then some (O.rol (xs.map V.int)) else none) b = some o → o.isMut = false ∧ ORep h b o := fun b o e => by
  by_cases hb : b = sc
  · subst hb
    simp at e
    subst e
    exact ⟨rfl, by simpa using hl, vs, hL, reps_ints hI⟩
  · simp [hb] at e
end Mine
set_option Elab.async false
set_option linter.unusedVariables false
set_option linter.unusedSimpArgs false
namespace Mine
open PySem PySem.W PyProof.Rows

-- reversed(range(..))
section
variable {prog : Program} {w : World} {A : Around} {E : Value → Shared → Prop} {s : Shared}
def ritObj (x left st : Int) : Obj := { cls := .type "range_iterator", data := .fields #[rawInt x, rawInt left, rawInt st] }
def revSmall (a b c : Int) : Bool := Builtin.Range.rangeFitsLong a && Builtin.Range.rangeFitsLong b && Builtin.Range.rangeFitsLong c && Builtin.Range.rangeFitsLong (-c) && Builtin.Range.rangeFitsLong (a - c) && Builtin.Range.rangeFitsLong (Builtin.Range.rangeSize a b c)
end

section
variable {C : Cx} {k : Nat} {F : FE} {σ : St}
def St.delSto (σ : St) (a : Addr) : St := { σ with sto := fun b => if b = a then none else σ.sto b }
end
end Mine
set_option Elab.async false
set_option linter.unusedVariables false
set_option linter.unusedSimpArgs false
namespace Mine
open PySem PySem.W PyProof.Rows

-- heapify
def hfyGo (lt : V → V → Bool) : Nat → List V → List V
  | 0, vs => vs
  | m + 1, vs => hfyGo lt m (siftup lt vs m)
section
variable {E : V → Prop} {lt : V → V → Bool}
theorem suGo_plain (n : Nat) : ∀ (m p : Nat) (vs : List V), m = n - p → vs.length = n → p < n → (∀ v ∈ vs, E v) → (suGo lt n p vs).1.length = n ∧ (suGo lt n p vs).2 < n ∧ ∀ v ∈ (suGo lt n p vs).1, E v := by
  intro m
  induction m using Nat.strongRecOn with
  | ind m ih =>
    intro p vs hm hlen hp hE
    by_cases h : 2 * p + 1 < n
    · rw [suGo, dif_pos h]
      have hpk := suPick_lt lt n vs p h
      refine ih (n - suPick lt n vs p) (by omega) _ _ rfl (by simpa using hlen) hpk.1 fun v hv => ?_
      rcases List.mem_or_eq_of_mem_set hv with a | a
      · exact hE v a
      · exact a ▸ hE _ (getD_mem (by omega))
    · rw [suGo, dif_neg h]; exact ⟨hlen, hp, hE⟩
theorem siftup_length (vs : List V) (p : Nat) : (siftup lt vs p).length = vs.length := by
  unfold siftup
  rw [sdGo_length, List.length_set]
  by_cases hp : p < vs.length
  · exact (suGo_plain (E := fun _ => True) (lt := lt) vs.length _ p vs rfl rfl hp fun _ _ => trivial).1
  · rw [suGo, dif_neg (by omega)]
theorem siftup_mem {vs : List V} {p : Nat} (hp : p < vs.length) (hE : ∀ v ∈ vs, E v) : ∀ v ∈ siftup lt vs p, E v := by
  obtain ⟨h1, h2, h3⟩ := suGo_plain (lt := lt) vs.length _ p vs rfl rfl hp hE
  have hx := hE _ (getD_mem hp)
  unfold siftup
  refine sdGo_mem _ _ _ _ _ E hx (by simp; omega) fun v hv => ?_
  rcases List.mem_or_eq_of_mem_set hv with a | a
  · exact h3 v a
  · exact a ▸ hx
end

-- the other way round
structure OrdM (C : Cx) (E : V → Prop) (lt : V → V → Bool) (P : (Addr → Option O) → Prop) : Prop where
  cmp : ∀ (k : Nat) (F : FE) (σ : St) (x y : V) (Q : V → St → Prop), P σ.sto → E x → E y → Q (.bool (lt y x)) σ → CmpOK C k F .Lt x y σ Q
def gtV (x y : V) : Bool := ltV y x
end Mine
set_option Elab.async false
set_option linter.unusedVariables false
set_option linter.unusedSimpArgs false
namespace Mine
open PySem PySem.W PyProof.Rows

-- an exception on its way: what it leaves alone
structure Fly (h0 : Heap) (S : List Addr) (e : Addr) (cls : Value) (f0 : Array Value) (fl : Value) (h : Heap) : Prop where
  same : ∀ b o, h0.get? b = some o → b ∉ S → h.get? b = some o
  slots : ∀ b o, h0.get? b = some o → ∃ sl, h.get? b = some { o with slots := sl }
  new : h0.get? e = none
  exc : ∃ oe vs T oT ts, h.get? e = some oe ∧ oe.cls = cls ∧ oe.data = .fields vs ∧ vs[1]? = some (.ref T) ∧ h.get? T = some oT ∧ oT.data = .fields ts ∧ ts[3]? = some fl ∧ T ≠ e ∧ h0.get? T = none ∧ ∀ i, i ≠ 1 → vs[i]? = f0[i]?
section
variable {M : Model} {A : Around} {E : Value → Shared → Prop} {s : Shared}
/-- a new entry of the traceback -/
theorem fly_entry {h0 base : Heap} {S : List Addr} {env : Env} {outer : List Env} {L e : Addr} {oe : Obj} {vs : Array Value} {head : Value} {hadNext : Bool} {f0 : Array Value} {Q : Unit → Shared → Prop}
    (hfr : A.frames = some (env :: outer)) (hl : s.heap.FunFrames base (env :: outer)) (hf : env.frame = some L) (hS : ∀ b ∈ (env :: outer).filterMap (·.frame), b ∈ S ∨ h0.get? b = none)
    (same : ∀ b o, h0.get? b = some o → b ∉ S → s.heap.get? b = some o) (slots : ∀ b o, h0.get? b = some o → ∃ sl, s.heap.get? b = some { o with slots := sl })
    (he : s.heap.get? e = some oe) (hen : h0.get? e = none) (hd : oe.data = .fields vs) (hsz : 1 < vs.size) (hf0 : ∀ i, i ≠ 1 → vs[i]? = f0[i]?)
    (h : ∀ h', Fly h0 S e oe.cls f0 (rawInt L) h' → h'.FunFrames base (env :: outer) → Q () { s with heap := h' }) :
    wpAny M A (do let a ← PySem.frameOf env; let pl ← entryPlaceOf L hadNext; let b ← EntryCells.newEntry head a .none (rawInt L) .none pl; setField (.ref e) 1 b) Q E s := by
  have hene : e ∉ (env :: outer).filterMap (·.frame) := fun hm => by
    obtain ⟨_, o, ho, hnf⟩ := hl.mem hm
    rw [he] at ho; injection ho with ho; subst ho; exact hnf vs hd
  refine wpAny_bind (wpAny_frameOf_fun hfr hl hf fun h₁ hs₁ => ?_)
  refine wpAny_bind (wpAny_entryPlaceOf fun pl hpl => ?_)
  unfold EntryCells.newEntry newFields
  refine wpAny_bind (wpAny_newObj_type ?_ (hpl.sizeOk5 _ _ _ _ _))
  have he₁ : h₁.get? e = some oe := (hs₁.2.1 e hene).trans he
  generalize hob : ({ cls := .type "traceback", dict := none, data := .fields ([head, .ref L, .none, rawInt L, .none] ++ (if pl.isEmpty then List.replicate 6 Value.none else pl)).toArray } : Obj) = ob
  have he₂ := Heap.get?_push_of_some (h := h₁) ob he₁
  refine wpAny_setField he₂ hd hsz (h _ ?_ ?_)
  all_goals
    have hTe : h₁.objs.size ≠ e := Nat.ne_of_gt (Heap.lt_size he₁)
    have hd₃ := Obj.data_mapFields hd (·.setIfInBounds 1 (Value.ref h₁.objs.size))
    have he₃ := Heap.get?_update_self (Obj.mapFields (·.setIfInBounds 1 (Value.ref h₁.objs.size))) he₂ (Obj.isFreed_of_fields hd₃)
    have hT₃ : ((h₁.push ob).update e (Obj.mapFields (·.setIfInBounds 1 (Value.ref h₁.objs.size)))).get? h₁.objs.size = some ob := (Heap.get?_update_other _ _ (Ne.symm hTe)).trans (Heap.get?_push_size h₁ (by subst hob; rfl))
    have keep : ∀ b o, b ≠ e → h₁.get? b = some o → ((h₁.push ob).update e (Obj.mapFields (·.setIfInBounds 1 (Value.ref h₁.objs.size)))).get? b = some o := fun b o hbe hb => by
      rw [Heap.get?_update_other _ _ (Ne.symm hbe)]
      exact Heap.get?_push_of_some _ hb
  · refine ⟨fun b o hb hn => ?_, fun b o hb => ?_, hen, _, _, h₁.objs.size, ob, _, he₃, Obj.cls_mapFields _ _, hd₃, by simp [hsz], hT₃, by subst hob; rfl, ?_, hTe, ?_, fun i hi => ?_⟩
    · have hbe : b ≠ e := fun q => by rw [q, hen] at hb; cases hb
      refine keep b o hbe ?_
      rw [hs₁.2.1 b fun hm => ?_]
      · exact same b o hb hn
      · rcases hS b hm with q | q
        · exact hn q
        · rw [hb] at q; cases q
    · have hbe : b ≠ e := fun q => by rw [q, hen] at hb; cases hb
      obtain ⟨sl, q⟩ := slots b o hb
      obtain ⟨sl', q'⟩ := hs₁.2.2 b _ q
      exact ⟨sl', keep b _ hbe q'⟩
    · first | (simp; done) | (rcases hpl with rfl | ⟨_, _, _, _, _, _, _, rfl⟩ <;> simp)
    · cases hq : h0.get? h₁.objs.size with
      | none => rfl
      | some o =>
        obtain ⟨sl, q⟩ := slots _ o hq
        have := Heap.lt_size q
        rw [hs₁.1] at this
        exact absurd this (Nat.lt_irrefl _)
    · rw [Array.getElem?_setIfInBounds_ne (Ne.symm hi)]
      exact hf0 i hi
  · refine hl.of_keeps fun b o hb hnf => ?_
    obtain ⟨sl, q⟩ := hs₁.2.2 b o hb
    exact ⟨_, keep b _ (fun q => by rw [q, he] at hb; cases hb; exact hnf vs hd) q, rfl⟩
theorem fly_first {h0 base : Heap} {S : List Addr} {env : Env} {outer : List Env} {L e : Addr} {oe : Obj} {vs : Array Value} {Q : Unit → Shared → Prop}
    (hfr : A.frames = some (env :: outer)) (hl : s.heap.FunFrames base (env :: outer)) (hf : env.frame = some L) (hS : ∀ b ∈ (env :: outer).filterMap (·.frame), b ∈ S ∨ h0.get? b = none)
    (same : ∀ b o, h0.get? b = some o → b ∉ S → s.heap.get? b = some o) (slots : ∀ b o, h0.get? b = some o → ∃ sl, s.heap.get? b = some { o with slots := sl })
    (he : s.heap.get? e = some oe) (hen : h0.get? e = none) (hd : oe.data = .fields vs) (h1 : vs[1]? = some .none)
    (h : ∀ h', Fly h0 S e oe.cls vs (rawInt L) h' → h'.FunFrames base (env :: outer) → Q () { s with heap := h' }) : wpAny M A (noteFrame (.ref e) env) Q E s := by
  unfold noteFrame
  simp only [hf]
  refine wpAny_bind (wpAny_field he hd h1 ?_)
  rw [if_neg (by decide)]
  exact fly_entry hfr hl hf hS same slots he hen hd (Array.getElem?_eq_some_iff.mp h1).1 (fun _ _ => rfl) h
theorem fly_note {h0 base : Heap} {S : List Addr} {env : Env} {outer : List Env} {L e : Addr} {cls : Value} {f0 : Array Value} {Q : Unit → Shared → Prop}
    (hfr : A.frames = some (env :: outer)) (hl : s.heap.FunFrames base (env :: outer)) (hf : env.frame = some L) (hS : ∀ b ∈ (env :: outer).filterMap (·.frame), b ∈ S ∨ h0.get? b = none)
    (x : Fly h0 S e cls f0 .none s.heap) (h : ∀ h', Fly h0 S e cls f0 (rawInt L) h' → h'.FunFrames base (env :: outer) → Q () { s with heap := h' }) : wpAny M A (noteFrame (.ref e) env) Q E s := by
  obtain ⟨oe, vs, T, oT, ts, he, hcls, hd, h1, hT, hdT, h3, hTe, hnT, hf0⟩ := x.exc
  subst hcls
  unfold noteFrame
  simp only [hf]
  refine wpAny_bind (wpAny_field he hd h1 ?_)
  rw [if_pos (show (Value.ref T != Value.none) = true from by simp)]
  refine wpAny_bind (wpAny_field hT hdT h3 ?_)
  rw [if_neg (show ¬ ((Value.none == rawInt L) = true) from by simp [rawInt])]
  refine wpAny_bind (wpAny_setField hT hdT (Array.getElem?_eq_some_iff.mp h3).1 ?_)
  have other : ∀ b, b ≠ T → (s.heap.update T (Obj.mapFields (·.setIfInBounds 3 Value.none))).get? b = s.heap.get? b := fun b hb => Heap.get?_update_other _ _ (Ne.symm hb)
  have neT : ∀ b o, h0.get? b = some o → b ≠ T := fun b o hb q => by rw [q, hnT] at hb; cases hb
  refine fly_entry (h0 := h0) (S := S) hfr (hl.of_keeps fun b o hb hnf => ⟨o, (other b fun q => by rw [q, hT] at hb; cases hb; exact hnf ts hdT).trans hb, rfl⟩) hf hS
    (fun b o hb hn => (other b (neT b o hb)).trans (x.same b o hb hn)) (fun b o hb => let ⟨sl, q⟩ := x.slots b o hb; ⟨sl, (other b (neT b o hb)).trans q⟩)
    ((other e (Ne.symm hTe)).trans he) x.new hd (Array.getElem?_eq_some_iff.mp h1).1 hf0 h
theorem fly_land {h0 base : Heap} {S : List Addr} {l : List Env} {e : Addr} {cls fl : Value} {f0 : Array Value} {Q : Unit → Shared → Prop} (hl : s.heap.FunFrames base l) (x : Fly h0 S e cls f0 fl s.heap)
    (h : ∀ h', Fly h0 S e cls f0 .none h' → h'.FunFrames base l → Q () { s with heap := h' }) : wpAny M A (setFlight (.ref e) none) Q E s := by
  obtain ⟨oe, vs, T, oT, ts, he, hcls, hd, h1, hT, hdT, h3, hTe, hnT, hf0⟩ := x.exc
  have hsz3 : 3 < ts.size := (Array.getElem?_eq_some_iff.mp h3).1
  have other : ∀ b, b ≠ T → (s.heap.update T (Obj.mapFields (·.setIfInBounds 3 ((none : Option Addr).elim Value.none fun f => rawInt f)))).get? b = s.heap.get? b :=
    fun b hb => Heap.get?_update_other _ _ (Ne.symm hb)
  have neT : ∀ b o, h0.get? b = some o → b ≠ T := fun b o hb q => by rw [q, hnT] at hb; cases hb
  unfold setFlight
  refine wpAny_bind (wpAny_field he hd h1 ?_)
  rw [if_pos (show (Value.ref T != Value.none) = true from by simp)]
  refine wpAny_setField hT hdT hsz3 (h _ ⟨fun b o hb hn => (other b (neT b o hb)).trans (x.same b o hb hn), fun b o hb => let ⟨sl, q⟩ := x.slots b o hb; ⟨sl, (other b (neT b o hb)).trans q⟩, x.new, ?_⟩
    (hl.of_keeps fun b o hb hnf => ⟨o, (other b fun q => by rw [q, hT] at hb; cases hb; exact hnf ts hdT).trans hb, rfl⟩))
  exact ⟨oe, vs, T, _, _, (other e (Ne.symm hTe)).trans he, hcls, hd, h1, Heap.get?_update_self _ hT (Obj.isFreed_of_fields (Obj.data_mapFields hdT _)), Obj.data_mapFields hdT _, by simp [hsz3], hTe, hnT, hf0⟩
end
end Mine
set_option Elab.async false
set_option linter.unusedVariables false
set_option linter.unusedSimpArgs false
namespace Mine
open PySem PySem.W PyProof.Rows

section
variable {C : Cx} {k : Nat} {F : FE} {σ : St}
/-- the entry of a call -/
theorem enter_own {a : Addr} {fd : FuncData} {body : List Stmt} {names : List Str} {vs : List V} {vs' : List Value} {A : Around} {s : Shared} {R : Result → Shared → Prop} (cx : CxOk C) (f : FnAt C a fd body names) (hlen : vs.length = names.length)
    (hA : Room C (k + 1) F A) (S : Sim C.GB F σ s.heap) (rv : Reps s.heap vs vs')
    (h : ∀ s₁, Sim C.GB (frameOf fd s.heap.objs.size a F.frames) ⟨names.zip vs, σ.sto⟩ s₁.heap → Room C k (frameOf fd s.heap.objs.size a F.frames) (A.deeper (callEnvC fd s.heap.objs.size a)) → (∀ b o, s.heap.get? b = some o → s₁.heap.get? b = some o) →
      (∃ h₁ tk, s₁ = { s with heap := h₁, toks := tk }) → (∀ b ∈ (frameOf fd s.heap.objs.size a F.frames).own, s.heap.objs.size ≤ b) →
      wpAny (model C.prog C.w) (A.deeper (callEnvC fd s.heap.objs.size a)) (execs body (callEnvC fd s.heap.objs.size a)) (fun f s' => R (.ok (.ret (match f with | .ret v => v | _ => .none))) s')
        (fun e s' => wpAny (model C.prog C.w) (A.deeper (callEnvC fd s.heap.objs.size a)) (leaving (callEnvC fd s.heap.objs.size a) e) (fun _ s'' => R (.error e) s'') (fun e' s'' => R (.error e') s'') s') s₁) :
    codeAny (model C.prog C.w) A (.call (.ref a) ⟨vs', []⟩) R s := by
  obtain ⟨o, ho, hd⟩ := f.obj
  have hsz : ∀ b ob, s.heap.get? b = some ob → b < s.heap.objs.size := fun b ob e => Heap.lt_size e
  have hbind := f.bind vs' (by rw [rv.length, hlen])
  refine (codeAny_call_cells (fd := fd) (body := body) (binds := names.zip vs') (Nat.lt_of_le_of_lt (Nat.le_add_right _ _) hA.2.1) (S.base _ _ ho) hd (cx.nolimit.keeps S.base) ?hcd f.body hbind f.clo ?hkind (fun s₁ x => ?hb) f.co f.gen f.kind)
  case hcd =>
    obtain ⟨c, oc, ws, tq, h1, h2, h3⟩ := f.code
    exact ⟨c, oc, ws, tq, h1, S.base _ _ h2, h3⟩
  case hkind =>
    intro y hy
    have hyn : y.1 ∈ names := by obtain ⟨y1, y2⟩ := y; exact (List.of_mem_zip hy).1
    rcases f.kinds _ hyn with q | ⟨q, q'⟩
    · exact .inl q
    · refine .inr ⟨q, ?_⟩
      rw [cellsFrom_names fd.scope.names 0 (s.heap.objs.size + 1) [] [] rfl] at q'
      obtain ⟨p, hp, e⟩ := List.mem_map.mp q'
      have hnd : ((cellsFrom (s.heap.objs.size + 1) fd.scope.names []).map (·.1)).Nodup := by
        rw [cellsFrom_names fd.scope.names (s.heap.objs.size + 1) 0 [] [] rfl]; exact f.cnodup
      rw [← e, lookup_of_nodup hnd p hp]; rfl
  case hb =>
    have hnd : ((callEnvC fd s.heap.objs.size a).cells.map (·.1)).Nodup := by
      show ((cellsFrom (s.heap.objs.size + 1) fd.scope.names []).map (·.1)).Nodup
      rw [cellsFrom_names fd.scope.names (s.heap.objs.size + 1) 0 [] [] rfl]; exact f.cnodup
    have hab : ∀ p ∈ (callEnvC fd s.heap.objs.size a).cells, s.heap.objs.size < p.2 := fun p hp => x.above p.1 p.2 hp
    have keep := x.toInCall.keep
    have hown : ∀ b ∈ (frameOf fd s.heap.objs.size a F.frames).own, s.heap.objs.size ≤ b := fun b hb => by
      rcases List.mem_cons.mp hb with e | hb
      · exact Nat.le_of_eq e.symm
      · obtain ⟨p, hp, e⟩ := List.mem_map.mp hb
        rw [← e]; exact Nat.le_of_lt (hab p hp)
    have hnone : ∀ b, s.heap.objs.size ≤ b → s.heap.get? b = none := fun b hb => by
      cases hq : s.heap.get? b with
      | none => rfl
      | some ob => exact absurd (hsz b ob hq) (Nat.not_lt.mpr hb)
    have hgb : ∀ b, s.heap.objs.size ≤ b → C.GB.get? b = none := fun b hb => by
      cases hq : C.GB.get? b with
      | none => rfl
      | some ob => have := S.base b ob hq; rw [hnone b hb] at this; cases this
    have S0 := S.keeps keep
    have S₁ : Sim C.GB (frameOf fd s.heap.objs.size a F.frames) ⟨names.zip vs, σ.sto⟩ s₁.heap := {
      base := S0.base
      frame := by
        refine ⟨_, x.toInCall.ns, fun y v e => ?_⟩
        obtain ⟨v', r, hl, hc⟩ := bind_in (h := s.heap) (callEnvC fd s.heap.objs.size a).kindOf names vs vs' (fun _ => none) (fun _ => none) f.nodup rv y v e
        refine ⟨v', ?_, r.keeps (frz_of_keeps keep)⟩
        have hy : y ∈ names := (List.of_mem_zip (mem_of_lookup e)).1
        rcases f.kinds y hy with q | ⟨q, q'⟩
        · exact .inl ⟨q, hl q⟩
        · refine .inr ⟨.inl q, ?_⟩
          rw [cellsFrom_names fd.scope.names 0 (s.heap.objs.size + 1) [] [] rfl] at q'
          obtain ⟨p, hp, ep⟩ := List.mem_map.mp q'
          have hlk := lookup_of_nodup hnd p hp
          rw [ep] at hlk
          refine ⟨p.2, hlk, ?_⟩
          have := x.cell y p.2 hlk
          rwa [hc (by show fd.scope.names.lookup y ≠ _; rw [q]; decide)] at this
      cells := fun p hp => ⟨_, x.cell p.1 p.2 (lookup_of_nodup hnd p hp)⟩
      apart := x.apart
      sto := S0.sto
      inOwn := .head _
      ownIs := fun b hb => by
        rcases List.mem_cons.mp hb with e | hb
        · exact .inl e
        · obtain ⟨p, hp, e⟩ := List.mem_map.mp hb; exact .inr ⟨p, hp, e⟩
      new := fun b hb => hgb b (hown b hb)
      off := fun b ob e => by
        obtain ⟨o', ho'⟩ := S.sto_alive e
        have hlt := hsz b o' ho'
        exact ⟨(S.off b ob e).1, Nat.ne_of_lt hlt, fun p hp q => by have := hab p hp; rw [q] at this; exact absurd hlt (Nat.lt_asymm this)⟩ }
    have hA' : Room C k (frameOf fd s.heap.objs.size a F.frames) (A.deeper (callEnvC fd s.heap.objs.size a)) := ⟨hA.1, by have := hA.2.1; show A.depth + 1 + k < _; omega, by have := hA.2.2.1; show A.units + 3 + 10 * k + 5 < _; omega, by show A.frames.map _ = _; rw [hA.2.2.2]; rfl⟩
    exact h s₁ S₁ hA' keep x.toInCall.same hown

-- what raises
/-- an exception came: of its class, fresh, the state before it kept -/
def XP (C : Cx) (F : FE) (σ : St) (s : Shared) (cls : String) (X : St → Prop) : Value → Shared → Prop := fun e s' =>
  ∃ ea s₀ σ', e = .ref ea ∧ Heap.NewExcOf s₀.heap s'.heap ea cls ∧ Sim C.GB F σ' s₀.heap ∧ Mod F.own σ σ' s s₀ ∧ s' = { s₀ with heap := s'.heap, toks := s'.toks } ∧ X σ'
def RT (C : Cx) (k : Nat) (F : FE) {α : Type} (t : Sem α) (σ : St) (cls : String) (X : St → Prop) : Prop :=
  ∀ A s, Room C k F A → Sim C.GB F σ s.heap → wpAny (model C.prog C.w) A t (fun _ _ => False) (XP C F σ s cls X) s
/-- behind an exception that was caught: slots of frames alone have changed -/
theorem Sim.slots {GB h h' : Heap} {S : List Addr} (x : Sim GB F σ h) (same : ∀ b o, h.get? b = some o → b ∉ S → h'.get? b = some o) (slots : ∀ b o, h.get? b = some o → ∃ sl, h'.get? b = some { o with slots := sl })
    (hb : ∀ b ∈ S, GB.get? b = none) (hs : ∀ b ∈ S, σ.sto b = none) (hd : ∀ b ∈ S, ∃ m, h.Ns b m) : Sim GB F σ h' := by
  have notfrz : ∀ a o, h.get? a = some o → FrzO o → h'.get? a = some o := fun a o ho hf => same a o ho fun hm => by
    obtain ⟨m, hn⟩ := hd a hm
    exact frz_not_dict ho hf hn
  have cell : ∀ c v₀, h.IsCell c v₀ → h'.IsCell c v₀ := fun c v₀ ⟨o, ho, hdt⟩ => by
    obtain ⟨sl, q⟩ := slots c o ho
    exact ⟨_, q, hdt⟩
  exact {
    base := fun b o e => same b o (x.base b o e) fun hm => by rw [hb b hm] at e; cases e
    frame := by
      obtain ⟨m, hn, hl⟩ := x.frame
      obtain ⟨o, es, ep, ho, hdt, r⟩ := hn
      obtain ⟨sl, q⟩ := slots _ o ho
      refine ⟨m, ⟨_, es, ep, q, hdt, r⟩, fun y v e => ?_⟩
      obtain ⟨v', hp, hr⟩ := hl y v e
      refine ⟨v', ?_, hr.keeps notfrz⟩
      rcases hp with hp | ⟨hk, c, hc, hcell⟩
      · exact .inl hp
      · exact .inr ⟨hk, c, hc, cell _ _ hcell⟩
    cells := fun p hp => let ⟨v₀, hv⟩ := x.cells p hp; ⟨v₀, cell _ _ hv⟩
    apart := x.apart
    sto := fun a o e => by
      have r := x.sto a o e
      have na : a ∉ S := fun hm => by rw [hs a hm] at e; cases e
      cases o with
      | lst vs => obtain ⟨hb, vs', n, ho, r2⟩ := r; exact ⟨hb, vs', n, same _ _ ho na, r2.keeps notfrz⟩
      | rol vs => obtain ⟨hb, vs', ⟨o, ho, r1⟩, r2⟩ := r; exact ⟨hb, vs', ⟨o, same _ _ ho na, r1⟩, r2.keeps notfrz⟩
      | raw o => exact ⟨same _ _ r.1 na, r.2⟩
    inOwn := x.inOwn
    ownIs := x.ownIs
    new := x.new
    off := x.off }
theorem nt_IndexError : isSubtype (.type ((Manifest.find? "IndexError").elim "type" fun x => x.metatype)) (.type "tuple") = pure false := by rw [isSubtype_type]; kernel_rfl
theorem sub_IndexError : isSubtype (.type "IndexError") (.type "IndexError") = pure true := by rw [isSubtype_type]; kernel_rfl
theorem exc_IndexError : isSubtype (.type "IndexError") (.type "BaseException") = pure true := by rw [isSubtype_type]; kernel_rfl

end
end Mine
set_option Elab.async false
set_option linter.unusedVariables false
set_option linter.unusedSimpArgs false
namespace Mine
open PySem PySem.W PyProof.Rows

section
variable {C : Cx} {k : Nat} {F : FE} {σ : St}
end

-- the greatest
end Mine
set_option Elab.async false
set_option linter.unusedVariables false
set_option linter.unusedSimpArgs false
namespace Mine
open PySem PySem.W PyProof.Rows

-- the sort's tree of questions, answered by an order
def KOk (lt : Nat → Nat → Bool) (N : Nat) {α : Type} : KasT α → (α → Prop) → Prop
  | .ret a, Q => Q a
  | .ask i j k, Q => i < N ∧ j < N ∧ KOk lt N (k (lt i j)) Q
section
variable {lt : Nat → Nat → Bool} {N : Nat}
theorem KOk.mono {α : Type} {Q Q' : α → Prop} (hq : ∀ a, Q a → Q' a) : ∀ (t : KasT α), KOk lt N t Q → KOk lt N t Q'
  | .ret a, h => hq a h
  | .ask i j k, h => ⟨h.1, h.2.1, KOk.mono hq (k (lt i j)) h.2.2⟩
theorem KOk.bind {α β : Type} {f : α → KasT β} {Q : β → Prop} : ∀ (t : KasT α), KOk lt N t (fun a => KOk lt N (f a) Q) → KOk lt N (t.bind f) Q
  | .ret a, h => h
  | .ask i j k, h => ⟨h.1, h.2.1, KOk.bind (k (lt i j)) h.2.2⟩
abbrev ga (p : Array Nat) (i : Nat) : Nat := p.getD i 0
structure GoodP (N : Nat) (p : Array Nat) : Prop where
  size : p.size = N
  perm : p.toList.Perm (List.range N)
theorem GoodP.ltN {p : Array Nat} (g : GoodP N p) {i : Nat} (hi : i < N) : ga p i < N := by
  have h : i < p.size := by rw [g.size]; exact hi
  have e : ga p i = p[i] := by simp [ga, Array.getD, h]
  rw [e]
  have : p[i] ∈ p.toList := by simp
  exact List.mem_range.mp (g.perm.mem_iff.mp this)
theorem ga_of {p q : Array Nat} {i j : Nat} (h : p[i]? = q[j]?) : ga p i = ga q j := by
  unfold ga
  rw [Array.getD_eq_getD_getElem?, Array.getD_eq_getD_getElem?, h]
theorem GoodP.rev {p : Array Nat} (g : GoodP N p) (i j : Nat) : GoodP N (kas_rev p i j) := ⟨(mirror_size ..).trans g.size, (mirror_perm p i j _).toList.trans g.perm⟩
theorem GoodP.bub {p : Array Nat} (g : GoodP N p) (i j : Nat) : GoodP N (bubble p i j) := ⟨(bubble_size ..).trans g.size, (bubble_perm p i j).toList.trans g.perm⟩
theorem ga_rev {p : Array Nat} {i j : Nat} (hj : j ≤ p.size) (k : Nat) : ga (kas_rev p i j) k = if i ≤ k ∧ k < j then ga p (i + j - 1 - k) else ga p k := by
  have := getElem?_mirror_all (xs := p) (i := i) hj k
  split at this
  · rename_i h; rw [if_pos h]; exact ga_of this
  · rename_i h; rw [if_neg h]; exact ga_of this
theorem ga_bub {p : Array Nat} {src : Nat} (hs : src < p.size) {d : Nat} (hd : d ≤ src) (k : Nat) : ga (bubble p src d) k = if k = src - d then ga p src else if src - d < k ∧ k ≤ src then ga p (k - 1) else ga p k := by
  have := getElem?_bubble hs d hd k
  by_cases h1 : k = src - d
  · rw [if_pos h1] at this ⊢; exact ga_of this
  · rw [if_neg h1] at this ⊢
    by_cases h2 : src - d < k ∧ k ≤ src
    · rw [if_pos h2] at this ⊢; exact ga_of this
    · rw [if_neg h2] at this ⊢; exact ga_of this

/-- a strict order -/
structure SO (lt : Nat → Nat → Bool) : Prop where
  asymm : ∀ a b, lt a b = true → lt b a = false
  trans : ∀ a b c, lt b a = false → lt c b = false → lt c a = false
def UpTo (lt : Nat → Nat → Bool) (p : Array Nat) (n : Nat) : Prop := ∀ i j, i < j → j < n → lt (ga p j) (ga p i) = false
def DnTo (lt : Nat → Nat → Bool) (p : Array Nat) (n : Nat) : Prop := ∀ i j, i < j → j < n → lt (ga p i) (ga p j) = false
theorem SO.refl (o : SO lt) (a : Nat) : lt a a = false := by
  cases h : lt a a with
  | false => rfl
  | true => have q := o.asymm a a h; rw [h] at q; exact q

/-- a block of equals -/
def EqOn (lt : Nat → Nat → Bool) (p : Array Nat) (a b : Nat) : Prop := ∀ i j, a ≤ i → i < b → a ≤ j → j < b → lt (ga p i) (ga p j) = false
theorem place_ok (o : SO lt) {p : Array Nat} {k : Nat} (g : GoodP N p) (hk : k < N) (hu : UpTo lt p k) : ∀ (f l r : Nat), l ≤ r → r ≤ k → r ≤ l + f → (∀ i, i < l → lt (ga p k) (ga p i) = false) → (∀ i, r ≤ i → i < k → lt (ga p k) (ga p i) = true) →
    KOk lt N (kas_place p k f l r) fun m => m ≤ k ∧ (∀ i, i < m → lt (ga p k) (ga p i) = false) ∧ ∀ i, m ≤ i → i < k → lt (ga p k) (ga p i) = true
  | 0, l, r, h1, h2, h3, hl, hr => ⟨by omega, hl, fun i a b => hr i (by omega) b⟩
  | f + 1, l, r, h1, h2, h3, hl, hr => by
    unfold kas_place
    split
    · exact ⟨by omega, hl, fun i a b => hr i (by omega) b⟩
    · refine ⟨g.ltN hk, g.ltN (by omega), ?_⟩
      show KOk lt N (if lt (ga p k) (ga p ((l + r) / 2)) = true then _ else _) _
      cases hc : lt (ga p k) (ga p ((l + r) / 2)) with
      | true =>
        rw [if_pos rfl]
        refine place_ok o g hk hu f l _ (by omega) (by omega) (by omega) hl fun i a b => ?_
        rcases Nat.lt_or_ge ((l + r) / 2) i with q | q
        · cases hq : lt (ga p k) (ga p i) with
          | true => rfl
          | false =>
            have := o.trans _ _ _ (hu _ i q b) hq
            rw [hc] at this; exact this.symm
        · have : i = (l + r) / 2 := by omega
          subst this; exact hc
      | false =>
        rw [if_neg (by simp)]
        refine place_ok o g hk hu f _ r (by omega) h2 (by omega) (fun i a => ?_) hr
        rcases Nat.lt_or_ge i ((l + r) / 2) with q | q
        · exact o.trans _ _ _ (hu i _ q (by omega)) hc
        · have : i = (l + r) / 2 := by omega
          subst this; exact hc
end
end Mine
set_option Elab.async false
set_option linter.unusedVariables false
set_option linter.unusedSimpArgs false
namespace Mine
open PySem PySem.W PyProof.Rows

section
variable {prog : Program} {w : World} {A : Around} {E : Value → Shared → Prop} {s : Shared}
-- tuples of ints, compared by the sort
end

def ltTab (xs : List (List Int)) (i j : Nat) : Bool := decide (xs.getD i [] < xs.getD j [])
def sortT (xs : List (List Int)) : List (List Int) := xs.mergeSort fun a b => decide (a ≤ b)
end Mine
set_option Elab.async false
set_option linter.unusedVariables false
set_option linter.unusedSimpArgs false
namespace Mine
open PySem PySem.W PyProof.Rows

theorem reps_tup_at {h : Heap} {xs : List (List Int)} {vs' : List Value} (r : Reps h (xs.map V.tup) vs') {i : Nat} (hi : i < xs.length) : ∃ a us, vs'.getD i Value.none = .ref a ∧ vs'[i]? = some (.ref a) ∧ IsTup h a (List.toArray us) ∧ IntsAre us (xs.getD i []) := by
  obtain ⟨v', hv, rv⟩ := r.get (i := i) (v := .tup xs[i]) (by simp [hi])
  cases rv with
  | tup ht hI =>
    rename_i a us
    exact ⟨a, us, by simp [List.getD_eq_getElem?_getD, hv], hv, ht, by rw [List.getD_eq_getElem?_getD, List.getElem?_eq_getElem hi]; exact hI⟩
section
variable {C : Cx} {k : Nat} {F : FE} {σ : St}
end
end Mine
set_option Elab.async false
set_option linter.unusedVariables false
set_option linter.unusedSimpArgs false
namespace Mine
open PySem PySem.W PyProof.Rows

section
variable {C : Cx} {k : Nat} {F : FE} {σ : St}
/-- what a comprehension has gathered -/
def Acc (h : Heap) (D : Addr) (out : List V) : Prop := ∃ out' e, h.get? D = some (listOf (List.toArray out') e) ∧ Reps h out out' ∧ out.length ≤ maxLen
def EmitOK (C : Cx) (k : Nat) (F : FE) (D : Addr) (t : Sem PUnit) (σ : St) (out : List V) (Q : List V → St → Prop) : Prop :=
  ∀ A s, Room C k F A → Sim C.GB F σ s.heap → Loose C.GB F σ s.heap D → Acc s.heap D out →
    wpAny (model C.prog C.w) A t (fun _ s' => ∃ outN σ', Sim C.GB F σ' s'.heap ∧ Mod (D :: F.own) σ σ' s s' ∧ Acc s'.heap D outN ∧ σ'.sto D = none ∧ Q outN σ') No s
def emit2 (elt target iter : Expr) (ifs : List Expr) (target1 iter1 : Expr) (ifs1 : List Expr) (scope : Scope) (pos : Pos) (D : Addr) (env : Env) : Sem PUnit := do
  let x ← eval iter1 env
  standAt iter1.pos
  let x ← foldedSetIterable iter1 env x
  let _ ← runOwn (.compStart (.ListComp elt [⟨target, iter, ifs, 0⟩, ⟨target1, iter1, ifs1, 0⟩] scope pos) 1 (← holding [x] (pyIter x)) (.ref D) env) env
def Comp2OK (C : Cx) (k : Nat) (F : FE) (elt target iter : Expr) (ifs : List Expr) (target1 iter1 : Expr) (ifs1 : List Expr) (scope : Scope) (pos : Pos) (cl : List (Str × Addr)) (loc0 : List (Str × V)) (get : Get) (σ₁ : St) (Q : V → St → Prop) : Prop :=
  FreeOk F scope cl loc0 σ₁.loc ∧ ∃ (Inv : Nat → List V → (Addr → Option O) → Prop) (N : Nat), Inv 0 [] σ₁.sto ∧ ∀ c D i out sto', EnvOk (compF scope cl c F).env → Inv i out sto' → i ≤ N ∧ ∃ r₀, get i sto' = some r₀ ∧ match r₀ with
      | some v => AsgOK C k (compF scope cl c F) target v ⟨loc0, sto'⟩ fun σ₅ => Tests C k (compF scope cl c F) ifs σ₅ fun b σ₆ => if b then EmitOK C k (compF scope cl c F) D (emit2 elt target iter ifs target1 iter1 ifs1 scope pos D (compF scope cl c F).env) σ₆ out (fun outN σ₇ => restrictL (loc0.map (·.1)) σ₇.loc = loc0 ∧ Inv (i + 1) outN σ₇.sto) else CompSkip loc0 Inv i out σ₆
      | none => ∀ D, sto' D = none → Q (.ref D) (St.setSto ⟨σ₁.loc, sto'⟩ D (.lst out))
end
end Mine
set_option Elab.async false
set_option linter.unusedVariables false
set_option linter.unusedSimpArgs false
namespace Mine
open PySem PySem.W PyProof.Rows

section
variable {C : Cx} {k : Nat} {F : FE} {σ : St}
theorem call_max_ints {l : Addr} {xs : List Int} {Q : V → St → Prop} (hs : (σ.sto l).bind O.items = some (xs.map V.int)) (hne : 0 < xs.length) (h : ∀ M, M ∈ xs → (∀ a ∈ xs, a ≤ M) → Q (.int M) σ) (hcalm : C.exc = none := by assumption) :
    CallOK C k F (.opq (.builtin "max")) [.ref l] σ Q :=
  fun A s f' us' hA S rf ru => by
    cases rf
    cases ru with | cons ra ru => cases ra; cases ru with | nil =>
    obtain ⟨hb, vs', hL, hr⟩ := S.list hs
    obtain ⟨m, hn, hl⟩ := S.frame
    refine kso_max (fr_empty hn) (news_all s.heap F.env.locals) hL (ints_reps hr) hne (hA.1.calm hcalm) fun h' M t tk F' N' h1 h2 => ?_
    obtain ⟨S', kp⟩ := S.ledger hn hl F' N'
    exact ⟨.int M, σ, .int _ _, S', Mod.ledger S F'.ns kp, h M h1 h2⟩
end

-- order of short tuples
-- merging of rows
section
variable (R : List (List Int))
def rowK (k : Nat) : List Int := R.getD k []
def frontAt (a : Nat → Nat) (k : Nat) : Option (List Int) := if a k < (rowK R k).length then some [(rowK R k).getD (a k) 0, k, a k] else none
def front (a : Nat → Nat) : List (List Int) := (List.range R.length).filterMap (frontAt R a)
def goneAt (a : Nat → Nat) (k : Nat) : List (List Int) := ((rowK R k).take (a k)).map fun x => [x, (k : Int)]
def gone (a : Nat → Nat) : List (List Int) := (List.range R.length).flatMap (goneAt R a)
def remOf (a : Nat → Nat) : Nat := ((List.range R.length).map fun k => (rowK R k).length - a k).sum
structure Mrg (a : Nat → Nat) (H T : List (List Int)) : Prop where
  hp : H.Perm (front R a)
  tp : T.Perm (gone R a)
  ts : T.Pairwise (· ≤ ·)
  th : ∀ t ∈ T, ∀ h ∈ H, t ≤ h.take 2
def bump (a : Nat → Nat) (k : Nat) : Nat → Nat := fun j => if j = k then a k + 1 else a j
end
section
variable {R : List (List Int)}
def allPairs (R : List (List Int)) : List (List Int) := (List.range R.length).flatMap fun k => (rowK R k).map fun x => [x, (k : Int)]
end
end Mine
set_option Elab.async false
set_option linter.unusedVariables false
set_option linter.unusedSimpArgs false
namespace Mine
open PySem PySem.W PyProof.Rows

-- heaps of tuples
-- slices by a step
def pickI (xs : List Int) (lo hi st : Option Int) : List Int :=
  (sliceRange (sliceBounds lo hi st xs.length).1 (sliceBounds lo hi st xs.length).2.1 (sliceBounds lo hi st xs.length).2.2).filterMap fun i => xs[i]?
def cntK (n m k : Nat) : Nat := if k < n then (n - k + m - 1) / m else 0
end Mine
namespace Mine
open PySem PySem.W PyProof.Rows
end Mine
set_option Elab.async false
set_option linter.unusedVariables false
set_option linter.unusedSimpArgs false
namespace Mine
open PySem PySem.W PyProof.Rows

-- lists without like ones
theorem nodup_le {α : Type} [DecidableEq α] : ∀ {l m : List α}, l.Nodup → (∀ x ∈ l, x ∈ m) → l.length ≤ m.length
  | [], m, _, _ => by simp
  | x :: l, m, hn, hs => by
    obtain ⟨h1, h2⟩ := List.nodup_cons.mp hn
    have hx : x ∈ m := hs x (.head _)
    have h3 : ∀ y ∈ l, y ∈ m.erase x := fun y hy => by
      have hne : y ≠ x := fun e => h1 (e ▸ hy)
      exact (List.mem_erase_of_ne hne).mpr (hs y (.tail _ hy))
    have := nodup_le h2 h3
    rw [List.length_erase_of_mem hx] at this
    have := List.length_pos_of_mem hx
    simp; omega

/-- the places of the graphs -/
def place (p : Int) : Prop := 0 ≤ p ∧ p < 9
def places : List Int := (List.range 9).map fun (i : Nat) => (i : Int)
section
variable {C : Cx} {k : Nat} {F : FE} {σ : St}

-- dicts of places to numbers
def DD (C : Cx) (o : Obj) (f : Int → Option Int) : Prop := ∃ kvs : List (Int × Value), o.IsDictOf (intKind C.prog C.w) kvs ∧
  (∀ k i, f k = some i → ∃ t, valueAt kvs k = some (.int i t)) ∧ (∀ k, f k = none → valueAt kvs k = none) ∧ ∀ kv ∈ kvs, place kv.1
theorem valueAt_cons (a : Int) (b : Value) (r : List (Int × Value)) (y : Int) : valueAt ((a, b) :: r) y = if a = y then some b else valueAt r y := by
  unfold valueAt
  by_cases h : a = y
  · simp [h]
  · simp [h]
end
end Mine
set_option Elab.async false
set_option linter.unusedVariables false
set_option linter.unusedSimpArgs false
namespace Mine
open PySem PySem.W PyProof.Rows

-- the mathematics of the shortest ways
structure Way where
  a : Int
  b : Int
  w : Int
def Way.tup (e : Way) : List Int := [e.a, e.b, e.w]

section
variable (ws : List Way)
inductive WalkN : Nat → Int → Int → Prop
  | start : WalkN 0 0 0
  | step {n : Nat} {e : Way} {l : Int} : WalkN n e.a l → e ∈ ws → WalkN (n + 1) e.b (l + e.w)
def Walk (v l : Int) : Prop := ∃ n, WalkN ws n v l
variable {ws}
def cntF (f : Int → Option Int) : Nat := (places.filter fun p => (f p).isSome).length
theorem filter_less {α : Type} (P P' : α → Bool) (h : ∀ x, P x = true → P' x = true) : ∀ l : List α, (l.filter P).length ≤ (l.filter P').length
  | [] => Nat.le_refl _
  | x :: l => by
    have ih := filter_less P P' h l
    rw [List.filter_cons, List.filter_cons]
    cases hp : P x with
    | true => rw [h x hp]; simpa using ih
    | false => cases P' x <;> simp <;> omega
/-- between the turns of the search; c: how many are found -/
structure Dij (ws : List Way) (f : Int → Option Int) (c : Nat) (H : List (List Int)) : Prop where
  least : ∀ p l, f p = some l → Walk ws p l ∧ ∀ l', Walk ws p l' → l ≤ l'
  few : ∀ p l, f p = some l → ∃ n, n < c ∧ WalkN ws n p l
  heap : ∀ h ∈ H, ∃ l p n, h = [l, p] ∧ n ≤ c ∧ WalkN ws n p l ∧ place p
  next : ∀ e ∈ ws, ∀ l, f e.a = some l → (f e.b).isSome = true ∨ [l + e.w, e.b] ∈ H
  zero : (f 0).isSome = true ∨ [0, 0] ∈ H
  pl : ∀ p, (f p).isSome = true → place p
  cnt : c ≤ cntF f

/-- while the ways of a new place are looked at: those before i have been -/
structure DijIn (ws : List Way) (f : Int → Option Int) (c : Nat) (H : List (List Int)) (p l : Int) (i : Nat) : Prop where
  here : f p = some l
  least : ∀ p l, f p = some l → Walk ws p l ∧ ∀ l', Walk ws p l' → l ≤ l'
  few : ∀ p l, f p = some l → ∃ n, n < c ∧ WalkN ws n p l
  heap : ∀ h ∈ H, ∃ l p n, h = [l, p] ∧ n ≤ c ∧ WalkN ws n p l ∧ place p
  next : ∀ e ∈ ws, e.a ≠ p → ∀ l, f e.a = some l → (f e.b).isSome = true ∨ [l + e.w, e.b] ∈ H
  mine : ∀ e ∈ ws.take i, e.a = p → (f e.b).isSome = true ∨ [l + e.w, e.b] ∈ H
  zero : (f 0).isSome = true ∨ [0, 0] ∈ H
  pl : ∀ p, (f p).isSome = true → place p
  cnt : c ≤ cntF f

/-- the ways that are yet to be pushed -/
def left (ws : List Way) (f : Int → Option Int) : Nat := (ws.filter fun e => (f e.a).isNone).length

def cntp (p : Int) (l : List Way) : Nat := (l.filter fun e => decide (e.a = p)).length
/-- mending: what is due after t rounds and the first i ways of the next -/
structure Bell (ws : List Way) (t i : Nat) (g : Int → Option Int) : Prop where
  walk : ∀ p l, g p = some l → Walk ws p l
  all : ∀ n v l, n ≤ t → WalkN ws n v l → ∃ l', g v = some l' ∧ l' ≤ l
  more : ∀ e ∈ ws.take i, ∀ n l, n ≤ t → WalkN ws n e.a l → ∃ l', g e.b = some l' ∧ l' ≤ l + e.w
  pl : ∀ p, (g p).isSome = true → place p
end
end Mine
set_option Elab.async false
set_option linter.unusedVariables false
set_option linter.unusedSimpArgs false
namespace Mine
open PySem PySem.W PyProof.Rows
section
variable {C : Cx} {k : Nat} {F : FE} {σ : St}
/-- what is known of the store stays known -/
def Keep (d : Addr) (sto sto' : Addr → Option O) : Prop := ∀ b o, b ≠ d → sto b = some o → sto' b = some o
end
end Mine
set_option Elab.async false
set_option linter.unusedVariables false
set_option linter.unusedSimpArgs false
namespace Mine
open PySem PySem.W PyProof.Rows
section
variable {C : Cx} {k : Nat} {F : FE} {σ : St}
end
end Mine
set_option Elab.async false
set_option linter.unusedVariables false
set_option linter.unusedSimpArgs false
namespace Mine
open PySem PySem.W PyProof.Rows

-- the mathematics of the lightest nets
structure KS where
  lab : Int → Int
  due : Int → Int
def kstep (s : KS) (e : Way) : KS := if s.lab e.a = s.lab e.b then s else ⟨fun x => if s.lab x = s.lab e.b then s.lab e.a else s.lab x, fun p => if p = e.a then s.due p + e.w else s.due p⟩
def krun (es : List Way) (s : KS) : KS := es.foldl kstep s
def Merged (l1 l2 : Int → Int) (u v : Int) : Prop := ∀ x y, l2 x = l2 y ↔ (l1 x = l1 y ∨ (l1 x = l1 u ∧ l1 y = l1 v) ∨ (l1 x = l1 v ∧ l1 y = l1 u))
def Same (l1 l2 : Int → Int) : Prop := ∀ x y, l1 x = l1 y ↔ l2 x = l2 y
theorem kstep_no {s : KS} {e : Way} (h : s.lab e.a = s.lab e.b) : kstep s e = s := if_pos h
theorem kstep_lab {s : KS} {e : Way} (h : s.lab e.a ≠ s.lab e.b) (x : Int) : (kstep s e).lab x = if s.lab x = s.lab e.b then s.lab e.a else s.lab x := by unfold kstep; rw [if_neg h]
theorem kstep_due {s : KS} {e : Way} (h : s.lab e.a ≠ s.lab e.b) (x : Int) : (kstep s e).due x = if x = e.a then s.due x + e.w else s.due x := by unfold kstep; rw [if_neg h]
theorem kstep_merged {s : KS} {e : Way} (h : s.lab e.a ≠ s.lab e.b) : Merged s.lab (kstep s e).lab e.a e.b := fun x y => by
  rw [kstep_lab h, kstep_lab h]
  generalize s.lab x = X, s.lab y = Y, s.lab e.a = A, s.lab e.b = B at *
  split <;> split <;> omega
theorem krun_mono {x y : Int} : ∀ (es : List Way) (s : KS), s.lab x = s.lab y → (krun es s).lab x = (krun es s).lab y
  | [], s, h => h
  | e :: es, s, h => by
    show (krun es (kstep s e)).lab x = _
    refine krun_mono es (kstep s e) ?_
    by_cases hj : s.lab e.a = s.lab e.b
    · rw [kstep_no hj]; exact h
    · exact (kstep_merged hj x y).mpr (.inl h)
theorem same_step {s1 s2 : KS} {e : Way} (h : Same s1.lab s2.lab) : Same (kstep s1 e).lab (kstep s2 e).lab := by
  by_cases hj : s1.lab e.a = s1.lab e.b
  · rw [kstep_no hj, kstep_no ((h _ _).mp hj)]; exact h
  · have hj2 : s2.lab e.a ≠ s2.lab e.b := fun q => hj ((h _ _).mpr q)
    intro x y
    rw [kstep_merged hj x y, kstep_merged hj2 x y, h x y, h x e.a, h y e.b, h x e.b, h y e.a]
theorem same_due {s1 s2 : KS} {e : Way} {d : Int → Int} (h : Same s1.lab s2.lab) (hd : ∀ p, s1.due p = s2.due p + d p) : ∀ p, (kstep s1 e).due p = (kstep s2 e).due p + d p := fun p => by
  by_cases hj : s1.lab e.a = s1.lab e.b
  · rw [kstep_no hj, kstep_no ((h _ _).mp hj)]; exact hd p
  · have hj2 : s2.lab e.a ≠ s2.lab e.b := fun q => hj ((h _ _).mpr q)
    rw [kstep_due hj, kstep_due hj2, hd p]
    split <;> omega
theorem same_run {d : Int → Int} : ∀ (es : List Way) (s1 s2 : KS), Same s1.lab s2.lab → (∀ p, s1.due p = s2.due p + d p) → Same (krun es s1).lab (krun es s2).lab ∧ ∀ p, (krun es s1).due p = (krun es s2).due p + d p
  | [], _, _, h, hd => ⟨h, hd⟩
  | e :: es, s1, s2, h, hd => same_run es (kstep s1 e) (kstep s2 e) (same_step h) (same_due h hd)
theorem merged_step {l1 l1' l2 l2' : Int → Int} {a b u v : Int} (h1 : Merged l1 l1' a b) (h2 : Merged l2 l2' a b) (h : Merged l1 l2 u v) : Merged l1' l2' u v := fun x y => by
  rw [h2 x y, h x y, h x a, h y b, h x b, h y a, h1 x y, h1 x u, h1 y v, h1 x v, h1 y u]
  generalize l1 x = X, l1 y = Y, l1 a = A, l1 b = B, l1 u = U, l1 v = V
  grind

-- the sum over the part of 0
def inPart (s : KS) : List Int := places.filter fun p => decide (s.lab p = s.lab 0)
def tot (s : KS) : Int := ((inPart s).map s.due).sum
/-- the net that grows: its places together -/
def stS (S : List Int) : KS := ⟨fun x => if x ∈ S then 0 else x, fun _ => 0⟩
def kstart : KS := ⟨fun x => x, fun _ => 0⟩
def Link (e : Way) (x y : Int) : Prop := (e.a = x ∧ e.b = y) ∨ (e.a = y ∧ e.b = x)
structure Val (es : List Way) (S : List Int) (W : Int) : Prop where
  same : Same (krun es kstart).lab (krun es (stS S)).lab
  sum : tot (krun es kstart) = W + tot (krun es (stS S))
  nd : S.Nodup
  pl : ∀ p ∈ S, place p
  zero : 0 ∈ S
end Mine
set_option Elab.async false
set_option linter.unusedVariables false
set_option linter.unusedSimpArgs false
namespace Mine
open PySem PySem.W PyProof.Rows

-- the heap while the net grows
structure Prim (ws es : List Way) (S : List Int) (W : Int) (H : List (List Int)) : Prop where
  val : Val es S W
  heap : ∀ h ∈ H, ∃ e ∈ ws, ∃ x y, Link e x y ∧ x ∈ S ∧ h = [e.w, y]
  all : ∀ e ∈ ws, ∀ x y, Link e x y → x ∈ S → y ∈ S ∨ [e.w, y] ∈ H
structure PrimIn (ws es : List Way) (S : List Int) (W : Int) (H : List (List Int)) (p : Int) (j : Nat) : Prop where
  val : Val es S W
  heap : ∀ h ∈ H, ∃ e ∈ ws, ∃ x y, Link e x y ∧ x ∈ S ∧ h = [e.w, y]
  here : p ∈ S
  rest : ∀ e ∈ ws, ∀ x y, Link e x y → x ∈ S → x ≠ p → y ∈ S ∨ [e.w, y] ∈ H
  mine : ∀ e ∈ ws.take j, ∀ y, Link e p y → [e.w, y] ∈ H
-- how many are yet to come
def cost (p : Int) : List Way → Nat
  | [] => 0
  | e :: r => (if e.a = p then 1 else 0) + (if e.b = p then 1 else 0) + cost p r
def lft (S : List Int) : List Way → Nat
  | [] => 0
  | e :: r => (if e.a ∈ S then 0 else 1) + (if e.b ∈ S then 0 else 1) + lft S r
def Way.tri (e : Way) : List Int := [e.w, e.a, e.b]
end Mine
set_option Elab.async false
set_option linter.unusedVariables false
set_option linter.unusedSimpArgs false
namespace Mine
open PySem PySem.W PyProof.Rows
section
variable {C : Cx} {k : Nat} {F : FE} {σ : St}
/-- the state cut down to what is known -/
theorem x_cut {ss : List Stmt} {Q : Fl → St → Prop} (names : List Str) (l : List (Str × V)) (P : (Addr → Option O) → Prop) (he : restrictL names σ.loc = l) (hp : P σ.sto) (h : ∀ sto', P sto' → TX C k F ss ⟨l, sto'⟩ Q) : TX C k F ss σ Q :=
  x_weak names (by unfold St.restrict; rw [he]; exact h _ hp)
theorem free2 {scope : Scope} {cl : List (Str × Addr)} {x y : Str} {u v : V} {loc : List (Str × V)} (h1 : loc.lookup x = some u ∧ (F.env.kindOf x = some .cell ∨ F.env.kindOf x = some .free) ∧ ((relabel scope F.env).names.lookup x = some .cell ∨ (relabel scope F.env).names.lookup x = some .free) ∧ cl.lookup x = F.env.cells.lookup x)
    (h2 : loc.lookup y = some v ∧ (F.env.kindOf y = some .cell ∨ F.env.kindOf y = some .free) ∧ ((relabel scope F.env).names.lookup y = some .cell ∨ (relabel scope F.env).names.lookup y = some .free) ∧ cl.lookup y = F.env.cells.lookup y) :
    FreeOk F scope cl [(x, u), (y, v)] loc := fun z w e => by
  rw [List.lookup_cons] at e
  by_cases q : (z == x) = true
  · rw [q] at e; cases e; rw [beq_iff_eq.mp q]; exact h1
  · rw [show (z == x) = false by simpa using q, List.lookup_cons] at e
    by_cases q2 : (z == y) = true
    · rw [q2] at e; cases e; rw [beq_iff_eq.mp q2]; exact h2
    · rw [show (z == y) = false by simpa using q2] at e; simp at e
theorem free0 {scope : Scope} {cl : List (Str × Addr)} {loc : List (Str × V)} : FreeOk F scope cl [] loc := fun z w e => by simp at e
theorem ne_new {s : Addr → Option O} {a b : Addr} {o : O} (ha : s a = some o) (hb : s b = none) : a ≠ b := fun e => by rw [e, hb] at ha; cases ha
end
-- lists of nine by place
def tabI (f : Int → Int) : List Int := places.map f
end Mine
set_option Elab.async false
set_option linter.unusedVariables false
set_option linter.unusedSimpArgs false
namespace Mine
open PySem PySem.W PyProof.Rows
section
variable {C : Cx} {k : Nat} {F : FE} {σ : St}
theorem call_list_list {l : Addr} {vs : List V} {Q : V → St → Prop} (hs : (σ.sto l).bind O.items = some vs) (h : ∀ D, σ.sto D = none → Q (.ref D) (σ.setSto D (.lst vs))) : CallOK C k F (.opq (.type "list")) [.ref l] σ Q :=
  fun A s f' us' hA S rf ru => by
    cases rf
    cases ru with | cons ra ru => cases ra; cases ru with | nil =>
    obtain ⟨hb, vs', hL, hr⟩ := S.list hs
    obtain ⟨m, hn, hl⟩ := S.frame
    refine list_copyK (fr_empty hn) (news_all s.heap F.env.locals) hL (fun D c h' F' N' hlt => ?_) (by rw [List.size_toArray, hr.length]; exact Nat.le_trans hb maxLen_le)
    obtain ⟨S', kp⟩ := S.ledger hn hl F' fun p hp => N' p (.tail _ hp)
    have ho := (N' _ (.head _)).1
    have hDL := (N' _ (.head _)).2.1
    have hDn : s.heap.get? D = none := by
      cases hq : s.heap.get? D with
      | none => rfl
      | some o => exact absurd (hlt (D, o) (allNews_mem hDL hq)) (Nat.lt_irrefl _)
    have hgb : C.GB.get? D = none := by
      cases hq : C.GB.get? D with
      | none => rfl
      | some o => have := S.base D o hq; rw [hDn] at this; cases this
    refine ⟨.ref D, σ.setSto D (.lst vs), .ref D, S'.adopt ⟨hb, vs', c, ho, hr.keeps fun b o e hf => kp b o (fun q => by
      subst q; exact frz_not_dict e hf hn) e⟩ hgb hDL fun p hp q => ?_, (Mod.ledger (tk := s.toks) S F'.ns kp).adopt hDn, h D (S.fresh_none hDn)⟩
    obtain ⟨v₀, oc, hoc, _⟩ := S.cells p hp
    rw [q, hDn] at hoc; cases hoc
-- tuples are gone through
def getTup (us : List V) : Get := fun i _ => some us[i]?
end
end Mine
set_option Elab.async false
set_option linter.unusedVariables false
set_option linter.unusedSimpArgs false
namespace Mine
open PySem PySem.W PyProof.Rows

-- a heap that falls apart and is made again
abbrev allT : V → V → Bool := fun _ _ => true
def fall (t d : Nat) (vs : List V) : List V := sdGo allT (gt vs d) t d vs
def StrictH (lt : V → V → Bool) (t : Nat) (vs : List V) : Prop := ∀ i, i < vs.length → 0 < i → t ≤ (i - 1) / 2 → lt (gt vs ((i - 1) / 2)) (gt vs i) = true
section
variable {E : V → Prop} {lt : V → V → Bool}
theorem sd_hole (x y : V) (sp p : Nat) (vs : List V) : sdGo lt x sp p (vs.set p y) = sdGo lt x sp p vs := by
  rw [sdGo, sdGo.eq_def lt x sp p vs]
  by_cases h : sp < p
  · have e : gt (vs.set p y) ((p - 1) / 2) = gt vs ((p - 1) / 2) := gt_set_ne (by omega)
    simp only [h, dif_pos]
    show (if lt x (gt (vs.set p y) ((p - 1) / 2)) = true then sdGo lt x sp ((p - 1) / 2) ((vs.set p y).set p (gt (vs.set p y) ((p - 1) / 2))) else (vs.set p y).set p x) = _
    rw [e, List.set_set, List.set_set]
  · simp only [h, dif_neg, not_false_eq_true]
    rw [List.set_set]
theorem set_same (vs : List V) (i : Nat) : vs.set i (gt vs i) = vs := by
  apply List.ext_getElem?
  intro j
  rw [List.getElem?_set]
  by_cases h : i = j
  · subst h
    rw [if_pos rfl]
    by_cases hi : i < vs.length
    · rw [if_pos hi, List.getElem?_eq_getElem hi]; simp [gt, hi]
    · rw [if_neg hi, List.getElem?_eq_none (by omega)]
  · rw [if_neg h]
theorem gt_eq {vs : List V} {i : Nat} (h : i < vs.length) : gt vs i = vs[i] := by simp [gt, h]
end

-- the way up from a place
def wayL (t p : Nat) : List Nat := if h : t < p then p :: wayL t ((p - 1) / 2) else [p]
termination_by p
decreasing_by omega
-- the heap is laid
def kidsL (n p : Nat) : List Nat := [2 * p + 1, 2 * p + 2].filter fun i => decide (i < n)
structure Laid (n : Nat) (ps : List (List Int)) (j : Nat) (h : List V) (free : List Nat) : Prop where
  len : h.length = n
  item : ∀ i, i < n → gt h i = .none ∨ ∃ j', j' < j ∧ gt h i = .tup (ps.getD j' [])
  nd : free.Nodup
  fr : ∀ i ∈ free, i < n ∧ gt h i = .none ∧ (0 < i → gt h ((i - 1) / 2) ≠ .none)
  all : ∀ i, i < n → gt h i = .none → (0 < i → gt h ((i - 1) / 2) ≠ .none) → i ∈ free
  ord : ∀ i, i < n → 0 < i → gt h i ≠ .none → gt h ((i - 1) / 2) ≠ .none ∧ ltV (gt h ((i - 1) / 2)) (gt h i) = true
  cnt : h.countP isNoneV + j = n
end Mine
set_option Elab.async false
set_option linter.unusedVariables false
set_option linter.unusedSimpArgs false
namespace Mine
open PySem PySem.W PyProof.Rows
/-- what is known of the store stays known -/
def KeepA (sto sto' : Addr → Option O) : Prop := ∀ b o, sto b = some o → sto' b = some o
theorem KeepA.refl {sto : Addr → Option O} : KeepA sto sto := fun _ _ h => h
theorem KeepA.new {sto s : Addr → Option O} {D : Addr} {o : O} (h : KeepA sto s) (hD : s D = none) : KeepA sto (fun b => if b = D then some o else s b) := fun b o' hb => by
  have q := h b o' hb
  have : b ≠ D := ne_new q hD
  simp [this, q]
theorem KeepA.upd {sto s : Addr → Option O} {D : Addr} {o : O} (h : KeepA sto s) (hD : sto D = none) : KeepA sto (fun b => if b = D then some o else s b) := fun b o' hb => by
  have : b ≠ D := ne_new hb hD
  simp [this, h b o' hb]
abbrev natV (i : Nat) : V := .int (i : Int)
theorem half_sub {q : Nat} (h : 0 < q) : ((q : Int) - 1).fdiv 2 = (((q - 1) / 2 : Nat) : Int) := by
  rw [Int.fdiv_eq_ediv_of_nonneg _ (by omega)]; omega
-- the pairs
def pairL (xs : List Int) (k : Nat) : List Int := [xs.getD k 0, (k : Int)]
def pairsL (xs : List Int) : List (List Int) := (List.range xs.length).map (pairL xs)
end Mine
set_option Elab.async false
set_option linter.unusedVariables false
set_option linter.unusedSimpArgs false
namespace Mine
open PySem PySem.W PyProof.Rows PySem.SeqAt PySem.MeetsSeq3
section
variable {C : Cx} {k : Nat} {F : FE} {σ : St}
-- lists of one number are compared
theorem lt_loop1 (l b : Addr) (n n2 : Nat) (dd dd2 : Option Addr) (sl sl2 : Array (Option Value)) (x y : Int) (t u : Tok) :
    Meets (Builtin.«list.__eq__.loop» ⟨[.ref l, .ref b, rawInt 1, rawInt 0], []⟩)
      (fun A R s => s.heap.get? l = some { cls := .type "list", dict := dd, data := .seq #[.int x t] n, slots := sl } ∧ s.heap.get? b = some { cls := .type "list", dict := dd2, data := .seq #[.int y u] n2, slots := sl2 } ∧
        R (.ok (.ret (.bool false))) s) := by
  intro prog w A R s h
  obtain ⟨hp, g, d, tk, os⟩ := s; obtain ⟨hl, hb, h⟩ := h
  wp_walk using wpAny_loadPart' hl, wpAny_loadPart' hb
  exact h
theorem lt_loop0 (l b : Addr) (n n2 : Nat) (dd dd2 : Option Addr) (sl sl2 : Array (Option Value)) (x y : Int) (t u : Tok) :
    Meets (Builtin.«list.__eq__.loop» ⟨[.ref l, .ref b, rawInt 0, rawInt 0], []⟩)
      (fun A R s => s.heap.get? l = some { cls := .type "list", dict := dd, data := .seq #[.int x t] n, slots := sl } ∧ s.heap.get? b = some { cls := .type "list", dict := dd2, data := .seq #[.int y u] n2, slots := sl2 } ∧
        R (.ok (.ret (.bool (decide (x < y))))) s) := by
  intro prog w A R s h
  obtain ⟨hp, g, d, tk, os⟩ := s; obtain ⟨hl, hb, h⟩ := h
  wp_walk using wpAny_loadPart' hl, wpAny_loadPart' hb
  show wpAny (model prog w) A.in1 (eqBool (.int x t) (.int y u)) _ _ _
  refine wpAny_eqBool_int ?_
  by_cases e : x = y
  · subst e
    simp only [beq_self_eq_true, if_true]
    refine wpAny_pure ⟨plainId_quiet plain_eq_loop _, codeAny_builtin entry_eq_loop ?_⟩
    rw [Around.under_plainId plain_eq_loop _]
    exact lt_loop1 l b n n2 dd dd2 sl sl2 x x t u prog w A R _ ⟨hl, hb, by simpa using h⟩
  · have e' : (x == y) = false := by simpa using e
    rw [e']
    simp only [Bool.false_eq_true, if_false]
    refine wpAny_bind (wpAny_listItems hl rfl (wpAny_bind (wpAny_listItems hb rfl ?_)))
    refine wpAny_bind (show wpAny _ _ (compareOp .Lt (.int x t) (.int y u)) _ _ _ from PySem.P.lt_int ?_)
    exact wpAny_pure h
theorem list_lt1 (l b : Addr) (n n2 : Nat) (dd dd2 : Option Addr) (sl sl2 : Array (Option Value)) (x y : Int) (t u : Tok) :
    Meets (Builtin.«list.__lt__» ⟨[.ref l, .ref b], []⟩)
      (fun A R s => s.heap.get? l = some { cls := .type "list", dict := dd, data := .seq #[.int x t] n, slots := sl } ∧ s.heap.get? b = some { cls := .type "list", dict := dd2, data := .seq #[.int y u] n2, slots := sl2 } ∧
        R (.ok (.ret (.bool (decide (x < y))))) s) := by
  intro prog w A R s h
  obtain ⟨hp, g, d, tk, os⟩ := s; obtain ⟨hl, hb, h⟩ := h
  have f3 := AutoSeq1.sub_list_list
  wp_walk using wpAny_loadPart' hl, wpAny_loadPart' hb
  exact ⟨plainId_quiet plain_eq_loop _, codeAny_builtin entry_eq_loop (by
    rw [Around.under_plainId plain_eq_loop _]
    exact lt_loop0 l b n n2 dd dd2 sl sl2 x y t u prog w A R _ ⟨hl, hb, h⟩)⟩
theorem cmp_lt_one {a b : Addr} {x y : Int} {Q : V → St → Prop} (ha : (σ.sto a).bind O.items = some [.int x]) (hb : (σ.sto b).bind O.items = some [.int y]) (h : Q (.bool (decide (x < y))) σ) : CmpOK C k F .Lt (.ref a) (.ref b) σ Q :=
  fun A s a' b' hA S ra rb => by
    cases ra; cases rb
    obtain ⟨_, us', hL, hr⟩ := S.list ha
    obtain ⟨_, vs', hL2, hr2⟩ := S.list hb
    cases hr with | cons r1 hr => cases hr with | nil => cases r1 with | int _ t =>
    cases hr2 with | cons r2 hr2 => cases hr2 with | nil => cases r2 with | int _ u =>
    obtain ⟨⟨cls, dd, data, sl⟩, ho, hc, n, hd⟩ := id hL
    obtain ⟨⟨cls2, dd2, data2, sl2⟩, ho2, hc2, n2, hd2⟩ := id hL2
    simp only at hc hd hc2 hd2
    subst hc hd hc2 hd2
    have hu : A.units < cLine := by have := hA.2.2.1; omega
    exact richCompare_meets_room (op := .Lt) ⟨_, ho, rfl⟩ ⟨_, ho2, rfl⟩ PySem.F.slot_list_lt PySem.F.entry_list_lt (PySem.F.args_list_lt_2 _ _) (list_lt1 _ _ n n2 dd dd2 sl sl2 x y t u)
      ⟨ho, ho2, show Value.bool (decide (x < y)) ≠ Value.notImplemented ∧ Post C F Rep σ s Q (.bool (decide (x < y))) s from ⟨(fun x => nomatch x), post_pure S (.bool _) h⟩⟩ hu
theorem cmp_eq_bool {x y : Bool} {Q : V → St → Prop} (h : Q (.bool (x == y)) σ) : CmpOK C k F .Eq (.bool x) (.bool y) σ Q :=
  fun A s a' b' hA S ra rb => by cases ra; cases rb; exact eq_bool (post_pure S (.bool _) h)
theorem cmp_eq_str {x y : Str} {Q : V → St → Prop} (h : Q (.bool (x == y)) σ) : CmpOK C k F .Eq (.str x) (.str y) σ Q :=
  fun A s a' b' hA S ra rb => by cases ra; cases rb; exact eq_str (post_pure S (.bool _) h)
theorem cmp_isnot_ref {a : Addr} {Q : V → St → Prop} (h : Q (.bool false) σ) : CmpOK C k F .IsNot (.ref a) (.ref a) σ Q :=
  fun A s a' b' hA S ra rb => by cases ra; cases rb; exact wpAny_isNot_ref_self (post_pure S (.bool _) h)
-- sets of numbers
def SS (C : Cx) (o : Obj) (xs : List Int) : Prop := ∃ n, n < scanBound ∧ o.SetObjOf (intKind C.prog C.w) (fun k => decide (k ∈ xs)) n
theorem any_range (xs : List Int) (k : Int) : ((List.range xs.length).map fun i => xs.getD i 0).any (· == k) = decide (k ∈ xs) := by
  have e : (List.range xs.length).map (fun i => xs.getD i 0) = xs := by
    apply List.ext_getElem (by simp)
    intro i h1 h2
    simp at h1
    simp [h1]
  rw [e]
  rw [Bool.eq_iff_iff, List.any_eq_true, decide_eq_true_iff]
  constructor
  · rintro ⟨x, hx, hk⟩; rw [beq_iff_eq] at hk; exact hk ▸ hx
  · intro hk; exact ⟨k, hk, by simp⟩
theorem call_set_ints {l : Addr} {xs : List Int} {Q : V → St → Prop} (hs : (σ.sto l).bind O.items = some (xs.map V.int)) (hl : xs.length < 200) (h : ∀ d o, σ.sto d = none → SS C o xs → Q (.ref d) (σ.setSto d (.raw o))) (hcalm : C.exc = none := by assumption) : CallOK C k F (.opq (.type "set")) [.ref l] σ Q :=
  fun A s f' us' hA S rf ru => by
    cases rf
    cases ru with | cons ra ru => cases ra; cases ru with | nil =>
    obtain ⟨hb, vs', hL, hr⟩ := S.list hs
    have hvl : vs'.toArray.size = xs.length := by simpa using hr.length
    refine PySem.call_set_list (hA.1.calm hcalm) hL (by simpa using ints_reps hr) (by rw [hvl]; unfold scanBound; omega) fun h' tk hS hk => ?_
    have kp : ∀ b o, s.heap.get? b = some o → h'.get? b = some o := fun b o e => hk b o (Heap.lt_size e) e
    obtain ⟨o, ho, hso⟩ := hS.objOf
    have hss : SS C o xs := by
      have hfl := firstMet_length_le (fun i => xs.getD i 0) vs'.toArray.size
      refine ⟨(firstMet (fun i => xs.getD i 0) vs'.toArray.size).length, by rw [hvl] at hfl ⊢; unfold scanBound; omega, ?_⟩
      have e : (fun k' => (firstMet (fun i => xs.getD i 0) vs'.toArray.size).any (· == k')) = fun k => decide (k ∈ xs) := by
        funext k'
        rw [firstMet_any, hvl, any_range]
      rw [e] at hso
      exact hso
    exact ⟨.ref s.heap.objs.size, σ.setSto s.heap.objs.size (.raw o), .ref _, S.alloc kp (get_size _) ⟨ho, not_frz_cls hso.1.1 (by decide) (by decide)⟩, .alloc kp (get_size _), h _ _ (S.fresh_none (get_size _)) hss⟩
theorem cmp_in_set {d : Addr} {o : Obj} {xs : List Int} {x : Int} {Q : V → St → Prop} (hs : σ.sto d = some (.raw o)) (ss : SS C o xs) (h : Q (.bool (decide (x ∈ xs))) σ) : CmpOK C k F .In (.int x) (.ref d) σ Q :=
  fun A s a' b' hA S ra rb => by
    cases ra; cases rb
    obtain ⟨n, hn, hso⟩ := ss
    refine wpAny_inSet_of (intKind_is _ _ _ _) rfl (hso.setOf (S.sto d _ hs).1 hn) ?_
    exact post_tok S (.bool _) h
end
end Mine
set_option Elab.async false
set_option linter.unusedVariables false
set_option linter.unusedSimpArgs false
namespace Mine
open PySem PySem.W PyProof.Rows
section
variable {lt : V → V → Bool}
-- the way down and what is due on it
def pathL (lt : V → V → Bool) (n p : Nat) (vs : List V) : List Nat := if h : 2 * p + 1 < n then p :: pathL lt n (suPick lt n vs p) vs else [p]
termination_by n - p
decreasing_by have := suPick_lt lt n vs p h; omega
theorem path_more {n p : Nat} {vs : List V} (h : 2 * p + 1 < n) : pathL lt n p vs = p :: pathL lt n (suPick lt n vs p) vs := by rw [pathL, dif_pos h]
theorem path_end {n p : Nat} {vs : List V} (h : ¬ 2 * p + 1 < n) : pathL lt n p vs = [p] := by rw [pathL, dif_neg h]
theorem path_head (n p : Nat) (vs : List V) : ∃ r, pathL lt n p vs = p :: r := by
  by_cases h : 2 * p + 1 < n
  · exact ⟨_, path_more h⟩
  · exact ⟨_, path_end h⟩
theorem path_ge (n : Nat) (vs : List V) : ∀ m p, m = n - p → ∀ q ∈ pathL lt n p vs, p ≤ q ∧ (p < n → q < n) := by
  intro m
  induction m using Nat.strongRecOn with
  | ind m ih =>
    intro p hm q hq
    by_cases h : 2 * p + 1 < n
    · rw [path_more h] at hq
      have hp := suPick_lt lt n vs p h
      rcases List.mem_cons.mp hq with e | hq
      · subst e; exact ⟨Nat.le_refl _, id⟩
      · have := ih (n - suPick lt n vs p) (by omega) _ rfl q hq
        exact ⟨by omega, fun _ => this.2 hp.1⟩
    · rw [path_end h] at hq
      rw [List.mem_singleton.mp hq]; exact ⟨Nat.le_refl _, id⟩
theorem path_up (n : Nat) (vs : List V) : ∀ m p, m = n - p → (pathL lt n p vs).Pairwise (· < ·) := by
  intro m
  induction m using Nat.strongRecOn with
  | ind m ih =>
    intro p hm
    by_cases h : 2 * p + 1 < n
    · rw [path_more h]
      have hp := suPick_lt lt n vs p h
      refine List.pairwise_cons.mpr ⟨fun q hq => ?_, ih (n - suPick lt n vs p) (by omega) _ rfl⟩
      have := (path_ge n vs _ _ rfl q hq).1
      omega
    · rw [path_end h]; exact List.pairwise_singleton _ _
theorem pick_cong {n p : Nat} {vs vs' : List V} (h : 2 * p + 2 < n → gt vs' (2 * p + 1) = gt vs (2 * p + 1) ∧ gt vs' (2 * p + 2) = gt vs (2 * p + 2)) : suPick lt n vs' p = suPick lt n vs p := by
  unfold suPick
  by_cases h2 : 2 * p + 2 < n
  · obtain ⟨e1, e2⟩ := h h2
    show (if 2 * p + 2 < n ∧ lt (gt vs' (2 * p + 1)) (gt vs' (2 * p + 2)) = false then _ else _) = if 2 * p + 2 < n ∧ lt (gt vs (2 * p + 1)) (gt vs (2 * p + 2)) = false then _ else _
    rw [e1, e2]
  · rw [if_neg (fun q => h2 q.1), if_neg (fun q => h2 q.1)]
theorem path_cong (n : Nat) (vs vs' : List V) : ∀ m p, m = n - p → (∀ q ∈ pathL lt n p vs, 2 * q + 2 < n → gt vs' (2 * q + 1) = gt vs (2 * q + 1) ∧ gt vs' (2 * q + 2) = gt vs (2 * q + 2)) → pathL lt n p vs' = pathL lt n p vs := by
  intro m
  induction m using Nat.strongRecOn with
  | ind m ih =>
    intro p hm hc
    by_cases h : 2 * p + 1 < n
    · have hp := suPick_lt lt n vs p h
      have e : suPick lt n vs' p = suPick lt n vs p := pick_cong (hc p (by rw [path_more h]; exact .head _))
      rw [path_more h, path_more h, e, ih (n - suPick lt n vs p) (by omega) _ rfl fun q hq => hc q (by rw [path_more h]; exact .tail _ hq)]
    · rw [path_end h, path_end h]
def dueW (lt : V → V → Bool) (x : V) : List Nat → List V → List V
  | [], vs => vs
  | p :: r, vs => if r.all (fun c => lt x (gt vs c)) then vs.set p x else dueW lt x r (vs.set p (gt vs (r.headD 0)))
theorem all_cong {x : V} {vs vs' : List V} {r : List Nat} (h : ∀ c ∈ r, gt vs' c = gt vs c) : r.all (fun c => lt x (gt vs' c)) = r.all (fun c => lt x (gt vs c)) := by
  rw [Bool.eq_iff_iff, List.all_eq_true, List.all_eq_true]
  exact ⟨fun q c hc => by rw [← h c hc]; exact q c hc, fun q c hc => by rw [h c hc]; exact q c hc⟩
theorem su_due (x : V) (sp n : Nat) : ∀ (m p : Nat) (vs : List V), m = n - p → vs.length = n → p < n → sp ≤ p →
    sdGo lt x sp (suGo lt n p vs).2 (suGo lt n p vs).1 = if (pathL lt n p vs).tail.all (fun c => lt x (gt vs c)) then sdGo lt x sp p vs else dueW lt x (pathL lt n p vs).tail (vs.set p (gt vs ((pathL lt n p vs).tail.headD 0))) := by
  intro m
  induction m using Nat.strongRecOn with
  | ind m ih =>
    intro p vs hm hl hp hsp
    rw [suGo]
    by_cases h : 2 * p + 1 < n
    · rw [dif_pos h, path_more h]
      have hpk := suPick_lt lt n vs p h
      have hpp : (suPick lt n vs p - 1) / 2 = p := by unfold suPick; split <;> omega
      generalize suPick lt n vs p = c at hpk hpp
      have hval : gt (vs.set p (gt vs c)) p = gt vs c := gt_set_same (by omega)
      have hoth : ∀ i, p < i → gt (vs.set p (gt vs c)) i = gt vs i := fun i hi => gt_set_ne (by omega)
      have hpe : pathL lt n c (vs.set p (gt vs c)) = pathL lt n c vs := path_cong n vs _ _ c rfl fun q hq _ => by
        have := (path_ge n vs _ _ rfl q hq).1
        exact ⟨hoth _ (by omega), hoth _ (by omega)⟩
      obtain ⟨r, er⟩ := path_head (lt := lt) n c vs
      have hrg : ∀ q ∈ r, p < q := fun q hq => by
        have := (path_ge n vs _ _ rfl q (by rw [er]; exact .tail _ hq)).1
        omega
      have := ih (n - c) (by omega) c (vs.set p (gt vs c)) rfl (by simpa using hl) hpk.1 (by omega)
      rw [this, hpe, er]
      show (if r.all (fun c' => lt x (gt (vs.set p (gt vs c)) c')) = true then _ else _) = if (c :: r).all (fun c => lt x (gt vs c)) = true then _ else dueW lt x (c :: r) (vs.set p (gt vs c))
      rw [all_cong (fun q hq => hoth q (hrg q hq))]
      have e2 : (vs.set p (gt vs c)).set c (gt vs c) = vs.set p (gt vs c) := by
        have q : gt (vs.set p (gt vs c)) c = gt vs c := gt_set_ne (by omega)
        have z := set_same (vs.set p (gt vs c)) c
        rwa [q] at z
      by_cases ha : r.all (fun c => lt x (gt vs c)) = true
      · rw [if_pos ha, sdGo, dif_pos (by omega), hpp]
        show (if lt x (gt (vs.set p (gt vs c)) p) = true then _ else _) = _
        rw [hval]
        by_cases hc : lt x (gt vs c) = true
        · rw [if_pos hc, if_pos (by rw [List.all_cons, hc, ha]; rfl)]
          show sdGo lt x sp p ((vs.set p (gt vs c)).set c (gt (vs.set p (gt vs c)) p)) = _
          rw [hval, e2, sd_hole]
        · rw [if_neg hc, if_neg (by rw [List.all_cons, Bool.and_eq_true]; exact fun q => hc q.1)]
          unfold dueW
          rw [all_cong (fun q hq => hoth q (hrg q hq)), if_pos ha]
      · rw [if_neg ha, if_neg (by rw [List.all_cons, Bool.and_eq_true]; exact fun q => ha q.2)]
        rw [show dueW lt x (c :: r) (vs.set p (gt vs c)) = if r.all (fun c' => lt x (gt (vs.set p (gt vs c)) c')) then (vs.set p (gt vs c)).set c x else dueW lt x r ((vs.set p (gt vs c)).set c (gt (vs.set p (gt vs c)) (r.headD 0))) from rfl]
        rw [all_cong (fun q hq => hoth q (hrg q hq)), if_neg ha]
        rfl
    · rw [dif_neg h, path_end h]
      simp
theorem siftup_due {vs : List V} {p : Nat} (hp : p < vs.length) : siftup lt vs p = dueW lt (gt vs p) (pathL lt vs.length p vs) vs := by
  unfold siftup
  rw [sd_hole]
  have := su_due (lt := lt) (gt vs p) p vs.length _ p vs rfl rfl hp (Nat.le_refl _)
  show sdGo lt (gt vs p) p _ _ = _
  rw [this]
  obtain ⟨r, er⟩ := path_head (lt := lt) vs.length p vs
  rw [er]
  show (if r.all (fun c => lt (gt vs p) (gt vs c)) = true then _ else _) = if r.all (fun c => lt (gt vs p) (gt vs c)) = true then _ else _
  by_cases ha : r.all (fun c => lt (gt vs p) (gt vs c)) = true
  · rw [if_pos ha, if_pos ha, sdGo, dif_neg (Nat.lt_irrefl _)]
  · rw [if_neg ha, if_neg ha]; rfl

-- only what is seen counts
def maskL (seen : List Int) (vs : List V) : List V := (List.range vs.length).map fun (i : Nat) => if (i : Int) ∈ seen then gt vs i else .none
theorem mask_length (seen : List Int) (vs : List V) : (maskL seen vs).length = vs.length := by simp [maskL]
theorem mask_at {seen : List Int} {vs : List V} {i : Nat} (h : i < vs.length) : gt (maskL seen vs) i = if (i : Int) ∈ seen then gt vs i else .none := by
  rw [gt_eq (by rw [mask_length]; exact h)]
  simp [maskL]
theorem mask_set {seen : List Int} {vs : List V} {p : Nat} {y : V} (hp : (p : Int) ∈ seen) : maskL seen (vs.set p y) = (maskL seen vs).set p y := by
  apply List.ext_getElem (by simp [mask_length])
  intro i h1' h2
  have h1 : i < vs.length := by rw [mask_length, List.length_set] at h1'; exact h1'
  have e1 := mask_at (seen := seen) (vs := vs.set p y) (i := i) (by simpa using h1)
  have e2 : gt ((maskL seen vs).set p y) i = if i = p then y else gt (maskL seen vs) i := by
    by_cases q : i = p
    · subst q; rw [gt_set_same (by rw [mask_length]; exact h1), if_pos rfl]
    · rw [gt_set_ne q, if_neg q]
  rw [gt_eq (by rw [mask_length]; simpa using h1)] at e1
  rw [gt_eq (by rw [List.length_set, mask_length]; exact h1)] at e2
  rw [e1, e2]
  by_cases q : i = p
  · subst q; rw [if_pos hp, if_pos rfl, gt_set_same h1]
  · rw [if_neg q, mask_at h1, gt_set_ne q]
theorem due_mask {seen : List Int} {x : V} : ∀ (w : List Nat) (vs : List V), (∀ c ∈ w, c < vs.length ∧ (c : Int) ∈ seen) → dueW lt x w (maskL seen vs) = maskL seen (dueW lt x w vs)
  | [], vs, _ => rfl
  | p :: r, vs, h => by
    have hc : ∀ c ∈ r, gt (maskL seen vs) c = gt vs c := fun c hc => by
      obtain ⟨h1, h2⟩ := h c (.tail _ hc)
      rw [mask_at h1, if_pos h2]
    have hp := h p (.head _)
    unfold dueW
    rw [all_cong hc]
    by_cases ha : r.all (fun c => lt x (gt vs c)) = true
    · rw [if_pos ha, if_pos ha, mask_set hp.2]
    · rw [if_neg ha, if_neg ha]
      cases r with
      | nil => simp at ha
      | cons c r =>
        show dueW lt x (c :: r) ((maskL seen vs).set p (gt (maskL seen vs) c)) = maskL seen (dueW lt x (c :: r) (vs.set p (gt vs c)))
        rw [hc c (.head _), ← mask_set hp.2]
        exact due_mask (c :: r) (vs.set p (gt vs c)) fun q hq => by simpa using h q (.tail _ hq)
theorem siftup_mask {seen : List Int} {vs : List V} {p : Nat} (hp : p < vs.length) (hw : ∀ q ∈ pathL lt vs.length p vs, (q : Int) ∈ seen) (hk : ∀ q ∈ pathL lt vs.length p vs, 2 * q + 2 < vs.length → ((2 * q + 1 : Nat) : Int) ∈ seen ∧ ((2 * q + 2 : Nat) : Int) ∈ seen) :
    siftup lt (maskL seen vs) p = maskL seen (siftup lt vs p) ∧ pathL lt vs.length p (maskL seen vs) = pathL lt vs.length p vs := by
  have hpe : pathL lt vs.length p (maskL seen vs) = pathL lt vs.length p vs := path_cong vs.length vs _ _ p rfl fun q hq h2 => by
    obtain ⟨k1, k2⟩ := hk q hq h2
    rw [mask_at (by omega), mask_at (by omega), if_pos k1, if_pos k2]
    exact ⟨rfl, rfl⟩
  refine ⟨?_, hpe⟩
  rw [siftup_due hp, siftup_due (by rw [mask_length]; exact hp), mask_length, hpe, ← due_mask _ _ fun q hq => ⟨(path_ge vs.length vs _ p rfl q hq).2 hp, hw q hq⟩]
  congr 1
  obtain ⟨r, er⟩ := path_head (lt := lt) vs.length p vs
  rw [mask_at hp, if_pos (hw p (by rw [er]; exact .head _))]
/-- beside the way -/
def sibI (k : Int) : Int := k - 1 + 2 * k.fmod 2
theorem path_kids (n : Nat) (vs : List V) : ∀ m p, m = n - p → ∀ q ∈ pathL lt n p vs, 2 * q + 2 < n → ∃ c ∈ (pathL lt n p vs).tail, (c = 2 * q + 1 ∨ c = 2 * q + 2) := by
  intro m
  induction m using Nat.strongRecOn with
  | ind m ih =>
    intro p hm q hq h2
    by_cases h : 2 * p + 1 < n
    · have hpk := suPick_lt lt n vs p h
      rw [path_more h] at hq ⊢
      rcases List.mem_cons.mp hq with e | hq
      · subst e
        obtain ⟨r, er⟩ := path_head (lt := lt) n (suPick lt n vs q) vs
        refine ⟨suPick lt n vs q, by rw [List.tail_cons, er]; exact .head _, ?_⟩
        unfold suPick; split <;> omega
      · obtain ⟨c, hc, e⟩ := ih (n - suPick lt n vs p) (by omega) _ rfl q hq h2
        exact ⟨c, List.mem_of_mem_tail hc, e⟩
    · rw [path_end h] at hq
      rw [List.mem_singleton.mp hq] at h2; omega
theorem seen_ok {n p : Nat} {vs : List V} {seen : List Int} (hs : seen = (pathL lt n p vs).map (fun (i : Nat) => (i : Int)) ++ ((pathL lt n p vs).tail.map fun (i : Nat) => (i : Int)).map sibI) :
    (∀ q ∈ pathL lt n p vs, (q : Int) ∈ seen) ∧ ∀ q ∈ pathL lt n p vs, 2 * q + 2 < n → ((2 * q + 1 : Nat) : Int) ∈ seen ∧ ((2 * q + 2 : Nat) : Int) ∈ seen := by
  have hw : ∀ q ∈ pathL lt n p vs, (q : Int) ∈ seen := fun q hq => by
    rw [hs]; exact List.mem_append.mpr (.inl (List.mem_map.mpr ⟨q, hq, rfl⟩))
  refine ⟨hw, fun q hq h2 => ?_⟩
  obtain ⟨c, hc, e⟩ := path_kids n vs _ p rfl q hq h2
  have h1 := hw c (List.mem_of_mem_tail hc)
  have hsb : sibI (c : Int) ∈ seen := by
    rw [hs]
    refine List.mem_append.mpr (.inr (List.mem_map.mpr ⟨c, List.mem_map.mpr ⟨c, hc, rfl⟩, rfl⟩))
  have hf : (c : Int).fmod 2 = ((c % 2 : Nat) : Int) := by rw [Int.fmod_eq_emod_of_nonneg _ (by omega)]; omega
  rcases e with e | e
  · have e2 : sibI (c : Int) = ((2 * q + 2 : Nat) : Int) := by unfold sibI; rw [hf]; omega
    rw [e2] at hsb
    rw [e] at h1
    exact ⟨h1, hsb⟩
  · have e2 : sibI (c : Int) = ((2 * q + 1 : Nat) : Int) := by unfold sibI; rw [hf]; omega
    rw [e2] at hsb
    rw [e] at h1
    exact ⟨hsb, h1⟩
end
end Mine
set_option Elab.async false
set_option linter.unusedVariables false
set_option linter.unusedSimpArgs false
namespace Mine
open PySem PySem.W PyProof.Rows
section
variable {C : Cx} {k : Nat} {F : FE} {σ : St}
-- lists of one number each
def isR (rs : List Addr) (v : V) : Prop := ∃ a ∈ rs, v = .ref a
def ltR (val : Addr → Int) : V → V → Bool
  | .ref a, .ref b => decide (val a < val b)
  | _, _ => false
def PR (rs : List Addr) (val : Addr → Int) (sto : Addr → Option O) : Prop := ∀ a ∈ rs, sto a = some (.lst [.int (val a)])
theorem ord_R {rs : List Addr} {val : Addr → Int} : Ord C (isR rs) (ltR val) (PR rs val) := ⟨fun k F σ x y Q hp hx hy h => by
  obtain ⟨a, ha, rfl⟩ := hx
  obtain ⟨b, hb, rfl⟩ := hy
  exact cmp_lt_one (by simp [hp a ha, O.items]) (by simp [hp b hb, O.items]) h⟩
theorem PR.keep {rs : List Addr} {val : Addr → Int} {s s' : Addr → Option O} (h : PR rs val s) (k : KeepA s s') : PR rs val s' := fun a ha => k _ _ (h a ha)
theorem PR.upd {rs : List Addr} {val : Addr → Int} {s : Addr → Option O} {d : Addr} {o : O} (h : PR rs val s) (hd : d ∉ rs) : PR rs val (fun b => if b = d then some o else s b) := fun a ha => by
  have : a ≠ d := fun e => hd (e ▸ ha)
  simp [this, h a ha]
theorem PR.fresh {rs : List Addr} {val : Addr → Int} {s : Addr → Option O} {d : Addr} (h : PR rs val s) (hd : s d = none) : d ∉ rs := fun hm => by rw [h d hm] at hd; cases hd
theorem free3 {scope : Scope} {cl : List (Str × Addr)} {x y z : Str} {u v w : V} {loc : List (Str × V)} (h1 : loc.lookup x = some u ∧ (F.env.kindOf x = some .cell ∨ F.env.kindOf x = some .free) ∧ ((relabel scope F.env).names.lookup x = some .cell ∨ (relabel scope F.env).names.lookup x = some .free) ∧ cl.lookup x = F.env.cells.lookup x)
    (h2 : loc.lookup y = some v ∧ (F.env.kindOf y = some .cell ∨ F.env.kindOf y = some .free) ∧ ((relabel scope F.env).names.lookup y = some .cell ∨ (relabel scope F.env).names.lookup y = some .free) ∧ cl.lookup y = F.env.cells.lookup y)
    (h3 : loc.lookup z = some w ∧ (F.env.kindOf z = some .cell ∨ F.env.kindOf z = some .free) ∧ ((relabel scope F.env).names.lookup z = some .cell ∨ (relabel scope F.env).names.lookup z = some .free) ∧ cl.lookup z = F.env.cells.lookup z) :
    FreeOk F scope cl [(x, u), (y, v), (z, w)] loc := fun t r e => by
  rw [List.lookup_cons] at e
  by_cases q : (t == x) = true
  · rw [q] at e; cases e; rw [beq_iff_eq.mp q]; exact h1
  · rw [show (t == x) = false by simpa using q, List.lookup_cons] at e
    by_cases q2 : (t == y) = true
    · rw [q2] at e; cases e; rw [beq_iff_eq.mp q2]; exact h2
    · rw [show (t == y) = false by simpa using q2, List.lookup_cons] at e
      by_cases q3 : (t == z) = true
      · rw [q3] at e; cases e; rw [beq_iff_eq.mp q3]; exact h3
      · rw [show (t == z) = false by simpa using q3] at e; simp at e
theorem mod2 (q : Nat) : (q : Int).fmod 2 = ((q % 2 : Nat) : Int) := by rw [Int.fmod_eq_emod_of_nonneg _ (by omega)]; omega
end
end Mine
set_option Elab.async false
set_option linter.unusedVariables false
set_option linter.unusedSimpArgs false
set_option maxRecDepth 100000
namespace Mine
open PySem PySem.W PyProof.Rows

-- a part of a heap
open Classical in
noncomputable def partH (h : Heap) (P : Addr → Prop) : Heap := ⟨h.objs.mapIdx fun i o => if P i then o else { cls := .none, data := .freed }, h.life⟩
theorem part_in {h : Heap} {P : Addr → Prop} {b : Addr} (hb : P b) : (partH h P).get? b = h.get? b := by
  unfold partH Heap.get?
  simp only [Array.getElem?_mapIdx]
  cases h.objs[b]? with
  | none => rfl
  | some o => simp [hb]
theorem part_out {h : Heap} {P : Addr → Prop} {b : Addr} (hb : ¬ P b) : (partH h P).get? b = none := by
  unfold partH Heap.get?
  simp only [Array.getElem?_mapIdx]
  cases h.objs[b]? with
  | none => rfl
  | some o => simp [hb]

section
variable {C : Cx} {k : Nat} {F : FE} {σ : St}
theorem CxOk.more {GB' : Heap} {x : Option Addr} (cx : CxOk C) (hk : ∀ b o, C.GB.get? b = some o → GB'.get? b = some o) : CxOk { C with GB := GB', exc := x } := ⟨cx.g.keeps hk, cx.b.keeps hk, cx.nolimit.keeps hk, cx.gt⟩
theorem FnAt.more {GB' : Heap} {x : Option Addr} {a : Addr} {fd : FuncData} {body : List Stmt} {names : List Str} (f : FnAt C a fd body names) (hk : ∀ b o, C.GB.get? b = some o → GB'.get? b = some o) : FnAt { C with GB := GB', exc := x } a fd body names :=
  ⟨let ⟨o, h1, h2⟩ := f.obj; ⟨o, hk _ _ h1, h2⟩, f.code.keeps hk, f.body, f.clo, f.globals, f.builtins, f.kind, f.co, f.gen, f.nodup, f.cnodup, f.kinds, f.bind⟩
theorem Fn.more {GB' : Heap} {x : Option Addr} {p : Program} {n : Str} {a : Addr} (f : Fn C p n a) (hk : ∀ b o, C.GB.get? b = some o → GB'.get? b = some o) : Fn { C with GB := GB', exc := x } p n a := let ⟨pm, cd, doc, g⟩ := f; ⟨pm, cd, doc, g.more hk⟩
theorem Sim.less {GB GB' h : Heap} (S : Sim GB' F σ h) (hk : ∀ b o, GB.get? b = some o → GB'.get? b = some o) : Sim GB F σ h := by
  have hn : ∀ b, GB'.get? b = none → GB.get? b = none := fun b hb => by
    cases hq : GB.get? b with
    | none => rfl
    | some o => rw [hk b o hq] at hb; cases hb
  exact ⟨fun b o e => S.base b o (hk b o e), S.frame, S.cells, S.apart, S.sto, S.inOwn, S.ownIs, fun b hb => hn b (S.new b hb), fun a o e => ⟨fun m => hn a ((S.off a o e).1 m), (S.off a o e).2⟩⟩
theorem Sim.moreB {GB GB' h : Heap} (S : Sim GB F σ h) (hk : ∀ b o, GB'.get? b = some o → h.get? b = some o) (hn : ∀ b ∈ F.own, GB'.get? b = none) (hs : ∀ a o, σ.sto a = some o → o.isMut = true → GB'.get? a = none) : Sim GB' F σ h :=
  ⟨hk, S.frame, S.cells, S.apart, S.sto, S.inOwn, S.ownIs, hn, fun a o e => ⟨hs a o e, (S.off a o e).2⟩⟩

-- what raises, with its words
def XPW (C : Cx) (F : FE) (σ : St) (s : Shared) (cls : String) (msg : Str) (X : St → Prop) : Value → Shared → Prop := fun e s' =>
  ∃ ea s₀ σ' ob t0 tk, e = .ref ea ∧ (∀ b o, s₀.heap.get? b = some o → s'.heap.get? b = some o) ∧ s₀.heap.get? ea = none ∧ s'.heap.get? ea = some ob ∧ ob.cls = .type cls ∧ ob.data = .fields #[.ref t0, .none, .none, .none, .bool false, .none] ∧ s₀.heap.TupAt t0 [.str msg tk] ∧
    Sim C.GB F σ' s₀.heap ∧ Mod F.own σ σ' s s₀ ∧ s' = { s₀ with heap := s'.heap, toks := s'.toks } ∧ X σ'
def RTW (C : Cx) (k : Nat) (F : FE) {α : Type} (t : Sem α) (σ : St) (cls : String) (msg : Str) (X : St → Prop) : Prop :=
  ∀ A s, Room C k F A → Sim C.GB F σ s.heap → wpAny (model C.prog C.w) A t (fun _ _ => False) (XPW C F σ s cls msg X) s
theorem xpw_on {σ₁ : St} {s s₁ : Shared} {cls : String} {msg : Str} {X : St → Prop} {e : Value} {s' : Shared} (M : Mod F.own σ σ₁ s s₁) (h : XPW C F σ₁ s₁ cls msg X e s') : XPW C F σ s cls msg X e s' :=
  let ⟨ea, s₀, σ', ob, t0, tk, e1, e2, e3, e4, e5, e6, e7, S, M', e8, x⟩ := h; ⟨ea, s₀, σ', ob, t0, tk, e1, e2, e3, e4, e5, e6, e7, S, M.trans' M', e8, x⟩
theorem wx_here {st : Stmt} {r : List Stmt} {cls : String} {msg : Str} {X : St → Prop} (h : RTW C k F (exec st F.env) σ cls msg X) : RTW C k F (execs (st :: r) F.env) σ cls msg X :=
  fun A s hA S => wpAny_execs_cons (wpAny_mono (h A s hA S) (fun _ _ x => x.elim) fun _ _ x => x)
theorem wx_go {st : Stmt} {r : List Stmt} {cls : String} {msg : Str} {X : St → Prop} (h : TS C k F st σ fun fl σ₁ => fl = .next ∧ RTW C k F (execs r F.env) σ₁ cls msg X) : RTW C k F (execs (st :: r) F.env) σ cls msg X :=
  fun A s hA S => wpAny_execs_cons (wpAny_mono (h A s hA S) (fun f' s₁ ⟨fl, σ₁, rf, S₁, M₁, e, h₁⟩ => by
    subst e
    cases rf
    exact wpAny_mono (h₁ A s₁ hA S₁) (fun _ _ x => x.elim) fun _ _ x => xpw_on M₁ x) fun _ _ x => x.elim)
theorem w_assign {x : Str} {p' p : Pos} {e : Expr} {cls : String} {msg : Str} {X : St → Prop} (h : RTW C k F (eval e F.env) σ cls msg X) (hs : swapsWith e (some (.Name x p')) p.line F.env = pure false := by rfl) : RTW C k F (exec (.Assign [.Name x p'] e p) F.env) σ cls msg X :=
  fun A s hA S => wpAny_Assign_Name (wpAny_mono (h A s hA S) (fun _ _ x => x.elim) fun _ _ x => x) hs
/-- an error of the words' own -/
theorem raise_words {α : Type} {M : Model} {A : Around} {E : Value → Shared → Prop} {s : Shared} {cls msg : String} {Q : α → Shared → Prop} (hp : PlainExc cls) (hh : A.handled = none)
    (h : ∀ (h₀ h' : Heap) (tk : Nat) (e : Addr) (ob : Obj) (t0 : Addr) (tk0 : Tok), (∀ b o, s.heap.get? b = some o → h₀.get? b = some o) → (∀ b o, h₀.get? b = some o → h'.get? b = some o) → h₀.get? e = none → h'.get? e = some ob → ob.cls = .type cls → ob.data = .fields #[.ref t0, .none, .none, .none, .bool false, .none] → h₀.TupAt t0 [.str (msg : Str) tk0] → E (.ref e) { s with heap := h', toks := tk }) :
    wpAny M A (raiseErrorWords cls msg : Sem α) Q E s := by
  unfold raiseErrorWords
  refine wpAny_bind (wpAny_mkText (wpAny_bind ?_))
  unfold newExc newTuple
  refine wpAny_bind (wpAny_newObj_type ?_)
  refine wpAny_bind (m := firstArgMember _ _) (wpAny_of_eq (a := Value.none) (by simp only [firstArgMember, hp.first]; rfl) ?_)
  rw [hp.own]
  refine wpAny_newObj_type ?_
  unfold raiseNew
  refine wpAny_bind (wpAny_handled ?_)
  rw [hh]
  first
    | refine wpAny_throw (h (s.heap.push { cls := .type "tuple", data := .seq [Value.str (msg : Str) s.toks].toArray }) _ _ _ _ s.heap.objs.size s.toks (fun b o e => Heap.get?_push_of_some _ e) (fun b o e => Heap.get?_push_of_some _ e) (get_size _) (Heap.get?_push_size _ rfl) rfl ?_ ⟨_, 0, Heap.get?_push_size _ rfl, rfl, rfl⟩)
    | refine wpAny_bind (wpAny_pure (wpAny_throw (h (s.heap.push { cls := .type "tuple", data := .seq [Value.str (msg : Str) s.toks].toArray }) _ _ _ _ s.heap.objs.size s.toks (fun b o e => Heap.get?_push_of_some _ e) (fun b o e => Heap.get?_push_of_some _ e) (get_size _) (Heap.get?_push_size _ rfl) rfl ?_ ⟨_, 0, Heap.get?_push_size _ rfl, rfl, rfl⟩)))
  simp
theorem item_words {prog : Program} {w : World} {A : Around} {E : Value → Shared → Prop} {s : Shared} {l : Addr} {items : Array Value} {j : Nat} {t : Tok} {Q : Value → Shared → Prop} (hA : A.handled = none) (hl : s.heap.IsList l items) (hout : items.size ≤ j) (hfit : Builtin.List.listFitsIndex (j : Int) = true)
    (h : ∀ (h₀ h' : Heap) (tk : Nat) (e : Addr) (ob : Obj) (t0 : Addr) (tk0 : Tok), (∀ b o, s.heap.get? b = some o → h₀.get? b = some o) → (∀ b o, h₀.get? b = some o → h'.get? b = some o) → h₀.get? e = none → h'.get? e = some ob → ob.cls = .type "IndexError" → ob.data = .fields #[.ref t0, .none, .none, .none, .bool false, .none] → h₀.TupAt t0 [.str (Str.ofString "list index out of range") tk0] → E (.ref e) { s with heap := h', toks := tk }) :
    wpAny (model prog w) A (getItem (.ref l) (.int (j : Int) t)) Q E s := by
  obtain ⟨o, ho, hc, ne, hd⟩ := id hl
  generalize hkj : (j : Int) = kk at hfit ⊢
  unfold getItem
  try with_reducible refine wpAny_holding ?_
  first | refine wpAny_bind (wpAny_pure ?_) | skip
  refine wpAny_bind (wpAny_sequenceKey hl.typeIs (by decide) ?_)
  refine wpAny_bind (wpAny_callSpecial?_slot (name := Str.ofString "__getitem__") hl.typeIs slot_list_getitem
    (wpAny_call_entry slot_list_getitem hl.typeIs entry_list_getitem ?_ (args_list_getitem _ _)))
  unfold Builtin.«list.__getitem__»
  refine wpAny_bind (wpAny_of_eq (a := (Value.ref l, Value.int kk t)) rfl ?_)
  dsimp only
  refine wpAny_bind (wpAny_listSubscript_int hfit ?_)
  clear hfit
  cases kk with
  | negSucc j' => exact absurd hkj (by intro q; have := Int.negSucc_lt_zero j'; omega)
  | ofNat j' =>
    have hjj : j = j' := Int.ofNat.inj hkj
    subst hjj
    have hx : items[j]? = none := Array.getElem?_eq_none hout
    show wpAny _ _ ((seqItemAt l j >>= fun r => pure (r.map (j, ·))) >>= _) _ _ s
    refine wpAny_bind (wpAny_bind (wpAny_seqItemAt ho hd (wpAny_pure ?_)))
    rw [hx]
    first
      | exact wpAny_bind (wpAny_rule (raise_words PySem.plainExc_IndexError hA h))
      | exact wpAny_bind (wpAny_rule (wpAny_bind (raise_words PySem.plainExc_IndexError hA h)))
      | exact wpAny_bind (wpAny_bind (wpAny_rule (raise_words PySem.plainExc_IndexError hA h)))
      | exact wpAny_rule (raise_words PySem.plainExc_IndexError hA h)
theorem w_item {o i : Expr} {p : Pos} {X : St → Prop} (h : TE C k F o σ fun a σ₁ => TE C k F i σ₁ fun b σ₂ => ∃ l vs n, a = .ref l ∧ b = .int (n : Nat) ∧ (σ₂.sto l).bind O.items = some vs ∧ vs.length ≤ n ∧ Builtin.List.listFitsIndex (n : Int) = true ∧ X σ₂)
    (hcalm : C.exc = none) (hsl : ∀ o' i', subscripted i false o' i' = operate [o', i'] (getItem o' i') := by intro _ _; with_unfolding_all rfl) : RTW C k F (eval (.Subscript o i p) F.env) σ "IndexError" (Str.ofString "list index out of range") X :=
  fun A s hA S => Subscript_ (wpAny_mono (h A s hA S) (fun a' s₁ ⟨a, σ₁, ra, S₁, M₁, h₁⟩ => wpAny_mono (h₁ A s₁ hA S₁) (fun b' s₂ ⟨b, σ₂, rb, S₂, M₂, l, vs, n, ea, eb, hs, hn, hb, hX⟩ => by
    subst ea eb
    cases ra
    cases rb
    obtain ⟨hl, vs', hL, hr⟩ := S₂.list hs
    refine tail_any hL.typeIs slot_list_getitem.lookup (item_words (hA.1.calm hcalm) hL (by simpa [hr.length] using hn) hb fun h₀ h' tk e ob t0 tk0 k1 k2 e1 e2 e3 e4 e5 => ?_) (hsl _ _)
    exact ⟨e, { s₂ with heap := h₀ }, σ₂, ob, t0, tk0, rfl, k2, e1, e2, e3, e4, e5, S₂.keeps k1, (M₁.trans' M₂).trans' (.pure (F := F) (tk := s₂.toks) k1), rfl, hX⟩) fun _ _ x => x.elim) fun _ _ x => x.elim)
/-- the words of an exception -/
theorem call_str_exc {ea t0 : Addr} {msg : Str} {tk : Tok} {Q : V → St → Prop} (hx : C.GB.ExcAt ea "IndexError" (.ref t0)) (ht : C.GB.TupAt t0 [.str msg tk]) (h : Q (.str msg) σ) : CallOK C k F (.opq (.type "str")) [.ref ea] σ Q :=
  fun A s f' us' hA S rf ru => by
    cases rf
    cases ru with | cons ra ru => cases ra; cases ru with | nil =>
    obtain ⟨o, vs, ho, r⟩ := hx
    obtain ⟨ot, n, hot, r2⟩ := ht
    obtain ⟨hp, g, d, tk', os⟩ := s
    exact P.str_of_exc_one PySem.F.excStr_IndexError (by have := hA.2.2.1; omega) ⟨o, vs, S.base _ _ ho, r⟩ ⟨ot, n, S.base _ _ hot, r2⟩ (post_pure (s := ⟨hp, g, d, tk', os⟩) S (.str _ _) h)
end
end Mine
set_option Elab.async false
set_option linter.unusedVariables false
set_option linter.unusedSimpArgs false
set_option maxRecDepth 100000
namespace Mine
open PySem PySem.W PyProof.Rows
section
variable {C : Cx} {k : Nat} {F : FE} {σ : St}
set_option maxHeartbeats 2000000 in
theorem x_tryAs {aw : Addr} {fdw : FuncData} {bodyw r : List Stmt} {namesw : List Str} {fname n msg : Str} {ws : List V} {es : List Expr} {e : Expr} {pT pE pC pN pH pI pR : Pos} {Q : Fl → St → Prop}
    (cx : CxOk C) (ok : EnvOk F.env) (hcalm : C.exc = none) (gI : C.GT.lookup (Str.ofString "IndexError") = some (.opq (.type "IndexError")))
    (fw : FnAt C aw fdw bodyw namesw) (hlen : ws.length = namesw.length)
    (hargs : TE C (k + 1) F (.Name fname pN) σ fun f σ₁ => TEs C (k + 1) F pC es σ₁ fun vs σ₂ => f = .ref aw ∧ vs = ws ∧ σ₂ = σ)
    (hfr : F.frames = [F.env]) (hfe : F.env.frame = some F.env.locals) (hlo : F.env.kindOf n = some .local)
    (hx : ∀ L fr, RTW C k (frameOf fdw L aw fr) (execs bodyw (frameOf fdw L aw fr).env) ⟨namesw.zip ws, σ.sto⟩ "IndexError" msg (fun σ' => σ'.sto = σ.sto))
    (hh : ∀ (GB' : Heap) (ea t0 : Addr) (tk : Tok), (∀ b o, C.GB.get? b = some o → GB'.get? b = some o) → GB'.ExcAt ea "IndexError" (.ref t0) → GB'.TupAt t0 [.str msg tk] → TE { C with GB := GB', exc := some ea } (k + 1) F e (σ.setLoc n (.ref ea)) fun v _ => v = .bool true)
    (hQ : ∀ σ', Q (.ret (.bool true)) σ')
    (hI : F.env.kindOf (Str.ofString "IndexError") = some .globalImplicit := by rfl)
    (hint : interactive F.env = false := by rfl) (hsw : swapsWith (.Call (.Name fname pN) es [] pC) none pE.line F.env = pure false := by rfl)
    (hn : eval (.Call (.Name fname pN) es [] pC) F.env = (do callWith pC (← eval (.Name fname pN) F.env) [] (backTo pC (starEach es F.env)) (backToKw pC (keywordEach [] F.env))) := by rfl)
    (hs : (starEach es F.env).all (fun x => !x.1) = true := by rfl) (hes : ∃ t r', backTo pC (starEach es F.env) = (false, t) :: r' := by exact ⟨_, _, rfl⟩) :
    TX C (k + 1) F (.Try [.Expr (.Call (.Name fname pN) es [] pC) pE] [.ExceptHandler (some (.Name (Str.ofString "IndexError") pI)) (some n) [.Return (some e) pR] pH] [] [] pT :: r) σ Q := by
  intro A s hA S
  refine wpAny_execs_cons (wpAny_Try_except ?_)
  refine wpAny_execs_cons (wpAny_Expr_any ?_ hint hsw)
  rw [hn]
  refine wpAny_bind (wpAny_mono (hargs A s hA S) (fun f' s₁ ⟨f, σ₁, rf, S₁, M₁, h₁⟩ => ?_) fun _ _ x => x.elim)
  have hst : ((backTo pC (starEach es F.env)).any (·.1) || (backToKw pC (keywordEach [] F.env)).any (·.1.isNone)) = false := by
    have : (backTo pC (starEach es F.env)).any (·.1) = false := by
      rw [List.any_eq_false]
      intro x hx
      obtain ⟨y, hy, rfl⟩ := List.mem_map.mp hx
      have := List.all_eq_true.mp hs y hy
      simpa using this
    rw [this]; rfl
  refine callWith_of (P := fun h => f' = .ref aw ∧ IsFun C.GB (.ref aw) ∧ ∀ b o, C.GB.get? b = some o → h.get? b = some o) hst (fun h ⟨er, hf, hb⟩ => by subst er; exact keeper_of hf (.ref aw) hb) ?_
  obtain ⟨t, r', het⟩ := hes
  rw [het]
  refine Calls.evalArgs_plain ?_
  rw [← het]
  refine wpAny_mono (h₁ A s₁ hA S₁) (fun vs' s₂ ⟨vs, σ₂, rv, S₂, M₂, ef, ev, eσ⟩ => ?_) fun _ _ x => x.elim
  subst ef ev eσ
  cases rf
  have M₁₂ : Mod F.own σ₂ σ₂ s s₂ := M₁.trans S₁ M₂
  refine ⟨⟨rfl, fw.isFun, S₂.base⟩, ?_⟩
  show wpAny _ _ (call (.ref aw) vs' []) _ _ s₂
  refine wpAny_call (enter_own (s := s₂) (vs := vs) cx fw hlen hA S₂ rv fun s₃ S₃ hA₃ k₃ e₃ own₃ => ?_)
  refine wpAny_mono (hx _ _ _ s₃ hA₃ S₃) (fun _ _ x => x.elim) (fun ev s₄ ⟨ea, s₀, σ', ob, t0, tk, e1, nk, nn, hob, hcl, hdt, htup, S₀, M₀, r₀, hsto⟩ => ?_)
  subst e1
  have toS₀ : ∀ b o, s₂.heap.get? b = some o → σ₂.fixed b → s₀.heap.get? b = some o := fun b o ho hfx =>
    M₀.keep b o (k₃ b o ho) hfx fun hm => absurd (Heap.lt_size ho) (Nat.not_lt.mpr (own₃ b hm))
  have off₀ : ∀ o', σ₂.sto F.env.locals = some o' → False := fun o' e => (S₂.off _ o' e).2.1 rfl
  have ns1 : ∃ m, s₀.heap.Ns s₂.heap.objs.size m := let ⟨m, hn, _⟩ := S₀.frame; ⟨m, hn⟩
  have ns0 : ∃ m, s₀.heap.Ns F.env.locals m := by
    obtain ⟨m, ⟨o, es, ep, ho, r⟩, _⟩ := S₂.frame
    exact ⟨m, o, es, ep, toS₀ _ _ ho fun o' e => (off₀ o' e).elim, r⟩
  have hFr : ∀ hh : Heap, (∀ b o, s₀.heap.get? b = some o → hh.get? b = some o) → hh.FunFrames C.GB (callEnvC fdw s₂.heap.objs.size aw :: [F.env]) := fun hh kk => by
    obtain ⟨m1, n1⟩ := ns1
    obtain ⟨m0, n0⟩ := ns0
    refine Heap.FunFrames.cons ?_ rfl (n1.keeps kk) (S₃.new _ S₃.inOwn) (Heap.FunFrames.cons (by rw [ok.kind]; decide) hfe (n0.keeps kk) (S₂.new _ S₂.inOwn) trivial)
    show fdw.scope.kind ≠ _; rw [fw.kind]; decide
  have hfr1 : (A.deeper (callEnvC fdw s₂.heap.objs.size aw)).frames = some (callEnvC fdw s₂.heap.objs.size aw :: [F.env]) := by
    have := hA₃.2.2.2
    rw [show (frameOf fdw s₂.heap.objs.size aw F.frames).frames = callEnvC fdw s₂.heap.objs.size aw :: F.frames from rfl, hfr] at this
    exact this
  have hfr0 : A.frames = some [F.env] := by rw [hA.2.2.2, hfr]
  have hS2 : ∀ b ∈ (callEnvC fdw s₂.heap.objs.size aw :: [F.env]).filterMap (·.frame), b ∈ [s₂.heap.objs.size, F.env.locals] ∨ s₀.heap.get? b = none := fun b hb => by
    left
    simp only [List.filterMap_cons, List.filterMap_nil, hfe] at hb
    exact hb
  have hS1 : ∀ b ∈ ([F.env] : List Env).filterMap (·.frame), b ∈ [s₂.heap.objs.size, F.env.locals] ∨ s₀.heap.get? b = none := fun b hb => by
    left
    simp only [List.filterMap_cons, List.filterMap_nil, hfe] at hb
    exact .tail _ hb
  show wpAny _ _ (leaving _ (.ref ea)) _ _ s₄
  unfold leaving
  refine wpAny_bind (fly_first (h0 := s₀.heap) (base := C.GB) (S := [s₂.heap.objs.size, F.env.locals]) hfr1 (hFr _ nk) rfl hS2 (fun b o hb _ => nk b o hb) (fun b o hb => ⟨o.slots, nk b o hb⟩) hob nn hdt rfl fun h₅ fly₅ fr₅ => ?_)
  refine fly_land fr₅ fly₅ fun h₆ fly₆ fr₆ => ?_
  refine fly_note (base := C.GB) hfr0 fr₆.2.2 hfe hS1 fly₆ fun h₇ fly₇ fr₇ => fly_land fr₇ fly₇ fun h₈ fly₈ fr₈ => ?_
  have gS : ∀ b ∈ [s₂.heap.objs.size, F.env.locals], C.GB.get? b = none := fun b hb => by
    rcases List.mem_cons.mp hb with e | hb
    · rw [e]; exact S₃.new _ S₃.inOwn
    · rw [List.mem_singleton.mp hb]; exact S₂.new _ S₂.inOwn
  have sS : ∀ b ∈ [s₂.heap.objs.size, F.env.locals], σ₂.sto b = none := fun b hb => by
    cases hq : σ₂.sto b with
    | none => rfl
    | some o' =>
      rcases List.mem_cons.mp hb with e | hb
      · rw [e] at hq; exact absurd rfl (S₃.off _ o' hq).2.1
      · rw [List.mem_singleton.mp hb] at hq; exact (off₀ o' hq).elim
  have base₈ : ∀ b o, C.GB.get? b = some o → h₈.get? b = some o := fun b o e => fly₈.same b o (S₀.base b o e) fun hm => by rw [gS b hm] at e; cases e
  refine wpAny_handleBy_builtin_as (X := "IndexError") (T := "IndexError") (b := true) exc_IndexError nt_IndexError sub_IndexError ?_
  refine Calls.Name_function_global ok.kind hI ?_
  obtain ⟨v', hv, hr⟩ := cx.gt _ _ gI
  have ev : v' = .type "IndexError" := by cases hr h₈ with | opq _ => rfl
  have hg : h₈.Ns F.env.globals C.mg := by rw [ok.globals]; exact cx.g.keeps base₈
  have hb : h₈.Ns F.env.builtins C.mb := by rw [ok.builtins]; exact cx.b.keeps base₈
  have tail : v' = .type "IndexError" ∧ ({ s₄ with heap := h₈ } : Shared).TypeIs (.ref ea) "IndexError" := by
    obtain ⟨oe, _, _, _, _, he, hcls, _⟩ := fly₈.exc
    exact ⟨ev, oe, he, hcls.trans hcl⟩
  -- in the handler
  have key : ∀ h₉, Fly s₀.heap [s₂.heap.objs.size, F.env.locals] ea ob.cls #[.ref t0, .none, .none, .none, .bool false, .none] .none h₉ →
      ∃ GB', (∀ b o, C.GB.get? b = some o → GB'.get? b = some o) ∧ GB'.ExcAt ea "IndexError" (.ref t0) ∧ GB'.TupAt t0 [.str msg tk] ∧ (∃ o, GB'.get? ea = some o ∧ Tame o) ∧ Sim GB' F σ₂ h₉ ∧ Mod F.own σ₂ σ₂ s { s₄ with heap := h₉ } := fun h₉ fly₉ => by
    have SF : Sim C.GB F σ₂ s₀.heap := S₂.back (sto' := σ₂.sto) (fun _ => False) (fun b ob hb hfx _ => toS₀ b ob hb hfx) id (fun _ _ => id) (fun _ _ _ _ => id) S₀.base (fun a o e => S₀.sto a o (by rw [hsto]; exact e)) (fun a o e => (S₂.off a o e).1) (fun b ob e => .inl ⟨ob, e⟩)
    have S₉ : Sim C.GB F σ₂ h₉ := SF.slots fly₉.same fly₉.slots gS sS fun b hb => by
      rcases List.mem_cons.mp hb with e | hb
      · rw [e]; exact ns1
      · rw [List.mem_singleton.mp hb]; exact ns0
    obtain ⟨oe, vs0, T, oT, ts, he, hcls, hde, _, _, _, _, _, _, hf0⟩ := fly₉.exc
    obtain ⟨ot, nt, hot, hotc, hotd⟩ := htup
    have htf : FrzO ot := .inl ⟨hotc, _, nt, hotd⟩
    have hnS : t0 ∉ [s₂.heap.objs.size, F.env.locals] := fun hm => by
      rcases List.mem_cons.mp hm with q | hm
      · obtain ⟨m, hn⟩ := ns1; exact frz_not_dict (q ▸ hot) htf hn
      · obtain ⟨m, hn⟩ := ns0; exact frz_not_dict (List.mem_singleton.mp hm ▸ hot) htf hn
    have hot9 : h₉.get? t0 = some ot := fly₉.same t0 ot hot hnS
    have hbase : ∀ b o, C.GB.get? b = some o → (partH h₉ fun b => (∃ o, C.GB.get? b = some o) ∨ b = ea ∨ b = t0).get? b = some o := fun b o e => by rw [part_in (.inl ⟨o, e⟩)]; exact S₉.base b o e
    have hea0 : ∀ b o, s₀.heap.get? b = some o → b ≠ ea := fun b o e q => by rw [q, nn] at e; cases e
    have hpn : ∀ b, C.GB.get? b = none → b ≠ ea → b ≠ t0 → (partH h₉ fun b => (∃ o, C.GB.get? b = some o) ∨ b = ea ∨ b = t0).get? b = none := fun b e n1 n2 => part_out (by
      rintro (⟨o, q⟩ | q | q)
      · rw [e] at q; cases q
      · exact n1 q
      · exact n2 q)
    refine ⟨partH h₉ fun b => (∃ o, C.GB.get? b = some o) ∨ b = ea ∨ b = t0, hbase, ⟨oe, vs0, by rw [part_in (.inr (.inl rfl))]; exact he, hcls.trans hcl, hde, by rw [hf0 0 (by omega)]; rfl⟩, ⟨ot, nt, by rw [part_in (.inr (.inr rfl))]; exact hot9, hotc, hotd⟩,
      ⟨oe, by rw [part_in (.inr (.inl rfl))]; exact he, vs0, hde, by rw [hf0 2 (by omega)]; rfl⟩, S₉.moreB (fun b o e => ?_) (fun b hb => ?_) (fun a o e m => ?_), ⟨fun b o e hfx hn => ?_, fun b o e => .inl ⟨o, e, id⟩, fun b o e => ?_, ?_⟩⟩
    · by_cases q : (∃ o, C.GB.get? b = some o) ∨ b = ea ∨ b = t0
      · rw [part_in q] at e; exact e
      · rw [part_out q] at e; cases e
    · obtain ⟨ob', hob'⟩ := SF.own_alive hb
      exact hpn b (SF.new b hb) (hea0 b ob' hob') fun q => (SF.frz_off hot htf).2 (q ▸ hb)
    · obtain ⟨ob', hob'⟩ := SF.sto_alive e
      refine hpn a ((SF.off a o e).1 m) (hea0 a ob' hob') fun q => ?_
      have := (SF.frz_off hot htf).1 o (q ▸ e)
      rw [this] at m; cases m
    · have e2 := M₁₂.keep b o e hfx hn
      refine fly₉.same b o (toS₀ b o e2 hfx) fun hm => ?_
      rcases List.mem_cons.mp hm with q | hm
      · exact absurd (Heap.lt_size e2) (by rw [q]; exact Nat.lt_irrefl _)
      · rw [List.mem_singleton.mp hm] at hn; exact hn S₂.inOwn
    · obtain ⟨o2, ho2⟩ := M₁₂.alive b o e
      obtain ⟨o', ho'⟩ := M₀.alive b o2 (k₃ b o2 ho2)
      obtain ⟨sl, q⟩ := fly₉.slots b o' ho'
      exact ⟨_, q⟩
    · obtain ⟨h3, tk3, q3⟩ := e₃
      rw [r₀, M₀.rest, q3, M₁₂.rest]
  have final : wpAny (model C.prog C.w) (A.mark (some (.ref ea))) (setFlight (.ref ea) none) (fun _ s₂' =>
          wpAny (model C.prog C.w) (A.mark (some (.ref ea))) (storeName F.env n (.ref ea)) (fun _ s₃' =>
            wpAny (model C.prog C.w) (A.mark (some (.ref ea))) (execs [.Return (some e) pR] F.env)
              (fun f s₄' => wpAny (model C.prog C.w) A (do bindName F.env n .none; unbindBehindTheSuite F.env n pH) (fun _ s₅ => f = .ret (.bool true) ∧ Post C F FlRep σ₂ s Q f s₅) No s₄') No s₃') No s₂') No { s₄ with heap := h₈ } := by
    refine fly_land fr₈ fly₈ fun h₉ fly₉ _ => ?_
    obtain ⟨GB', hbk, hxa, htu, ⟨ox, hox, htm⟩, S₉, M₉⟩ := key h₉ fly₉
    refine store_name (A := A.mark (some (.ref ea))) ok S₉ (.ref ea) (.inl hlo) fun h₁₀ tk₁₀ S₁₀ M₁₀ => ?_
    refine wpAny_execs_cons (wpAny_Return_some ?_)
    have hA' : Room { C with GB := GB', exc := some ea } (k + 1) F (A.mark (some (.ref ea))) := ⟨⟨rfl, ox, hox, htm⟩, hA.2.1, hA.2.2.1, hA.2.2.2⟩
    refine wpAny_mono (hh GB' ea t0 tk hbk hxa htu (A.mark (some (.ref ea))) _ hA' S₁₀) (fun v' s₁₁ ⟨v, σ₁₁, rv', S₁₁, M₁₁, ev'⟩ => ?_) fun _ _ x => x
    subst ev'
    cases rv'
    have S₁₂ : Sim C.GB F σ₁₁ s₁₁.heap := S₁₁.less hbk
    obtain ⟨m, hns, _⟩ := S₁₂.frame
    refine wpAny_nameGoes hlo hns (by rw [ok.kind]; rfl) fun h' m' hns' hsb => ?_
    have hnt : ∀ o, s₁₁.heap.get? F.env.locals = some o → ¬ FrzO o := fun o ho hf => frz_not_dict ho hf hns
    have kx := hsb.extBut
    refine ⟨rfl, .ret (.bool true), ⟨[], σ₁₁.sto⟩, .ret (.bool true), ?_, ?_, hQ _⟩
    · exact {
        base := fun b o e => kx b o (fun q => by rw [q, S₁₂.new _ S₁₂.inOwn] at e; cases e) (S₁₂.base b o e)
        frame := ⟨m', hns', fun x v e => by simp at e⟩
        cells := fun p hp => by obtain ⟨v₀, oc, hcell, hd⟩ := S₁₂.cells p hp; exact ⟨v₀, oc, kx _ _ (S₁₂.local_not_cell hp) hcell, hd⟩
        apart := S₁₂.apart
        sto := fun b ob e => (S₁₂.sto b ob e).ext (S₁₂.off b ob e).2.1 hnt kx
        inOwn := S₁₂.inOwn
        ownIs := S₁₂.ownIs
        new := S₁₂.new
        off := S₁₂.off }
    · have M₁₂' : Mod F.own σ₂ σ₁₁ s s₁₁ := (M₉.trans' M₁₀).trans' M₁₁
      have M₁₃ : Mod F.own σ₁₁ ⟨[], σ₁₁.sto⟩ s₁₁ { s₁₁ with heap := h', toks := s₁₁.toks + 1 } := ⟨fun b o e _ nb => kx b o (fun q => nb (q ▸ S₁₂.inOwn)) e, fun b o e => .inl ⟨o, e, id⟩, fun b o e => by
        by_cases hb : b = F.env.locals
        · subst hb; obtain ⟨o', _, _, ho', _⟩ := hns'; exact ⟨o', ho'⟩
        · exact ⟨o, kx b o hb e⟩, rfl⟩
      exact M₁₂'.trans' M₁₃
  have wide : ∀ {E1 E2 E3 E4 : Value → Shared → Prop} {QQ : Flow → Shared → Prop}, (∀ f s', f = .ret (.bool true) ∧ Post C F FlRep σ₂ s Q f s' → QQ f s') → wpAny (model C.prog C.w) (A.mark (some (.ref ea))) (setFlight (.ref ea) none) (fun _ s₂' =>
          wpAny (model C.prog C.w) (A.mark (some (.ref ea))) (storeName F.env n (.ref ea)) (fun _ s₃' =>
            wpAny (model C.prog C.w) (A.mark (some (.ref ea))) (execs [.Return (some e) pR] F.env)
              (fun f s₄' => wpAny (model C.prog C.w) A (do bindName F.env n .none; unbindBehindTheSuite F.env n pH) (fun _ s₅ => QQ f s₅) E4 s₄') E3 s₃') E2 s₂') E1 { s₄ with heap := h₈ } := fun hq =>
    wpAny_mono final (fun _ _ x => wpAny_mono x (fun _ _ x => wpAny_mono x (fun _ _ x => wpAny_mono x (fun _ _ x => hq _ _ x) fun _ _ x => x.elim) fun _ _ x => x.elim) fun _ _ x => x.elim) fun _ _ x => x.elim
  rcases hv with hv | ⟨hm, hv⟩
  · refine Calls.loadGlobal_global hg hv ⟨tail.1, tail.2, ?_⟩
    exact wide fun f s' hp => by obtain ⟨rfl, hp⟩ := hp; exact hp
  · refine Calls.loadGlobal_builtin hg hm hb hv ⟨tail.1, tail.2, ?_⟩
    exact wide fun f s' hp => by obtain ⟨rfl, hp⟩ := hp; exact hp
end
end Mine
set_option Elab.async false
set_option linter.unusedVariables false
set_option linter.unusedSimpArgs false
set_option maxRecDepth 100000
namespace Mine
open PySem PySem.W PyProof.Rows
-- the walk's own line
local macro_rules | `(tactic| walk_at "m") => `(tactic| first
  | ((with_reducible show Then _ _ _ _ _ Fl.next _); refine then_next ?_)
  | ((with_reducible show Then _ _ _ _ _ Fl.brk _); refine then_brk ?_)
  | ((with_reducible show Then _ _ _ _ _ Fl.cont _); refine then_cont ?_)
  | ((with_reducible show Then _ _ _ _ _ (Fl.ret _) _); refine then_ret ?_)
  | ((with_reducible show TurnW _ _ _ _ Fl.brk _); refine turnW_brk ?_)
  | ((with_reducible show TurnW _ _ _ _ (Fl.ret _) _); refine turnW_ret ?_)
  | ((with_reducible show TurnF _ _ _ _ Fl.brk _); refine turnF_brk ?_)
  | ((with_reducible show TurnF _ _ _ _ (Fl.ret _) _); refine turnF_ret ?_)
  | ((with_reducible show TX _ _ _ (_ :: _) _ _); refine x_cons ?_)
  | ((with_reducible show TX _ _ _ [] _ _); refine x_nil ?_)
  | ((with_reducible show TS _ _ _ (Stmt.Assign [Expr.Name _ _] (Expr.ListComp _ _ _ _) _) _ _); fail "m: a comprehension")
  | ((with_reducible show TS _ _ _ (Stmt.Assign [Expr.Name _ _] _ _) _ _); refine s_assign (by assumption) ?_)
  | ((with_reducible show TS _ _ _ (Stmt.Assign [Expr.Subscript _ _ _] _ _) _ _); refine s_setitem ?_)
  | ((with_reducible show TS _ _ _ (Stmt.Expr _ _) _ _); refine s_expr ?_)
  | ((with_reducible show TS _ _ _ (Stmt.Return _ _) _ _); refine s_return ?_)
  | ((with_reducible show TS _ _ _ (Stmt.If _ _ _ _) _ _); refine s_if ?_)
  | ((with_reducible show TS _ _ _ (Stmt.Break _) _ _); refine s_break ?_)
  | ((with_reducible show TS _ _ _ (Stmt.Continue _) _ _); refine s_continue ?_)
  | ((with_reducible show TE _ _ _ (Expr.Name _ _) _ _); first | refine e_name (by assumption) rfl ?_ | refine e_glob (by assumption) (by assumption) (by assumption) ?_)
  | ((with_reducible show TE _ _ _ (Expr.Constant (Const.int _) _ _) _ _); refine e_int ?_)
  | ((with_reducible show TE _ _ _ (Expr.Constant (Const.bool _) _ _) _ _); refine e_bool ?_)
  | ((with_reducible show TE _ _ _ (Expr.Constant Const.none _ _) _ _); refine e_none ?_)
  | ((with_reducible show TE _ _ _ (Expr.BinOp _ _ _ _) _ _); refine e_bin ?_)
  | ((with_reducible show TE _ _ _ (Expr.UnaryOp UnaryOp.USub _ _) _ _); refine e_un ?_)
  | ((with_reducible show TE _ _ _ (Expr.Compare _ _ _ _) _ _); refine e_cmp ?_)
  | ((with_reducible show TE _ _ _ (Expr.Subscript _ (Expr.Slice _ _ _ _) _) _ _); refine e_slice ?_)
  | ((with_reducible show TE _ _ _ (Expr.Subscript _ _ _) _ _); refine e_sub ?_)
  | ((with_reducible show TE _ _ _ (Expr.List _ _) _ _); refine e_list ?_)
  | ((with_reducible show TE _ _ _ (Expr.Tuple _ _ _) _ _); refine e_tup ?_)
  | ((with_reducible show TE _ _ _ (Expr.IfExp _ _ _ _) _ _); refine e_ifexp ?_)
  | ((with_reducible show TE _ _ _ (Expr.BoolOp BoolOp.And [_, _] _) _ _); refine e_and ?_)
  | ((with_reducible show TE _ _ _ (Expr.BoolOp BoolOp.And [_, _, _] _) _ _); refine e_and3 ?_)
  | ((with_reducible show TE _ _ _ (Expr.BoolOp BoolOp.Or [_, _] _) _ _); refine e_or ?_)
  | ((with_reducible show TE _ _ _ (Expr.Call (Expr.Name _ _) _ _ _) _ _); refine e_call ?_)
  | ((with_reducible show TEs _ _ _ _ (_ :: _) _ _); refine es_cons ?_)
  | ((with_reducible show TEs _ _ _ _ [] _ _); refine es_nil ?_)
  | ((with_reducible show TB _ _ _ (Expr.UnaryOp UnaryOp.Not _ _) _ _); refine b_not ?_)
  | ((with_reducible show TB _ _ _ (Expr.BoolOp BoolOp.And [_, _] _) _ _); refine b_and ?_)
  | ((with_reducible show TB _ _ _ (Expr.BoolOp BoolOp.Or [_, _] _) _ _); refine b_or ?_)
  | ((with_reducible show TB _ _ _ (Expr.BoolOp BoolOp.Or [_, _, _] _) _ _); refine b_or3 ?_)
  | ((with_reducible show TB _ _ _ (Expr.BoolOp BoolOp.And [_, _, _] _) _ _); refine b_and3 ?_)
  | ((with_reducible show TB _ _ _ (Expr.Compare _ _ _ _) _ _); refine b_cmp ?_)
  | ((with_reducible show TB _ _ _ (Expr.IfExp _ _ _ _) _ _); fail "m: a test by if")
  | ((with_reducible show TB _ _ _ _ _ _); refine b_val ?_)
  | ((with_reducible show BinOK _ _ _ Operator.Add (V.int _) (V.int _) _ _); refine bin_add ?_)
  | ((with_reducible show BinOK _ _ _ Operator.Sub (V.int _) (V.int _) _ _); refine bin_sub ?_)
  | ((with_reducible show BinOK _ _ _ Operator.Mult (V.int _) (V.int _) _ _); refine bin_mul (IntMulOk.of_left (by decide)) ?_)
  | ((with_reducible show UnOK _ _ _ UnaryOp.USub (V.int _) _ _); refine un_neg ?_)
  | ((with_reducible show CmpOK _ _ _ CmpOp.Lt (V.int _) (V.int _) _ _); refine cmp_lt ?_)
  | ((with_reducible show CmpOK _ _ _ CmpOp.Gt (V.int _) (V.int _) _ _); refine cmp_gt ?_)
  | ((with_reducible show CmpOK _ _ _ CmpOp.LtE (V.int _) (V.int _) _ _); refine cmp_le ?_)
  | ((with_reducible show CmpOK _ _ _ CmpOp.GtE (V.int _) (V.int _) _ _); refine cmp_ge ?_)
  | ((with_reducible show CmpOK _ _ _ CmpOp.Eq (V.int _) (V.int _) _ _); refine cmp_eq ?_)
  | ((with_reducible show CmpOK _ _ _ CmpOp.NotEq (V.int _) (V.int _) _ _); refine cmp_ne ?_)
  | ((with_reducible show TruthOK _ _ _ (V.bool _) _ _); refine truth_bool ?_)
  | ((with_reducible show PartOK _ _ _ none _ _); refine part_none ?_)
  | ((with_reducible show PartOK _ _ _ (some _) _ _); refine part_some ?_)
  | ((with_reducible show ∃ i, V.int _ = V.int i ∧ _); refine ⟨_, rfl, ?_⟩)
  | ((with_reducible show IsFun _ (V.opq _)); exact trivial)
  | ((with_reducible show _ ∧ CallOK _ _ _ (V.opq _) _ _ _); refine ⟨trivial, ?_⟩)
  | fail "m: no step")
local macro_rules | `(tactic| walk_at "n") => `(tactic| ((fail_if_success (with_reducible show TX _ _ _ (Stmt.If _ _ _ _ :: _) _ _)); walk_at "m"))
local macro_rules | `(tactic| walk_at "v") => `(tactic| ((fail_if_success (with_reducible show TE _ _ _ (Expr.Tuple _ _ _) _ _)); walk_at "m"))
section
variable {C : Cx} {k : Nat} {F : FE} {σ : St} {E : V → Prop} {lt : V → V → Bool} {P : (Addr → Option O) → Prop}

set_option maxHeartbeats 4000000 in
theorem sd_way {a d : Addr} {vs : List V} {sp p : Nat} {Q : V → St → Prop} (cx : CxOk C) (fn : Fn C PySem.Challenge.pw_dn0024_01 (Str.ofString "_siftdown") a)
    (o : Ord C E lt P) (hP : ∀ sto o, P sto → P (fun b => if b = d then some o else sto b)) (h0 : P σ.sto) (hd : σ.sto d = some (.lst vs)) (hp : p < vs.length) (hE : ∀ i, sp ≤ i → i < p → Desc i p → E (gt vs i)) (hx : E (vs.getD p .none))
    (hD : Desc sp p) (h : Q .none (σ.setSto d (.lst (sdGo lt (vs.getD p .none) sp p vs)))) : CallOK C (k + 1) F (.ref a) [.ref d, .int sp, .int p] σ Q := by
  obtain ⟨pm, cd, doc, f⟩ := fn
  refine call_own cx f rfl ?_
  intro L
  have ok := f.envOk L F.frames
  refine x_cons ?_
  (repeat walk_at "m")
  refine item_at (vs := vs) (v := vs.getD p .none) (by simp [hd, O.items]) (by omega) (by simp [hp]) ?_
  (repeat walk_at "m")
  generalize hxe : vs.getD p .none = x at h hx ⊢
  refine s_whileN [Str.ofString "heap", Str.ofString "startpos", Str.ofString "pos", Str.ofString "newitem"]
    (fun n σ' => ∃ (p' : Nat) (vs' : List V), p' = n ∧ σ' = ⟨[(Str.ofString "heap", .ref d), (Str.ofString "startpos", .int sp), (Str.ofString "pos", .int p'), (Str.ofString "newitem", x)], fun b => if b = d then some (.lst vs') else σ.sto b⟩ ∧
      p' < vs'.length ∧ (∀ i, sp ≤ i → i < p' → Desc i p' → E (gt vs' i)) ∧ Desc sp p' ∧ sdGo lt x sp p' vs' = sdGo lt x sp p vs) p ⟨p, vs, rfl, ?_, hp, hE, hD, rfl⟩ ?_
  · refine st_ext rfl ?_
    funext b
    by_cases hb : b = d
    · subst hb; simp [hd]
    · simp [hb]
  rintro n σ' ⟨p', vs', rfl, rfl, hp', hE', hD', hgo⟩
  have hsp' : sp < p' → sp ≤ (p' - 1) / 2 := fun q => (hD'.up q).le
  (repeat walk_at "m")
  by_cases hlt : sp < p'
  · rw [if_pos (by simpa using hlt)]
    (repeat walk_at "m")
    refine bin_rshift1 (by omega) ?_
    (repeat walk_at "m")
    have hpp : (((p' : Int) - 1) / 2).toNat = (p' - 1) / 2 := by omega
    have hl : (p' - 1) / 2 < vs'.length := by omega
    have hge : sp ≤ (p' - 1) / 2 := hsp' hlt
    refine item_at (vs := vs') (v := vs'.getD ((p' - 1) / 2) .none) (by simp [O.items]) (by omega) (by rw [hpp]; simp [hl]) ?_
    (repeat walk_at "m")
    have hpe : E (vs'.getD ((p' - 1) / 2) .none) := hE' _ hge (by omega) (.down (by omega) .here)
    refine o.cmp _ _ _ _ _ _ (hP _ _ h0) hx hpe ?_
    (repeat walk_at "m")
    rw [sdGo, dif_pos hlt] at hgo
    by_cases hc : lt x (vs'.getD ((p' - 1) / 2) .none) = true
    · rw [if_pos hc]
      rw [if_pos hc] at hgo
      (repeat walk_at "m")
      refine set_at (vs := vs') (by simp) (by omega) (by omega) ?_
      (repeat walk_at "m")
      refine ⟨(p' - 1) / 2, by omega, (p' - 1) / 2, vs'.set p' (vs'.getD ((p' - 1) / 2) .none), rfl, ?_, by simpa using hl, ?_, hD'.up hlt, hgo⟩
      · have e2 : ((p' : Int) - 1) / 2 = (((p' - 1) / 2 : Nat) : Int) := by omega
        refine st_ext ?_ ?_
        · rw [← e2]; rfl
        · funext b
          by_cases hb : b = d <;> simp [St.setSto, hb]
      · intro i h1 h2 h3
        rw [gt_set_ne (by omega)]
        exact hE' i h1 (by omega) (.down (by omega) h3)
    · rw [if_neg hc]
      rw [if_neg hc] at hgo
      (repeat walk_at "m")
      refine set_at (vs := vs') (by simp) (by omega) (by omega) ?_
      (repeat walk_at "m")
      rw [← hgo] at h
      exact q_eq h fun b => by by_cases hb : b = d <;> simp [St.setSto, St.setLoc, hb]
  · rw [if_neg (by simpa using hlt)]
    (repeat walk_at "m")
    refine set_at (vs := vs') (by simp) (by omega) (by omega) ?_
    (repeat walk_at "m")
    rw [sdGo, dif_neg hlt] at hgo
    rw [← hgo] at h
    exact q_eq h fun b => by by_cases hb : b = d <;> simp [St.setSto, St.setLoc, hb]

end
section
variable {C : Cx} {k : Nat} {F : FE} {σ : St} {E : V → Prop} {lt : V → V → Bool} {P : (Addr → Option O) → Prop}
set_option maxHeartbeats 4000000 in
theorem su_way {a asd d : Addr} {vs : List V} {p : Nat} {Q : V → St → Prop} (cx : CxOk C) (gl : C.GT.lookup (Str.ofString "len") = some (.opq (.builtin "len"))) (fsd : Fn C PySem.Challenge.pw_dn0024_01 (Str.ofString "_siftdown") asd) (gsd : C.GT.lookup (Str.ofString "_siftdown") = some (.ref asd))
    (fn : Fn C PySem.Challenge.pw_dn0024_01 (Str.ofString "_siftup") a)
    (o : Ord C E lt P) (hP : ∀ sto o, P sto → P (fun b => if b = d then some o else sto b)) (h0 : P σ.sto) (hd : σ.sto d = some (.lst vs)) (hp : p < vs.length) (hx : E (vs.getD p .none)) (hW : ∀ r ∈ pathL lt vs.length p vs, r ≠ p → E (gt vs r)) (hS : ∀ r ∈ pathL lt vs.length p vs, 2 * r + 2 < vs.length → E (gt vs (2 * r + 1)) ∧ E (gt vs (2 * r + 2)))
    (h : Q .none (σ.setSto d (.lst (siftup lt vs p)))) : CallOK C (k + 2) F (.ref a) [.ref d, .int p] σ Q := by
  obtain ⟨pm, cd, doc, f⟩ := fn
  refine call_own cx f rfl ?_
  intro L
  have ok := f.envOk L F.frames
  refine x_cons ?_
  (repeat walk_at "m")
  refine call_len (vs := vs) (by simp [hd, O.items]) ?_
  (repeat walk_at "m")
  refine item_at (vs := vs) (v := vs.getD p .none) (by simp [hd, O.items]) (by omega) (by simp [hp]) ?_
  (repeat walk_at "m")
  unfold siftup at h
  generalize hxe : vs.getD p .none = x at h hx ⊢
  refine s_whileN [Str.ofString "heap", Str.ofString "endpos", Str.ofString "startpos", Str.ofString "newitem", Str.ofString "pos", Str.ofString "childpos"]
    (fun n σ' => ∃ (q : Nat) (vs' : List V), n = vs.length - q ∧ σ' = ⟨[(Str.ofString "heap", .ref d), (Str.ofString "endpos", .int vs.length), (Str.ofString "startpos", .int p), (Str.ofString "newitem", x), (Str.ofString "pos", .int q), (Str.ofString "childpos", .int (2 * q + 1))], fun b => if b = d then some (.lst vs') else σ.sto b⟩ ∧
      q < vs.length ∧ vs'.length = vs.length ∧ ((∀ r ∈ pathL lt vs.length q vs', r ≠ q → E (gt vs' r)) ∧ (∀ r ∈ pathL lt vs.length q vs', 2 * r + 2 < vs.length → E (gt vs' (2 * r + 1)) ∧ E (gt vs' (2 * r + 2))) ∧ (∀ i, p ≤ i → i < q → Desc i q → E (gt vs' i)) ∧ Desc p q) ∧ suGo lt vs.length q vs' = suGo lt vs.length p vs) (vs.length - p) ⟨p, vs, rfl, ?_, hp, rfl, ⟨hW, hS, fun i h1 h2 => by omega, .here⟩, rfl⟩ ?_
  · refine st_ext rfl ?_
    funext b
    by_cases hb : b = d
    · subst hb; simp [hd]
    · simp [hb]
  rintro n σ' ⟨q, vs', rfl, rfl, hq, hlen, ⟨hW', hS', hU', hD'⟩, hgo⟩
  (repeat walk_at "m")
  by_cases hlt : 2 * q + 1 < vs.length
  · rw [if_pos (by simp; omega)]
    (repeat walk_at "n")
    have hc1 : (2 * (q : Int) + 1).toNat = 2 * q + 1 := by omega
    have hc2 : (2 * (q : Int) + 1 + 1).toNat = 2 * q + 2 := by omega
    have hpk := suPick_lt lt vs.length vs' q hlt
    rw [suGo, dif_pos hlt] at hgo
    refine x_ifJ [Str.ofString "heap", Str.ofString "endpos", Str.ofString "startpos", Str.ofString "newitem", Str.ofString "pos", Str.ofString "childpos"]
      (fun σ₂ => σ₂ = ⟨[(Str.ofString "heap", .ref d), (Str.ofString "endpos", .int vs.length), (Str.ofString "startpos", .int p), (Str.ofString "newitem", x), (Str.ofString "pos", .int q), (Str.ofString "childpos", .int (suPick lt vs.length vs' q))], fun b => if b = d then some (.lst vs') else σ.sto b⟩) ?_ ?_
    · (repeat walk_at "m")
      by_cases hr : 2 * q + 2 < vs.length
      · rw [if_pos (by simp; omega)]
        (repeat walk_at "m")
        refine item_at (vs := vs') (v := vs'.getD (2 * q + 1) .none) (by simp [O.items]) (by omega) (by rw [hc1]; simp [hlen, hlt]) ?_
        (repeat walk_at "m")
        refine item_at (vs := vs') (v := vs'.getD (2 * q + 2) .none) (by simp [O.items]) (by omega) (by rw [hc2]; simp [hlen, hr]) ?_
        refine o.cmp _ _ _ _ _ _ (hP _ _ h0) (hS' q (by rw [path_more hlt]; exact .head _) hr).1 (hS' q (by rw [path_more hlt]; exact .head _) hr).2 ?_
        (repeat walk_at "m")
        cases hb : lt (vs'.getD (2 * q + 1) .none) (vs'.getD (2 * q + 2) .none) with
        | true =>
          rw [if_neg (by simp)]
          (repeat walk_at "m")
          refine join_next (st_ext ?_ rfl)
          have e : suPick lt vs.length vs' q = 2 * q + 1 := by unfold suPick; rw [if_neg (by rw [hb]; simp)]
          rw [e]; rfl
        | false =>
          rw [if_pos (by simp)]
          (repeat walk_at "m")
          refine join_next (st_ext ?_ rfl)
          have e : suPick lt vs.length vs' q = 2 * q + 2 := by unfold suPick; rw [if_pos ⟨hr, hb⟩]
          rw [e]; rfl
      · rw [if_neg (by simp; omega)]
        (repeat walk_at "m")
        rw [if_neg (by simp)]
        (repeat walk_at "m")
        refine join_next (st_ext ?_ rfl)
        have e : suPick lt vs.length vs' q = 2 * q + 1 := by unfold suPick; rw [if_neg (by omega)]
        rw [e]; rfl
    · rintro σ₂ rfl
      have hpm := path_more (lt := lt) (vs := vs') hlt
      have hpp : (suPick lt vs.length vs' q - 1) / 2 = q := by unfold suPick; split <;> omega
      generalize hck : suPick lt vs.length vs' q = c at hpk hgo hpm hpp ⊢
      have hoth : ∀ i, q < i → gt (vs'.set q (gt vs' c)) i = gt vs' i := fun i hi => gt_set_ne (by omega)
      have hpe : pathL lt vs.length c (vs'.set q (gt vs' c)) = pathL lt vs.length c vs' := path_cong vs.length vs' _ _ c rfl fun r hr _ => by
        have := (path_ge vs.length vs' _ _ rfl r hr).1
        exact ⟨hoth _ (by omega), hoth _ (by omega)⟩
      have hge : ∀ r ∈ pathL lt vs.length c vs', c ≤ r := fun r hr => (path_ge vs.length vs' _ _ rfl r hr).1
      have hcin : c ∈ pathL lt vs.length c vs' := by obtain ⟨r, er⟩ := path_head (lt := lt) vs.length c vs'; rw [er]; exact .head _
      (repeat walk_at "m")
      refine item_at (vs := vs') (v := vs'.getD c .none) (by simp [O.items]) (by omega) (by simp [hlen, hpk.1]) ?_
      (repeat walk_at "m")
      refine set_at (vs := vs') (by simp) (by omega) (by omega) ?_
      (repeat walk_at "m")
      refine turnW_next ⟨vs.length - c, by omega, c, vs'.set q (vs'.getD c .none), rfl, st_ext rfl ?_, hpk.1, by simpa using hlen, ?_, hgo⟩
      · funext b
        by_cases hb : b = d <;> simp [St.setSto, St.setLoc, hb]
      · refine ⟨fun r hr hne => ?_, fun r hr h2 => ?_, fun i h1 h2 h3 => ?_, .down (by omega) (by rw [hpp]; exact hD')⟩
        · have hr' : r ∈ pathL lt vs.length c vs' := by have := hr; rwa [show (vs'.set q (vs'.getD c .none)) = vs'.set q (gt vs' c) from rfl, hpe] at this
          have := hge r hr'
          show E (gt (vs'.set q (gt vs' c)) r)
          rw [hoth r (by omega)]
          exact hW' r (by rw [hpm]; exact .tail _ hr') (by omega)
        · have hr' : r ∈ pathL lt vs.length c vs' := by have := hr; rwa [show (vs'.set q (vs'.getD c .none)) = vs'.set q (gt vs' c) from rfl, hpe] at this
          have := hge r hr'
          show E (gt (vs'.set q (gt vs' c)) _) ∧ E (gt (vs'.set q (gt vs' c)) _)
          rw [hoth _ (by omega), hoth _ (by omega)]
          exact hS' r (by rw [hpm]; exact .tail _ hr') h2
        · show E (gt (vs'.set q (gt vs' c)) i)
          have hdq : Desc i q := by have := h3.up h2; rwa [hpp] at this
          have := hdq.le
          by_cases hiq : i = q
          · subst hiq
            rw [gt_set_same (by omega)]
            exact hW' c (by rw [hpm]; exact .tail _ hcin) (by omega)
          · rw [gt_set_ne hiq]
            exact hU' i h1 (by omega) hdq
  · rw [if_neg (by simp; omega)]
    (repeat walk_at "m")
    refine set_at (vs := vs') (by simp) (by omega) (by omega) ?_
    (repeat walk_at "m")
    rw [suGo, dif_neg hlt] at hgo
    rw [← hgo] at h
    refine ⟨let ⟨_, _, _, g⟩ := fsd; g.isFun, sd_way cx fsd o hP ?_ (d := d) (vs := vs'.set q x) (by simp [St.setSto]) (by simp; omega) (fun i h1 h2 h3 => by rw [gt_set_ne (by omega)]; exact hU' i h1 h2 h3) (by have e : (vs'.set q x).getD q .none = x := by { simp [hlen, hq] }; rw [e]; exact hx) hD' ?_⟩
    · exact hP _ _ (hP _ _ h0)
    · (repeat walk_at "m")
      have e : (vs'.set q x).getD q .none = x := by simp [hlen, hq]
      rw [e]
      exact q_eq h fun b => by by_cases hb : b = d <;> simp [St.setSto, St.setLoc, hb]
end
section
variable {C : Cx} {k : Nat} {F : FE} {σ : St}
set_option maxHeartbeats 4000000 in
theorem lsame_ok {a d1 d2 : Addr} {us : List V} {Q : V → St → Prop} (cx : CxOk C) (gl : C.GT.lookup (Str.ofString "len") = some (.opq (.builtin "len"))) (gr : C.GT.lookup (Str.ofString "range") = some (.opq (.type "range")))
    (fn : Fn C PySem.Challenge.pw_dn0024_01 (Str.ofString "_law_same") a) (h1 : σ.sto d1 = some (.lst us)) (h2 : σ.sto d2 = some (.lst us)) (hE : ∀ v ∈ us, v = .none ∨ ∃ a, v = .ref a) (hl : us.length < 1000)
    (h : ∀ sto', KeepA σ.sto sto' → Q (.bool true) ⟨σ.loc, sto'⟩) : CallOK C (k + 8) F (.ref a) [.ref d1, .ref d2] σ Q := by
  obtain ⟨pm, cd, doc, f⟩ := fn
  refine call_own cx f rfl ?_
  intro L
  have ok := f.envOk L F.frames
  have hm : maxLen = 1048576 := by decide
  refine x_cons ?_
  (repeat walk_at "m")
  refine call_len (vs := us) (by simp [h1, O.items]) ?_
  (repeat walk_at "m")
  refine call_len (vs := us) (by simp [h2, O.items]) ?_
  (repeat walk_at "m")
  rw [if_pos (by simp)]
  refine e_cmp (e_comp (hcl := fun p hp => by
        rcases List.mem_cons.mp hp with e | hp
        · rw [e]; exact .tail _ (.head _)
        · rw [List.mem_singleton.mp hp]; exact .head _) (hap := by simp) ok [(Str.ofString "told", L + 1), (Str.ofString "due", L + 2)] [(Str.ofString "told", .ref d1), (Str.ofString "due", .ref d2)] (titer_of ?_))
  (repeat walk_at "m")
  refine call_len (vs := us) (by simp [h2, O.items]) ?_
  (repeat walk_at "m")
  refine call_range1 ?_
  refine iter_range0 (by omega) ?_
  refine ⟨free2 ⟨rfl, .inl rfl, .inl rfl, rfl⟩ ⟨rfl, .inl rfl, .inl rfl, rfl⟩, fun i out s => out = [] ∧ i ≤ us.length ∧ s d1 = some (.lst us) ∧ s d2 = some (.lst us) ∧ KeepA σ.sto s, us.length, ⟨rfl, by omega, h1, h2, KeepA.refl⟩, ?_⟩
  rintro c i out s okc ⟨rfl, hi, hs1, hs2, kp⟩
  refine ⟨hi, _, rfl, ?_⟩
  by_cases hil : i < us.length
  · rw [if_pos hil]
    refine asg_name okc ?_
    show TB _ _ _ _ _ _
    rw [show (0 : Int) + (i : Int) * 1 = (i : Int) by omega]
    (repeat walk_at "m")
    refine item_at (vs := us) (v := us[i]) (by simp [St.setLoc, hs1, O.items]) (by omega) (by rw [Int.toNat_natCast, List.getElem?_eq_getElem hil]) ?_
    (repeat walk_at "m")
    refine item_at (vs := us) (v := us[i]) (by simp [St.setLoc, hs2, O.items]) (by omega) (by rw [Int.toNat_natCast, List.getElem?_eq_getElem hil]) ?_
    have fin : CompSkip [(Str.ofString "told", .ref d1), (Str.ofString "due", .ref d2)] (fun i out s => out = [] ∧ i ≤ us.length ∧ s d1 = some (.lst us) ∧ s d2 = some (.lst us) ∧ KeepA σ.sto s) i [] (St.setLoc ⟨[(Str.ofString "told", .ref d1), (Str.ofString "due", .ref d2)], s⟩ (Str.ofString "k") (.int i)) :=
      ⟨rfl, rfl, by omega, hs1, hs2, kp⟩
    rcases hE us[i] (List.getElem_mem hil) with e | ⟨b, e⟩
    · rw [e]
      refine cmp_isnot_none (fun v q => by cases q) ?_
      (repeat walk_at "m")
      rw [if_neg (by simp [isNoneV])]
      exact fin
    · rw [e]
      refine cmp_isnot_ref ?_
      (repeat walk_at "m")
      rw [if_neg (by simp)]
      exact fin
  rw [if_neg hil]
  intro D hD
  (repeat walk_at "m")
  refine ⟨by simp [maxLen], fun D2 hD2 => ?_⟩
  have n1 : D ≠ D2 := ne_new (o := .lst []) (by simp [St.setSto]) hD2
  refine cmp_eq_ints (xs := []) (ys := []) (by omega) (by simp [St.setSto, n1, O.items]) (by simp [St.setSto, O.items]) ?_
  (repeat walk_at "m")
  have kp2 := (kp.new (o := .lst []) hD).new (o := .lst []) hD2
  exact h _ kp2
end
section
variable {C : Cx} {k : Nat} {F : FE} {σ : St}
set_option maxHeartbeats 8000000 in
theorem lway1_ok {a dr : Addr} {rs : List Addr} {val : Addr → Int} {vs : List V} {p : Nat} {Q : V → St → Prop} (cx : CxOk C) (gl : C.GT.lookup (Str.ofString "len") = some (.opq (.builtin "len"))) (gr : C.GT.lookup (Str.ofString "range") = some (.opq (.type "range")))
    (fn : Fn C PySem.Challenge.pw_dn0024_01 (Str.ofString "_law_way") a) (hr : σ.sto dr = some (.lst vs)) (hE : ∀ v ∈ vs, isR rs v) (hPR : PR rs val σ.sto) (hp : p < vs.length) (hn : vs.length < 1000)
    (h : ∀ D sto', KeepA σ.sto sto' → σ.sto D = none → sto' D = some (.lst ((pathL (ltR val) vs.length p vs).map natV)) → Q (.ref D) ⟨σ.loc, sto'⟩) : CallOK C (k + 1) F (.ref a) [.ref dr, .int p] σ Q := by
  obtain ⟨pm, cd, doc, f⟩ := fn
  refine call_own cx f rfl ?_
  intro L
  have ok := f.envOk L F.frames
  have hm : maxLen = 1048576 := by decide
  refine x_cons ?_
  (repeat walk_at "m")
  refine ⟨by simp [maxLen], fun D hD => ?_⟩
  have n1 : dr ≠ D := ne_new hr hD
  refine then_next (x_cons ?_)
  refine s_forN [Str.ofString "row", Str.ofString "way"] (titer_of ?_)
  (repeat walk_at "m")
  refine call_len (vs := vs) (by simp [St.setSto, St.setLoc, n1, hr, O.items]) ?_
  (repeat walk_at "m")
  refine call_range2 ?_
  refine iter_range2 (by omega) (by omega) (by omega) ?_
  rw [show ((vs.length : Int) - ((p : Int) + 1)).toNat = vs.length - (p + 1) by omega]
  refine ⟨fun i σ' => ∃ (pre : List Nat) (q : Nat) (s : Addr → Option O), σ' = ⟨[(Str.ofString "row", .ref dr), (Str.ofString "way", .ref D)], s⟩ ∧ s dr = some (.lst vs) ∧ s D = some (.lst ((pre ++ [q]).map natV)) ∧ KeepA σ.sto s ∧
      pre ++ pathL (ltR val) vs.length q vs = pathL (ltR val) vs.length p vs ∧ q < p + 1 + i ∧ (2 * q + 1 < vs.length → p + 1 + i ≤ suPick (ltR val) vs.length vs q) ∧ i ≤ vs.length - (p + 1), vs.length - (p + 1),
    ⟨[], p, _, rfl, by simp [St.setSto, St.setLoc, n1, hr], by simp [St.setSto, St.setLoc], KeepA.refl.new hD, rfl, by omega, fun q => by have := suPick_lt (ltR val) vs.length vs p q; omega, by omega⟩, ?_⟩
  rintro i σ' ⟨pre, q, s, rfl, hsr, hsD, kp, hpre, hq, hpk, hi⟩
  refine ⟨hi, _, rfl, ?_⟩
  have hpath : ∀ r ∈ pathL (ltR val) vs.length p vs, r < vs.length := fun r hr => (path_ge vs.length vs _ p rfl r hr).2 hp
  have hlen : (pre ++ [q]).length ≤ vs.length := by
    have hnd : (pathL (ltR val) vs.length p vs).Nodup := (path_up vs.length vs _ p rfl).imp fun h => by omega
    have := nodup_le hnd (m := List.range vs.length) fun r hr => List.mem_range.mpr (hpath r hr)
    obtain ⟨r, er⟩ := path_head (lt := ltR val) vs.length q vs
    rw [← hpre, er] at this
    simp at this ⊢; omega
  by_cases hil : i < vs.length - (p + 1)
  · rw [if_pos hil]
    refine asg_name ok ?_
    rw [show (p : Int) + 1 + (i : Int) * 1 = ((p + 1 + i : Nat) : Int) by omega]
    generalize hkk : p + 1 + i = kk at hq hpk ⊢
    have hkn : kk < vs.length := by omega
    have hk1 : 0 < kk := by omega
    have hlast : ((pre ++ [q]).map natV)[((-1 : Int) + (((pre ++ [q]).map natV).length : Int)).toNat]? = some (.int q) := by
      rw [List.length_map, List.length_append, List.length_singleton, show ((-1 : Int) + ((pre.length + 1 : Nat) : Int)).toNat = pre.length by omega, List.map_append, List.getElem?_append_right (by simp)]
      simp
    have skip : kk ≠ suPick (ltR val) vs.length vs q ∨ ¬ 2 * q + 1 < vs.length → ∃ (pre' : List Nat) (q' : Nat) (s' : Addr → Option O), (⟨[(Str.ofString "row", .ref dr), (Str.ofString "way", .ref D)], s⟩ : St) = ⟨[(Str.ofString "row", .ref dr), (Str.ofString "way", .ref D)], s'⟩ ∧ s' dr = some (.lst vs) ∧ s' D = some (.lst ((pre' ++ [q']).map natV)) ∧ KeepA σ.sto s' ∧
        pre' ++ pathL (ltR val) vs.length q' vs = pathL (ltR val) vs.length p vs ∧ q' < p + 1 + (i + 1) ∧ (2 * q' + 1 < vs.length → p + 1 + (i + 1) ≤ suPick (ltR val) vs.length vs q') ∧ i + 1 ≤ vs.length - (p + 1) := fun hs =>
      ⟨pre, q, s, rfl, hsr, hsD, kp, hpre, by omega, fun z => by have := hpk z; rcases hs with hs | hs <;> omega, by omega⟩
    refine x_cons ?_
    (repeat walk_at "m")
    refine bin_mod (by omega) ?_
    rw [mod2]
    (repeat walk_at "m")
    rw [show ((kk : Int) - 1 + ((kk % 2 : Nat) : Int)) = ((kk - 1 + kk % 2 : Nat) : Int) by omega]
    generalize hlf : kk - 1 + kk % 2 = lf
    (repeat walk_at "m")
    refine bin_floordiv (by omega) (PyProof.noPylong_small (by decide)) ?_
    rw [half_sub hk1]
    (repeat walk_at "m")
    refine item_neg (vs := (pre ++ [q]).map natV) (v := .int q) (by simp [St.setLoc, hsD, O.items]) (by omega) (by rw [List.length_map, List.length_append]; simp; omega) hlast ?_
    (repeat walk_at "m")
    by_cases hpar : (kk - 1) / 2 = q
    · rw [if_pos (by simp; omega)]
      have hlq : lf = 2 * q + 1 := by omega
      have more : kk = suPick (ltR val) vs.length vs q → ∀ s' : Addr → Option O, s' dr = some (.lst vs) → s' D = some (.lst ((pre ++ [q]).map natV ++ [.int kk])) → KeepA σ.sto s' → ∃ (pre' : List Nat) (q' : Nat) (s'' : Addr → Option O), (⟨[(Str.ofString "row", .ref dr), (Str.ofString "way", .ref D)], s'⟩ : St) = ⟨[(Str.ofString "row", .ref dr), (Str.ofString "way", .ref D)], s''⟩ ∧ s'' dr = some (.lst vs) ∧ s'' D = some (.lst ((pre' ++ [q']).map natV)) ∧ KeepA σ.sto s'' ∧
          pre' ++ pathL (ltR val) vs.length q' vs = pathL (ltR val) vs.length p vs ∧ q' < p + 1 + (i + 1) ∧ (2 * q' + 1 < vs.length → p + 1 + (i + 1) ≤ suPick (ltR val) vs.length vs q') ∧ i + 1 ≤ vs.length - (p + 1) := fun e s' a1 a2 a3 =>
        ⟨pre ++ [q], kk, s', rfl, a1, by rw [a2]; simp, a3, by rw [List.append_assoc, List.singleton_append, e, ← path_more (by omega)]; exact hpre, by omega, fun z => by have := suPick_lt (ltR val) vs.length vs kk z; omega, by omega⟩
      (repeat walk_at "m")
      refine call_len (vs := vs) (by simp [St.setLoc, hsr, O.items]) ?_
      (repeat walk_at "m")
      by_cases hend : lf + 1 = vs.length
      · rw [if_pos (by simp; omega), if_pos rfl]
        have hkp : kk = suPick (ltR val) vs.length vs q := by unfold suPick; rw [if_neg (by omega)]; omega
        (repeat walk_at "m")
        refine e_meth slot_list_append rfl ?_
        (repeat walk_at "m")
        refine ⟨D, (pre ++ [q]).map natV, rfl, by simp [St.setLoc, hsD], ?_⟩
        (repeat walk_at "m")
        refine call_append (vs := (pre ++ [q]).map natV) (by simp [St.setLoc, hsD]) (by simp at hlen ⊢; omega) ?_
        (repeat walk_at "m")
        exact turnF_next (more hkp _ (by simp [St.setSto, St.setLoc, n1, hsr]) (by simp [St.setSto, St.setLoc]) (kp.upd hD))
      · rw [if_neg (by simp; omega)]
        have hl2 : 2 * q + 2 < vs.length := by omega
        (repeat walk_at "m")
        refine item_at (vs := vs) (v := gt vs (2 * q + 1)) (by simp [St.setLoc, hsr, O.items]) (by omega) (by rw [Int.toNat_natCast, hlq, List.getElem?_eq_getElem (by omega), gt_eq (by omega)]) ?_
        (repeat walk_at "m")
        refine item_at (vs := vs) (v := gt vs (2 * q + 2)) (by simp [St.setLoc, hsr, O.items]) (by omega) (by rw [show ((lf : Int) + 1).toNat = 2 * q + 2 by omega, List.getElem?_eq_getElem hl2, gt_eq hl2]) ?_
        refine ord_R.cmp _ _ _ _ _ _ (hPR.keep kp) (hE _ (gt_mem (by omega))) (hE _ (gt_mem hl2)) ?_
        (repeat walk_at "m")
        refine cmp_eq_bool ?_
        (repeat walk_at "m")
        by_cases hkl : kk = lf
        · cases hlt : ltR val (gt vs (2 * q + 1)) (gt vs (2 * q + 2)) with
          | true =>
            rw [if_pos (by simp [hkl])]
            have hkp : kk = suPick (ltR val) vs.length vs q := by unfold suPick; rw [if_neg (by rintro ⟨_, z⟩; have : ltR val (gt vs (2 * q + 1)) (gt vs (2 * q + 2)) = false := z; rw [hlt] at this; cases this)]; omega
            (repeat walk_at "m")
            refine e_meth slot_list_append rfl ?_
            (repeat walk_at "m")
            refine ⟨D, (pre ++ [q]).map natV, rfl, by simp [St.setLoc, hsD], ?_⟩
            (repeat walk_at "m")
            refine call_append (vs := (pre ++ [q]).map natV) (by simp [St.setLoc, hsD]) (by simp at hlen ⊢; omega) ?_
            (repeat walk_at "m")
            exact turnF_next (more hkp _ (by simp [St.setSto, St.setLoc, n1, hsr]) (by simp [St.setSto, St.setLoc]) (kp.upd hD))
          | false =>
            rw [if_neg (by simp [hkl])]
            (repeat walk_at "m")
            refine turnF_next (skip (.inl ?_))
            unfold suPick
            rw [if_pos ⟨hl2, hlt⟩]; omega
        · have hkr : kk = 2 * q + 2 := by omega
          have hbe : ((kk : Int) == (lf : Int)) = false := by simp; omega
          rw [hbe]
          cases hlt : ltR val (gt vs (2 * q + 1)) (gt vs (2 * q + 2)) with
          | true =>
            rw [if_neg (by simp)]
            (repeat walk_at "m")
            refine turnF_next (skip (.inl ?_))
            unfold suPick
            rw [if_neg (by rintro ⟨_, z⟩; have : ltR val (gt vs (2 * q + 1)) (gt vs (2 * q + 2)) = false := z; rw [hlt] at this; cases this)]; omega
          | false =>
            rw [if_pos (by simp)]
            have hkp : kk = suPick (ltR val) vs.length vs q := by unfold suPick; rw [if_pos ⟨hl2, hlt⟩]; omega
            (repeat walk_at "m")
            refine e_meth slot_list_append rfl ?_
            (repeat walk_at "m")
            refine ⟨D, (pre ++ [q]).map natV, rfl, by simp [St.setLoc, hsD], ?_⟩
            (repeat walk_at "m")
            refine call_append (vs := (pre ++ [q]).map natV) (by simp [St.setLoc, hsD]) (by simp at hlen ⊢; omega) ?_
            (repeat walk_at "m")
            exact turnF_next (more hkp _ (by simp [St.setSto, St.setLoc, n1, hsr]) (by simp [St.setSto, St.setLoc]) (kp.upd hD))
    · rw [if_neg (by simp; omega), if_neg (by simp)]
      (repeat walk_at "m")
      refine turnF_next (skip ?_)
      by_cases z : 2 * q + 1 < vs.length
      · left; intro e
        have : (suPick (ltR val) vs.length vs q - 1) / 2 = q := by unfold suPick; split <;> omega
        omega
      · exact .inr z
  · rw [if_neg hil]
    (repeat walk_at "m")
    have hz : ¬ 2 * q + 1 < vs.length := fun z => by have := hpk z; have := suPick_lt (ltR val) vs.length vs q z; omega
    rw [path_end hz] at hpre
    rw [hpre] at hsD
    exact h D s kp hD hsD
end
section
variable {C : Cx} {k : Nat} {F : FE} {σ : St}
set_option maxHeartbeats 8000000 in
theorem ldue1_ok {a dr dw : Addr} {rs : List Addr} {val : Addr → Int} {vs : List V} {p : Nat} {w r0 : List Nat} {Q : V → St → Prop} (cx : CxOk C) (hcalm : C.exc = none) (gl : C.GT.lookup (Str.ofString "len") = some (.opq (.builtin "len"))) (gr : C.GT.lookup (Str.ofString "range") = some (.opq (.type "range")))
    (gli : C.GT.lookup (Str.ofString "list") = some (.opq (.type "list"))) (gmx : C.GT.lookup (Str.ofString "max") = some (.opq (.builtin "max")))
    (fn : Fn C PySem.Challenge.pw_dn0024_01 (Str.ofString "_law_due") a) (hr : σ.sto dr = some (.lst vs)) (hw : σ.sto dw = some (.lst (w.map natV))) (hE : ∀ v ∈ vs, isR rs v) (hPR : PR rs val σ.sto) (hn : vs.length < 1000)
    (hw0 : w = p :: r0) (hup : w.Pairwise (· < ·)) (hwn : ∀ q ∈ w, q < vs.length)
    (h : ∀ D sto', KeepA σ.sto sto' → σ.sto D = none → sto' D = some (.lst (dueW (ltR val) (gt vs p) w vs)) → Q (.ref D) ⟨σ.loc, sto'⟩) : CallOK C (k + 1) F (.ref a) [.ref dr, .ref dw] σ Q := by
  obtain ⟨pm, cd, doc, f⟩ := fn
  refine call_own cx f rfl ?_
  intro L
  have ok := f.envOk L F.frames
  have hm : maxLen = 1048576 := by decide
  have hwl : w.length ≤ vs.length := by
    have := nodup_le (hup.imp fun h => by omega : w.Nodup) (m := List.range vs.length) fun q hq => List.mem_range.mpr (hwn q hq)
    simpa using this
  have hwat : ∀ j (hj : j < w.length), (w.map natV)[j]? = some (.int (w[j] : Nat)) := fun j hj => by rw [List.getElem?_map, List.getElem?_eq_getElem hj]; rfl
  have hvat : ∀ q, q < vs.length → vs[q]? = some (gt vs q) := fun q hq => by rw [List.getElem?_eq_getElem hq, gt_eq hq]
  have hw00 : 0 < w.length := by rw [hw0]; simp
  have hwz : w[0] = p := by simp [hw0]
  have hp : p < vs.length := hwn p (by rw [hw0]; exact .head _)
  refine x_cons (s_assign (hk := .inr ⟨rfl, L + 3, rfl, .tail _ (.head _)⟩) ok ?_)
  (repeat walk_at "m")
  refine item_at (vs := w.map natV) (v := .int (p : Nat)) (by simp [hw, O.items]) (by omega) (by rw [show Int.toNat 0 = 0 from rfl, hwat 0 hw00, hwz]) ?_
  refine item_at (vs := vs) (v := gt vs p) (by simp [hr, O.items]) (by omega) (by rw [Int.toNat_natCast, hvat p hp]) ?_
  generalize hxe : gt vs p = x at h
  have hEx : isR rs x := hxe ▸ hE _ (gt_mem hp)
  refine then_next (x_cons ?_)
  (repeat walk_at "m")
  refine ⟨by simp [maxLen], fun t1 ht1 => ?_⟩
  have q1 : dr ≠ t1 := ne_new (o := .lst vs) (by simp [St.setLoc, hr]) ht1
  have q2 : dw ≠ t1 := ne_new (o := .lst (w.map natV)) (by simp [St.setLoc, hw]) ht1
  have kp0 : KeepA σ.sto (fun b => if b = t1 then some (.lst [.int 0]) else σ.sto b) := KeepA.refl.new ht1
  refine e_comp (hcl := fun p hp => by
        rcases List.mem_cons.mp hp with e | hp
        · rw [e]; exact .tail _ (.head _)
        · rcases List.mem_cons.mp hp with e | hp
          · rw [e]; exact .tail _ (.tail _ (.head _))
          · rw [List.mem_singleton.mp hp]; exact .head _) (hap := by simp) ok [(Str.ofString "way", L + 2), (Str.ofString "row", L + 1), (Str.ofString "item", L + 3)] [(Str.ofString "way", .ref dw), (Str.ofString "row", .ref dr), (Str.ofString "item", x)] (titer_of ?_)
  (repeat walk_at "m")
  refine call_len (vs := w.map natV) (by simp [St.setSto, St.setLoc, q2, hw, O.items]) ?_
  rw [List.length_map]
  (repeat walk_at "m")
  refine call_range2 ?_
  refine iter_range2 (by omega) (by omega) (by omega) ?_
  rw [show ((w.length : Int) - 1).toNat = w.length - 1 by omega]
  refine ⟨free3 ⟨rfl, .inl rfl, .inl rfl, rfl⟩ ⟨rfl, .inl rfl, .inl rfl, rfl⟩ ⟨rfl, .inl rfl, .inl rfl, rfl⟩, fun i out s => out = ((List.range' 1 i).filter fun j => !ltR val x (gt vs (w.getD j 0))).map natV ∧ i ≤ w.length - 1 ∧ s t1 = some (.lst [.int 0]) ∧ s dr = some (.lst vs) ∧ s dw = some (.lst (w.map natV)) ∧ KeepA σ.sto s, w.length - 1,
    ⟨rfl, by omega, by simp [St.setSto], by simp [St.setSto, St.setLoc, q1, hr], by simp [St.setSto, St.setLoc, q2, hw], kp0⟩, ?_⟩
  rintro c i out s okc ⟨rfl, hi, hs1, hsr, hsw, kp⟩
  refine ⟨hi, _, rfl, ?_⟩
  have hol : (((List.range' 1 i).filter fun j => !ltR val x (gt vs (w.getD j 0))).map natV).length ≤ i := by rw [List.length_map]; exact Nat.le_trans (List.length_filter_le _ _) (by simp)
  by_cases hil : i < w.length - 1
  · rw [if_pos hil]
    refine asg_name okc ?_
    show TB _ _ _ _ _ _
    rw [show (1 : Int) + (i : Int) * 1 = ((1 + i : Nat) : Int) by omega]
    (repeat walk_at "m")
    have hj : 1 + i < w.length := by omega
    have hwq := hwn _ (List.getElem_mem hj)
    refine item_at (vs := w.map natV) (v := .int (w[1 + i] : Nat)) (by simp [St.setLoc, hsw, O.items]) (by omega) (by rw [Int.toNat_natCast]; exact hwat _ hj) ?_
    refine item_at (vs := vs) (v := gt vs w[1 + i]) (by simp [St.setLoc, hsr, O.items]) (by omega) (by rw [Int.toNat_natCast]; exact hvat _ hwq) ?_
    refine ord_R.cmp _ _ _ _ _ _ (hPR.keep kp) hEx (hE _ (gt_mem hwq)) ?_
    (repeat walk_at "m")
    have egd : w.getD (1 + i) 0 = w[1 + i] := by simp [hj]
    have hrg : List.range' 1 (i + 1) = List.range' 1 i ++ [1 + i] := by rw [List.range'_concat]; simp
    cases hlt : ltR val x (gt vs w[1 + i]) with
    | true =>
      rw [if_neg (by simp)]
      exact ⟨rfl, by rw [hrg, List.filter_append]; simp only [List.filter_cons, List.filter_nil, egd, hlt]; simp, by omega, hs1, hsr, hsw, kp⟩
    | false =>
      rw [if_pos (by simp)]
      (repeat walk_at "m")
      exact ⟨by omega, rfl, by rw [hrg, List.filter_append]; simp only [List.filter_cons, List.filter_nil, egd, hlt]; simp, by omega, hs1, hsr, hsw, kp⟩
  rw [if_neg hil]
  intro d2 hd2
  have hix : i = w.length - 1 := by omega
  have r1 : t1 ≠ d2 := ne_new hs1 hd2
  have r2 : dr ≠ d2 := ne_new hsr hd2
  have r3 : dw ≠ d2 := ne_new hsw hd2
  have kp2 := kp.new (o := .lst (((List.range' 1 i).filter fun j => !ltR val x (gt vs (w.getD j 0))).map natV)) hd2
  refine bin_cat (us := [.int 0]) (vs := ((List.range' 1 i).filter fun j => !ltR val x (gt vs (w.getD j 0))).map natV) (by simp [St.setSto, r1, hs1, O.items]) (by simp [St.setSto, O.items]) (by simp only [List.length_singleton]; omega) fun d3 hd3 => ?_
  have s2 : dr ≠ d3 := ne_new (o := .lst vs) (by simp [St.setSto, r2, hsr]) hd3
  have s3 : dw ≠ d3 := ne_new (o := .lst (w.map natV)) (by simp [St.setSto, r3, hsw]) hd3
  have kp3 := kp2.new (o := .lst ([.int 0] ++ ((List.range' 1 i).filter fun j => !ltR val x (gt vs (w.getD j 0))).map natV)) hd3
  (repeat walk_at "m")
  have exs : [V.int 0] ++ ((List.range' 1 i).filter fun j => !ltR val x (gt vs (w.getD j 0))).map natV = ((0 : Nat) :: ((List.range' 1 i).filter fun j => !ltR val x (gt vs (w.getD j 0)))).map natV := rfl
  have exi : ((0 : Nat) :: ((List.range' 1 i).filter fun j => !ltR val x (gt vs (w.getD j 0)))).map natV = (((0 : Nat) :: ((List.range' 1 i).filter fun j => !ltR val x (gt vs (w.getD j 0)))).map fun (i : Nat) => (i : Int)).map V.int := by rw [List.map_map]; rfl
  refine call_max_ints (xs := ((0 : Nat) :: ((List.range' 1 i).filter fun j => !ltR val x (gt vs (w.getD j 0)))).map fun (i : Nat) => (i : Int)) (by simp only [St.setSto, if_true, Option.bind_some, O.items]; rw [exs, exi]) (by simp) fun M hM1 hM2 => ?_
  obtain ⟨m, hmM, hmax, hmlt⟩ : ∃ m : Nat, M = (m : Int) ∧ (∀ j, m < j → j < w.length → ltR val x (gt vs (w.getD j 0)) = true) ∧ m < w.length ∧ (0 < m → ltR val x (gt vs (w.getD m 0)) = false) := by
    obtain ⟨m, hm1, hm2⟩ := List.mem_map.mp hM1
    refine ⟨m, hm2.symm, fun j hj1 hj2 => ?_, ?_⟩
    · cases hlt : ltR val x (gt vs (w.getD j 0)) with
      | true => rfl
      | false =>
        have := hM2 (j : Int) (List.mem_map.mpr ⟨j, .tail _ (List.mem_filter.mpr ⟨by rw [List.mem_range'_1]; omega, by simp only [hlt]; rfl⟩), rfl⟩)
        omega
    · rcases List.mem_cons.mp hm1 with e | e
      · subst e; exact ⟨hw00, fun q => by omega⟩
      · obtain ⟨e1, e2⟩ := List.mem_filter.mp e
        rw [List.mem_range'_1] at e1
        exact ⟨by omega, fun _ => by simpa using e2⟩
  obtain ⟨hmw, hmf⟩ := hmlt
  subst hmM
  (repeat walk_at "m")
  refine call_list_list (vs := vs) (by simp [St.setSto, St.setLoc, s2, r2, hsr, O.items]) fun dd hdd => ?_
  have u2 : dr ≠ dd := ne_new (o := .lst vs) (by simp [St.setSto, St.setLoc, s2, r2, hsr]) hdd
  have u3 : dw ≠ dd := ne_new (o := .lst (w.map natV)) (by simp [St.setSto, St.setLoc, s3, r3, hsw]) hdd
  have kd : σ.sto dd = none := by
    cases hq : σ.sto dd with
    | none => rfl
    | some o => exact absurd ((kp3 dd o hq).symm.trans hdd) (by simp)
  have kp4 := kp3.new (o := .lst vs) hdd
  refine then_next (x_cons ?_)
  refine s_forN [Str.ofString "row", Str.ofString "way", Str.ofString "item", Str.ofString "last", Str.ofString "due"] (titer_of ?_)
  (repeat walk_at "m")
  refine call_range1 ?_
  refine iter_range0 (by omega) ?_
  refine ⟨fun j σ' => ∃ (l : List V) (s : Addr → Option O), σ' = ⟨[(Str.ofString "row", .ref dr), (Str.ofString "way", .ref dw), (Str.ofString "item", x), (Str.ofString "last", .int m), (Str.ofString "due", .ref dd)], s⟩ ∧ s dr = some (.lst vs) ∧ s dw = some (.lst (w.map natV)) ∧ s dd = some (.lst l) ∧ KeepA σ.sto s ∧
      l.length = vs.length ∧ (∀ c ∈ w.drop (j + 1), gt l c = gt vs c) ∧ dueW (ltR val) x (w.drop j) l = dueW (ltR val) x w vs ∧ j ≤ m, m,
    ⟨vs, _, rfl, by simp [St.setSto, St.setLoc, u2, s2, r2, hsr], by simp [St.setSto, St.setLoc, u3, s3, r3, hsw], by simp [St.setSto, St.setLoc], kp4, rfl, fun _ _ => rfl, rfl, by omega⟩, ?_⟩
  clear hsr hsw hs1 kp kp2 kp3 kp4 okc hd2 hd3 hdd
  rintro j σ' ⟨l, s, rfl, hsr, hsw, hsd, kp, hll, hsame, hdu, hj⟩
  refine ⟨hj, _, rfl, ?_⟩
  have hjw : j < w.length := by omega
  have hdrop : w.drop j = w[j] :: w.drop (j + 1) := List.drop_eq_getElem_cons hjw
  have hgd : ∀ j (hj : j < w.length), w.getD j 0 = w[j] := fun j hj => by simp [hj]
  by_cases hjm : j < m
  · rw [if_pos hjm]
    refine asg_name ok ?_
    rw [show (0 : Int) + (j : Int) * 1 = (j : Int) by omega]
    have hj1 : j + 1 < w.length := by omega
    have hdrop2 : w.drop (j + 1) = w[j + 1] :: w.drop (j + 2) := List.drop_eq_getElem_cons hj1
    have hwq := hwn _ (List.getElem_mem hj1)
    have hwp := hwn _ (List.getElem_mem hjw)
    refine x_cons ?_
    (repeat walk_at "m")
    refine item_at (vs := w.map natV) (v := .int (w[j + 1] : Nat)) (by simp [St.setLoc, hsw, O.items]) (by omega) (by rw [show ((j : Int) + 1).toNat = j + 1 by omega]; exact hwat _ hj1) ?_
    refine item_at (vs := vs) (v := gt vs w[j + 1]) (by simp [St.setLoc, hsr, O.items]) (by omega) (by rw [Int.toNat_natCast]; exact hvat _ hwq) ?_
    (repeat walk_at "m")
    refine item_at (vs := w.map natV) (v := .int (w[j] : Nat)) (by simp [St.setLoc, hsw, O.items]) (by omega) (by rw [Int.toNat_natCast]; exact hwat _ hjw) ?_
    refine set_at (vs := l) (by simp [St.setLoc, hsd]) (by omega) (by omega) ?_
    rw [Int.toNat_natCast]
    (repeat walk_at "m")
    refine turnF_next ⟨l.set w[j] (gt vs w[j + 1]), _, rfl, by simp [St.setSto, St.setLoc, u2, hsr], by simp [St.setSto, St.setLoc, u3, hsw], by simp [St.setSto, St.setLoc], kp.upd kd, by simpa using hll, fun c hc => ?_, ?_, by omega⟩
    · have hc' : c ∈ w.drop (j + 1) := by rw [hdrop2]; exact .tail _ hc
      have hne : c ≠ w[j] := fun e => by
        have hp2 := hup.drop (i := j)
        rw [hdrop] at hp2
        have := (List.pairwise_cons.mp hp2).1 c hc'
        omega
      rw [gt_set_ne hne]; exact hsame c hc'
    · rw [← hdu, hdrop]
      show _ = if (w.drop (j + 1)).all (fun c => ltR val x (gt l c)) = true then _ else dueW (ltR val) x (w.drop (j + 1)) (l.set w[j] (gt l ((w.drop (j + 1)).headD 0)))
      rw [if_neg]
      · rw [hdrop2, List.headD_cons, hsame _ (by rw [hdrop2]; exact .head _)]
      · rw [List.all_eq_true]
        intro hall
        have hmm : w[m] ∈ w.drop (j + 1) := by
          rw [List.mem_iff_getElem]
          exact ⟨m - (j + 1), by simp; omega, by rw [List.getElem_drop]; congr 1; omega⟩
        have q1 := hall _ hmm
        have q2 := hmf (by omega)
        rw [hsame _ hmm, ← hgd m hmw, q2] at q1
        cases q1
  · rw [if_neg hjm]
    have hjm' : j = m := by omega
    subst hjm'
    have hwp := hwn _ (List.getElem_mem hjw)
    (repeat walk_at "m")
    refine item_at (vs := w.map natV) (v := .int (w[j] : Nat)) (by simp [hsw, O.items]) (by omega) (by rw [Int.toNat_natCast]; exact hwat _ hjw) ?_
    refine set_at (vs := l) (by simp [hsd]) (by omega) (by omega) ?_
    rw [Int.toNat_natCast]
    (repeat walk_at "m")
    have hfin : l.set w[j] x = dueW (ltR val) x w vs := by
      rw [← hdu, hdrop]
      show _ = if (w.drop (j + 1)).all (fun c => ltR val x (gt l c)) = true then _ else _
      rw [if_pos]
      rw [List.all_eq_true]
      intro c hc
      rw [hsame c hc]
      obtain ⟨i', hi', e⟩ := List.mem_iff_getElem.mp hc
      rw [List.getElem_drop] at e
      simp at hi'
      have := hmax (j + 1 + i') (by omega) (by omega)
      rw [hgd _ (by omega), e] at this
      exact this
    rw [hfin]
    exact h dd _ (kp.upd kd) kd (by simp [St.setSto])
end
section
variable {C : Cx} {k : Nat}
set_option maxHeartbeats 8000000 in
theorem law_refused {a asu als dr : Addr} {rs : List Addr} (cx : CxOk C) (hcalm : C.exc = none) (gl : C.GT.lookup (Str.ofString "len") = some (.opq (.builtin "len"))) (gr : C.GT.lookup (Str.ofString "range") = some (.opq (.type "range")))
    (gli : C.GT.lookup (Str.ofString "list") = some (.opq (.type "list"))) (gst : C.GT.lookup (Str.ofString "str") = some (.opq (.type "str"))) (gI : C.GT.lookup (Str.ofString "IndexError") = some (.opq (.type "IndexError")))
    (fsu : Fn C PySem.Challenge.pw_dn0024_01 (Str.ofString "_siftup") asu) (gsu : C.GT.lookup (Str.ofString "_siftup") = some (.ref asu)) (fls : Fn C PySem.Challenge.pw_dn0024_01 (Str.ofString "_law_same") als) (gls : C.GT.lookup (Str.ofString "_law_same") = some (.ref als))
    {pm cd doc : Value} (f : FnAt C a (fdOf (stOf PySem.Challenge.pw_dn0024_01 (Str.ofString "law")) pm cd doc) (bodyOf (stOf PySem.Challenge.pw_dn0024_01 (Str.ofString "law"))) (namesOf (stOf PySem.Challenge.pw_dn0024_01 (Str.ofString "law")))) (L : Addr)
    {s : Addr → Option O} (hsr : s dr = some (.lst (rs.map V.ref))) (hl : rs.length < 1000) :
    TX C (k + 12) (frameOf (fdOf (stOf PySem.Challenge.pw_dn0024_01 (Str.ofString "law")) pm cd doc) L a []) ((bodyOf (stOf PySem.Challenge.pw_dn0024_01 (Str.ofString "law"))).drop 2)
      ⟨[(Str.ofString "row", .ref dr)], s⟩ fun fl _ => retV fl = .bool true := by
  have ok := f.envOk L []
  have hm : maxLen = 1048576 := by decide
  refine x_cons ?_
  (repeat walk_at "m")
  refine call_list_list (vs := rs.map V.ref) (by simp [hsr, O.items]) fun dt hdt => ?_
  have n1 : dr ≠ dt := ne_new hsr hdt
  refine then_next ?_
  obtain ⟨pm', cd', doc', fw⟩ := fsu
  refine x_tryAs (k := k + 11) (msg := Str.ofString "list index out of range") (ws := [.ref dt, .int rs.length]) cx ok hcalm gI fw rfl ?_ rfl rfl rfl ?_ ?_ (fun _ => rfl)
  · (repeat walk_at "m")
    refine call_len (vs := rs.map V.ref) (by simp [St.setSto, St.setLoc, n1, hsr, O.items]) ?_
    rw [List.length_map]
    (repeat walk_at "m")
    exact ⟨rfl, rfl, rfl⟩
  · intro L' fr
    have ok' := fw.envOk L' fr
    refine wx_go ?_
    (repeat walk_at "m")
    refine call_len (vs := rs.map V.ref) (by simp [St.setSto, St.setLoc, O.items]) ?_
    refine ⟨rfl, wx_go ?_⟩
    (repeat walk_at "m")
    refine ⟨rfl, wx_here (w_assign (w_item ?_ hcalm))⟩
    (repeat walk_at "m")
    exact ⟨dt, rs.map V.ref, rs.length, rfl, rfl, by simp [St.setSto, St.setLoc, O.items], by simp, fitsIndex_both (by omega) (by omega), rfl⟩
  · intro GB' ea t0 tk hbk hxa htu
    have cx' : CxOk { C with GB := GB', exc := some ea } := cx.more hbk
    have ifls : IsFun GB' (.ref als) := let ⟨_, _, _, g⟩ := Fn.more (x := some ea) fls hbk; g.isFun
    refine e_and (e_cmp (e_call ?_))
    refine e_glob cx' ok gst ?_
    (repeat walk_at "m")
    refine call_str_exc hxa htu ?_
    refine e_str (cmp_eq_str ?_)
    (repeat walk_at "m")
    rw [if_pos (by simp)]
    refine e_call (e_glob cx' ok gls ?_)
    (repeat walk_at "m")
    refine ⟨ifls, lsame_ok (k := k + 4) (us := rs.map V.ref) cx' gl gr (Fn.more (x := some ea) fls hbk) (by simp [St.setSto, St.setLoc]) (by simp [St.setSto, St.setLoc, n1, hsr]) (fun v hv => ?_) (by simpa using hl) fun _ _ => rfl⟩
    obtain ⟨b, _, e⟩ := List.mem_map.mp hv
    exact .inr ⟨b, e.symm⟩
end
section
variable {C : Cx} {k : Nat}
theorem isR_val {rs : List Addr} {v : V} (h : isR rs v) : v = .none ∨ ∃ a, v = .ref a := let ⟨a, _, e⟩ := h; .inr ⟨a, e⟩
set_option maxHeartbeats 16000000 in
theorem law_walk {a asd asu alw ald als sc : Addr} {xs : List Int} (cx : CxOk C) (hcalm : C.exc = none) (gl : C.GT.lookup (Str.ofString "len") = some (.opq (.builtin "len"))) (gr : C.GT.lookup (Str.ofString "range") = some (.opq (.type "range")))
    (gli : C.GT.lookup (Str.ofString "list") = some (.opq (.type "list"))) (gmx : C.GT.lookup (Str.ofString "max") = some (.opq (.builtin "max"))) (gse : C.GT.lookup (Str.ofString "set") = some (.opq (.type "set"))) (gst : C.GT.lookup (Str.ofString "str") = some (.opq (.type "str"))) (gI : C.GT.lookup (Str.ofString "IndexError") = some (.opq (.type "IndexError")))
    (fsd : Fn C PySem.Challenge.pw_dn0024_01 (Str.ofString "_siftdown") asd) (gsd : C.GT.lookup (Str.ofString "_siftdown") = some (.ref asd))
    (fsu : Fn C PySem.Challenge.pw_dn0024_01 (Str.ofString "_siftup") asu) (gsu : C.GT.lookup (Str.ofString "_siftup") = some (.ref asu)) (flw : Fn C PySem.Challenge.pw_dn0024_01 (Str.ofString "_law_way") alw) (glw : C.GT.lookup (Str.ofString "_law_way") = some (.ref alw))
    (fld : Fn C PySem.Challenge.pw_dn0024_01 (Str.ofString "_law_due") ald) (gld : C.GT.lookup (Str.ofString "_law_due") = some (.ref ald)) (fls : Fn C PySem.Challenge.pw_dn0024_01 (Str.ofString "_law_same") als) (gls : C.GT.lookup (Str.ofString "_law_same") = some (.ref als)) (hx : xs.length < 64)
    {pm cd doc : Value} (f : FnAt C a (fdOf (stOf PySem.Challenge.pw_dn0024_01 (Str.ofString "law")) pm cd doc) (bodyOf (stOf PySem.Challenge.pw_dn0024_01 (Str.ofString "law"))) (namesOf (stOf PySem.Challenge.pw_dn0024_01 (Str.ofString "law")))) (L : Addr) :
    TX C (k + 12) (frameOf (fdOf (stOf PySem.Challenge.pw_dn0024_01 (Str.ofString "law")) pm cd doc) L a []) (bodyOf (stOf PySem.Challenge.pw_dn0024_01 (Str.ofString "law"))) ⟨(namesOf (stOf PySem.Challenge.pw_dn0024_01 (Str.ofString "law"))).zip [.ref sc], fun b => if b = sc then some (.rol (xs.map V.int)) else none⟩
      fun fl _ => retV fl = .bool true := by
  have ok := f.envOk L []
  have hm : maxLen = 1048576 := by decide
  have ifsu : IsFun C.GB (.ref asu) := let ⟨_, _, _, g⟩ := fsu; g.isFun
  have iflw : IsFun C.GB (.ref alw) := let ⟨_, _, _, g⟩ := flw; g.isFun
  have ifld : IsFun C.GB (.ref ald) := let ⟨_, _, _, g⟩ := fld; g.isFun
  have ifls : IsFun C.GB (.ref als) := let ⟨_, _, _, g⟩ := fls; g.isFun
  refine x_cons (s_assign (hk := .inr ⟨rfl, L + 1, rfl, .tail _ (.tail _ (.tail _ (.head _)))⟩) ok (e_comp (hap := .nil) ok [] [] (titer_of ?_)))
  (repeat walk_at "m")
  refine ⟨by simp [maxLen], fun t1 ht1 => ?_⟩
  have q1 : sc ≠ t1 := fun e => by rw [← e] at ht1; simp at ht1
  refine bin_cat (us := xs.map V.int) (vs := [4, 2, 2, 2, 5, 2].map V.int) (by simp [St.setSto, q1, O.items]) (by simp [St.setSto, O.items]) (by simp; omega) fun d0 hd0 => ?_
  rw [← List.map_append]
  generalize hys : xs ++ [4, 2, 2, 2, 5, 2] = ys
  have hyl : ys.length < 80 := by rw [← hys]; simp; omega
  refine iter_list (vs := ys.map V.int) (by simp [St.setSto, O.items]) ?_
  refine ⟨free0, fun i out s => (∃ (rs : List Addr) (val : Addr → Int), out = rs.map V.ref ∧ rs.length = i ∧ PR rs val s) ∧ i ≤ ys.length ∧ s d0 = some (.lst (ys.map V.int)), ys.length,
    ⟨⟨[], fun _ => 0, rfl, rfl, fun a ha => (nomatch ha)⟩, by omega, by simp [St.setSto]⟩, ?_⟩
  rintro c i out s okc ⟨⟨rs, val, rfl, hrl, hPR⟩, hi, hs0⟩
  refine ⟨hi, _, getList_at (vs := ys.map V.int) (by simp [hs0, O.items]), ?_⟩
  by_cases hil : i < ys.length
  · rw [List.getElem?_map, List.getElem?_eq_getElem hil]
    refine asg_name okc ?_
    show TE _ _ _ _ _ _
    (repeat walk_at "m")
    refine ⟨by simp [maxLen], fun D hD => ?_⟩
    have hDn : D ∉ rs := hPR.fresh hD
    have n0 : d0 ≠ D := ne_new hs0 hD
    refine ⟨by simp; omega, rfl, ⟨rs ++ [D], fun a => if a = D then ys[i] else val a, by simp, by simp; omega, fun a ha => ?_⟩, by omega, by simp [St.setSto, St.setLoc, n0, hs0]⟩
    rcases List.mem_append.mp ha with q | q
    · have : a ≠ D := fun e => hDn (e ▸ q)
      simp [St.setSto, St.setLoc, this, hPR a q]
    · rw [List.mem_singleton.mp q]; simp [St.setSto, St.setLoc]
  rw [List.getElem?_eq_none (by rw [List.length_map]; omega)]
  intro dr hdr
  have hrl2 : rs.length < 80 := by omega
  have hdrn : dr ∉ rs := hPR.fresh hdr
  refine then_next (x_cut [Str.ofString "row"] [(Str.ofString "row", .ref dr)] (fun s => s dr = some (.lst (rs.map V.ref)) ∧ PR rs val s) rfl ⟨by simp [St.setSto, St.setLoc], fun a ha => by
    have : a ≠ dr := fun e => hdrn (e ▸ ha)
    simp [St.setSto, St.setLoc, this, hPR a ha]⟩ ?_)
  clear hPR hs0 hdr okc hrl hi hil hd0 ht1
  rintro s ⟨hsr, hPR⟩
  generalize hvs : rs.map V.ref = vs at hsr
  have hvl : vs.length = rs.length := by rw [← hvs]; simp
  have hE : ∀ v ∈ vs, isR rs v := fun v hv => by
    rw [← hvs] at hv
    obtain ⟨b, hb, e⟩ := List.mem_map.mp hv
    exact ⟨b, hb, e.symm⟩
  refine x_cons ?_
  refine s_forN [Str.ofString "row"] (titer_of ?_)
  (repeat walk_at "m")
  refine call_len (vs := vs) (by simp [hsr, O.items]) ?_
  (repeat walk_at "m")
  refine call_range1 ?_
  refine iter_range0 (by omega) ?_
  refine ⟨fun i σ' => ∃ s, σ' = ⟨[(Str.ofString "row", .ref dr)], s⟩ ∧ s dr = some (.lst vs) ∧ PR rs val s ∧ i ≤ vs.length, vs.length, ⟨s, rfl, hsr, hPR, by omega⟩, ?_⟩
  clear hsr hPR
  rintro p σ' ⟨s, rfl, hsr, hPR, hp⟩
  refine ⟨hp, _, rfl, ?_⟩
  by_cases hpl : p < vs.length
  · rw [if_pos hpl]
    refine asg_name ok ?_
    rw [show (0 : Int) + (p : Int) * 1 = (p : Int) by omega]
    refine x_cons ?_
    (repeat walk_at "m")
    refine ⟨iflw, lway1_ok (k := k + 11) cx gl gr flw (by simp [St.setLoc, hsr]) hE hPR hpl (by omega) fun dw s1 k1 f1 hs1 => ?_⟩
    have hsr1 := k1 _ _ hsr
    have hPR1 := hPR.keep k1
    obtain ⟨r0, hr0⟩ := path_head (lt := ltR val) vs.length p vs
    have hup := path_up (lt := ltR val) vs.length vs _ p rfl
    have hwn : ∀ q ∈ pathL (ltR val) vs.length p vs, q < vs.length := fun q hq => (path_ge vs.length vs _ p rfl q hq).2 hpl
    have hwl : (pathL (ltR val) vs.length p vs).length ≤ vs.length := by
      have := nodup_le (hup.imp fun h => by omega : (pathL (ltR val) vs.length p vs).Nodup) (m := List.range vs.length) fun q hq => List.mem_range.mpr (hwn q hq)
      simpa using this
    have hsd := siftup_due (lt := ltR val) hpl
    generalize hso : siftup (ltR val) vs p = so at hsd
    have hsol : so.length = vs.length := by rw [← hso]; exact siftup_length _ _
    have hsoE : ∀ v ∈ so, isR rs v := by rw [← hso]; exact siftup_mem hpl hE
    refine then_next (x_cons (s_assign (hk := .inr ⟨rfl, L + 2, rfl, .tail _ (.tail _ (.head _))⟩) ok ?_))
    (repeat walk_at "m")
    refine ⟨ifld, ldue1_ok (k := k + 11) (rs := rs) (val := val) cx hcalm gl gr gli gmx fld (by simp [St.setLoc, hsr1]) (by simp [St.setLoc, hs1]) hE hPR1 (by omega) hr0 hup hwn fun dd s2 k2 f2 hs2 => ?_⟩
    rw [← hsd] at hs2
    have hsr2 := k2 _ _ hsr1
    have hs12 := k2 _ _ hs1
    have hPR2 := hPR1.keep k2
    refine then_next (x_cons ?_)
    (repeat walk_at "m")
    refine call_list_list (vs := vs) (by simp [St.setLoc, hsr2, O.items]) fun dt hdt => ?_
    have n1 : dr ≠ dt := ne_new (o := .lst vs) (by simp [St.setLoc, hsr2]) hdt
    have n2 : dw ≠ dt := ne_new (o := .lst ((pathL (ltR val) vs.length p vs).map natV)) (by simp [St.setLoc, hs12]) hdt
    have n3 : dd ≠ dt := ne_new (o := .lst so) (by simp [St.setLoc, hs2]) hdt
    have n4 : dt ∉ rs := hPR2.fresh (by simpa [St.setLoc] using hdt)
    refine then_next (x_cons ?_)
    (repeat walk_at "m")
    refine ⟨ifsu, su_way (k := k + 10) (vs := vs) (E := isR rs) (lt := ltR val) (P := PR rs val) cx gl fsd gsd fsu ord_R (fun sto o h => h.upd n4) (hPR2.upd n4) (by simp [St.setSto, St.setLoc]) hpl (hE _ (gt_mem hpl)) (fun r hr _ => hE _ (gt_mem (hwn r hr))) (fun r hr h2 => ⟨hE _ (gt_mem (by omega)), hE _ (gt_mem h2)⟩) ?_⟩
    rw [hso]
    (repeat walk_at "m")
    refine cmp_isnot_none (fun v e => by cases e) ?_
    (repeat walk_at "m")
    rw [if_neg (by simp [isNoneV])]
    (repeat walk_at "m")
    refine ⟨ifls, lsame_ok (k := k + 4) (us := so) cx gl gr fls (by simp [St.setSto, St.setLoc]) (by simp [St.setSto, St.setLoc, n3, hs2]) (fun v hv => isR_val (hsoE v hv)) (by omega) fun s3 k3 => ?_⟩
    (repeat walk_at "m")
    rw [if_neg (by simp)]
    have hsr3 : s3 dr = some (.lst vs) := k3 _ _ (by simp [St.setSto, St.setLoc, n1, hsr2])
    have hs13 : s3 dw = some (.lst ((pathL (ltR val) vs.length p vs).map natV)) := k3 _ _ (by simp [St.setSto, St.setLoc, n2, hs12])
    have hs23 : s3 dd = some (.lst so) := k3 _ _ (by simp [St.setSto, St.setLoc, n3, hs2])
    have hPR3 : PR rs val s3 := fun b hb => k3 _ _ (by
      have : b ≠ dt := fun e => n4 (e ▸ hb)
      simp [St.setSto, St.setLoc, this, hPR2 b hb])
    refine x_nil (then_next (x_cut [Str.ofString "row", Str.ofString "place", Str.ofString "way", Str.ofString "due"] [(Str.ofString "row", .ref dr), (Str.ofString "place", .int p), (Str.ofString "way", .ref dw), (Str.ofString "due", .ref dd)]
      (fun s => s dr = some (.lst vs) ∧ s dw = some (.lst ((pathL (ltR val) vs.length p vs).map natV)) ∧ s dd = some (.lst so) ∧ PR rs val s) rfl ⟨hsr3, hs13, hs23, hPR3⟩ ?_))
    clear hsr hPR k1 hs1 f1 hsr1 hPR1 k2 hs2 f2 hsr2 hs12 hPR2 hdt n1 n2 n3 n4 k3 hsr3 hs13 hs23 hPR3
    rintro s ⟨hsr, hsw, hsd', hPR⟩
    refine x_cons (s_assign (hk := .inr ⟨rfl, L + 3, rfl, .tail _ (.head _)⟩) ok ?_)
    (repeat walk_at "m")
    refine e_comp (hap := .nil) ok [] [] (titer_of ?_)
    (repeat walk_at "m")
    generalize hw : pathL (ltR val) vs.length p vs = w at hr0 hup hwn hwl hsd hsw
    have epk : pickV (w.map natV) (some 1) none none = (w.tail).map natV := by rw [pickV_from _ (by omega)]; simp
    refine ⟨dw, w.map natV, rfl, by simp [hsw, O.items], fun e => by simp at e, by rw [epk]; simp; omega, fun t2 ht2 => ?_⟩
    rw [epk]
    have m1 : dr ≠ t2 := ne_new hsr ht2
    have m2 : dw ≠ t2 := ne_new hsw ht2
    have m3 : dd ≠ t2 := ne_new hsd' ht2
    have m4 : t2 ∉ rs := hPR.fresh ht2
    refine iter_list (vs := w.tail.map natV) (by simp [St.setSto, O.items]) ?_
    refine ⟨free0, fun i out s => out = (((w.tail.take i).map fun (c : Nat) => (c : Int)).map sibI).map V.int ∧ i ≤ w.tail.length ∧ s dr = some (.lst vs) ∧ s dw = some (.lst (w.map natV)) ∧ s dd = some (.lst so) ∧ PR rs val s ∧ s t2 = some (.lst (w.tail.map natV)), w.tail.length,
      ⟨rfl, by omega, by simp [St.setSto, m1, hsr], by simp [St.setSto, m2, hsw], by simp [St.setSto, m3, hsd'], hPR.upd m4, by simp [St.setSto]⟩, ?_⟩
    clear hsr hsw hsd' hPR ht2
    rintro c i out s okc ⟨rfl, hi, hsr, hsw, hsd', hPR, hst⟩
    refine ⟨hi, _, getList_at (vs := w.tail.map natV) (by simp [hst, O.items]), ?_⟩
    have htl : w.tail.length ≤ vs.length := by rw [List.length_tail]; omega
    by_cases hil : i < w.tail.length
    · rw [List.getElem?_map, List.getElem?_eq_getElem hil]
      refine asg_name okc ?_
      show TE _ _ _ _ _ _
      (repeat walk_at "m")
      refine bin_mod (by omega) ?_
      (repeat walk_at "m")
      exact ⟨by simp; omega, rfl, by rw [List.take_add_one, List.getElem?_eq_getElem hil]; simp [sibI], by omega, hsr, hsw, hsd', hPR, hst⟩
    rw [List.getElem?_eq_none (by rw [List.length_map]; omega)]
    intro t3 ht3
    have hiw : i = w.tail.length := by omega
    subst hiw
    rw [List.take_length]
    have u1 : dr ≠ t3 := ne_new hsr ht3
    have u2 : dw ≠ t3 := ne_new hsw ht3
    have u3 : dd ≠ t3 := ne_new hsd' ht3
    have u4 : t3 ∉ rs := hPR.fresh ht3
    refine bin_cat (us := w.map natV) (vs := (((w.tail).map fun (c : Nat) => (c : Int)).map sibI).map V.int) (by simp [St.setSto, u2, hsw, O.items]) (by simp [St.setSto, O.items]) (by simp; omega) fun t4 ht4 => ?_
    have w1 : dr ≠ t4 := ne_new (o := .lst vs) (by simp [St.setSto, u1, hsr]) ht4
    have w3 : dd ≠ t4 := ne_new (o := .lst so) (by simp [St.setSto, u3, hsd']) ht4
    have w4 : t4 ∉ rs := (hPR.upd u4).fresh ht4
    obtain ⟨seen, hseen⟩ : ∃ seen : List Int, seen = (w.map fun (c : Nat) => (c : Int)) ++ ((w.tail).map fun (c : Nat) => (c : Int)).map sibI := ⟨_, rfl⟩
    have esn : w.map natV ++ (((w.tail).map fun (c : Nat) => (c : Int)).map sibI).map V.int = seen.map V.int := by rw [hseen, List.map_append]; congr 1; rw [List.map_map]; rfl
    rw [esn]
    (repeat walk_at "m")
    refine call_set_ints (xs := seen) (by simp [St.setSto, O.items]) (by rw [hseen]; simp; omega) fun ds os hds hss => ?_
    have v1 : dr ≠ ds := ne_new (o := .lst vs) (by simp [St.setSto, w1, u1, hsr]) hds
    have v3 : dd ≠ ds := ne_new (o := .lst so) (by simp [St.setSto, w3, u3, hsd']) hds
    have v4 : ds ∉ rs := ((hPR.upd u4).upd w4).fresh hds
    obtain ⟨hk1, hk2⟩ := seen_ok (lt := ltR val) (n := vs.length) (p := p) (vs := vs) (seen := seen) (by rw [hw]; exact hseen)
    obtain ⟨hsm1, hsm2⟩ := siftup_mask (lt := ltR val) (vs := vs) hpl hk1 hk2
    rw [hso] at hsm1
    rw [hw] at hk1 hk2 hsm2
    refine then_next (x_cut [Str.ofString "row", Str.ofString "place", Str.ofString "due", Str.ofString "seen"] [(Str.ofString "row", .ref dr), (Str.ofString "place", .int p), (Str.ofString "due", .ref dd), (Str.ofString "seen", .ref ds)]
      (fun s => s dr = some (.lst vs) ∧ s dd = some (.lst so) ∧ s ds = some (.raw os) ∧ PR rs val s) rfl ⟨by simp [St.setSto, St.setLoc, v1, w1, u1, hsr], by simp [St.setSto, St.setLoc, v3, w3, u3, hsd'], by simp [St.setSto, St.setLoc], ((hPR.upd u4).upd w4).upd v4⟩ ?_)
    clear hsr hsw hsd' hPR hst ht3 ht4 hds u1 u2 u3 u4 w1 w3 w4 m1 m2 m3 m4 okc
    rintro s ⟨hsr, hsd', hss', hPR⟩
    refine x_cons ?_
    refine s_comp (hcl := fun p hp => by
        rcases List.mem_cons.mp hp with e | hp
        · rw [e]; exact .head _
        · rw [List.mem_singleton.mp hp]; exact .tail _ (.tail _ (.head _))) (hap := by simp) ok [(Str.ofString "seen", L + 3), (Str.ofString "row", L + 1)] [(Str.ofString "seen", .ref ds), (Str.ofString "row", .ref dr)] (titer_of ?_)
    (repeat walk_at "m")
    refine call_len (vs := vs) (by simp [hsr, O.items]) ?_
    (repeat walk_at "m")
    refine call_range1 ?_
    refine iter_range0 (by omega) ?_
    refine ⟨free2 ⟨rfl, .inl rfl, .inl rfl, rfl⟩ ⟨rfl, .inl rfl, .inl rfl, rfl⟩, fun i out s => out = ((List.range i).map fun (j : Nat) => if (j : Int) ∈ seen then gt vs j else .none) ∧ i ≤ vs.length ∧ s dr = some (.lst vs) ∧ s dd = some (.lst so) ∧ s ds = some (.raw os) ∧ PR rs val s, vs.length, ⟨rfl, by omega, hsr, hsd', hss', hPR⟩, ?_⟩
    clear hsr hsd' hss' hPR
    rintro c i out s okc ⟨rfl, hi, hsr, hsd', hss', hPR⟩
    refine ⟨hi, _, rfl, ?_⟩
    by_cases hil : i < vs.length
    · rw [if_pos hil]
      refine asg_name okc ?_
      show TE _ _ _ _ _ _
      rw [show (0 : Int) + (i : Int) * 1 = (i : Int) by omega]
      (repeat walk_at "m")
      refine cmp_in_set (o := os) (xs := seen) (by simp [St.setLoc, hss']) hss ?_
      (repeat walk_at "m")
      by_cases hin : (i : Int) ∈ seen
      · rw [if_pos (by simp [hin])]
        (repeat walk_at "m")
        refine item_at (vs := vs) (v := gt vs i) (by simp [St.setLoc, hsr, O.items]) (by omega) (by rw [Int.toNat_natCast, List.getElem?_eq_getElem hil, gt_eq hil]) ?_
        exact ⟨by simp; omega, rfl, by rw [List.range_succ, List.map_append]; simp [hin], by omega, hsr, hsd', hss', hPR⟩
      · rw [if_neg (by simp [hin])]
        (repeat walk_at "m")
        exact ⟨by simp; omega, rfl, by rw [List.range_succ, List.map_append]; simp [hin], by omega, hsr, hsd', hss', hPR⟩
    rw [if_neg hil]
    intro dt hdt
    have hix : i = vs.length := by omega
    subst hix
    rw [show ((List.range vs.length).map fun (j : Nat) => if (j : Int) ∈ seen then gt vs j else V.none) = maskL seen vs from rfl]
    have m1 : dr ≠ dt := ne_new hsr hdt
    have m3 : dd ≠ dt := ne_new hsd' hdt
    have m5 : ds ≠ dt := ne_new hss' hdt
    have m4 : dt ∉ rs := hPR.fresh hdt
    refine then_next (x_cons ?_)
    refine s_assign (hk := .inr ⟨rfl, L + 2, rfl, .tail _ (.tail _ (.head _))⟩) ok (e_comp (hcl := fun p hp => by
        rcases List.mem_cons.mp hp with e | hp
        · rw [e]; exact .head _
        · rw [List.mem_singleton.mp hp]; exact .tail _ (.head _)) (hap := by simp) ok [(Str.ofString "seen", L + 3), (Str.ofString "due", L + 2)] [(Str.ofString "seen", .ref ds), (Str.ofString "due", .ref dd)] (titer_of ?_))
    (repeat walk_at "m")
    refine call_len (vs := vs) (by simp [St.setSto, St.setLoc, m1, hsr, O.items]) ?_
    (repeat walk_at "m")
    refine call_range1 ?_
    refine iter_range0 (by omega) ?_
    refine ⟨free2 ⟨rfl, .inl rfl, .inl rfl, rfl⟩ ⟨rfl, .inl rfl, .inl rfl, rfl⟩, fun i out s => out = ((List.range i).map fun (j : Nat) => if (j : Int) ∈ seen then gt so j else .none) ∧ i ≤ vs.length ∧ s dr = some (.lst vs) ∧ s dt = some (.lst (maskL seen vs)) ∧ s dd = some (.lst so) ∧ s ds = some (.raw os) ∧ PR rs val s, vs.length,
      ⟨rfl, by omega, by simp [St.setSto, St.setLoc, m1, hsr], by simp [St.setSto, St.setLoc], by simp [St.setSto, St.setLoc, m3, hsd'], by simp [St.setSto, St.setLoc, m5, hss'], hPR.upd m4⟩, ?_⟩
    clear hsr hsd' hss' hPR hdt okc
    rintro c i out s okc ⟨rfl, hi, hsr, hst, hsd', hss', hPR⟩
    refine ⟨hi, _, rfl, ?_⟩
    by_cases hil : i < vs.length
    · rw [if_pos hil]
      refine asg_name okc ?_
      show TE _ _ _ _ _ _
      rw [show (0 : Int) + (i : Int) * 1 = (i : Int) by omega]
      (repeat walk_at "m")
      refine cmp_in_set (o := os) (xs := seen) (by simp [St.setLoc, hss']) hss ?_
      (repeat walk_at "m")
      by_cases hin : (i : Int) ∈ seen
      · rw [if_pos (by simp [hin])]
        (repeat walk_at "m")
        refine item_at (vs := so) (v := gt so i) (by simp [St.setLoc, hsd', O.items]) (by omega) (by rw [Int.toNat_natCast, List.getElem?_eq_getElem (by omega), gt_eq (by omega)]) ?_
        exact ⟨by simp; omega, rfl, by rw [List.range_succ, List.map_append]; simp [hin], by omega, hsr, hst, hsd', hss', hPR⟩
      · rw [if_neg (by simp [hin])]
        (repeat walk_at "m")
        exact ⟨by simp; omega, rfl, by rw [List.range_succ, List.map_append]; simp [hin], by omega, hsr, hst, hsd', hss', hPR⟩
    rw [if_neg hil]
    intro d2 hd2
    have hix : i = vs.length := by omega
    subst hix
    rw [show ((List.range vs.length).map fun (j : Nat) => if (j : Int) ∈ seen then gt so j else V.none) = maskL seen so by unfold maskL; rw [hsol]]
    have n1 : dr ≠ d2 := ne_new hsr hd2
    have n2 : dt ≠ d2 := ne_new hst hd2
    have n4 : d2 ∉ rs := hPR.fresh hd2
    have hml : (maskL seen vs).length = vs.length := mask_length _ _
    have hmat : ∀ q, q < vs.length → (q : Int) ∈ seen → isR rs (gt (maskL seen vs) q) := fun q h1 h2 => by rw [mask_at h1, if_pos h2]; exact hE _ (gt_mem h1)
    refine then_next (x_cons ?_)
    (repeat walk_at "m")
    refine ⟨ifsu, su_way (k := k + 10) (vs := maskL seen vs) (E := isR rs) (lt := ltR val) (P := PR rs val) cx gl fsd gsd fsu ord_R (fun sto o h => h.upd m4) (hPR.upd n4) (by simp [St.setSto, St.setLoc, n2, hst]) (by rw [hml]; exact hpl) ?_ ?_ ?_ ?_⟩
    · exact hmat p hpl (hk1 p (by rw [hr0]; exact .head _))
    · rw [hml, hsm2]
      exact fun r hr _ => hmat r (hwn r hr) (hk1 r hr)
    · rw [hml, hsm2]
      exact fun r hr h2 => ⟨hmat _ (by omega) (hk2 r hr h2).1, hmat _ h2 (hk2 r hr h2).2⟩
    rw [hsm1]
    (repeat walk_at "m")
    refine cmp_isnot_none (fun v e => by cases e) ?_
    (repeat walk_at "m")
    rw [if_neg (by simp [isNoneV])]
    (repeat walk_at "m")
    refine ⟨ifls, lsame_ok (k := k + 4) (us := maskL seen so) cx gl gr fls (by simp [St.setSto, St.setLoc]) (by simp [St.setSto, St.setLoc, Ne.symm n2]) (fun v hv => ?_) (by rw [mask_length]; omega) fun s3 k3 => ?_⟩
    · unfold maskL at hv
      obtain ⟨j, hj, e⟩ := List.mem_map.mp hv
      rw [List.mem_range] at hj
      by_cases hin : (j : Int) ∈ seen
      · rw [if_pos hin] at e; rw [← e]; exact isR_val (hsoE _ (gt_mem hj))
      · rw [if_neg hin] at e; exact .inl e.symm
    (repeat walk_at "m")
    rw [if_neg (by simp)]
    (repeat walk_at "m")
    refine turnF_next ⟨s3, rfl, k3 _ _ (by simp [St.setSto, St.setLoc, m1, n1, hsr]), fun b hb => k3 _ _ ?_, by omega⟩
    have e1 : b ≠ dt := fun e => m4 (e ▸ hb)
    have e2 : b ≠ d2 := fun e => n4 (e ▸ hb)
    simp [St.setSto, St.setLoc, e1, e2, hPR b hb]
  · rw [if_neg hpl]
    refine x_nil (then_next ?_)
    rw [← hvs] at hsr
    exact law_refused cx hcalm gl gr gli gst gI fsu gsu fls gls f L hsr (by omega)
end
end Mine
set_option Elab.async false
set_option linter.unusedVariables false
set_option linter.unusedSimpArgs false
set_option maxRecDepth 100000
set_option maxHeartbeats 8000000
namespace Mine
open PySem PySem.W PyProof.Rows
theorem def_sd : DefOk (stOf PySem.Challenge.pw_dn0024_01 (Str.ofString "_siftdown")) :=
  ⟨rfl, rfl, rfl, by decide, by decide, by decide, fun pm cd doc vs h => match vs, h with | [_, _, _], _ => rfl⟩
theorem def_su : DefOk (stOf PySem.Challenge.pw_dn0024_01 (Str.ofString "_siftup")) :=
  ⟨rfl, rfl, rfl, by decide, by decide, by decide, fun pm cd doc vs h => match vs, h with | [_, _], _ => rfl⟩
theorem def_lw : DefOk (stOf PySem.Challenge.pw_dn0024_01 (Str.ofString "_law_way")) :=
  ⟨rfl, rfl, rfl, by decide, by decide, by decide, fun pm cd doc vs h => match vs, h with | [_, _], _ => rfl⟩
theorem def_ld : DefOk (stOf PySem.Challenge.pw_dn0024_01 (Str.ofString "_law_due")) :=
  ⟨rfl, rfl, rfl, by decide, by decide, by decide, fun pm cd doc vs h => match vs, h with | [_, _], _ => rfl⟩
theorem def_ls : DefOk (stOf PySem.Challenge.pw_dn0024_01 (Str.ofString "_law_same")) :=
  ⟨rfl, rfl, rfl, by decide, by decide, by decide, fun pm cd doc vs h => match vs, h with | [_, _], _ => rfl⟩
theorem def_law : DefOk (stOf PySem.Challenge.pw_dn0024_01 (Str.ofString "law")) :=
  ⟨rfl, rfl, rfl, by decide, by decide, by decide, fun pm cd doc vs h => match vs, h with | [_], _ => rfl⟩
end Mine
open PySem PySem.W PyProof.Rows Mine
open_top hd for PySem.Challenge.rw_dn0024_01
theorem PySem.Challenge.cw_dn0024_01_holds : PySem.Challenge.rw_dn0024_01.Holds :=
  hd (by
  intro w s₀ s₁ mg mb G Y fa o pm cd doc dV kV ho hd hcd hD hmg hg args vals as hpre hlay hrd hwl hlo
  refine Ground.open G ?_
  intro T B D TE TW
  wrow_args hpre hlay hrd hwl hlo
  first | refine callC_kw (enter_call ?_) | refine enter_call ?_ | refine callC_kw (enter_callW ?_) | refine enter_callW ?_
  try refine codeAny_mono ?_ (fun _ _ g => GoodW.toG g)
  rename_i ns _ _ _ _ _ _ _ sc vs _ hL _ _ _ hI _ hc _
  obtain ⟨a_sd, m_sd, F_sd⟩ := fn_top T (pw := PySem.Challenge.pw_dn0024_01) (n := Str.ofString "_siftdown") rfl rfl def_sd
  obtain ⟨a_su, m_su, F_su⟩ := fn_top T (pw := PySem.Challenge.pw_dn0024_01) (n := Str.ofString "_siftup") rfl rfl def_su
  obtain ⟨a_lw, m_lw, F_lw⟩ := fn_top T (pw := PySem.Challenge.pw_dn0024_01) (n := Str.ofString "_law_way") rfl rfl def_lw
  obtain ⟨a_ld, m_ld, F_ld⟩ := fn_top T (pw := PySem.Challenge.pw_dn0024_01) (n := Str.ofString "_law_due") rfl rfl def_ld
  obtain ⟨a_ls, m_ls, F_ls⟩ := fn_top T (pw := PySem.Challenge.pw_dn0024_01) (n := Str.ofString "_law_same") rfl rfl def_ls
  obtain ⟨a_law, m_law, F_law⟩ := fn_top T (pw := PySem.Challenge.pw_dn0024_01) (n := Str.ofString "law") rfl rfl def_law
  have gt : GtOk mg mb [(Str.ofString "len", V.opq (.builtin "len")), (Str.ofString "range", V.opq (.type "range")), (Str.ofString "list", V.opq (.type "list")), (Str.ofString "max", V.opq (.builtin "max")), (Str.ofString "set", V.opq (.type "set")), (Str.ofString "str", V.opq (.type "str")), (Str.ofString "IndexError", V.opq (.type "IndexError")), (Str.ofString "_siftdown", V.ref a_sd), (Str.ofString "_siftup", V.ref a_su), (Str.ofString "_law_way", V.ref a_lw), (Str.ofString "_law_due", V.ref a_ld), (Str.ofString "_law_same", V.ref a_ls)] := gt_bi T rfl rfl (fun _ e => nomatch e) (gt_bi T rfl rfl (fun _ e => nomatch e) (gt_bi T rfl rfl (fun _ e => nomatch e) (gt_bi T rfl rfl (fun _ e => nomatch e) (gt_bi T rfl rfl (fun _ e => nomatch e) (gt_bi T rfl rfl (fun _ e => nomatch e) (gt_bi T rfl rfl (fun _ e => nomatch e) (gt_fn m_sd (gt_fn m_su (gt_fn m_lw (gt_fn m_ld (gt_fn m_ls (gt_nil))))))))))))
  have cx := cx_top (prog := PySem.Challenge.rw_dn0024_01.row.prog) (w := w) T gt
  obtain ⟨pm', cd', doc', f⟩ := F_law PySem.Challenge.rw_dn0024_01.row.prog w [(Str.ofString "len", V.opq (.builtin "len")), (Str.ofString "range", V.opq (.type "range")), (Str.ofString "list", V.opq (.type "list")), (Str.ofString "max", V.opq (.builtin "max")), (Str.ofString "set", V.opq (.type "set")), (Str.ofString "str", V.opq (.type "str")), (Str.ofString "IndexError", V.opq (.type "IndexError")), (Str.ofString "_siftdown", V.ref a_sd), (Str.ofString "_siftup", V.ref a_su), (Str.ofString "_law_way", V.ref a_lw), (Str.ofString "_law_due", V.ref a_ld), (Str.ofString "_law_same", V.ref a_ls)]
  have ea : fa = a_law := by
    have e : some (Value.ref fa) = some (Value.ref a_law) := hmg.symm.trans m_law
    cases e; rfl
  subst ea
  refine law_done hg (raisesW_false (by wrow_none_raised)) (by first | wrow_post | kc_post) (law_call (k := 60) cx f rfl (by refine ⟨rfl, ?_, ?_, rfl⟩ <;> decide) (fun _ _ e => e) (script_sto hL hI (by simp [maxLen]; omega)) (.cons (.ref sc) .nil) (fun L => law_walk cx rfl rfl rfl rfl rfl rfl rfl rfl (F_sd _ _ _) rfl (F_su _ _ _) rfl (F_lw _ _ _) rfl (F_ld _ _ _) rfl (F_ls _ _ _) rfl (by omega) f L)))
