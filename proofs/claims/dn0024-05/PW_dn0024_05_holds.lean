import PyProof.Rows.All
import Wide.All
import OpenK.AllK
import Wide.FinOn
import PySem.Challenge.RW_dn0024_05
set_option Elab.async false
set_option linter.unusedVariables false
namespace Mine
open PySem PySem.W PyProof.Rows

/-- abstract values -/
inductive V where
  | none
  | bool (b : Bool)
  | int (i : Int)
  | str (s : Str)
  | ref (a : Addr)
  | tup (xs : List Int)
  | rng (lo hi st : Int)
  | vt (vs : List V)
  | opq (v : Value)

/-- abstract objects of the call's own -/
inductive O where
  | lst (vs : List V)
  | rol (vs : List V)
  | raw (o : Obj)
def O.isMut : O → Bool
  | .rol _ => false
  | _ => true
def O.items : O → Option (List V)
  | .lst vs => some vs
  | .rol vs => some vs
  | .raw _ => none

structure St where
  loc : List (Str × V)
  sto : Addr → Option O

def locSet : List (Str × V) → Str → V → List (Str × V)
  | [], x, v => [(x, v)]
  | (y, u) :: r, x, v => if x == y then (y, v) :: r else (y, u) :: locSet r x v

theorem locSet_lookup (x : Str) (v : V) (y : Str) : ∀ l : List (Str × V), (locSet l x v).lookup y = if y == x then some v else l.lookup y
  | [] => by
    show ((x, v) :: []).lookup y = _
    rw [List.lookup_cons]
    cases y == x <;> rfl
  | (z, u) :: r => by
    unfold locSet
    by_cases hxz : (x == z) = true
    · rw [if_pos hxz, List.lookup_cons, List.lookup_cons]
      have e : x = z := beq_iff_eq.mp hxz
      subst e
      cases y == x <;> rfl
    · rw [if_neg hxz, List.lookup_cons, List.lookup_cons, locSet_lookup x v y r]
      by_cases hyz : (y == z) = true
      · have e : y = z := beq_iff_eq.mp hyz
        subst e
        have : (y == x) = false := by
          cases h : y == x with
          | false => rfl
          | true => exact absurd (beq_iff_eq.mpr (beq_iff_eq.mp h).symm) hxz
        simp [this]
      · simp [hyz]

def St.setLoc (σ : St) (x : Str) (v : V) : St := { σ with loc := locSet σ.loc x v }
def St.setSto (σ : St) (a : Addr) (o : O) : St := { σ with sto := fun b => if b = a then some o else σ.sto b }

@[simp] theorem setSto_loc (σ : St) (a : Addr) (o : O) : (σ.setSto a o).loc = σ.loc := rfl
@[simp] theorem setLoc_sto (σ : St) (x : Str) (v : V) : (σ.setLoc x v).sto = σ.sto := rfl
@[simp] theorem setSto_same (σ : St) (a : Addr) (o : O) : (σ.setSto a o).sto a = some o := by simp [St.setSto]
theorem setSto_other (σ : St) {a b : Addr} (o : O) (h : b ≠ a) : (σ.setSto a o).sto b = σ.sto b := by simp [St.setSto, h]

/-- objects that never change: tuples, ranges -/
def FrzO (o : Obj) : Prop := (o.cls = .type "tuple" ∧ ∃ items n, o.data = .seq items n) ∨ (o.cls = .type "range" ∧ ∃ vs, o.data = .fields vs)
mutual
/-- what an abstract value stands for -/
inductive Rep (h : Heap) : V → Value → Prop
  | none : Rep h .none .none
  | bool (b : Bool) : Rep h (.bool b) (.bool b)
  | int (i : Int) (t : Tok) : Rep h (.int i) (.int i t)
  | str (s : Str) (t : Tok) : Rep h (.str s) (.str s t)
  | ref (a : Addr) : Rep h (.ref a) (.ref a)
  | tup {a : Addr} {vs : List Value} {xs : List Int} : IsTup h a vs.toArray → IntsAre vs xs → Rep h (.tup xs) (.ref a)
  | rng {a : Addr} {lo hi st : Int} {t u v : Tok} : IsRange h a lo hi st t u v → Rep h (.rng lo hi st) (.ref a)
  | vt {a : Addr} {vs : List V} {vs' : List Value} : IsTup h a vs'.toArray → Reps h vs vs' → Rep h (.vt vs) (.ref a)
  | opq {v : Value} : (∀ a, v ≠ .ref a) → Rep h (.opq v) v
inductive Reps (h : Heap) : List V → List Value → Prop
  | nil : Reps h [] []
  | cons {v : V} {v' : Value} {vs : List V} {vs' : List Value} : Rep h v v' → Reps h vs vs' → Reps h (v :: vs) (v' :: vs')
end

def maxLen : Nat := 2 ^ 20

def ORep (h : Heap) (a : Addr) : O → Prop
  | .lst vs => vs.length ≤ maxLen ∧ ∃ vs' n, h.get? a = some (listOf vs'.toArray n) ∧ Reps h vs vs'
  | .rol vs => vs.length ≤ maxLen ∧ ∃ vs', h.IsList a vs'.toArray ∧ Reps h vs vs'
  | .raw o => h.get? a = some o ∧ ¬ FrzO o

def Place (env : Env) (m : Str → Option Value) (h : Heap) (x : Str) (v : Value) : Prop :=
  (env.kindOf x = some .local ∧ m x = some v) ∨ ((env.kindOf x = some .cell ∨ env.kindOf x = some .free) ∧ ∃ c, env.cells.lookup x = some c ∧ h.IsCell c (some v))

/-- a frame: its environment and the addresses that it may change -/
structure FE where
  env : Env
  own : List Addr
  frames : List Env

structure EnvOk (env : Env) : Prop where
  kind : env.scope.kind = .function
  globals : env.globals = mainGlobals
  builtins : env.builtins = builtinsNs

structure Sim (GB : Heap) (F : FE) (σ : St) (h : Heap) : Prop where
  base : ∀ b o, GB.get? b = some o → h.get? b = some o
  frame : ∃ m, h.Ns F.env.locals m ∧ ∀ x v, σ.loc.lookup x = some v → ∃ v', Place F.env m h x v' ∧ Rep h v v'
  cells : ∀ p ∈ F.env.cells, ∃ v₀, h.IsCell p.2 v₀
  apart : F.env.cells.Pairwise fun x y => x.2 ≠ y.2
  sto : ∀ a o, σ.sto a = some o → ORep h a o
  inOwn : F.env.locals ∈ F.own
  ownIs : ∀ b ∈ F.own, b = F.env.locals ∨ ∃ p ∈ F.env.cells, p.2 = b
  new : ∀ b ∈ F.own, GB.get? b = none
  off : ∀ a o, σ.sto a = some o → (o.isMut = true → GB.get? a = none) ∧ a ≠ F.env.locals ∧ ∀ p ∈ F.env.cells, p.2 ≠ a

def St.fixed (σ : St) (b : Addr) : Prop := ∀ o, σ.sto b = some o → o.isMut = false

structure Mod (own : List Addr) (σ σ' : St) (s s' : Shared) : Prop where
  keep : ∀ b o, s.heap.get? b = some o → σ.fixed b → b ∉ own → s'.heap.get? b = some o
  dom : ∀ b o, σ'.sto b = some o → (∃ o', σ.sto b = some o' ∧ (o.isMut = true → o'.isMut = true)) ∨ s.heap.get? b = none
  alive : ∀ b o, s.heap.get? b = some o → ∃ o', s'.heap.get? b = some o'
  rest : s' = { s with heap := s'.heap, toks := s'.toks }

theorem Mod.refl {own : List Addr} {σ : St} {s : Shared} : Mod own σ σ s s := ⟨fun _ _ e _ _ => e, fun _ _ e => .inl ⟨_, e, id⟩, fun _ _ e => ⟨_, e⟩, rfl⟩
theorem Mod.toks {own : List Addr} {σ : St} {s : Shared} (tk : Nat) : Mod own σ σ s { s with toks := tk } := ⟨fun _ _ e _ _ => e, fun _ _ e => .inl ⟨_, e, id⟩, fun _ _ e => ⟨_, e⟩, rfl⟩
theorem Mod.trans' {own : List Addr} {σ σ' σ'' : St} {s s' s'' : Shared} (x : Mod own σ σ' s s') (y : Mod own σ' σ'' s' s'') : Mod own σ σ'' s s'' where
  keep := fun b o e n1 n2 => by
    refine y.keep b o (x.keep b o e n1 n2) (fun o' h => ?_) n2
    cases hm : o'.isMut with
    | false => rfl
    | true =>
      rcases x.dom b o' h with ⟨o'', h', hm'⟩ | h'
      · have := hm' hm; rw [n1 _ h'] at this; cases this
      · rw [e] at h'; cases h'
  dom := fun b o e => by
    rcases y.dom b o e with ⟨o', h', m'⟩ | h'
    · rcases x.dom b o' h' with ⟨o'', h'', m''⟩ | h''
      · exact .inl ⟨o'', h'', fun q => m'' (m' q)⟩
      · exact .inr h''
    · refine .inr ?_
      cases hs : s.heap.get? b with
      | none => rfl
      | some ob => obtain ⟨o', ho'⟩ := x.alive b ob hs; rw [h'] at ho'; cases ho'
  alive := fun b o e => let ⟨o', e'⟩ := x.alive b o e; y.alive b o' e'
  rest := by rw [y.rest, x.rest]
theorem Mod.trans {GB : Heap} {F : FE} {σ σ' σ'' : St} {s s' s'' : Shared} (S' : Sim GB F σ' s'.heap) (x : Mod F.own σ σ' s s') (y : Mod F.own σ' σ'' s' s'') : Mod F.own σ σ'' s s'' := x.trans' y
theorem Mod.back {own : List Addr} {σ σ' : St} {s s' : Shared} (x : Mod own σ σ' s s') {b : Addr} (h : s'.heap.get? b = none) : s.heap.get? b = none := by
  cases hs : s.heap.get? b with
  | none => rfl
  | some ob => obtain ⟨o', ho'⟩ := x.alive b ob hs; rw [h] at ho'; cases ho'
theorem Mod.more {own : List Addr} {σ σ' : St} {s s' : Shared} (x : Mod own σ σ' s s') (c : Addr) : Mod (c :: own) σ σ' s s' := ⟨fun b o e f n => x.keep b o e f fun h => n (.tail _ h), x.dom, x.alive, x.rest⟩
theorem Mod.endOf {own : List Addr} {σ σ' σ₄ : St} {s s' s₃ s₄ : Shared} {I : Addr} (M' : Mod (I :: own) σ σ' s s') (hI : s.heap.get? I = none) (ext : Heap.ExtBut I s'.heap s₃.heap) (rest : s₃ = { s' with heap := s₃.heap, toks := s₃.toks })
    (M₄ : Mod own σ' σ₄ s₃ s₄) : Mod own σ σ₄ s s₄ := by
  have ne : ∀ b o, s.heap.get? b = some o → b ≠ I := fun b o e q => by rw [q, hI] at e; cases e
  refine ⟨fun b o e f n => ?_, fun b o e => ?_, fun b o e => ?_, ?_⟩
  · have e' := M'.keep b o e f fun h => by
      cases h with
      | head => exact ne _ _ e rfl
      | tail _ h => exact n h
    refine M₄.keep b o (ext b o (ne b o e) e') (fun o' h => ?_) n
    cases hm : o'.isMut with
    | false => rfl
    | true =>
      rcases M'.dom b o' h with ⟨o'', h', hm'⟩ | h'
      · have := hm' hm; rw [f _ h'] at this; cases this
      · rw [e] at h'; cases h'
  · rcases M₄.dom b o e with ⟨o', h', m'⟩ | h'
    · rcases M'.dom b o' h' with ⟨o'', h'', m''⟩ | h''
      · exact .inl ⟨o'', h'', fun q => m'' (m' q)⟩
      · exact .inr h''
    · refine .inr ?_
      cases hs : s.heap.get? b with
      | none => rfl
      | some ob =>
        obtain ⟨o', ho'⟩ := M'.alive b ob hs
        rw [ext b o' (ne b ob hs) ho'] at h'; cases h'
  · obtain ⟨o', ho'⟩ := M'.alive b o e
    exact M₄.alive b o' (ext b o' (ne b o e) ho')
  · rw [M₄.rest, rest, M'.rest]
theorem Mod.less {own : List Addr} {σ σ' : St} {s s' : Shared} {c : Addr} (x : Mod (c :: own) σ σ' s s') (hc : s.heap.get? c = none) : Mod own σ σ' s s' :=
  ⟨fun b o e f n => x.keep b o e f fun h => by
    cases h with
    | head => rw [hc] at e; cases e
    | tail _ h => exact n h, x.dom, x.alive, x.rest⟩

theorem frz_not_dict {h : Heap} {a : Addr} {o : Obj} {m : Str → Option Value} (ho : h.get? a = some o) (hf : FrzO o) (n : h.Ns a m) : False := by
  obtain ⟨o', es, ep, ho', hd', _⟩ := n
  rw [ho] at ho'; cases ho'
  rcases hf with ⟨_, _, _, hd⟩ | ⟨_, _, hd⟩ <;> rw [hd] at hd' <;> cases hd'
theorem frz_not_cell {h : Heap} {a : Addr} {o : Obj} {v : Option Value} (ho : h.get? a = some o) (hf : FrzO o) (n : h.IsCell a v) : False := by
  obtain ⟨o', ho', hd'⟩ := n
  rw [ho] at ho'; cases ho'
  rcases hf with ⟨_, _, _, hd⟩ | ⟨_, _, hd⟩ <;> rw [hd] at hd' <;> cases hd'
theorem not_frz_list {o : Obj} (hc : o.cls = .type "list") : ¬ FrzO o := by
  rintro (⟨h, _⟩ | ⟨h, _⟩) <;> rw [hc] at h <;> exact absurd h (by decide)

variable {GB : Heap}
theorem ORep.not_frz {h : Heap} {a : Addr} {o : O} (r : ORep h a o) : ∀ ob, h.get? a = some ob → ¬ FrzO ob := by
  intro ob ho hf
  cases o with
  | lst vs =>
    obtain ⟨_, vs', n, ho', _⟩ := r
    rw [ho] at ho'; cases ho'
    exact not_frz_list rfl hf
  | rol vs =>
    obtain ⟨_, vs', ⟨o', ho', hc', _⟩, _⟩ := r
    rw [ho] at ho'; cases ho'
    exact not_frz_list hc' hf
  | raw o =>
    obtain ⟨ho', hc'⟩ := r
    rw [ho] at ho'; cases ho'
    exact hc' hf
theorem Sim.frz_off {F : FE} {σ : St} {h : Heap} (S : Sim GB F σ h) {a : Addr} {o : Obj} (ho : h.get? a = some o) (hf : FrzO o) : σ.fixed a ∧ a ∉ F.own := by
  constructor
  · intro o' hs
    exact ((S.sto a o' hs).not_frz o ho hf).elim
  · intro hb
    rcases S.ownIs a hb with rfl | ⟨p, hp, rfl⟩
    · obtain ⟨m, hm, _⟩ := S.frame; exact frz_not_dict ho hf hm
    · obtain ⟨v₀, hv⟩ := S.cells p hp; exact frz_not_cell ho hf hv

theorem tup_keeps {h h' : Heap} {a : Addr} {items : Array Value} (h1 : IsTup h a items) (k : ∀ a o, h.get? a = some o → FrzO o → h'.get? a = some o) : IsTup h' a items :=
  let ⟨o, ho, hc, n, hd⟩ := h1; ⟨o, k _ o ho (.inl ⟨hc, _, n, hd⟩), hc, n, hd⟩
mutual
theorem Rep.keeps {h h' : Heap} {v : V} {v' : Value} (x : Rep h v v') (k : ∀ a o, h.get? a = some o → FrzO o → h'.get? a = some o) : Rep h' v v' :=
  match x with
  | .none => .none
  | .bool b => .bool b
  | .int i t => .int i t
  | .str s t => .str s t
  | .ref a => .ref a
  | .tup h1 h2 => .tup (tup_keeps h1 k) h2
  | .rng h1 => .rng (k _ _ h1 (.inr ⟨rfl, _, rfl⟩))
  | .vt h1 h2 => .vt (tup_keeps h1 k) (h2.keeps k)
  | .opq h1 => .opq h1
theorem Reps.keeps {h h' : Heap} {vs : List V} {vs' : List Value} (x : Reps h vs vs') (k : ∀ a o, h.get? a = some o → FrzO o → h'.get? a = some o) : Reps h' vs vs' :=
  match x with
  | .nil => .nil
  | .cons h1 h2 => .cons (h1.keeps k) (h2.keeps k)
end

theorem Mod.frz {F : FE} {σ σ' : St} {s s' : Shared} (S : Sim GB F σ s.heap) (x : Mod F.own σ σ' s s') : ∀ a o, s.heap.get? a = some o → FrzO o → s'.heap.get? a = some o :=
  fun a o ho hf => x.keep a o ho (S.frz_off ho hf).1 (S.frz_off ho hf).2
theorem Mod.rep {F : FE} {σ σ' : St} {s s' : Shared} (S : Sim GB F σ s.heap) (x : Mod F.own σ σ' s s') {v : V} {v' : Value} (r : Rep s.heap v v') : Rep s'.heap v v' := r.keeps (x.frz S)
theorem Mod.reps {F : FE} {σ σ' : St} {s s' : Shared} (S : Sim GB F σ s.heap) (x : Mod F.own σ σ' s s') {vs : List V} {vs' : List Value} (r : Reps s.heap vs vs') : Reps s'.heap vs vs' := r.keeps (x.frz S)

theorem Reps.length {h : Heap} : ∀ {vs : List V} {vs' : List Value}, Reps h vs vs' → vs'.length = vs.length
  | _, _, .nil => rfl
  | _, _, .cons _ r => by simp [r.length]
theorem Reps.get {h : Heap} : ∀ {vs : List V} {vs' : List Value}, Reps h vs vs' → ∀ {i : Nat} {v : V}, vs[i]? = some v → ∃ v', vs'[i]? = some v' ∧ Rep h v v'
  | _, _, .nil, i, v, e => by simp at e
  | _, _, .cons h1 r, 0, v, e => by simp at e; subst e; exact ⟨_, rfl, h1⟩
  | _, _, .cons h1 r, i + 1, v, e => by simp at e; simpa using r.get e
theorem Reps.set {h : Heap} {v : V} {v' : Value} (r : Rep h v v') : ∀ {vs : List V} {vs' : List Value}, Reps h vs vs' → ∀ i : Nat, Reps h (vs.set i v) (vs'.set i v')
  | _, _, .nil, i => .nil
  | _, _, .cons h1 h2, 0 => .cons r h2
  | _, _, .cons h1 h2, i + 1 => .cons h1 (h2.set r i)
theorem Reps.append {h : Heap} : ∀ {vs : List V} {vs' : List Value}, Reps h vs vs' → ∀ {us : List V} {us' : List Value}, Reps h us us' → Reps h (vs ++ us) (vs' ++ us')
  | _, _, .nil, _, _, y => y
  | _, _, .cons h1 h2, _, _, y => .cons h1 (h2.append y)
theorem Reps.take {h : Heap} : ∀ {vs : List V} {vs' : List Value}, Reps h vs vs' → ∀ n, Reps h (vs.take n) (vs'.take n)
  | _, _, .nil, n => by simp; exact .nil
  | _, _, .cons h1 h2, 0 => .nil
  | _, _, .cons h1 h2, n + 1 => .cons h1 (h2.take n)
theorem reps_ints : ∀ {h : Heap} {xs : List Int} {vs' : List Value}, IntsAre vs' xs → Reps h (xs.map V.int) vs'
  | _, _, _, .nil => .nil
  | _, _, _, .cons _ _ r => .cons (.int _ _) (reps_ints r)
theorem ints_reps : ∀ {h : Heap} {xs : List Int} {vs' : List Value}, Reps h (xs.map V.int) vs' → IntsAre vs' xs
  | _, [], _, .nil => .nil
  | _, _ :: _, _, .cons (.int _ _) r => .cons _ _ (ints_reps r)

/-- Sim carried along a change outside the frame's own and the store -/
theorem Sim.keeps {F : FE} {σ : St} {h h' : Heap} (S : Sim GB F σ h) (k : ∀ b o, h.get? b = some o → h'.get? b = some o) : Sim GB F σ h' where
  base := fun b o e => k b o (S.base b o e)
  frame := by
    obtain ⟨m, hm, hl⟩ := S.frame
    refine ⟨m, hm.keeps k, fun x v e => ?_⟩
    obtain ⟨v', hp, hr⟩ := hl x v e
    refine ⟨v', ?_, hr.keeps fun a o ho _ => k a o ho⟩
    rcases hp with hp | ⟨hk, c, hc, hcell⟩
    · exact .inl hp
    · exact .inr ⟨hk, c, hc, hcell.keeps k⟩
  cells := fun p hp => let ⟨v₀, hv⟩ := S.cells p hp; ⟨v₀, hv.keeps k⟩
  apart := S.apart
  sto := fun a o e => by
    have r := S.sto a o e
    cases o with
    | lst vs => obtain ⟨hb, vs', n, ho, r2⟩ := r; exact ⟨hb, vs', n, k _ _ ho, r2.keeps fun a o ho _ => k a o ho⟩
    | rol vs => obtain ⟨hb, vs', ⟨o, ho, r1⟩, r2⟩ := r; exact ⟨hb, vs', ⟨o, k _ _ ho, r1⟩, r2.keeps fun a o ho _ => k a o ho⟩
    | raw o => exact ⟨k _ _ r.1, r.2⟩
  inOwn := S.inOwn
  ownIs := S.ownIs
  new := S.new
  off := S.off


theorem not_frz_ext {h h' : Heap} {c : Addr} (hc : ∀ o, h.get? c = some o → ¬ FrzO o) (k : Heap.ExtBut c h h') : ∀ a o, h.get? a = some o → FrzO o → h'.get? a = some o :=
  fun a o ho hf => k a o (fun e => hc o (e ▸ ho) hf) ho

theorem ORep.ext {h h' : Heap} {a c : Addr} {o : O} (r : ORep h a o) (hac : a ≠ c) (hc : ∀ o, h.get? c = some o → ¬ FrzO o) (k : Heap.ExtBut c h h') : ORep h' a o := by
  cases o with
  | lst vs => obtain ⟨hb, vs', n, ho, r2⟩ := r; exact ⟨hb, vs', n, k _ _ hac ho, r2.keeps (not_frz_ext hc k)⟩
  | rol vs => obtain ⟨hb, vs', ⟨o, ho, r1⟩, r2⟩ := r; exact ⟨hb, vs', ⟨o, k _ _ hac ho, r1⟩, r2.keeps (not_frz_ext hc k)⟩
  | raw o => exact ⟨k _ _ hac r.1, r.2⟩

theorem Sim.local_not_cell {F : FE} {σ : St} {h : Heap} (S : Sim GB F σ h) {p : Str × Addr} (hp : p ∈ F.env.cells) : p.2 ≠ F.env.locals := by
  intro e
  obtain ⟨v₀, o, ho, hd⟩ := S.cells p hp
  obtain ⟨m, ⟨o', es, ep, ho', hd', _⟩, _⟩ := S.frame
  rw [e, ho'] at ho; cases ho
  rw [hd'] at hd; cases hd

/-- a store into an object of the call's own -/
theorem Sim.change {F : FE} {σ : St} {h h' : Heap} {a : Addr} {o₀ o : O} (S : Sim GB F σ h) (ha : σ.sto a = some o₀) (hm : o₀.isMut = true) (k : Heap.ExtBut a h h') (ho : ORep h' a o) : Sim GB F (σ.setSto a o) h' := by
  have hnt := (S.sto a o₀ ha).not_frz
  have hoff := S.off a o₀ ha
  exact {
    base := fun b ob e => k b ob (fun q => by rw [q, hoff.1 hm] at e; cases e) (S.base b ob e)
    frame := by
      obtain ⟨m, hn, hl⟩ := S.frame
      refine ⟨m, hn.extBut k (Ne.symm hoff.2.1), fun x v e => ?_⟩
      obtain ⟨v', hp, hr⟩ := hl x v e
      refine ⟨v', ?_, hr.keeps (not_frz_ext hnt k)⟩
      rcases hp with hp | ⟨hk, c, hc, oc, hcell, hd⟩
      · exact .inl hp
      · exact .inr ⟨hk, c, hc, oc, k c oc (hoff.2.2 _ (mem_of_lookup hc)) hcell, hd⟩
    cells := fun p hp => by obtain ⟨v₀, oc, hcell, hd⟩ := S.cells p hp; exact ⟨v₀, oc, k _ _ (hoff.2.2 p hp) hcell, hd⟩
    apart := S.apart
    sto := fun b ob e => by
      by_cases hb : b = a
      · subst hb; rw [setSto_same] at e; cases e; exact ho
      · rw [setSto_other _ _ hb] at e; exact (S.sto b ob e).ext hb hnt k
    inOwn := S.inOwn
    ownIs := S.ownIs
    new := S.new
    off := fun b ob e => by
      by_cases hb : b = a
      · subst hb; exact ⟨fun _ => hoff.1 hm, hoff.2⟩
      · rw [setSto_other _ _ hb] at e; exact S.off b ob e }

theorem Mod.change {F : FE} {σ : St} {s : Shared} {h' : Heap} {tk : Nat} {a : Addr} {o₀ o : O} (S : Sim GB F σ s.heap) (ha : σ.sto a = some o₀) (hm : o₀.isMut = true) (k : Heap.ExtBut a s.heap h') (hal : ∃ ob, h'.get? a = some ob) :
    Mod F.own σ (σ.setSto a o) s { s with heap := h', toks := tk } where
  alive := fun b ob e => by
    by_cases hb : b = a
    · subst hb; exact hal
    · exact ⟨ob, k b ob hb e⟩
  keep := fun b ob e hf _ => k b ob (fun q => by subst q; rw [hf o₀ ha] at hm; cases hm) e
  dom := fun b ob e => by
    by_cases hb : b = a
    · subst hb; exact .inl ⟨o₀, ha, fun _ => hm⟩
    · rw [setSto_other _ _ hb] at e; exact .inl ⟨ob, e, id⟩
  rest := rfl

/-- new objects, one of them into the store -/
theorem Sim.alloc {F : FE} {σ : St} {h h' : Heap} {a : Addr} {o : O} (S : Sim GB F σ h) (k : ∀ b ob, h.get? b = some ob → h'.get? b = some ob) (ha : h.get? a = none) (ho : ORep h' a o) : Sim GB F (σ.setSto a o) h' := by
  have S' := S.keeps k
  have hnot : ∀ ob, h.get? a ≠ some ob := fun ob e => by rw [ha] at e; cases e
  exact {
    base := S'.base
    frame := S'.frame
    cells := S'.cells
    apart := S'.apart
    sto := fun b ob e => by
      by_cases hb : b = a
      · subst hb; rw [setSto_same] at e; cases e; exact ho
      · rw [setSto_other _ _ hb] at e; exact S'.sto b ob e
    inOwn := S.inOwn
    ownIs := S.ownIs
    new := S.new
    off := fun b ob e => by
      by_cases hb : b = a
      · subst hb
        refine ⟨fun _ => ?_, fun e => ?_, fun p hp e => ?_⟩
        · cases hq : GB.get? b with
          | none => rfl
          | some ob => exact (hnot _ (S.base b ob hq)).elim
        · obtain ⟨m, ⟨o', _, _, ho', _⟩, _⟩ := S.frame
          exact hnot _ (e ▸ ho')
        · obtain ⟨v₀, oc, hoc, _⟩ := S.cells p hp
          exact hnot _ (e ▸ hoc)
      · rw [setSto_other _ _ hb] at e; exact S.off b ob e }
theorem Mod.alloc {F : FE} {σ : St} {s : Shared} {h' : Heap} {tk : Nat} {a : Addr} {o : O} (k : ∀ b ob, s.heap.get? b = some ob → h'.get? b = some ob) (ha : s.heap.get? a = none) :
    Mod F.own σ (σ.setSto a o) s { s with heap := h', toks := tk } where
  alive := fun b ob e => ⟨ob, k b ob e⟩
  keep := fun b ob e _ _ => k b ob e
  dom := fun b ob e => by
    by_cases hb : b = a
    · subst hb; exact .inr ha
    · rw [setSto_other _ _ hb] at e; exact .inl ⟨ob, e, id⟩
  rest := rfl
theorem Mod.pure {F : FE} {σ : St} {s : Shared} {h' : Heap} {tk : Nat} (k : ∀ b ob, s.heap.get? b = some ob → h'.get? b = some ob) :
    Mod F.own σ σ s { s with heap := h', toks := tk } := ⟨fun b ob e _ _ => k b ob e, fun b ob e => .inl ⟨ob, e, id⟩, fun b ob e => ⟨ob, k b ob e⟩, rfl⟩

theorem Sim.fresh_none {F : FE} {σ : St} {h : Heap} (S : Sim GB F σ h) {a : Addr} (ha : h.get? a = none) : σ.sto a = none := by
  cases hs : σ.sto a with
  | none => rfl
  | some o =>
    exfalso
    have hnot : ∀ ob, h.get? a ≠ some ob := fun ob e => by rw [ha] at e; cases e
    have r := S.sto a o hs
    cases o with
    | lst vs => obtain ⟨_, _, _, e, _⟩ := r; exact hnot _ e
    | rol vs => obtain ⟨_, _, ⟨_, e, _⟩, _⟩ := r; exact hnot _ e
    | raw o => exact hnot _ r.1

/-- a store into a name -/
theorem store_name {prog : Program} {w : World} {A : Around} {E : Value → Shared → Prop} {F : FE} {σ : St} {s : Shared} {x : Str} {v : V} {v' : Value} {Q : Unit → Shared → Prop}
    (ok : EnvOk F.env) (S : Sim GB F σ s.heap) (hr : Rep s.heap v v')
    (hk : F.env.kindOf x = some .local ∨ (F.env.kindOf x = some .cell ∧ ∃ c, F.env.cells.lookup x = some c ∧ c ∈ F.own))
    (h : ∀ h' tk, Sim GB F (σ.setLoc x v) h' → Mod F.own σ (σ.setLoc x v) s { s with heap := h', toks := tk } → Q () { s with heap := h', toks := tk }) :
    wpAny (model prog w) A (storeName F.env x v') Q E s := by
  obtain ⟨m, hn, hl⟩ := S.frame
  rcases hk with hk | ⟨hk, c, hc, hown⟩
  · refine wpAny_storeName_local hk hn (fun h' hn' hs => ?_) (by rw [ok.kind]; rfl)
    have hnt : ∀ o, s.heap.get? F.env.locals = some o → ¬ FrzO o := fun o ho hf => frz_not_dict ho hf hn
    have k := hs.extBut
    refine h h' (s.toks + 1) ?_ ⟨fun b ob e _ ho => k b ob (fun q => ho (q ▸ S.inOwn)) e, fun b ob e => .inl ⟨ob, e, id⟩, fun b ob e => by
      by_cases hb : b = F.env.locals
      · subst hb; obtain ⟨o', _, _, ho', _⟩ := hn'; exact ⟨o', ho'⟩
      · exact ⟨ob, k b ob hb e⟩, rfl⟩
    exact {
      base := fun b ob e => k b ob (fun q => by rw [q, S.new _ S.inOwn] at e; cases e) (S.base b ob e)
      frame := by
        refine ⟨_, hn', fun y u e => ?_⟩
        rw [show (σ.setLoc x v).loc = locSet σ.loc x v from rfl, locSet_lookup] at e
        by_cases hy : (y == x) = true
        · rw [if_pos hy] at e; cases e
          have hyx := beq_iff_eq.mp hy
          subst hyx
          exact ⟨v', .inl ⟨hk, by simp⟩, hr.keeps (not_frz_ext hnt k)⟩
        · rw [if_neg hy] at e
          obtain ⟨u', hp, hru⟩ := hl y u e
          refine ⟨u', ?_, hru.keeps (not_frz_ext hnt k)⟩
          rcases hp with ⟨h1, h2⟩ | ⟨h1, c, hc, oc, hcell, hd⟩
          · exact .inl ⟨h1, by show (if y = x then some v' else m y) = some u'; rw [if_neg (fun q => hy (beq_iff_eq.mpr q))]; exact h2⟩
          · exact .inr ⟨h1, c, hc, oc, k c oc (S.local_not_cell (mem_of_lookup hc)) hcell, hd⟩
      cells := fun p hp => by obtain ⟨v₀, oc, hcell, hd⟩ := S.cells p hp; exact ⟨v₀, oc, k _ _ (S.local_not_cell hp) hcell, hd⟩
      apart := S.apart
      sto := fun b ob e => (S.sto b ob e).ext (S.off b ob e).2.1 hnt k
      inOwn := S.inOwn
      ownIs := S.ownIs
      new := S.new
      off := S.off }
  · obtain ⟨v₀, hv₀⟩ := S.cells _ (mem_of_lookup hc)
    refine wpAny_storeName_cell ok.kind hk hc hv₀ fun h' hc' hs => ?_
    have hnt : ∀ o, s.heap.get? c = some o → ¬ FrzO o := fun o ho hf => frz_not_cell ho hf hv₀
    have k := hs.extBut
    have hcL : F.env.locals ≠ c := fun q => S.local_not_cell (mem_of_lookup hc) q.symm
    refine h h' s.toks ?_ ⟨fun b ob e _ ho => k b ob (fun q => ho (q ▸ hown)) e, fun b ob e => .inl ⟨ob, e, id⟩, fun b ob e => by
      by_cases hb : b = c
      · subst hb; obtain ⟨o', ho', _⟩ := hc'; exact ⟨o', ho'⟩
      · exact ⟨ob, k b ob hb e⟩, rfl⟩
    exact {
      base := fun b ob e => k b ob (fun q => by rw [q, S.new _ hown] at e; cases e) (S.base b ob e)
      frame := by
        refine ⟨m, hn.extBut k hcL, fun y u e => ?_⟩
        rw [show (σ.setLoc x v).loc = locSet σ.loc x v from rfl, locSet_lookup] at e
        by_cases hy : (y == x) = true
        · rw [if_pos hy] at e; cases e
          have hyx := beq_iff_eq.mp hy
          subst hyx
          exact ⟨v', .inr ⟨.inl hk, c, hc, hc'⟩, hr.keeps (not_frz_ext hnt k)⟩
        · rw [if_neg hy] at e
          obtain ⟨u', hp, hru⟩ := hl y u e
          refine ⟨u', ?_, hru.keeps (not_frz_ext hnt k)⟩
          rcases hp with ⟨h1, h2⟩ | ⟨h1, d, hd, oc, hcell, hdd⟩
          · exact .inl ⟨h1, h2⟩
          · refine .inr ⟨h1, d, hd, oc, k d oc (fun q => ?_) hcell, hdd⟩
            subst q
            exact hy (beq_iff_eq.mpr (name_of_addr S.apart (mem_of_lookup hd) (mem_of_lookup hc)))
      cells := fun p hp => by
        by_cases hpc : p.2 = c
        · exact ⟨some v', hpc ▸ hc'⟩
        · obtain ⟨v₀, oc, hcell, hd⟩ := S.cells p hp; exact ⟨v₀, oc, k _ _ hpc hcell, hd⟩
      apart := S.apart
      sto := fun b ob e => (S.sto b ob e).ext (fun q => (S.off b ob e).2.2 _ (mem_of_lookup hc) q.symm) hnt k
      inOwn := S.inOwn
      ownIs := S.ownIs
      new := S.new
      off := S.off }

/-- a name is read -/
theorem load_name {prog : Program} {w : World} {A : Around} {E : Value → Shared → Prop} {F : FE} {σ : St} {s : Shared} {x : Str} {v : V} {Q : Value → Shared → Prop}
    (ok : EnvOk F.env) (S : Sim GB F σ s.heap) (hx : σ.loc.lookup x = some v) (hd : (x == ("__classdict__" : Str)) = false) (h : ∀ v', Rep s.heap v v' → Q v' s) : wpAny (model prog w) A (loadName F.env x) Q E s := by
  obtain ⟨m, hn, hl⟩ := S.frame
  obtain ⟨v', hp, hr⟩ := hl x v hx
  rcases hp with ⟨h1, h2⟩ | ⟨h1 | h1, c, hc, hcell⟩
  · exact wpAny_loadName_local ok.kind h1 hn h2 (h v' hr)
  · exact wpAny_loadName_cell ok.kind h1 hc hcell (h v' hr)
  · exact wpAny_loadName_free ok.kind h1 hc hcell (h v' hr) hd

/-- an object that is neither the frame's nor the store's -/
structure Loose (GB : Heap) (F : FE) (σ : St) (h : Heap) (c : Addr) : Prop where
  new : GB.get? c = none
  loc : c ≠ F.env.locals
  cell : ∀ p ∈ F.env.cells, p.2 ≠ c
  sto : σ.sto c = none
  frz : ∀ o, h.get? c = some o → ¬ FrzO o
theorem Loose.own {F : FE} {σ : St} {h : Heap} {c : Addr} (S : Sim GB F σ h) (l : Loose GB F σ h c) : c ∉ F.own := fun hc => by
  rcases S.ownIs c hc with e | ⟨p, hp, e⟩
  · exact l.loc e
  · exact l.cell p hp e
theorem Sim.extBut {F : FE} {σ : St} {h h' : Heap} {c : Addr} (S : Sim GB F σ h) (l : Loose GB F σ h c) (k : Heap.ExtBut c h h') : Sim GB F σ h' where
  base := fun b o e => k b o (fun q => by rw [q, l.new] at e; cases e) (S.base b o e)
  frame := by
    obtain ⟨m, hn, hl⟩ := S.frame
    refine ⟨m, hn.extBut k (Ne.symm l.loc), fun x v e => ?_⟩
    obtain ⟨v', hp, hr⟩ := hl x v e
    refine ⟨v', ?_, hr.keeps (not_frz_ext l.frz k)⟩
    rcases hp with hp | ⟨hk, c, hc, oc, hcell, hd⟩
    · exact .inl hp
    · exact .inr ⟨hk, c, hc, oc, k c oc (l.cell _ (mem_of_lookup hc)) hcell, hd⟩
  cells := fun p hp => by obtain ⟨v₀, oc, hcell, hd⟩ := S.cells p hp; exact ⟨v₀, oc, k _ _ (l.cell p hp) hcell, hd⟩
  apart := S.apart
  sto := fun b o e => (S.sto b o e).ext (fun q => by rw [q, l.sto] at e; cases e) l.frz k
  inOwn := S.inOwn
  ownIs := S.ownIs
  new := S.new
  off := S.off
theorem Loose.fresh {F : FE} {σ : St} {h h' : Heap} {c : Addr} (S : Sim GB F σ h) (hc : h.get? c = none) (ht : ∀ o, h'.get? c = some o → ¬ FrzO o) : Loose GB F σ h' c where
  new := by
    cases hq : GB.get? c with
    | none => rfl
    | some o => have := S.base c o hq; rw [hc] at this; cases this
  loc := fun e => by obtain ⟨m, ⟨o, _, _, ho, _⟩, _⟩ := S.frame; rw [← e, hc] at ho; cases ho
  cell := fun p hp e => by obtain ⟨v₀, o, ho, _⟩ := S.cells p hp; rw [e, hc] at ho; cases ho
  sto := S.fresh_none hc
  frz := ht

/-- the frame of the caller, behind what left it alone -/
theorem Sim.back {F : FE} {σ : St} {h h' : Heap} {sto' : Addr → Option O} (S : Sim GB F σ h) (X : Addr → Prop) (kp : ∀ b ob, h.get? b = some ob → σ.fixed b → ¬ X b → h'.get? b = some ob)
    (xl : ¬ X F.env.locals) (xc : ∀ p ∈ F.env.cells, ¬ X p.2) (xf : ∀ b o, h.get? b = some o → FrzO o → ¬ X b) (base : ∀ b o, GB.get? b = some o → h'.get? b = some o) (sto : ∀ a o, sto' a = some o → ORep h' a o) (gb : ∀ a o, sto' a = some o → o.isMut = true → GB.get? a = none)
    (dm : ∀ b ob, sto' b = some ob → (∃ o', σ.sto b = some o') ∨ h.get? b = none) : Sim GB F ⟨σ.loc, sto'⟩ h' where
  base := base
  frame := by
    obtain ⟨m, hn, hl⟩ := S.frame
    have fixL : σ.fixed F.env.locals := fun o' e => absurd rfl (S.off _ o' e).2.1
    refine ⟨m, ?_, fun y v e => ?_⟩
    · obtain ⟨oL, es, ep, hoL, r⟩ := hn
      exact ⟨oL, es, ep, kp _ _ hoL fixL xl, r⟩
    · obtain ⟨v', hp, hr⟩ := hl y v e
      refine ⟨v', ?_, hr.keeps fun c o hoc hf => kp c o hoc (S.frz_off hoc hf).1 (xf c o hoc hf)⟩
      rcases hp with hp | ⟨hk, c, hc, oc, hoc, hdc⟩
      · exact .inl hp
      · exact .inr ⟨hk, c, hc, oc, kp c oc hoc (fun o' e => absurd rfl ((S.off _ o' e).2.2 _ (mem_of_lookup hc))) (xc _ (mem_of_lookup hc)), hdc⟩
  cells := fun p hp => by
    obtain ⟨v₀, oc, hoc, hdc⟩ := S.cells p hp
    exact ⟨v₀, oc, kp _ oc hoc (fun o' e => absurd rfl ((S.off _ o' e).2.2 _ hp)) (xc p hp), hdc⟩
  apart := S.apart
  sto := sto
  inOwn := S.inOwn
  ownIs := S.ownIs
  new := S.new
  off := fun b ob e => by
    refine ⟨gb b ob e, ?_⟩
    rcases dm b ob e with ⟨o', ho'⟩ | q
    · exact (S.off b o' ho').2
    · refine ⟨fun e' => ?_, fun p hp e' => ?_⟩
      · obtain ⟨m, ⟨oL, _, _, hoL, _⟩, _⟩ := S.frame
        rw [← e', q] at hoL; cases hoL
      · obtain ⟨v₀, oc, hoc, _⟩ := S.cells p hp
        rw [e', q] at hoc; cases hoc
/-- an object joins the store -/
theorem Sim.adopt {F : FE} {σ : St} {h : Heap} {a : Addr} {o : O} (S : Sim GB F σ h) (ho : ORep h a o) (hg : GB.get? a = none) (hl : a ≠ F.env.locals) (hc : ∀ p ∈ F.env.cells, p.2 ≠ a) : Sim GB F (σ.setSto a o) h :=
  ⟨S.base, S.frame, S.cells, S.apart, fun b ob e => by
    by_cases hb : b = a
    · subst hb; rw [setSto_same] at e; cases e; exact ho
    · rw [setSto_other _ _ hb] at e; exact S.sto b ob e, S.inOwn, S.ownIs, S.new, fun b ob e => by
    by_cases hb : b = a
    · subst hb; exact ⟨fun _ => hg, hl, hc⟩
    · rw [setSto_other _ _ hb] at e; exact S.off b ob e⟩
theorem Mod.adopt {own : List Addr} {σ σ' : St} {s s' : Shared} {a : Addr} {o : O} (x : Mod own σ σ' s s') (ha : s.heap.get? a = none) : Mod own σ (σ'.setSto a o) s s' :=
  ⟨x.keep, fun b ob e => by
    by_cases hb : b = a
    · subst hb; exact .inr ha
    · rw [setSto_other _ _ hb] at e; exact x.dom b ob e, x.alive, x.rest⟩
theorem Mod.wide {own own' : List Addr} {σ σ' : St} {s s' : Shared} (x : Mod own σ σ' s s') (h : ∀ b ∈ own, b ∈ own') : Mod own' σ σ' s s' := ⟨fun b o e f n => x.keep b o e f fun q => n (h b q), x.dom, x.alive, x.rest⟩

theorem get_size (h : Heap) : h.get? h.objs.size = none := by
  cases hq : h.get? h.objs.size with
  | none => rfl
  | some o => exact absurd (Heap.lt_size hq) (Nat.lt_irrefl _)

end Mine
set_option Elab.async false
set_option linter.unusedVariables false
namespace Mine
open PySem PySem.W PyProof.Rows

structure Cx where
  prog : Program
  w : World
  GB : Heap
  mg : Str → Option Value
  mb : Str → Option Value
  GT : List (Str × V)

structure CxOk (C : Cx) : Prop where
  g : C.GB.Ns mainGlobals C.mg
  b : C.GB.Ns builtinsNs C.mb
  nolimit : C.GB.NoLimit
  gt : ∀ x v, C.GT.lookup x = some v → ∃ v', (C.mg x = some v' ∨ (C.mg x = none ∧ C.mb x = some v')) ∧ ∀ h, Rep h v v'

def Room (k : Nat) (F : FE) (A : Around) : Prop := A.handled = none ∧ A.depth + k < recursionLimit ∧ A.units + 10 * k + 5 < cLine ∧ A.frames = some F.frames

inductive Fl where
  | next
  | brk
  | cont
  | ret (v : V)

inductive FlRep (h : Heap) : Fl → Flow → Prop
  | next : FlRep h .next .next
  | brk : FlRep h .brk .brk
  | cont : FlRep h .cont .cont
  | ret {v : V} {v' : Value} : Rep h v v' → FlRep h (.ret v) (.ret v')

/-- what holds behind a tree -/
def Post (C : Cx) (F : FE) {α β : Type} (R : Heap → β → α → Prop) (σ : St) (s : Shared) (Q : β → St → Prop) : α → Shared → Prop :=
  fun a s' => ∃ b σ', R s'.heap b a ∧ Sim C.GB F σ' s'.heap ∧ Mod F.own σ σ' s s' ∧ Q b σ'

abbrev No : Value → Shared → Prop := fun _ _ => False

def TT (C : Cx) (k : Nat) (F : FE) {α β : Type} (R : Heap → β → α → Prop) (t : Sem α) (σ : St) (Q : β → St → Prop) : Prop :=
  ∀ A s, Room k F A → Sim C.GB F σ s.heap → wpAny (model C.prog C.w) A t (Post C F R σ s Q) No s
def T1 (C : Cx) (k : Nat) (F : FE) {α β : Type} (R : Heap → β → α → Prop) (t : Value → Sem α) (a : V) (σ : St) (Q : β → St → Prop) : Prop :=
  ∀ A s a', Room k F A → Sim C.GB F σ s.heap → Rep s.heap a a' → wpAny (model C.prog C.w) A (t a') (Post C F R σ s Q) No s
def T2 (C : Cx) (k : Nat) (F : FE) {α β : Type} (R : Heap → β → α → Prop) (t : Value → Value → Sem α) (a b : V) (σ : St) (Q : β → St → Prop) : Prop :=
  ∀ A s a' b', Room k F A → Sim C.GB F σ s.heap → Rep s.heap a a' → Rep s.heap b b' → wpAny (model C.prog C.w) A (t a' b') (Post C F R σ s Q) No s
def T3 (C : Cx) (k : Nat) (F : FE) {α β : Type} (R : Heap → β → α → Prop) (t : Value → Value → Value → Sem α) (a b c : V) (σ : St) (Q : β → St → Prop) : Prop :=
  ∀ A s a' b' c', Room k F A → Sim C.GB F σ s.heap → Rep s.heap a a' → Rep s.heap b b' → Rep s.heap c c' → wpAny (model C.prog C.w) A (t a' b' c') (Post C F R σ s Q) No s
def TN (C : Cx) (k : Nat) (F : FE) {α β : Type} (R : Heap → β → α → Prop) (t : List Value → Sem α) (vs : List V) (σ : St) (Q : β → St → Prop) : Prop :=
  ∀ A s vs', Room k F A → Sim C.GB F σ s.heap → Reps s.heap vs vs' → wpAny (model C.prog C.w) A (t vs') (Post C F R σ s Q) No s

abbrev REq {α : Type} : Heap → α → α → Prop := fun _ a b => a = b

def TE (C : Cx) (k : Nat) (F : FE) (e : Expr) (σ : St) (Q : V → St → Prop) : Prop := TT C k F Rep (eval e F.env) σ Q
def TB (C : Cx) (k : Nat) (F : FE) (e : Expr) (σ : St) (Q : Bool → St → Prop) : Prop := TT C k F REq (isTrue e F.env (eval e F.env)) σ Q
def TEs (C : Cx) (k : Nat) (F : FE) (pos : Pos) (es : List Expr) (σ : St) (Q : List V → St → Prop) : Prop := TT C k F Reps (spliced (backTo pos (starEach es F.env))) σ Q
def TS (C : Cx) (k : Nat) (F : FE) (s : Stmt) (σ : St) (Q : Fl → St → Prop) : Prop := TT C k F FlRep (exec s F.env) σ Q
def TX (C : Cx) (k : Nat) (F : FE) (ss : List Stmt) (σ : St) (Q : Fl → St → Prop) : Prop := TT C k F FlRep (execs ss F.env) σ Q
def BinOK (C : Cx) (k : Nat) (F : FE) (op : Operator) (a b : V) (σ : St) (Q : V → St → Prop) : Prop := T2 C k F Rep (binaryOp op) a b σ Q
def IBinOK (C : Cx) (k : Nat) (F : FE) (op : Operator) (a b : V) (σ : St) (Q : V → St → Prop) : Prop := T2 C k F Rep (inplaceOp op) a b σ Q
def CmpOK (C : Cx) (k : Nat) (F : FE) (op : CmpOp) (a b : V) (σ : St) (Q : V → St → Prop) : Prop := T2 C k F Rep (compareOp op) a b σ Q
def UnOK (C : Cx) (k : Nat) (F : FE) (op : UnaryOp) (a : V) (σ : St) (Q : V → St → Prop) : Prop := T1 C k F Rep (unaryOp op) a σ Q
def TruthOK (C : Cx) (k : Nat) (F : FE) (a : V) (σ : St) (Q : Bool → St → Prop) : Prop := T1 C k F REq truthy a σ Q
def ItemOK (C : Cx) (k : Nat) (F : FE) (e sl : Expr) (a b : V) (σ : St) (Q : V → St → Prop) : Prop := T2 C k F Rep (subscriptTail e sl) a b σ Q
def SetOK (C : Cx) (k : Nat) (F : FE) (o i v : V) (σ : St) (Q : Unit → St → Prop) : Prop := T3 C k F REq setItem o i v σ Q
def CallOK (C : Cx) (k : Nat) (F : FE) (f : V) (vs : List V) (σ : St) (Q : V → St → Prop) : Prop :=
  ∀ A s f' vs', Room k F A → Sim C.GB F σ s.heap → Rep s.heap f f' → Reps s.heap vs vs' → wpAny (model C.prog C.w) A (call f' vs' []) (Post C F Rep σ s Q) No s

section
variable {C : Cx} {k : Nat} {F : FE} {σ : St}

theorem Post.mono {α β : Type} {R : Heap → β → α → Prop} {s : Shared} {Q Q' : β → St → Prop} (hq : ∀ b σ', Q b σ' → Q' b σ') {a : α} {s' : Shared} (h : Post C F R σ s Q a s') : Post C F R σ s Q' a s' :=
  let ⟨b, σ', r, S, M, q⟩ := h; ⟨b, σ', r, S, M, hq b σ' q⟩
theorem TT.mono {α β : Type} {R : Heap → β → α → Prop} {t : Sem α} {Q Q' : β → St → Prop} (h : TT C k F R t σ Q) (hq : ∀ b σ', Q b σ' → Q' b σ') : TT C k F R t σ Q' :=
  fun A s hA S => wpAny_mono (h A s hA S) (fun _ _ x => x.mono hq) fun _ _ x => x
theorem TX.mono {ss : List Stmt} {Q Q' : Fl → St → Prop} (h : TX C k F ss σ Q) (hq : ∀ b σ', Q b σ' → Q' b σ') : TX C k F ss σ Q' := TT.mono h hq
/-- behind a step the next one -/
theorem go {α β : Type} {A : Around} {R : Heap → β → α → Prop} {s : Shared} {Q : β → St → Prop} {t : Sem α} {K : α → Shared → Prop} (h : wpAny (model C.prog C.w) A t (Post C F R σ s Q) No s)
    (n : ∀ b a σ₁ s₁, R s₁.heap b a → Sim C.GB F σ₁ s₁.heap → Mod F.own σ σ₁ s s₁ → Q b σ₁ → K a s₁) : wpAny (model C.prog C.w) A t K No s :=
  wpAny_mono h (fun a s₁ ⟨b, σ₁, r, S₁, M, q⟩ => n b a σ₁ s₁ r S₁ M q) fun _ _ x => x
theorem post_on {α β : Type} {R : Heap → β → α → Prop} {σ₁ : St} {s s₁ : Shared} {Q : β → St → Prop} {a : α} {s' : Shared} (S₁ : Sim C.GB F σ₁ s₁.heap) (M : Mod F.own σ σ₁ s s₁) (h : Post C F R σ₁ s₁ Q a s') : Post C F R σ s Q a s' :=
  let ⟨b, σ₂, r, S, M₂, q⟩ := h; ⟨b, σ₂, r, S, M.trans S₁ M₂, q⟩
theorem fin {α β : Type} {A : Around} {R : Heap → β → α → Prop} {σ₁ : St} {s s₁ : Shared} {Q : β → St → Prop} {t : Sem α} (S₁ : Sim C.GB F σ₁ s₁.heap) (M : Mod F.own σ σ₁ s s₁) (h : wpAny (model C.prog C.w) A t (Post C F R σ₁ s₁ Q) No s₁) :
    wpAny (model C.prog C.w) A t (Post C F R σ s Q) No s₁ := wpAny_mono h (fun _ _ x => post_on S₁ M x) fun _ _ x => x

theorem post_pure {α β : Type} {R : Heap → β → α → Prop} {s : Shared} {Q : β → St → Prop} {a : α} {b : β} (S : Sim C.GB F σ s.heap) (r : R s.heap b a) (q : Q b σ) : Post C F R σ s Q a s := ⟨b, σ, r, S, .refl, q⟩
theorem post_tok {α β : Type} {R : Heap → β → α → Prop} {s : Shared} {Q : β → St → Prop} {a : α} {b : β} {tk : Nat} (S : Sim C.GB F σ s.heap) (r : R s.heap b a) (q : Q b σ) : Post C F R σ s Q a { s with toks := tk } := ⟨b, σ, r, S, .toks tk, q⟩

-- expressions
theorem e_int {i : Int} {n : Nat} {p : Pos} {Q : V → St → Prop} (h : Q (.int i) σ) : TE C k F (.Constant (.int i) n p) σ Q :=
  fun A s _ S => wpAny_Constant_int (post_tok S (.int _ _) h)
theorem e_none {n : Nat} {p : Pos} {Q : V → St → Prop} (h : Q .none σ) : TE C k F (.Constant .none n p) σ Q :=
  fun A s _ S => wpAny_Constant_none (post_pure S .none h)
theorem e_name {x : Str} {p : Pos} {v : V} {Q : V → St → Prop} (ok : EnvOk F.env) (hx : σ.loc.lookup x = some v) (h : Q v σ)
    (hd : (x == ("__debug__" : Str)) = false := by rfl) (hc : (x == ("__classdict__" : Str)) = false := by rfl) : TE C k F (.Name x p) σ Q :=
  fun A s _ S => wpAny_Name (load_name ok S hx hc fun v' r => post_pure S r h) hd
theorem e_glob {x : Str} {p : Pos} {v : V} {Q : V → St → Prop} (cx : CxOk C) (ok : EnvOk F.env) (hx : C.GT.lookup x = some v) (h : Q v σ)
    (hk : F.env.kindOf x = some .globalImplicit := by rfl) (hd : (x == ("__debug__" : Str)) = false := by rfl) : TE C k F (.Name x p) σ Q :=
  fun A s _ S => by
    obtain ⟨v', hv, hr⟩ := cx.gt x v hx
    refine Calls.Name_function_global ok.kind hk ?_ hd
    have hg : s.heap.Ns F.env.globals C.mg := by rw [ok.globals]; exact cx.g.keeps S.base
    have hb : s.heap.Ns F.env.builtins C.mb := by rw [ok.builtins]; exact cx.b.keeps S.base
    rcases hv with hv | ⟨hm, hv⟩
    · exact Calls.loadGlobal_global hg hv (post_pure S (hr _) h)
    · exact Calls.loadGlobal_builtin hg hm hb hv (post_pure S (hr _) h)
theorem e_bin {l r : Expr} {op : Operator} {p : Pos} {Q : V → St → Prop} (h : TE C k F l σ fun a σ₁ => TE C k F r σ₁ fun b σ₂ => BinOK C k F op a b σ₂ Q) : TE C k F (.BinOp l op r p) σ Q :=
  fun A s hA S => wpAny_BinOp (go (h A s hA S) fun a a' σ₁ s₁ ra S₁ M₁ h₁ => go (h₁ A s₁ hA S₁) fun b b' σ₂ s₂ rb S₂ M₂ h₂ => fin S₂ (M₁.trans S₁ M₂) (h₂ A s₂ a' b' hA S₂ (M₂.rep S₁ ra) rb))
theorem e_cmp {l r : Expr} {op : CmpOp} {p : Pos} {Q : V → St → Prop} (h : TE C k F l σ fun a σ₁ => TE C k F r σ₁ fun b σ₂ => CmpOK C k F op a b σ₂ Q)
    (hm : behindInMarks op r = false := by with_unfolding_all rfl) : TE C k F (.Compare l [op] [r] p) σ Q :=
  fun A s hA S => wpAny_Compare1 (go (h A s hA S) fun a a' σ₁ s₁ ra S₁ M₁ h₁ => go (h₁ A s₁ hA S₁) fun b b' σ₂ s₂ rb S₂ M₂ h₂ => fin S₂ (M₁.trans S₁ M₂) (h₂ A s₂ a' b' hA S₂ (M₂.rep S₁ ra) rb)) hm
theorem e_ifexp {t b o : Expr} {p : Pos} {Q : V → St → Prop} (h : TB C k F t σ fun c σ₁ => if c then TE C k F b σ₁ Q else TE C k F o σ₁ Q) : TE C k F (.IfExp t b o p) σ Q :=
  fun A s hA S => wpAny_IfExp (wpAny_mono (h A s hA S) (fun c s₁ ⟨b', σ₁, r, S₁, M, q⟩ => by
    cases r
    cases c <;> simp only [Bool.false_eq_true, if_false, if_true] at q ⊢ <;>
      exact wpAny_mono (q A s₁ hA S₁) (fun _ _ ⟨v, σ₂, r', S₂, M₂, q'⟩ => ⟨v, σ₂, r', S₂, M.trans S₁ M₂, q'⟩) fun _ _ x => x) fun _ _ x => x)
theorem e_and {x y : Expr} {p : Pos} {Q : V → St → Prop} (h : TE C k F x σ fun a σ₁ => TruthOK C k F a σ₁ fun b σ₂ => if b then TE C k F y σ₂ Q else Q a σ₂) : TE C k F (.BoolOp .And [x, y] p) σ Q :=
  fun A s hA S => wpAny_And2 (wpAny_mono (h A s hA S) (fun a' s₁ ⟨a, σ₁, ra, S₁, M, q⟩ =>
    wpAny_mono (q A s₁ a' hA S₁ ra) (fun b s₂ ⟨b', σ₂, rb, S₂, M₂, q₂⟩ => by
      cases rb
      cases b with
      | true => exact wpAny_mono (q₂ A s₂ hA S₂) (fun _ _ ⟨v, σ₃, r', S₃, M₃, q'⟩ => ⟨v, σ₃, r', S₃, (M.trans S₁ M₂).trans S₂ M₃, q'⟩) fun _ _ x => x
      | false => exact ⟨a, σ₂, M₂.rep S₁ ra, S₂, M.trans S₁ M₂, q₂⟩) fun _ _ x => x) fun _ _ x => x)
theorem e_sub {v sl : Expr} {p : Pos} {Q : V → St → Prop} (h : TE C k F v σ fun a σ₁ => TE C k F sl σ₁ fun b σ₂ => ItemOK C k F v sl a b σ₂ Q) : TE C k F (.Subscript v sl p) σ Q :=
  fun A s hA S => Subscript_ (go (h A s hA S) fun a a' σ₁ s₁ ra S₁ M₁ h₁ => go (h₁ A s₁ hA S₁) fun b b' σ₂ s₂ rb S₂ M₂ h₂ => fin S₂ (M₁.trans S₁ M₂) (h₂ A s₂ a' b' hA S₂ (M₂.rep S₁ ra) rb))
theorem es_nil {p : Pos} {Q : List V → St → Prop} (h : Q [] σ) : TEs C k F p [] σ Q := fun A s hA S => spliced_none (post_pure S .nil h)
theorem es_cons {p : Pos} {e : Expr} {r : List Expr} {Q : List V → St → Prop} (h : TE C k F e σ fun v σ₁ => TEs C k F p r σ₁ fun vs σ₂ => Q (v :: vs) σ₂)
    (he : starEach (e :: r) F.env = (false, eval e F.env) :: starEach r F.env := by rfl) : TEs C k F p (e :: r) σ Q :=
  fun A s hA S => spliced_more (wpAny_mono (h A s hA S) (fun a' s₁ ⟨a, σ₁, ra, S₁, M₁, h₁⟩ => wpAny_mono (h₁ A s₁ hA S₁) (fun vs' s₂ ⟨vs, σ₂, rv, S₂, M₂, h₂⟩ =>
    ⟨a :: vs, σ₂, .cons (M₂.rep S₁ ra) rv, S₂, M₁.trans S₁ M₂, h₂⟩) fun _ _ x => x) fun _ _ x => x) he

theorem keeps_push {h : Heap} (o : Obj) : ∀ b ob, h.get? b = some ob → (h.push o).get? b = some ob := fun _ _ e => Heap.get?_push_of_some _ e
theorem frz_of_keeps {h h' : Heap} (k : ∀ b ob, h.get? b = some ob → h'.get? b = some ob) : ∀ a o, h.get? a = some o → FrzO o → h'.get? a = some o := fun a o ho _ => k a o ho
theorem maxLen_le : maxLen ≤ sizeLine := by decide

/-- a new list onto the heap -/
theorem post_newList {s : Shared} {tk : Nat} {vs : List V} {vs' : List Value} {Q : V → St → Prop} (S : Sim C.GB F σ s.heap) (r : Reps s.heap vs vs') (hl : vs.length ≤ maxLen) (h : ∀ a, σ.sto a = none → Q (.ref a) (σ.setSto a (.lst vs))) :
    Post C F Rep σ s Q (.ref s.heap.objs.size) { s with heap := s.heap.push { cls := .type "list", data := .seq vs'.toArray }, toks := tk } :=
  ⟨.ref s.heap.objs.size, σ.setSto s.heap.objs.size (.lst vs), .ref _, S.alloc (keeps_push _) (get_size _) ⟨hl, vs', 0, Heap.get?_push_size _ rfl, r.keeps (frz_of_keeps (keeps_push _))⟩,
    .alloc (keeps_push _) (get_size _), h _ (S.fresh_none (get_size _))⟩

theorem e_list {es : List Expr} {p : Pos} {Q : V → St → Prop} (h : TEs C k F p es σ fun vs σ₁ => vs.length ≤ maxLen ∧ ∀ a, σ₁.sto a = none → Q (.ref a) (σ₁.setSto a (.lst vs))) : TE C k F (.List es p) σ Q :=
  fun A s hA S => wpAny_List_spliced (wpAny_mono (h A s hA S) (fun vs' s₁ ⟨vs, σ₁, rv, S₁, M₁, hl, h₁⟩ => by
    refine ⟨by rw [rv.length]; exact Nat.le_trans hl maxLen_le, ?_⟩
    obtain ⟨b, σ₂, r, S₂, M₂, q⟩ := post_newList (tk := s₁.toks) S₁ rv hl h₁
    exact ⟨b, σ₂, r, S₂, M₁.trans S₁ M₂, q⟩) fun _ _ x => x)
theorem e_tup {es : List Expr} {n : Nat} {p : Pos} {Q : V → St → Prop} (h : TEs C k F p es σ fun vs σ₁ => ∃ xs : List Int, vs = xs.map V.int ∧ xs.length ≤ maxLen ∧ Q (.tup xs) σ₁) : TE C k F (.Tuple es n p) σ Q :=
  fun A s hA S => wpAny_Tuple_spliced (wpAny_mono (h A s hA S) (fun vs' s₁ ⟨vs, σ₁, rv, S₁, M₁, xs, e, hl, h₁⟩ => by
    subst e
    refine ⟨by rw [rv.length, List.length_map]; exact Nat.le_trans hl maxLen_le, ?_⟩
    exact ⟨.tup xs, σ₁, .tup ⟨_, Heap.get?_push_size _ rfl, rfl, 0, rfl⟩ (ints_reps rv), S₁.keeps (keeps_push _), M₁.trans S₁ (.pure (tk := s₁.toks) (keeps_push _)), h₁⟩) fun _ _ x => x)

-- tests
theorem b_not {x : Expr} {p : Pos} {Q : Bool → St → Prop} (h : TB C k F x σ fun b σ₁ => Q (!b) σ₁) : TB C k F (.UnaryOp .Not x p) σ Q :=
  fun A s hA S => wpAny_isTrue_Not (wpAny_mono (h A s hA S) (fun b s₁ ⟨b', σ₁, r, S₁, M, q⟩ => by cases r; exact ⟨_, σ₁, rfl, S₁, M, q⟩) fun _ _ x => x)
theorem b_cmp {l r : Expr} {op : CmpOp} {p : Pos} {Q : Bool → St → Prop} (h : TE C k F l σ fun a σ₁ => TE C k F r σ₁ fun b σ₂ => CmpOK C k F op a b σ₂ fun v σ₃ => TruthOK C k F v σ₃ Q)
    (hm : behindInMarks op r = false := by with_unfolding_all rfl) : TB C k F (.Compare l [op] [r] p) σ Q :=
  fun A s hA S => wpAny_isTrue_Compare1 (go (h A s hA S) fun a a' σ₁ s₁ ra S₁ M₁ h₁ => go (h₁ A s₁ hA S₁) fun b b' σ₂ s₂ rb S₂ M₂ h₂ =>
    go (h₂ A s₂ a' b' hA S₂ (M₂.rep S₁ ra) rb) fun v v' σ₃ s₃ rv S₃ M₃ h₃ => fin S₃ ((M₁.trans S₁ M₂).trans S₂ M₃) (h₃ A s₃ v' hA S₃ rv)) hm
theorem b_val {e : Expr} {Q : Bool → St → Prop} (h : TE C k F e σ fun v σ₁ => TruthOK C k F v σ₁ Q)
    (he : isTrue e F.env (eval e F.env) = (do let v ← eval e F.env; standAt e.pos; holding [v] (truthy v)) := by rfl) : TB C k F e σ Q :=
  fun A s hA S => wpAny_isTrue_value (go (h A s hA S) fun v v' σ₁ s₁ rv S₁ M₁ h₁ => fin S₁ M₁ (h₁ A s₁ v' hA S₁ rv)) he
theorem b_and {x y : Expr} {p : Pos} {Q : Bool → St → Prop} (h : TB C k F x σ fun b σ₁ => if b then TB C k F y σ₁ Q else Q false σ₁) : TB C k F (.BoolOp .And [x, y] p) σ Q :=
  fun A s hA S => wpAny_isTrue_BoolOp (wpAny_allTrue_And_cons (go (h A s hA S) fun b b' σ₁ s₁ rb S₁ M₁ h₁ => by
    cases rb
    cases b with
    | true => exact wpAny_allTrue_And_cons (go (h₁ A s₁ hA S₁) fun c c' σ₂ s₂ rc S₂ M₂ h₂ => by
        cases rc
        cases c with
        | true => exact wpAny_allTrue_And_nil ⟨true, σ₂, rfl, S₂, M₁.trans S₁ M₂, h₂⟩
        | false => exact ⟨false, σ₂, rfl, S₂, M₁.trans S₁ M₂, h₂⟩)
    | false => exact ⟨false, σ₁, rfl, S₁, M₁, h₁⟩))
theorem b_or {x y : Expr} {p : Pos} {Q : Bool → St → Prop} (h : TB C k F x σ fun b σ₁ => if b then Q true σ₁ else TB C k F y σ₁ Q) : TB C k F (.BoolOp .Or [x, y] p) σ Q :=
  fun A s hA S => wpAny_isTrue_BoolOp (wpAny_allTrue_Or_cons (go (h A s hA S) fun b b' σ₁ s₁ rb S₁ M₁ h₁ => by
    cases rb
    cases b with
    | false => exact wpAny_allTrue_Or_cons (go (h₁ A s₁ hA S₁) fun c c' σ₂ s₂ rc S₂ M₂ h₂ => by
        cases rc
        cases c with
        | false => exact wpAny_allTrue_Or_nil ⟨false, σ₂, rfl, S₂, M₁.trans S₁ M₂, h₂⟩
        | true => exact ⟨true, σ₂, rfl, S₂, M₁.trans S₁ M₂, h₂⟩)
    | true => exact ⟨true, σ₁, rfl, S₁, M₁, h₁⟩))

-- calls
def IsFun (GB : Heap) : V → Prop
  | .opq (.builtin _) => True
  | .opq (.type _) => True
  | .ref a => ∃ o fd, GB.get? a = some o ∧ o.data = .func fd
  | _ => False
theorem keeper_of {M : Model} {h : Heap} {f : V} {f' : Value} (hf : IsFun C.GB f) (r : Rep h f f') (hb : ∀ b o, C.GB.get? b = some o → h.get? b = some o) :
    ∃ k, (k = Keeper.frame ∨ k = Keeper.machine ∨ k = Keeper.boundFrame) ∧ Looks M h (keeperOf f') k := by
  cases r with
  | ref a =>
    obtain ⟨o, fd, ho, hd⟩ := hf
    refine ⟨.frame, .inl rfl, (Looks.ld (part := none) (hb _ _ ho)).andThen ?_⟩
    rw [hd]; exact .now
  | opq hn =>
    cases f' <;> first | exact hf.elim | exact ⟨.machine, .inr (.inl rfl), .of_pure rfl⟩
  | _ => exact hf.elim
theorem evalArgs_none {M : Model} {A : Around} {E : Value → Shared → Prop} {s : Shared} {f : Value} {Q : Args → Shared → Prop}
    (h : wpAny M A (spliced []) (fun vs s' => Q ⟨vs, []⟩ s') E s) : wpAny M A (evalArgs f true [] []) Q E s := by
  unfold evalArgs
  show wpAny M A (spliced [] >>= _) Q E s
  refine wpAny_bind (wpAny_mono h (fun vs s' h' => ?_) fun _ _ x => x)
  exact wpAny_bind (wpAny_pure (wpAny_holding (wpAny_bind (wpAny_pure (wpAny_bind (wpAny_pure (wpAny_pure h')))))))
theorem e_call {fe : Expr} {es : List Expr} {p : Pos} {Q : V → St → Prop} (h : TE C k F fe σ fun f σ₁ => TEs C k F p es σ₁ fun vs σ₂ => IsFun C.GB f ∧ CallOK C k F f vs σ₂ Q)
    (hn : eval (.Call fe es [] p) F.env = (do callWith p (← eval fe F.env) [] (backTo p (starEach es F.env)) (backToKw p (keywordEach [] F.env))) := by rfl)
    (hs : (starEach es F.env).all (fun x => !x.1) = true := by rfl) : TE C k F (.Call fe es [] p) σ Q :=
  fun A s hA S => by
    rw [TE] at h
    show wpAny _ A (eval (.Call fe es [] p) F.env) _ _ s
    rw [hn]
    refine wpAny_bind (go (h A s hA S) fun f f' σ₁ s₁ rf S₁ M₁ h₁ => ?_)
    have hst : ((backTo p (starEach es F.env)).any (·.1) || (backToKw p (keywordEach [] F.env)).any (·.1.isNone)) = false := by
      have : (backTo p (starEach es F.env)).any (·.1) = false := by
        rw [List.any_eq_false]
        intro x hx
        obtain ⟨y, hy, rfl⟩ := List.mem_map.mp hx
        have := List.all_eq_true.mp hs y hy
        simpa using this
      rw [this]; rfl
    refine callWith_of (P := fun h => Rep h f f' ∧ IsFun C.GB f ∧ ∀ b o, C.GB.get? b = some o → h.get? b = some o) hst (fun h ⟨r, hf, hb⟩ => keeper_of hf r hb) ?_
    have ha : wpAny (model C.prog C.w) A (spliced (backTo p (starEach es F.env))) (fun vs' s' => (Rep s'.heap f f' ∧ IsFun C.GB f ∧ ∀ b o, C.GB.get? b = some o → s'.heap.get? b = some o) ∧
        wpAny (model C.prog C.w) A (call f' vs' []) (Post C F Rep σ s Q) No s') No s₁ :=
      go (h₁ A s₁ hA S₁) fun vs vs' σ₂ s₂ rv S₂ M₂ ⟨hf, h₂⟩ => ⟨⟨M₂.rep S₁ rf, hf, S₂.base⟩, fin S₂ (M₁.trans S₁ M₂) (h₂ A s₂ f' vs' hA S₂ (M₂.rep S₁ rf) rv)⟩
    show wpAny _ A (evalArgs f' true (backTo p (starEach es F.env)) []) _ _ s₁
    cases hes : backTo p (starEach es F.env) with
    | nil =>
      rw [hes] at ha
      exact evalArgs_none ha
    | cons x r =>
      obtain ⟨b, t⟩ := x
      have hb : b = false := by
        have : ((b, t) :: r).any (·.1) = false := by rw [← hes]; simpa using (Bool.or_eq_false_iff.mp hst).1
        simpa using (List.any_eq_false.mp this (b, t) (.head _))
      subst hb
      rw [hes] at ha
      exact Calls.evalArgs_plain ha
end
end Mine
set_option Elab.async false
set_option linter.unusedVariables false
namespace Mine
open PySem PySem.W PyProof.Rows

section
variable {C : Cx} {k : Nat} {F : FE} {σ : St}

def StoreOk (F : FE) (x : Str) : Prop := F.env.kindOf x = some .local ∨ (F.env.kindOf x = some .cell ∧ ∃ c, F.env.cells.lookup x = some c ∧ c ∈ F.own)

-- statements
theorem x_nil {Q : Fl → St → Prop} (h : Q .next σ) : TX C k F [] σ Q := fun A s _ S => wpAny_execs_nil (post_pure S .next h)
/-- behind a statement the rest -/
def Then (C : Cx) (k : Nat) (F : FE) (r : List Stmt) (Q : Fl → St → Prop) (f : Fl) (σ₁ : St) : Prop := match f with | .next => TX C k F r σ₁ Q | f => Q f σ₁
theorem then_next {r : List Stmt} {Q : Fl → St → Prop} (h : TX C k F r σ Q) : Then C k F r Q .next σ := h
theorem then_brk {r : List Stmt} {Q : Fl → St → Prop} (h : Q .brk σ) : Then C k F r Q .brk σ := h
theorem then_cont {r : List Stmt} {Q : Fl → St → Prop} (h : Q .cont σ) : Then C k F r Q .cont σ := h
theorem then_ret {r : List Stmt} {v : V} {Q : Fl → St → Prop} (h : Q (.ret v) σ) : Then C k F r Q (.ret v) σ := h
theorem x_cons {st : Stmt} {r : List Stmt} {Q : Fl → St → Prop} (h : TS C k F st σ (Then C k F r Q)) : TX C k F (st :: r) σ Q :=
  fun A s hA S => wpAny_execs_cons (go (h A s hA S) fun f f' σ₁ s₁ rf S₁ M₁ h₁ => by
    cases rf with
    | next => exact fin S₁ M₁ (h₁ A s₁ hA S₁)
    | brk => exact ⟨_, σ₁, .brk, S₁, M₁, h₁⟩
    | cont => exact ⟨_, σ₁, .cont, S₁, M₁, h₁⟩
    | ret r => exact ⟨_, σ₁, .ret r, S₁, M₁, h₁⟩)
theorem s_assign {x : Str} {p' p : Pos} {e : Expr} {Q : Fl → St → Prop} (ok : EnvOk F.env) (h : TE C k F e σ fun v σ₁ => Q .next (σ₁.setLoc x v))
    (hk : StoreOk F x := by exact .inl rfl) (hs : swapsWith e (some (.Name x p')) p.line F.env = pure false := by rfl) : TS C k F (.Assign [.Name x p'] e p) σ Q :=
  fun A s hA S => wpAny_Assign_Name (go (h A s hA S) fun v v' σ₁ s₁ rv S₁ M₁ h₁ => store_name ok S₁ rv hk fun h' tk S₂ M₂ => ⟨_, _, .next, S₂, M₁.trans S₁ M₂, h₁⟩) hs
theorem s_setitem {o i e : Expr} {p' p : Pos} {Q : Fl → St → Prop} (h : TE C k F e σ fun v σ₁ => TE C k F o σ₁ fun ov σ₂ => TE C k F i σ₂ fun iv σ₃ => SetOK C k F ov iv v σ₃ fun _ σ₄ => Q .next σ₄)
    (hs : swapsWith e (some (.Subscript o i p')) p.line F.env = pure false := by rfl) : TS C k F (.Assign [.Subscript o i p'] e p) σ Q :=
  fun A s hA S => wpAny_Assign_Subscript (go (h A s hA S) fun v v' σ₁ s₁ rv S₁ M₁ h₁ => go (h₁ A s₁ hA S₁) fun ov ov' σ₂ s₂ ro S₂ M₂ h₂ => go (h₂ A s₂ hA S₂) fun iv iv' σ₃ s₃ ri S₃ M₃ h₃ =>
    go (h₃ A s₃ ov' iv' v' hA S₃ (M₃.rep S₂ ro) ri (M₃.rep S₂ (M₂.rep S₁ rv))) fun _ _ σ₄ s₄ _ S₄ M₄ h₄ => ⟨_, σ₄, .next, S₄, ((M₁.trans S₁ M₂).trans S₂ M₃).trans S₃ M₄, h₄⟩) hs
theorem s_expr {e : Expr} {p : Pos} {Q : Fl → St → Prop} (h : TE C k F e σ fun _ σ₁ => Q .next σ₁) (hi : interactive F.env = false := by rfl) (hs : swapsWith e none p.line F.env = pure false := by rfl) : TS C k F (.Expr e p) σ Q :=
  fun A s hA S => wpAny_Expr_any (go (h A s hA S) fun v v' σ₁ s₁ rv S₁ M₁ h₁ => ⟨_, σ₁, .next, S₁, M₁, h₁⟩) hi hs
theorem s_return {e : Expr} {p : Pos} {Q : Fl → St → Prop} (h : TE C k F e σ fun v σ₁ => Q (.ret v) σ₁) : TS C k F (.Return (some e) p) σ Q :=
  fun A s hA S => wpAny_Return_some (go (h A s hA S) fun v v' σ₁ s₁ rv S₁ M₁ h₁ => ⟨_, σ₁, .ret rv, S₁, M₁, h₁⟩)
theorem s_break {p : Pos} {Q : Fl → St → Prop} (h : Q .brk σ) : TS C k F (.Break p) σ Q := fun A s hA S => wpAny_Break (post_pure S .brk h)
theorem s_continue {p : Pos} {Q : Fl → St → Prop} (h : Q .cont σ) : TS C k F (.Continue p) σ Q := fun A s hA S => wpAny_Continue (post_pure S .cont h)
theorem s_if {t : Expr} {b o : List Stmt} {p : Pos} {Q : Fl → St → Prop} (h : TB C k F t σ fun c σ₁ => if c then TX C k F b σ₁ Q else TX C k F o σ₁ Q) : TS C k F (.If t b o p) σ Q :=
  fun A s hA S => wpAny_If (go (h A s hA S) fun c c' σ₁ s₁ rc S₁ M₁ h₁ => by
    cases rc
    cases c <;> simp only [Bool.false_eq_true, if_false, if_true] at h₁ ⊢ <;> exact fin S₁ M₁ (h₁ A s₁ hA S₁))
theorem no_mono {α : Type} {M : Model} {A : Around} {t : Sem α} {Q : α → Shared → Prop} {E : Value → Shared → Prop} {s : Shared} (h : wpAny M A t Q No s) : wpAny M A t Q E s := wpAny_mono h (fun _ _ x => x) fun _ _ x => x.elim

/-- a while by what holds between its turns -/
theorem s_while {t : Expr} {b o : List Stmt} {p : Pos} {Q : Fl → St → Prop} (Inv : Nat → St → Prop) (n : Nat) (h0 : Inv n σ)
    (turn : ∀ n σ', Inv n σ' → TB C k F t σ' fun c σ₁ => if c then TX C k F b σ₁ fun f σ₂ => (match f with
        | .next => ∃ m, m < n ∧ Inv m σ₂
        | .cont => ∃ m, m < n ∧ Inv m σ₂
        | .brk => Q .next σ₂
        | .ret v => Q (.ret v) σ₂) else TX C k F o σ₁ Q) : TS C k F (.While t b o p) σ Q :=
  fun A s hA S => wpAny_While (codeAny_whileLoop (fun n s' => ∃ σ', Sim C.GB F σ' s'.heap ∧ Mod F.own σ σ' s s' ∧ Inv n σ') (fun n s' ⟨σ', S', M', hI⟩ => by
    refine no_mono (go (turn n σ' hI A s' hA S') fun c c' σ₁ s₁ rc S₁ M₁ h₁ => ?_)
    cases rc
    cases c with
    | true =>
      simp only [if_true] at h₁ ⊢
      refine no_mono (go (h₁ A s₁ hA S₁) fun f f' σ₂ s₂ rf S₂ M₂ h₂ => ?_)
      have M := (M'.trans S' M₁).trans S₁ M₂
      cases rf with
      | next => obtain ⟨m, hm, hI⟩ := h₂; exact ⟨m, hm, σ₂, S₂, M, hI⟩
      | cont => obtain ⟨m, hm, hI⟩ := h₂; exact ⟨m, hm, σ₂, S₂, M, hI⟩
      | brk => exact ⟨_, σ₂, .next, S₂, M, h₂⟩
      | ret r => exact ⟨_, σ₂, .ret r, S₂, M, h₂⟩
    | false =>
      simp only [Bool.false_eq_true, if_false] at h₁ ⊢
      refine no_mono (go (h₁ A s₁ hA S₁) fun f f' σ₂ s₂ rf S₂ M₂ h₂ => ?_)
      exact ⟨f, σ₂, rf, S₂, (M'.trans S' M₁).trans S₁ M₂, h₂⟩) n ⟨σ, S, .refl, h0⟩)

-- iterators
/-- what an iterator yields; none: not known -/
abbrev Get := Nat → (Addr → Option O) → Option (Option V)
structure Iter (C : Cx) (k : Nat) (it : Addr) (get : Get) (K : Nat → Heap → Prop) : Prop where
  next : ∀ A F σ s i r₀, Room k F A → Sim C.GB F σ s.heap → Loose C.GB F σ s.heap it → K i s.heap → get i σ.sto = some r₀ → wpAny (model C.prog C.w) A (pyNext (.ref it)) (fun r s' => Heap.ExtBut it s.heap s'.heap ∧
    s' = { s with heap := s'.heap, toks := s'.toks } ∧ match r₀ with | some v => ∃ v', r = some v' ∧ Rep s.heap v v' ∧ K (i + 1) s'.heap | none => r = none) No s
  only : ∀ i h h', K i h → (∀ o, h.get? it = some o → h'.get? it = some o) → K i h'
  alive : ∀ i h, K i h → ∃ o, h.get? it = some o ∧ ¬ FrzO o
  again : ∀ (A : Around) (s : Shared) (i : Nat) (Q : Value → Shared → Prop), K i s.heap → Q (.ref it) s → wpAny (model C.prog C.w) A (pyIter (.ref it)) Q No s
  lot : ∀ (A : Around) (s : Shared) (i : Nat) (target : Expr) (v : Value) (Q : Unit → Shared → Prop), K i s.heap → Q () s → wpAny (model C.prog C.w) A (letOwnedTupleGo target (.ref it) v) Q No s

/-- the iterator of a value -/
def IterOK (C : Cx) (k : Nat) (F : FE) (a : V) (σ : St) (P : Get → St → Prop) : Prop :=
  ∀ A s a', Room k F A → Sim C.GB F σ s.heap → Rep s.heap a a' → wpAny (model C.prog C.w) A (pyIter a') (fun it s' => ∃ I get K σ', it = .ref I ∧ s.heap.get? I = none ∧ Iter C k I get K ∧ K 0 s'.heap ∧ Sim C.GB F σ' s'.heap ∧ Mod F.own σ σ' s s' ∧ σ'.sto I = none ∧ P get σ') No s

/-- the iterator of an expression -/
def TIter (C : Cx) (k : Nat) (F : FE) (e : Expr) (σ : St) (P : Get → St → Prop) : Prop :=
  ∀ A s, Room k F A → Sim C.GB F σ s.heap → wpAny (model C.prog C.w) A (eval e F.env) (fun x s₁ => wpAny (model C.prog C.w) A (pyIter x) (fun it s' => ∃ I get K σ', it = .ref I ∧ s.heap.get? I = none ∧ Iter C k I get K ∧ K 0 s'.heap ∧ Sim C.GB F σ' s'.heap ∧ Mod F.own σ σ' s s' ∧ σ'.sto I = none ∧ P get σ') No s₁) No s
theorem titer_of {e : Expr} {P : Get → St → Prop} (h : TE C k F e σ fun v σ₁ => IterOK C k F v σ₁ P) : TIter C k F e σ P :=
  fun A s hA S => go (h A s hA S) fun v v' σ₁ s₁ rv S₁ M₁ h₁ => wpAny_mono (h₁ A s₁ v' hA S₁ rv) (fun itv s₂ ⟨I, get, K, σ₂, e, hI, IT, hK, S₂, M₂, hsI, hP⟩ =>
    ⟨I, get, K, σ₂, e, M₁.back hI, IT, hK, S₂, M₁.trans S₁ M₂, hsI, hP⟩) fun _ _ x => x

def AsgOK (C : Cx) (k : Nat) (F : FE) (t : Expr) (v : V) (σ : St) (Q : St → Prop) : Prop := T1 C k F REq (assign t F.env) v σ fun (_ : Unit) σ₁ => Q σ₁

theorem not_frz_of {h : Heap} {a : Addr} {o : Obj} (ho : h.get? a = some o) (hc : ¬ FrzO o) : ∀ o', h.get? a = some o' → ¬ FrzO o' := fun o' ho' => by rw [ho] at ho'; cases ho'; exact hc

theorem Sim.sto_alive {GB : Heap} {h : Heap} (S : Sim GB F σ h) {a : Addr} {o : O} (e : σ.sto a = some o) : ∃ ob, h.get? a = some ob := by
  have r := S.sto a o e
  cases o with
  | lst vs => obtain ⟨_, _, _, e, _⟩ := r; exact ⟨_, e⟩
  | rol vs => obtain ⟨_, _, ⟨_, e, _⟩, _⟩ := r; exact ⟨_, e⟩
  | raw o => exact ⟨_, r.1⟩

theorem s_for {t it : Expr} {b o : List Stmt} {p : Pos} {Q : Fl → St → Prop} (h : TIter C k F it σ fun get σ₂ => ∃ (Inv : Nat → St → Prop) (N : Nat), Inv 0 σ₂ ∧ ∀ i σ', Inv i σ' → i ≤ N ∧ ∃ r₀, get i σ'.sto = some r₀ ∧
      match r₀ with
      | some v => AsgOK C k F t v σ' fun σ₃ => TX C k F b σ₃ fun f σ₄ => (match f with
          | .next => Inv (i + 1) σ₄
          | .cont => Inv (i + 1) σ₄
          | .brk => Q .next σ₄
          | .ret v => Q (.ret v) σ₄)
      | none => TX C k F o σ' Q)
    (hs : ∀ x, foldedSetIterable it F.env x = pure x := by intro _; rfl) : TS C k F (.For t it b o p) σ Q :=
  fun A s hA S => wpAny_For (wpAny_mono (h A s hA S) (fun x s₁ h₁ => wpAny_mono h₁ (fun itv s₂ ⟨I, get, K, σ₂, e, hI, IT, hK, S₂, M₂, hsI, Inv, N, h0, turn⟩ => by
    subst e
    have L₂ : Loose C.GB F σ₂ s₂.heap I := by
      obtain ⟨ob, ho, hc⟩ := IT.alive 0 _ hK
      have l := Loose.fresh (h' := s₂.heap) S hI (not_frz_of ho hc)
      exact ⟨l.new, l.loc, l.cell, hsI, l.frz⟩
    have stoI : ∀ {σ' σ'' : St} {s' s'' : Shared} {ob : Obj}, Mod F.own σ' σ'' s' s'' → s'.heap.get? I = some ob → σ'.sto I = none → σ''.sto I = none := fun M' ho hs' => by
      cases hq : (_ : St).sto I with
      | none => rfl
      | some o₁ =>
        rcases M'.dom I o₁ hq with ⟨o', h', _⟩ | h'
        · rw [hs'] at h'; cases h'
        · rw [ho] at h'; cases h'
    refine codeAny_forLoop_any (fun n s' => ∃ i σ', n = N + 1 - i ∧ Sim C.GB F σ' s'.heap ∧ Mod (I :: F.own) σ σ' s s' ∧ K i s'.heap ∧ Loose C.GB F σ' s'.heap I ∧ Inv i σ') (fun n s' ⟨i, σ', hn, S', M', hK', L', hInv⟩ => ?_) (N + 1) ⟨0, σ₂, rfl, S₂, M₂.more I, hK, L₂, h0⟩
    obtain ⟨hi, r₀, hg, ht⟩ := turn i σ' hInv
    refine no_mono (wpAny_mono (IT.next A F σ' s' i r₀ hA S' L' hK' hg) (fun r s₃ ⟨hext, hrest, hget⟩ => ?_) fun _ _ x => x)
    have S₃ : Sim C.GB F σ' s₃.heap := S'.extBut L' hext
    cases r₀ with
    | none =>
      subst hget
      refine no_mono (go (ht A s₃ hA S₃) fun f f' σ₄ s₄ rf S₄ M₄ h₄ => ?_)
      exact ⟨f, σ₄, rf, S₄, M'.endOf hI hext hrest M₄, h₄⟩
    | some v =>
      obtain ⟨v', rfl, rv', hK₃⟩ := hget
      obtain ⟨oI, hoI, hcI⟩ := IT.alive _ _ hK₃
      have M₃ : Mod (I :: F.own) σ' σ' s' s₃ := ⟨fun b o e _ nb => hext b o (fun q => nb (q ▸ .head _)) e, fun b o e => .inl ⟨o, e, id⟩, fun b o e => by
        by_cases hb : b = I
        · subst hb; exact ⟨oI, hoI⟩
        · exact ⟨o, hext b o hb e⟩, hrest⟩
      have M₁₃ := M'.trans' M₃
      refine no_mono (IT.lot A s₃ (i + 1) t v' _ hK₃ ?_)
      have L₃ : Loose C.GB F σ' s₃.heap I := ⟨L'.new, L'.loc, L'.cell, L'.sto, not_frz_of hoI hcI⟩
      refine no_mono (go (ht A s₃ v' hA S₃ (rv'.keeps (not_frz_ext L'.frz hext))) fun _ _ σ₄ s₄ _ S₄ M₄ h₄ => ?_)
      have hK₄ : K (i + 1) s₄.heap := IT.only _ _ _ hK₃ fun o ho => M₄.keep I o ho (fun o' q => by rw [L₃.sto] at q; cases q) (L₃.own S₃)
      have hs₄ := stoI M₄ hoI L₃.sto
      refine no_mono (go (h₄ A s₄ hA S₄) fun f f' σ₅ s₅ rf S₅ M₅ h₅ => ?_)
      obtain ⟨o₄, ho₄, hc₄⟩ := IT.alive _ _ hK₄
      have L₄ : Loose C.GB F σ₄ s₄.heap I := ⟨L'.new, L'.loc, L'.cell, hs₄, not_frz_of ho₄ hc₄⟩
      have hK₅ : K (i + 1) s₅.heap := IT.only _ _ _ hK₄ fun o ho => M₅.keep I o ho (fun o' q => by rw [L₄.sto] at q; cases q) (L₄.own S₄)
      have hs₅ := stoI M₅ ho₄ L₄.sto
      obtain ⟨o₅, ho₅, hc₅⟩ := IT.alive _ _ hK₅
      have M := (M₁₃.trans' (M₄.more I)).trans' (M₅.more I)
      cases rf with
      | next => exact ⟨N + 1 - (i + 1), by omega, i + 1, σ₅, rfl, S₅, M, hK₅, ⟨L'.new, L'.loc, L'.cell, hs₅, not_frz_of ho₅ hc₅⟩, h₅⟩
      | cont => exact ⟨N + 1 - (i + 1), by omega, i + 1, σ₅, rfl, S₅, M, hK₅, ⟨L'.new, L'.loc, L'.cell, hs₅, not_frz_of ho₅ hc₅⟩, h₅⟩
      | brk => exact ⟨_, σ₅, .next, S₅, M.less hI, h₅⟩
      | ret r => exact ⟨_, σ₅, .ret r, S₅, M.less hI, h₅⟩) fun _ _ x => x) fun _ _ x => x) hs

-- fewer names
def restrictL (names : List Str) (l : List (Str × V)) : List (Str × V) := names.filterMap fun x => (l.lookup x).map fun v => (x, v)
def St.restrict (σ : St) (names : List Str) : St := ⟨restrictL names σ.loc, σ.sto⟩
theorem restrictL_sub (l : List (Str × V)) : ∀ (names : List Str) (x : Str) (v : V), (restrictL names l).lookup x = some v → l.lookup x = some v
  | [], x, v, e => by simp [restrictL] at e
  | n :: r, x, v, e => by
    unfold restrictL at e
    rw [List.filterMap_cons] at e
    cases hn : l.lookup n with
    | none => rw [hn] at e; exact restrictL_sub l r x v e
    | some u =>
      rw [hn] at e
      simp only [Option.map_some] at e
      rw [List.lookup_cons] at e
      by_cases hx : (x == n) = true
      · rw [hx] at e; cases e; rw [beq_iff_eq.mp hx]; exact hn
      · have hx' : (x == n) = false := by simpa using hx
        rw [hx'] at e
        exact restrictL_sub l r x v e
theorem Sim.weak {GB : Heap} {h : Heap} {l : List (Str × V)} (S : Sim GB F σ h) (hs : ∀ x v, l.lookup x = some v → σ.loc.lookup x = some v) : Sim GB F ⟨l, σ.sto⟩ h :=
  ⟨S.base, (let ⟨m, hn, hl⟩ := S.frame; ⟨m, hn, fun x v e => hl x v (hs x v e)⟩), S.cells, S.apart, S.sto, S.inOwn, S.ownIs, S.new, S.off⟩
theorem TT.weak {α β : Type} {R : Heap → β → α → Prop} {t : Sem α} {Q : β → St → Prop} {l : List (Str × V)} (hs : ∀ x v, l.lookup x = some v → σ.loc.lookup x = some v) (h : TT C k F R t ⟨l, σ.sto⟩ Q) : TT C k F R t σ Q :=
  fun A s hA S => wpAny_mono (h A s hA (S.weak hs)) (fun a s' ⟨b, σ', r, S', M, q⟩ => ⟨b, σ', r, S', ⟨M.keep, M.dom, M.alive, M.rest⟩, q⟩) fun _ _ x => x
theorem x_weak {ss : List Stmt} {Q : Fl → St → Prop} (names : List Str) (h : TX C k F ss (σ.restrict names) Q) : TX C k F ss σ Q := TT.weak (restrictL_sub σ.loc names) h

theorem st_ext {l l' : List (Str × V)} {f f' : Addr → Option O} (h1 : l = l') (h2 : f = f') : St.mk l f = St.mk l' f' := by rw [h1, h2]
theorem q_eq {α : Type} {Q : α → St → Prop} {v : α} {l : List (Str × V)} {f f' : Addr → Option O} (h : Q v ⟨l, f⟩) (e : ∀ b, f' b = f b) : Q v ⟨l, f'⟩ := by rw [show f' = f from funext e]; exact h
/-- behind a turn of a while -/
def TurnW (names : List Str) (Inv : Nat → St → Prop) (n : Nat) (Q : Fl → St → Prop) (f : Fl) (σ₂ : St) : Prop := match f with
  | .next => ∃ m, m < n ∧ Inv m (σ₂.restrict names)
  | .cont => ∃ m, m < n ∧ Inv m (σ₂.restrict names)
  | .brk => Q .next σ₂
  | .ret v => Q (.ret v) σ₂
theorem turnW_next {names : List Str} {Inv : Nat → St → Prop} {n : Nat} {Q : Fl → St → Prop} (h : ∃ m, m < n ∧ Inv m (σ.restrict names)) : TurnW names Inv n Q .next σ := h
theorem turnW_brk {names : List Str} {Inv : Nat → St → Prop} {n : Nat} {Q : Fl → St → Prop} (h : Q .next σ) : TurnW names Inv n Q .brk σ := h
/-- behind a turn of a for -/
def TurnF (names : List Str) (Inv : Nat → St → Prop) (i : Nat) (Q : Fl → St → Prop) (f : Fl) (σ₂ : St) : Prop := match f with
  | .next => Inv (i + 1) (σ₂.restrict names)
  | .cont => Inv (i + 1) (σ₂.restrict names)
  | .brk => Q .next σ₂
  | .ret v => Q (.ret v) σ₂
theorem turnF_next {names : List Str} {Inv : Nat → St → Prop} {n : Nat} {Q : Fl → St → Prop} (h : Inv (n + 1) (σ.restrict names)) : TurnF names Inv n Q .next σ := h
/-- a while by what holds between its turns, of the names that are kept -/
theorem s_whileN {t : Expr} {b o : List Stmt} {p : Pos} {Q : Fl → St → Prop} (names : List Str) (Inv : Nat → St → Prop) (n : Nat) (h0 : Inv n (σ.restrict names))
    (turn : ∀ n σ', Inv n σ' → TB C k F t σ' fun c σ₁ => if c then TX C k F b σ₁ (TurnW names Inv n Q) else TX C k F o σ₁ Q) : TS C k F (.While t b o p) σ Q :=
  s_while (fun n σ' => Inv n (σ'.restrict names)) n h0 fun n σ' hI => TT.weak (restrictL_sub σ'.loc names) (TT.mono (turn n _ hI) fun c σ₁ h => by
    cases c with
    | false => exact h
    | true => exact TX.mono h fun f σ₂ h₂ => by cases f <;> exact h₂)

/-- a for, likewise -/
theorem TIter.mono {e : Expr} {P P' : Get → St → Prop} (h : TIter C k F e σ P) (hp : ∀ g σ', P g σ' → P' g σ') : TIter C k F e σ P' :=
  fun A s hA S => wpAny_mono (h A s hA S) (fun x s₁ h₁ => wpAny_mono h₁ (fun itv s₂ ⟨I, get, K, σ₂, e, hI, IT, hK, S₂, M₂, hsI, hP⟩ => ⟨I, get, K, σ₂, e, hI, IT, hK, S₂, M₂, hsI, hp _ _ hP⟩) fun _ _ x => x) fun _ _ x => x
theorem s_forN {t it : Expr} {b o : List Stmt} {p : Pos} {Q : Fl → St → Prop} (names : List Str) (h : TIter C k F it σ fun get σ₂ => ∃ (Inv : Nat → St → Prop) (N : Nat), Inv 0 (σ₂.restrict names) ∧ ∀ i σ', Inv i σ' → i ≤ N ∧ ∃ r₀, get i σ'.sto = some r₀ ∧
      match r₀ with
      | some v => AsgOK C k F t v σ' fun σ₃ => TX C k F b σ₃ (TurnF names Inv i Q)
      | none => TX C k F o σ' Q)
    (hs : ∀ x, foldedSetIterable it F.env x = pure x := by intro _; rfl) : TS C k F (.For t it b o p) σ Q :=
  s_for (TIter.mono h fun get σ₂ ⟨Inv, N, h0, turn⟩ => ⟨fun i σ' => Inv i (σ'.restrict names), N, h0, fun i σ' hInv => by
      obtain ⟨hi, r₀, hg, ht⟩ := turn i _ hInv
      refine ⟨hi, r₀, hg, ?_⟩
      cases r₀ with
      | none => exact TT.weak (restrictL_sub σ'.loc names) ht
      | some v =>
        exact fun A s a' hA S ra => wpAny_mono (ht A s a' hA (S.weak (restrictL_sub σ'.loc names)) ra) (fun a s' ⟨b, σ', r, S', M, q⟩ => ⟨b, σ', r, S', ⟨M.keep, M.dom, M.alive, M.rest⟩, TX.mono q fun f σ₂ h₂ => by cases f <;> exact h₂⟩) fun _ _ x => x⟩) hs

/-- behind a branch that joins -/
def JoinF (names : List Str) (J : St → Prop) (Q : Fl → St → Prop) (f : Fl) (σ₂ : St) : Prop := match f with
  | .next => J (σ₂.restrict names)
  | f => Q f σ₂
theorem join_next {names : List Str} {J : St → Prop} {Q : Fl → St → Prop} (h : J (σ.restrict names)) : JoinF names J Q .next σ := h
theorem x_ifJ {t : Expr} {b o r : List Stmt} {p : Pos} {Q : Fl → St → Prop} (names : List Str) (J : St → Prop) (h : TB C k F t σ fun c σ₁ => if c then TX C k F b σ₁ (JoinF names J Q) else TX C k F o σ₁ (JoinF names J Q))
    (h2 : ∀ σ₂, J σ₂ → TX C k F r σ₂ Q) : TX C k F (.If t b o p :: r) σ Q := by
  have hj : ∀ f σ₂, JoinF names J Q f σ₂ → Then C k F r Q f σ₂ := fun f σ₂ h => by
    cases f with
    | next => exact x_weak names (h2 _ h)
    | brk => exact h
    | cont => exact h
    | ret v => exact h
  refine x_cons (s_if (TT.mono h fun c σ₁ h₁ => ?_))
  cases c with
  | true => exact TX.mono h₁ hj
  | false => exact TX.mono h₁ hj
end
end Mine
set_option Elab.async false
set_option linter.unusedVariables false
namespace Mine
open PySem PySem.W PyProof.Rows

section
variable {C : Cx} {k : Nat} {F : FE} {σ : St}

-- a call of a def of the text's
theorem bindL_out (kd : Str → Option NameKind) (x : Str) : ∀ (l : List (Str × Value)) (m : Str → Option Value), (∀ p ∈ l, p.1 ≠ x) → bindL kd l m x = m x
  | [], m, _ => rfl
  | (n, v) :: r, m, h => by
    unfold bindL
    rw [bindL_out kd x r _ fun p hp => h p (.tail _ hp)]
    split
    · exact if_neg (fun (e : x = n) => h (n, v) (.head _) e.symm)
    · rfl
theorem bindC_out (kd : Str → Option NameKind) (x : Str) : ∀ (l : List (Str × Value)) (m : Str → Option Value), (∀ p ∈ l, p.1 ≠ x) → bindC kd l m x = m x
  | [], m, _ => rfl
  | (n, v) :: r, m, h => by
    unfold bindC
    rw [bindC_out kd x r _ fun p hp => h p (.tail _ hp)]
    split
    · rfl
    · exact if_neg (fun (e : x = n) => h (n, v) (.head _) e.symm)

theorem bind_in {h : Heap} (kd : Str → Option NameKind) : ∀ (ns : List Str) (vs : List V) (vs' : List Value) (m cm : Str → Option Value), ns.Nodup → Reps h vs vs' → ∀ x v, (ns.zip vs).lookup x = some v →
    ∃ v', Rep h v v' ∧ (kd x = some .local → bindL kd (ns.zip vs') m x = some v') ∧ (kd x ≠ some .local → bindC kd (ns.zip vs') cm x = some v')
  | [], _, _, _, _, _, _, _, _, e => by simp at e
  | n :: ns, [], _, _, _, _, _, _, _, e => by simp at e
  | n :: ns, u :: us, _, m, cm, hnd, .cons (v' := u') (vs' := us') ru rs, x, v, e => by
    rw [List.zip_cons_cons, List.lookup_cons] at e
    obtain ⟨hn, hnd'⟩ := List.nodup_cons.mp hnd
    by_cases hx : (x == n) = true
    · rw [hx] at e
      cases e
      have hxn := beq_iff_eq.mp hx
      subst hxn
      have hout : ∀ p ∈ ns.zip us', p.1 ≠ x := fun p hp q => hn (q ▸ (List.of_mem_zip hp).1)
      refine ⟨u', ru, fun hk => ?_, fun hk => ?_⟩
      · rw [List.zip_cons_cons, bindL, bindL_out kd x _ _ hout, if_pos hk]; simp
      · rw [List.zip_cons_cons, bindC, bindC_out kd x _ _ hout, if_neg hk]; simp
    · have hx' : (x == n) = false := by simpa using hx
      rw [hx'] at e
      rw [List.zip_cons_cons, bindL, bindC]
      exact bind_in kd ns us us' _ _ hnd' rs x v e

theorem cellsFrom_names (names : List (Str × NameKind)) : ∀ (n n' : Nat) (acc acc' : List (Str × Addr)), acc.map (·.1) = acc'.map (·.1) → (cellsFrom n names acc).map (·.1) = (cellsFrom n' names acc').map (·.1) := by
  induction names with
  | nil => intro n n' acc acc' h; exact h
  | cons p r ih =>
    obtain ⟨x, kd⟩ := p
    intro n n' acc acc' h
    unfold cellsFrom
    split
    · exact ih _ _ _ _ (by simp [h])
    · exact ih _ _ _ _ h
theorem lookup_of_nodup {α : Type} : ∀ {l : List (Str × α)}, (l.map (·.1)).Nodup → ∀ p ∈ l, l.lookup p.1 = some p.2
  | q :: r, hnd, p, hp => by
    rw [List.map_cons] at hnd
    obtain ⟨h1, h2⟩ := List.nodup_cons.mp hnd
    rw [List.lookup_cons]
    rcases List.mem_cons.mp hp with e | hp
    · subst e; simp
    · have : (p.1 == q.1) = false := by
        cases hq : p.1 == q.1 with
        | false => rfl
        | true => exact absurd (List.mem_map.mpr ⟨p, hp, beq_iff_eq.mp hq⟩) h1
      rw [this]
      exact lookup_of_nodup h2 p hp

/-- the frame of a call -/
def frameOf (fd : FuncData) (L a : Addr) (fr : List Env) : FE := ⟨callEnvC fd L a, L :: (callEnvC fd L a).cells.map (·.2), callEnvC fd L a :: fr⟩

def retV : Fl → V
  | .ret v => v
  | _ => .none

/-- a def of the text's, as the top left it -/
structure FnAt (C : Cx) (a : Addr) (fd : FuncData) (body : List Stmt) (names : List Str) : Prop where
  obj : ∃ o, C.GB.get? a = some o ∧ o.data = .func fd
  code : C.GB.CodeRec fd.code fd.qualname
  body : fd.body = .stmts body
  clo : fd.closure = []
  globals : fd.globals = mainGlobals
  builtins : fd.builtins = builtinsNs
  kind : fd.scope.kind = .function
  co : fd.scope.isCoroutine = false
  gen : fd.scope.isGenerator = false
  nodup : names.Nodup
  cnodup : ((cellsFrom 0 fd.scope.names []).map (·.1)).Nodup
  kinds : ∀ x ∈ names, fd.scope.names.lookup x = some .local ∨ (fd.scope.names.lookup x = some .cell ∧ x ∈ (cellsFrom 0 fd.scope.names []).map (·.1))
  bind : ∀ vs : List Value, vs.length = names.length → bindArgs fd ⟨vs, []⟩ = pure (names.zip vs)

theorem FnAt.envOk {a : Addr} {fd : FuncData} {body : List Stmt} {names : List Str} (f : FnAt C a fd body names) (L : Addr) (fr : List Env) : EnvOk (frameOf fd L a fr).env := ⟨f.kind, f.globals, f.builtins⟩
theorem FnAt.isFun {a : Addr} {fd : FuncData} {body : List Stmt} {names : List Str} (f : FnAt C a fd body names) : IsFun C.GB (.ref a) := let ⟨o, h1, h2⟩ := f.obj; ⟨o, fd, h1, h2⟩

theorem call_own {a : Addr} {fd : FuncData} {body : List Stmt} {names : List Str} {vs : List V} {Q : V → St → Prop} (cx : CxOk C) (f : FnAt C a fd body names) (hlen : vs.length = names.length)
    (h : ∀ L, TX C k (frameOf fd L a F.frames) body ⟨names.zip vs, σ.sto⟩ fun fl σ' => Q (retV fl) ⟨σ.loc, σ'.sto⟩) : CallOK C (k + 1) F (.ref a) vs σ Q := by
  intro A s f' vs' hA S rf rv
  cases rf
  obtain ⟨o, ho, hd⟩ := f.obj
  have hsz : ∀ b ob, s.heap.get? b = some ob → b < s.heap.objs.size := fun b ob e => Heap.lt_size e
  have hbind := f.bind vs' (by rw [rv.length, hlen])
  refine wpAny_call (codeAny_call_cells (fd := fd) (body := body) (binds := names.zip vs') (Nat.lt_of_le_of_lt (Nat.le_add_right _ _) hA.2.1) (S.base _ _ ho) hd (cx.nolimit.keeps S.base) ?hcd f.body hbind f.clo ?hkind (fun s₁ x => ?hb) f.co f.gen f.kind)
  case hcd =>
    obtain ⟨c, oc, ws, tq, h1, h2, h3⟩ := f.code
    exact ⟨c, oc, ws, tq, h1, S.base _ _ h2, h3⟩
  case hkind =>
    intro y hy
    have hyn : y.1 ∈ names := by obtain ⟨y1, y2⟩ := y; exact (List.of_mem_zip hy).1
    rcases f.kinds _ hyn with q | ⟨q, q'⟩
    · exact .inl q
    · refine .inr ⟨q, ?_⟩
      rw [cellsFrom_names fd.scope.names 0 (s.heap.objs.size + 1) [] [] rfl] at q'
      obtain ⟨p, hp, e⟩ := List.mem_map.mp q'
      have hnd : ((cellsFrom (s.heap.objs.size + 1) fd.scope.names []).map (·.1)).Nodup := by
        rw [cellsFrom_names fd.scope.names (s.heap.objs.size + 1) 0 [] [] rfl]; exact f.cnodup
      rw [← e, lookup_of_nodup hnd p hp]; rfl
  case hb =>
    have hnd : ((callEnvC fd s.heap.objs.size a).cells.map (·.1)).Nodup := by
      show ((cellsFrom (s.heap.objs.size + 1) fd.scope.names []).map (·.1)).Nodup
      rw [cellsFrom_names fd.scope.names (s.heap.objs.size + 1) 0 [] [] rfl]; exact f.cnodup
    have hab : ∀ p ∈ (callEnvC fd s.heap.objs.size a).cells, s.heap.objs.size < p.2 := fun p hp => x.above p.1 p.2 hp
    have keep := x.toInCall.keep
    have hown : ∀ b ∈ (frameOf fd s.heap.objs.size a F.frames).own, s.heap.objs.size ≤ b := fun b hb => by
      rcases List.mem_cons.mp hb with e | hb
      · exact Nat.le_of_eq e.symm
      · obtain ⟨p, hp, e⟩ := List.mem_map.mp hb
        rw [← e]; exact Nat.le_of_lt (hab p hp)
    have hnone : ∀ b, s.heap.objs.size ≤ b → s.heap.get? b = none := fun b hb => by
      cases hq : s.heap.get? b with
      | none => rfl
      | some ob => exact absurd (hsz b ob hq) (Nat.not_lt.mpr hb)
    have hgb : ∀ b, s.heap.objs.size ≤ b → C.GB.get? b = none := fun b hb => by
      cases hq : C.GB.get? b with
      | none => rfl
      | some ob => have := S.base b ob hq; rw [hnone b hb] at this; cases this
    have S0 := S.keeps keep
    have S₁ : Sim C.GB (frameOf fd s.heap.objs.size a F.frames) ⟨names.zip vs, σ.sto⟩ s₁.heap := {
      base := S0.base
      frame := by
        refine ⟨_, x.toInCall.ns, fun y v e => ?_⟩
        obtain ⟨v', r, hl, hc⟩ := bind_in (h := s.heap) (callEnvC fd s.heap.objs.size a).kindOf names vs vs' (fun _ => none) (fun _ => none) f.nodup rv y v e
        refine ⟨v', ?_, r.keeps (frz_of_keeps keep)⟩
        have hy : y ∈ names := (List.of_mem_zip (mem_of_lookup e)).1
        rcases f.kinds y hy with q | ⟨q, q'⟩
        · exact .inl ⟨q, hl q⟩
        · refine .inr ⟨.inl q, ?_⟩
          rw [cellsFrom_names fd.scope.names 0 (s.heap.objs.size + 1) [] [] rfl] at q'
          obtain ⟨p, hp, ep⟩ := List.mem_map.mp q'
          have hlk := lookup_of_nodup hnd p hp
          rw [ep] at hlk
          refine ⟨p.2, hlk, ?_⟩
          have := x.cell y p.2 hlk
          rwa [hc (by show fd.scope.names.lookup y ≠ _; rw [q]; decide)] at this
      cells := fun p hp => ⟨_, x.cell p.1 p.2 (lookup_of_nodup hnd p hp)⟩
      apart := x.apart
      sto := S0.sto
      inOwn := .head _
      ownIs := fun b hb => by
        rcases List.mem_cons.mp hb with e | hb
        · exact .inl e
        · obtain ⟨p, hp, e⟩ := List.mem_map.mp hb; exact .inr ⟨p, hp, e⟩
      new := fun b hb => hgb b (hown b hb)
      off := fun b ob e => by
        obtain ⟨o', ho'⟩ := S.sto_alive e
        have hlt := hsz b o' ho'
        exact ⟨(S.off b ob e).1, Nat.ne_of_lt hlt, fun p hp q => by have := hab p hp; rw [q] at this; exact absurd hlt (Nat.lt_asymm this)⟩ }
    have hA' : Room k (frameOf fd s.heap.objs.size a F.frames) (A.deeper (callEnvC fd s.heap.objs.size a)) := ⟨hA.1, by have := hA.2.1; show A.depth + 1 + k < _; omega, by have := hA.2.2.1; show A.units + 3 + 10 * k + 5 < _; omega, by show A.frames.map _ = _; rw [hA.2.2.2]; rfl⟩
    refine wpAny_mono (h s.heap.objs.size _ s₁ hA' S₁) (fun fl' s' ⟨fl, σ', rfl', S', M', hq⟩ => ?_) fun _ _ z => z.elim
    have hb₁ : ∀ b ob, s.heap.get? b = some ob → b ∉ (frameOf fd s.heap.objs.size a F.frames).own := fun b ob e hb => absurd (hsz b ob e) (Nat.not_lt.mpr (hown b hb))
    have kp : ∀ b ob, s.heap.get? b = some ob → σ.fixed b → s'.heap.get? b = some ob := fun b ob e hf => M'.keep b ob (keep b ob e) hf (hb₁ b ob e)
    have tp : ∀ c o, s.heap.get? c = some o → FrzO o → s'.heap.get? c = some o := fun c o hoc hf => kp c o hoc (S.frz_off hoc hf).1
    have dm : ∀ b ob, σ'.sto b = some ob → (∃ o', σ.sto b = some o' ∧ (ob.isMut = true → o'.isMut = true)) ∨ s.heap.get? b = none := fun b ob e => by
      rcases M'.dom b ob e with q | q
      · exact .inl q
      · refine .inr ?_
        cases hq : s.heap.get? b with
        | none => rfl
        | some oo => rw [keep b oo hq] at q; cases q
    have S₂ : Sim C.GB F ⟨σ.loc, σ'.sto⟩ s'.heap := {
      base := S'.base
      frame := by
        obtain ⟨m, hn, hl⟩ := S.frame
        have fixL : σ.fixed F.env.locals := fun o' e => absurd rfl (S.off _ o' e).2.1
        refine ⟨m, ?_, fun y v e => ?_⟩
        · obtain ⟨oL, es, ep, hoL, r⟩ := hn
          exact ⟨oL, es, ep, kp _ _ hoL fixL, r⟩
        · obtain ⟨v', hp, hr⟩ := hl y v e
          refine ⟨v', ?_, hr.keeps tp⟩
          rcases hp with hp | ⟨hk, c, hc, oc, hoc, hdc⟩
          · exact .inl hp
          · exact .inr ⟨hk, c, hc, oc, kp c oc hoc (fun o' e => absurd rfl ((S.off _ o' e).2.2 _ (mem_of_lookup hc))), hdc⟩
      cells := fun p hp => by
        obtain ⟨v₀, oc, hoc, hdc⟩ := S.cells p hp
        exact ⟨v₀, oc, kp _ oc hoc (fun o' e => absurd rfl ((S.off _ o' e).2.2 _ hp)), hdc⟩
      apart := S.apart
      sto := S'.sto
      inOwn := S.inOwn
      ownIs := S.ownIs
      new := S.new
      off := fun b ob e => by
        refine ⟨(S'.off b ob e).1, ?_⟩
        rcases dm b ob e with ⟨o', ho', _⟩ | q
        · exact (S.off b o' ho').2
        · refine ⟨fun e' => ?_, fun p hp e' => ?_⟩
          · obtain ⟨m, ⟨oL, _, _, hoL, _⟩, _⟩ := S.frame
            rw [← e', q] at hoL; cases hoL
          · obtain ⟨v₀, oc, hoc, _⟩ := S.cells p hp
            rw [e', q] at hoc; cases hoc }
    have M₂ : Mod F.own σ ⟨σ.loc, σ'.sto⟩ s s' := ⟨fun b ob e hf _ => kp b ob e hf, dm, fun b ob e => M'.alive b ob (keep b ob e), by
      obtain ⟨h₁, tk, e⟩ := x.toInCall.same
      rw [M'.rest, e]⟩
    cases rfl' with
    | next => exact ⟨.none, _, .none, S₂, M₂, hq⟩
    | brk => exact ⟨.none, _, .none, S₂, M₂, hq⟩
    | cont => exact ⟨.none, _, .none, S₂, M₂, hq⟩
    | ret r => exact ⟨_, _, r, S₂, M₂, hq⟩
end
end Mine
set_option Elab.async false
set_option linter.unusedVariables false
namespace Mine
open PySem PySem.W PyProof.Rows

section
variable {C : Cx} {k : Nat} {F : FE} {σ : St}

-- ints
theorem bin_add {x y : Int} {Q : V → St → Prop} (h : Q (.int (x + y)) σ) : BinOK C k F .Add (.int x) (.int y) σ Q :=
  fun A s a' b' hA S ra rb => by cases ra; cases rb; exact PySem.P.add_int (post_tok S (.int _ _) h)
theorem bin_sub {x y : Int} {Q : V → St → Prop} (h : Q (.int (x - y)) σ) : BinOK C k F .Sub (.int x) (.int y) σ Q :=
  fun A s a' b' hA S ra rb => by cases ra; cases rb; exact PySem.P.sub_int (post_tok S (.int _ _) h)
theorem bin_mul {x y : Int} {Q : V → St → Prop} (hm : IntMulOk x y) (h : Q (.int (x * y)) σ) : BinOK C k F .Mult (.int x) (.int y) σ Q :=
  fun A s a' b' hA S ra rb => by cases ra; cases rb; exact PySem.P.mul_int (post_tok S (.int _ _) h) hm
theorem bin_mod {x y : Int} {Q : V → St → Prop} (hy : y ≠ 0) (h : Q (.int (x.fmod y)) σ) : BinOK C k F .Mod (.int x) (.int y) σ Q :=
  fun A s a' b' hA S ra rb => by cases ra; cases rb; exact mod_int' hy (post_tok S (.int _ _) h)
theorem bin_rshift1 {x : Int} {Q : V → St → Prop} (hx : 0 ≤ x) (h : Q (.int (x / 2)) σ) : BinOK C k F .RShift (.int x) (.int 1) σ Q :=
  fun A s a' b' hA S ra rb => by cases ra; cases rb; exact wpAny_rshift1_int hx (post_tok S (.int _ _) h)
theorem cmp_lt {x y : Int} {Q : V → St → Prop} (h : Q (.bool (decide (x < y))) σ) : CmpOK C k F .Lt (.int x) (.int y) σ Q :=
  fun A s a' b' hA S ra rb => by cases ra; cases rb; exact PySem.P.lt_int (post_pure S (.bool _) h)
theorem cmp_gt {x y : Int} {Q : V → St → Prop} (h : Q (.bool (decide (y < x))) σ) : CmpOK C k F .Gt (.int x) (.int y) σ Q :=
  fun A s a' b' hA S ra rb => by cases ra; cases rb; exact PySem.P.gt_int (post_pure S (.bool _) h)
theorem cmp_eq {x y : Int} {Q : V → St → Prop} (h : Q (.bool (x == y)) σ) : CmpOK C k F .Eq (.int x) (.int y) σ Q :=
  fun A s a' b' hA S ra rb => by cases ra; cases rb; exact PySem.P.eq_int (post_pure S (.bool _) h)
theorem cmp_ne {x y : Int} {Q : V → St → Prop} (h : Q (.bool (x != y)) σ) : CmpOK C k F .NotEq (.int x) (.int y) σ Q :=
  fun A s a' b' hA S ra rb => by cases ra; cases rb; exact PySem.P.ne_int (post_pure S (.bool _) h)
theorem truth_bool {b : Bool} {Q : Bool → St → Prop} (h : Q b σ) : TruthOK C k F (.bool b) σ Q :=
  fun A s a' hA S ra => by cases ra; exact wpAny_truthy_bool (post_pure S rfl h)
def isNoneV : V → Bool
  | .none => true
  | _ => false
theorem rep_none {h : Heap} {a : V} {a' : Value} (r : Rep h a a') (hq : ∀ v, a ≠ .opq v) : (a' == Value.none) = isNoneV a := by
  cases r <;> first | rfl | exact absurd rfl (hq _)
theorem cmp_is_none {a : V} {Q : V → St → Prop} (hq : ∀ v, a ≠ .opq v) (h : Q (.bool (isNoneV a)) σ) : CmpOK C k F .Is a .none σ Q :=
  fun A s a' b' hA S ra rb => by cases rb; exact is_none_gen (by rw [rep_none ra hq]; exact post_pure S (.bool _) h)
theorem cmp_isnot_none {a : V} {Q : V → St → Prop} (hq : ∀ v, a ≠ .opq v) (h : Q (.bool (!isNoneV a)) σ) : CmpOK C k F .IsNot a .none σ Q :=
  fun A s a' b' hA S ra rb => by cases rb; exact isnot_none_gen (by rw [rep_none ra hq]; exact post_pure S (.bool _) h)

-- lists
theorem Sim.list {GB : Heap} {h : Heap} (S : Sim GB F σ h) {a : Addr} {vs : List V} (hs : (σ.sto a).bind O.items = some vs) : vs.length ≤ maxLen ∧ ∃ vs', h.IsList a vs'.toArray ∧ Reps h vs vs' := by
  cases e : σ.sto a with
  | none => rw [e] at hs; cases hs
  | some o =>
    rw [e] at hs
    have r := S.sto a o e
    cases o with
    | lst us => cases hs; obtain ⟨h1, vs', n, ho, hr⟩ := r; exact ⟨h1, vs', ⟨_, ho, rfl, n, rfl⟩, hr⟩
    | rol us => cases hs; exact r
    | raw o => cases hs
theorem maxLen_lt : (maxLen : Int) < 2 ^ 63 := by decide

theorem item_at {e sl : Expr} {a : Addr} {vs : List V} {i : Int} {v : V} {Q : V → St → Prop} (hs : (σ.sto a).bind O.items = some vs) (h0 : 0 ≤ i) (hv : vs[i.toNat]? = some v) (h : Q v σ)
    (hsl : ∀ o i, subscripted sl false o i = operate [o, i] (getItem o i) := by intro _ _; with_unfolding_all rfl) : ItemOK C k F e sl (.ref a) (.int i) σ Q :=
  fun A s a' b' hA S ra rb => by
    cases ra; cases rb
    obtain ⟨hl, vs', hL, hr⟩ := S.list hs
    obtain ⟨v', hv', rv⟩ := hr.get hv
    have hlt : i.toNat < vs.length := by
      rcases Nat.lt_or_ge i.toNat vs.length with q | q
      · exact q
      · rw [List.getElem?_eq_none q] at hv; cases hv
    have hm := maxLen_lt
    exact tail_any hL.typeIs slot_list_getitem.lookup (wpAny_getItem_list hL h0 (by omega) (by simpa using hv') (post_pure S rv h)) (hsl _ _)
theorem ints_get : ∀ {vs' : List Value} {xs : List Int}, IntsAre vs' xs → ∀ {i : Nat} {x : Int}, xs[i]? = some x → ∃ t, vs'[i]? = some (.int x t)
  | _, _, .nil, i, x, h => by simp at h
  | _, _, .cons n t r, i, x, h => by
    cases i with
    | zero => simp at h; subst h; exact ⟨t, rfl⟩
    | succ i => simp at h; simpa using ints_get r h
theorem set_at {a : Addr} {vs : List V} {i : Int} {v : V} {Q : Unit → St → Prop} (hs : σ.sto a = some (.lst vs)) (h0 : 0 ≤ i) (hi : i < vs.length) (h : Q () (σ.setSto a (.lst (vs.set i.toNat v)))) : SetOK C k F (.ref a) (.int i) v σ Q :=
  fun A s a' b' c' hA S ra rb rc => by
    cases ra; cases rb
    obtain ⟨hl, vs', n, ho, hr⟩ := S.sto a _ hs
    have hm := maxLen_lt
    have hlen := hr.length
    refine ki_setAt ho h0 (by omega) (by simp; omega) ?_
    have hq := PySem.IsL.update ho (·.setIfInBounds i.toNat c')
    have k' : Heap.ExtBut a s.heap (s.heap.update a (Obj.mapSeq (·.setIfInBounds i.toNat c'))) := (Heap.SameBut.update ..).extBut
    have hnt := (S.sto a _ hs).not_frz
    refine ⟨(), σ.setSto a (.lst (vs.set i.toNat v)), rfl, S.change hs rfl k' ⟨by simpa using hl, vs'.set i.toNat c', n, ?_, (hr.set rc _).keeps (not_frz_ext hnt k')⟩, Mod.change (tk := s.toks) S hs rfl k' ⟨_, hq⟩, h⟩
    simpa using hq
end
end Mine
set_option Elab.async false
set_option linter.unusedVariables false
set_option linter.unusedSimpArgs false
namespace Mine
open PySem PySem.W PyProof.Rows

section
variable {C : Cx} {k : Nat} {F : FE} {σ : St}

-- methods of lists
theorem e_meth {oe : Expr} {name : Str} {ap p : Pos} {es : List Expr} {id : String} {Q : V → St → Prop} (slot : Slot "list" name id) (hty : typeOf (.builtin id) = pure (.type "method_descriptor"))
    (h : TE C k F oe σ fun ov σ₁ => ∃ a vs, ov = .ref a ∧ σ₁.sto a = some (.lst vs) ∧ TEs C k F p es σ₁ fun us σ₂ => CallOK C k F (.opq (.builtin id)) (.ref a :: us) σ₂ Q)
    (hbase : attributeBase oe name F.env (eval oe F.env) = eval oe F.env := by rfl)
    (hfew : ((backTo p (starEach es F.env)).all (fun x => !x.1) && (backToKw p (keywordEach [] F.env)).all (fun x => x.1.isSome) && decide (es.length + ([] : List Keyword).length + (if ([] : List Keyword).isEmpty then 0 else 1) < 30)) = true := by rfl)
    (hline : (ap.endLine == p.line) = true := by rfl) (hs : (starEach es F.env).all (fun x => !x.1) = true := by rfl) : TE C k F (.Call (.Attribute oe name ap) es [] p) σ Q :=
  fun A s hA S => wpAny_Call_method_lateS hbase hfew hline (go (h A s hA S) fun ov ov' σ₁ s₁ ro S₁ M₁ ⟨a, vs, e, hsto, h₁⟩ => by
    subst e
    cases ro
    obtain ⟨hl, vs', n, ho, hr⟩ := S₁.sto a _ hsto
    refine ⟨"list", id, PySem.F.plainAttrs_list, slot, hty, ⟨_, ho, rfl⟩, fun b e => by cases e; exact ⟨_, ho, rfl⟩, ?_⟩
    have hst : (backTo p (starEach es F.env)).any (·.1) = false := by
      rw [List.any_eq_false]
      intro x hx
      obtain ⟨y, hy, rfl⟩ := List.mem_map.mp hx
      have := List.all_eq_true.mp hs y hy
      simpa using this
    refine Calls.callWith_builtin hst ?_
    have ha : wpAny (model C.prog C.w) A (spliced (backTo p (starEach es F.env))) (fun us' s' => wpAny (model C.prog C.w) A (call (.builtin id) ([.ref a] ++ us') []) (Post C F Rep σ s Q) No s') No s₁ :=
      go (h₁ A s₁ hA S₁) fun us us' σ₂ s₂ ru S₂ M₂ h₂ => fin S₂ (M₁.trans S₁ M₂) (h₂ A s₂ (.builtin id) (.ref a :: us') hA S₂ (.opq fun a e => by cases e) (.cons (.ref a) ru))
    cases hes : backTo p (starEach es F.env) with
    | nil => rw [hes] at ha; exact evalArgs_none ha
    | cons x r =>
      obtain ⟨b, t⟩ := x
      have hb : b = false := by
        rw [hes] at hst
        simpa using (List.any_eq_false.mp hst (b, t) (.head _))
      subst hb
      rw [hes] at ha
      exact Calls.evalArgs_plain ha)

/-- an object of the store changed -/
theorem post_upd {s : Shared} {tk : Nat} {a : Addr} {vs ws : List V} {vs' ws' : List Value} {n : Nat} {f : Array Value → Array Value} {α β : Type} {R : Heap → β → α → Prop} {r : β} {r' : α} {Q : β → St → Prop} (S : Sim C.GB F σ s.heap) (hs : σ.sto a = some (.lst vs))
    (ho : s.heap.get? a = some (listOf vs'.toArray n)) (hf : f vs'.toArray = ws'.toArray) (hl : ws.length ≤ maxLen) (hr : Reps s.heap ws ws') (rr : ∀ h', (∀ c o, s.heap.get? c = some o → FrzO o → h'.get? c = some o) → R h' r r') (h : Q r (σ.setSto a (.lst ws))) :
    Post C F R σ s Q r' { s with heap := s.heap.update a (Obj.mapSeq f), toks := tk } := by
  have hq := PySem.IsL.update ho f
  have k' : Heap.ExtBut a s.heap (s.heap.update a (Obj.mapSeq f)) := (Heap.SameBut.update ..).extBut
  have hnt := (S.sto a _ hs).not_frz
  refine ⟨r, σ.setSto a (.lst ws), rr _ (not_frz_ext hnt k'), S.change hs rfl k' ⟨hl, ws', if ((f vs'.toArray).size == vs'.toArray.size) = true then n else n + 1, ?_, hr.keeps (not_frz_ext hnt k')⟩, Mod.change (tk := tk) S hs rfl k' ⟨_, hq⟩, h⟩
  rw [← hf]
  exact hq

theorem call_append {a : Addr} {vs : List V} {v : V} {Q : V → St → Prop} (hs : σ.sto a = some (.lst vs)) (hl : vs.length < maxLen) (h : Q .none (σ.setSto a (.lst (vs ++ [v])))) : CallOK C k F (.opq (.builtin "list.append")) [.ref a, v] σ Q :=
  fun A s f' us' hA S rf ru => by
    cases rf
    cases ru with | cons ra ru => cases ra; cases ru with | cons rv ru => cases ru with | nil =>
    rename_i v'
    obtain ⟨hb, vs', n, ho, hr⟩ := S.sto a _ hs
    have hz : vs'.toArray.size ≤ sizeLine := by rw [List.size_toArray, hr.length]; exact Nat.le_trans hb maxLen_le
    refine call_meets slot_list_append ⟨_, ho, rfl⟩ entry_list_append (args_list_append _ _) (PySem.list_append a _ n v' hz) ⟨ho, ?_⟩
    exact post_upd (tk := s.toks) S hs ho (ws' := vs' ++ [v']) (by simp) (by simp; omega) (hr.append (.cons rv .nil)) (fun _ _ => .none) h

theorem call_pop {a : Addr} {vs : List V} {v : V} {Q : V → St → Prop} (hs : σ.sto a = some (.lst (vs ++ [v]))) (h : Q v (σ.setSto a (.lst vs))) : CallOK C k F (.opq (.builtin "list.pop")) [.ref a] σ Q :=
  fun A s f' us' hA S rf ru => by
    cases rf
    cases ru with | cons ra ru => cases ra; cases ru with | nil =>
    obtain ⟨hb, vs', n, ho, hr⟩ := S.sto a _ hs
    have hlen := hr.length
    have hz : vs'.toArray.size ≤ sizeLine := by rw [List.size_toArray, hlen]; exact Nat.le_trans hb maxLen_le
    have hgv : (vs ++ [v])[vs.length]? = some v := by simp
    obtain ⟨v', hv', rv⟩ := hr.get hgv
    have hlen' : vs'.length = vs.length + 1 := by simpa using hlen
    have hy : vs'.toArray[vs'.toArray.size - 1]? = some v' := by
      rw [List.size_toArray, hlen']; simpa using hv'
    refine call_meets PySem.F.slot_list_pop ⟨_, ho, rfl⟩ PySem.F.entry_list_pop (PySem.F.args_list_pop_1 _) (PySem.MeetsSeq.list_pop_last a _ n v' hy hz) ⟨ho, ?_⟩
    refine post_upd (tk := s.toks) S hs ho (ws' := vs'.take vs.length) ?_ (by simp at hb; omega) (by simpa using hr.take vs.length) (fun _ kt => rv.keeps kt) h
    rw [List.size_toArray, hlen']
    simp only [Nat.add_sub_cancel]
    rw [← Array.toList_inj]
    simp [List.eraseIdx_eq_take_drop_succ, hlen']
    first | done | (intro h; omega) | skip

theorem call_len {a : Addr} {vs : List V} {Q : V → St → Prop} (hs : (σ.sto a).bind O.items = some vs) (h : Q (.int vs.length) σ) : CallOK C k F (.opq (.builtin "len")) [.ref a] σ Q :=
  fun A s f' us' hA S rf ru => by
    cases rf
    cases ru with | cons ra ru => cases ra; cases ru with | nil =>
    obtain ⟨hb, vs', hL, hr⟩ := S.list hs
    have hm := maxLen_lt
    have hlen := hr.length
    refine len_list hL (by simp; omega) ?_
    have e : (vs'.toArray.size : Int) = vs.length := by simp [hlen]
    rw [e]
    exact ⟨_, σ, .int _ _, S, .toks _, h⟩

theorem truth_list {a : Addr} {vs : List V} {Q : Bool → St → Prop} (hs : (σ.sto a).bind O.items = some vs) (h : Q (!vs.isEmpty) σ) : TruthOK C k F (.ref a) σ Q :=
  fun A s a' hA S ra => by
    cases ra
    obtain ⟨hb, vs', hL, hr⟩ := S.list hs
    have hm := maxLen_lt
    have hlen := hr.length
    refine wpAny_truthy_list hL (by simp; omega) ?_
    have e : vs'.toArray.isEmpty = vs.isEmpty := by
      cases vs <;> cases vs' <;> simp at hlen ⊢
    rw [e]
    exact ⟨_, σ, rfl, S, .toks _, h⟩
end
end Mine
set_option Elab.async false
set_option linter.unusedVariables false
set_option linter.unusedSimpArgs false
namespace Mine
open PySem PySem.W PyProof.Rows

section
variable {C : Cx} {k : Nat} {F : FE} {σ : St}

-- targets
theorem asg_name {x : Str} {p : Pos} {v : V} {Q : St → Prop} (ok : EnvOk F.env) (h : Q (σ.setLoc x v)) (hk : StoreOk F x := by exact .inl rfl) : AsgOK C k F (.Name x p) v σ Q :=
  fun A s a' hA S ra => wpAny_assign_Name (store_name ok S ra hk fun h' tk S' M' => ⟨(), _, rfl, S', M', h⟩)

/-- several targets in order -/
def Asgs (C : Cx) (k : Nat) (F : FE) : List Expr → List V → St → (St → Prop) → Prop
  | [], [], σ, Q => Q σ
  | t :: ts, v :: vs, σ, Q => AsgOK C k F t v σ fun σ₁ => Asgs C k F ts vs σ₁ Q
  | _, _, _, _ => False
theorem asgs_go {A : Around} (hA : Room k F A) : ∀ (ts : List Expr) (vs : List V) (vs' : List Value) (σ : St) (s : Shared) (Q : St → Prop), Sim C.GB F σ s.heap → Reps s.heap vs vs' → Asgs C k F ts vs σ Q →
    wpAny (model C.prog C.w) A (assignInOrder (ts.map fun t => assign t F.env) vs') (Post C F REq σ s fun (_ : Unit) σ₁ => Q σ₁) No s
  | [], [], _, σ, s, Q, S, .nil, h => wpAny_pure (post_pure S rfl h)
  | t :: ts, v :: vs, _, σ, s, Q, S, .cons (v' := v') (vs' := vs') rv rvs, h =>
    wpAny_assignInOrder_more (go (h A s v' hA S rv) fun _ _ σ₁ s₁ _ S₁ M₁ h₁ => fin S₁ M₁ (asgs_go hA ts vs vs' σ₁ s₁ Q S₁ (M₁.reps S rvs) h₁))
  | [], _ :: _, _, _, _, _, _, _, h => h.elim
  | _ :: _, [], _, _, _, _, _, _, h => h.elim

theorem asg_tup {es : List Expr} {n : Nat} {p : Pos} {xs : List Int} {Q : St → Prop} (hl : es.length = xs.length) (h : Asgs C k F es (xs.map V.int) σ Q)
    (he : assignEach es F.env = es.map (fun t => (false, assign t F.env)) := by rfl) : AsgOK C k F (.Tuple es n p) (.tup xs) σ Q :=
  fun A s a' hA S ra => by
    cases ra with
    | tup ht hi =>
      rename_i a vs'
      refine wpAny_assign_Tuple hA.1 ht (by rw [he]; simp [hi.length, hl]) ?_ fun h' hext => ?_
      · rw [he, List.findIdx?_eq_none_iff]
        intro x hx
        obtain ⟨t, _, rfl⟩ := List.mem_map.mp hx
        rfl
      · have kp : ∀ b ob, s.heap.get? b = some ob → h'.get? b = some ob := fun b ob e => hext b ob (Nat.ne_of_lt (Heap.lt_size e)) e
        have S' : Sim C.GB F σ h' := S.keeps kp
        have M' : Mod F.own σ σ s { s with heap := h' } := .pure (tk := s.toks) kp
        rw [he]
        simp only [List.map_map, Function.comp_def]
        exact fin (s₁ := { s with heap := h' }) S' M' (asgs_go hA es _ vs' σ { s with heap := h' } Q S' (reps_ints hi) h)

-- iterators
theorem lot_plain {A : Around} {s : Shared} {it : Addr} {o : Obj} {n : String} {target : Expr} {v : Value} {Q : Unit → Shared → Prop} {M : Model} {E : Value → Shared → Prop} (ho : s.heap.get? it = some o) (hc : o.cls = .type n)
    (hn : (["enumerate", "zip", "dict_itemiterator", "dict_reverseitemiterator", "odict_iterator", "itertools.zip_longest", "itertools.pairwise"] : List String).contains n = false) (h : Q () s) : wpAny M A (letOwnedTupleGo target (.ref it) v) Q E s := by
  unfold letOwnedTupleGo
  split
  · cases v <;> first | exact wpAny_pure h | skip
    refine wpAny_bind (wpAny_load ho ?_)
    rw [hc]
    split
    · rename_i e _
      cases e
      simp only [hn, Bool.false_and, Bool.false_eq_true, if_false]
      exact wpAny_pure h
    · exact wpAny_pure h
  · cases v <;> first | exact wpAny_pure h | skip
    refine wpAny_bind (wpAny_load ho ?_)
    rw [hc]
    split
    · rename_i e _
      cases e
      simp only [hn, Bool.false_and, Bool.false_eq_true, if_false]
      exact wpAny_pure h
    · exact wpAny_pure h
  · exact wpAny_pure h

theorem not_frz_cls {o : Obj} {n : String} (hc : o.cls = .type n) (h1 : n ≠ "tuple") (h2 : n ≠ "range") : ¬ FrzO o := by
  rintro (⟨h, _⟩ | ⟨h, _⟩) <;> rw [hc] at h <;> cases h <;> contradiction

def getList (l : Addr) : Get := fun i sto => ((sto l).bind O.items).map fun vs => vs[i]?
theorem iter_list {l : Addr} {vs : List V} {P : Get → St → Prop} (hs : (σ.sto l).bind O.items = some vs) (h : P (getList l) σ) : IterOK C k F (.ref l) σ P :=
  fun A s a' hA S ra => by
    cases ra
    obtain ⟨hb, vs', hL, hr⟩ := S.list hs
    refine wpAny_pyIter_list hL ?_
    refine ⟨_, getList l, fun i h => h.IsListIter s.heap.objs.size l i, σ, rfl, get_size _, ?_, ⟨_, Heap.get?_push_size _ rfl, rfl, rfl⟩, S.keeps (keeps_push _), .pure (tk := s.toks) (keeps_push _), S.fresh_none (get_size _), h⟩
    refine ⟨fun A F σ s i r₀ hA S hL hK hg => ?_, fun i h h' hK hk => ?_, fun i h hK => ?_, fun A s i Q hK hq => ?_, fun A s i target v Q hK hq => ?_⟩
    · unfold getList at hg
      cases hi : (σ.sto l).bind O.items with
      | none => rw [hi] at hg; cases hg
      | some us =>
        rw [hi] at hg
        obtain ⟨hb, us', hL', hr⟩ := S.list hi
        cases r₀ with
        | none =>
          have hn : us'.toArray[i]? = none := by
            have : us[i]? = none := by simpa using hg
            rw [List.getElem?_eq_none_iff] at this
            simp [hr.length, this]
          refine wpAny_pyNext_list_end hA.1 hK hL' hn fun h' hext => ⟨hext, rfl, rfl⟩
        | some v =>
          have hv : us[i]? = some v := by simpa using hg
          obtain ⟨v', hv', rv⟩ := hr.get hv
          refine wpAny_pyNext_list_item hK hL' (by simpa using hv') fun h' hK' hsb => ⟨hsb.extBut, rfl, v', rfl, rv, hK'⟩
    · obtain ⟨o, ho, r⟩ := hK; exact ⟨o, hk o ho, r⟩
    · obtain ⟨o, ho, hc, _⟩ := hK; exact ⟨o, ho, not_frz_cls hc (by decide) (by decide)⟩
    · exact wpAny_pyIter_listiter hK hq
    · obtain ⟨o, ho, hc, _⟩ := hK; exact lot_plain ho hc (by decide) hq

def getRange (x : Int) (n : Nat) (st : Int) : Get := fun i _ => some (if i < n then some (.int (x + i * st)) else none)
theorem iter_rangeiter {I : Addr} {x : Int} {n : Nat} {st : Int} : Iter C k I (getRange x n st) fun i h => IsRangeIter h I (x + i * st) ((n : Int) - i) st := by
  refine ⟨fun A F σ s i r₀ hA S hL hK hg => ?_, fun i h h' hK hk => hk _ hK, fun i h hK => ⟨_, hK, not_frz_cls rfl (by decide) (by decide)⟩, fun A s i Q hK hq => wpAny_pyIter_rangeiter hK hq, fun A s i target v Q hK hq => lot_plain hK rfl (by decide) hq⟩
  unfold getRange at hg
  cases hg
  by_cases hi : i < n
  · rw [if_pos hi]
    refine wpAny_pyNext_range_item hK (by omega) fun h' hK' hsb => ⟨hsb.extBut, rfl, _, rfl, .int _ _, ?_⟩
    have e1 : x + (i : Int) * st + st = x + ((i + 1 : Nat) : Int) * st := by push_cast; rw [Int.add_mul]; omega
    have e2 : (n : Int) - i - 1 = (n : Int) - ((i + 1 : Nat) : Int) := by push_cast; omega
    rw [e1, e2] at hK'
    exact hK'
  · rw [if_neg hi]
    exact wpAny_pyNext_range_end hA.1 hK (by omega) fun h' hext => ⟨hext, rfl, rfl⟩
theorem iter_rng {lo hi st : Int} {n : Nat} {P : Get → St → Prop} (hs : Builtin.Range.small lo hi st = true) (hn : Builtin.Range.rangeSize lo hi st = n) (h : P (getRange lo n st) σ) : IterOK C k F (.rng lo hi st) σ P :=
  fun A s a' hA S ra => by
    cases ra with
    | rng hr =>
      refine wpAny_pyIter_range hr hs ?_
      refine ⟨_, getRange lo n st, _, σ, rfl, get_size _, iter_rangeiter, ?_, S.keeps (keeps_push _), .pure (tk := s.toks) (keeps_push _), S.fresh_none (get_size _), h⟩
      have := Heap.get?_push_size s.heap (o := { cls := .type "range_iterator", data := .fields #[rawInt lo, rawInt (Builtin.Range.rangeSize lo hi st), rawInt st] }) rfl
      rw [hn] at this ⊢
      simpa [IsRangeIter] using this
theorem call_range1 {n : Int} {Q : V → St → Prop} (h : Q (.rng 0 n 1) σ) : CallOK C k F (.opq (.type "range")) [.int n] σ Q :=
  fun A s f' us' hA S rf ru => by
    cases rf
    cases ru with | cons ra ru => cases ra; cases ru with | nil =>
    exact call_range_1 ⟨_, σ, .rng (IsRange.new ..), S.keeps (keeps_push _), .pure (keeps_push _), h⟩
theorem call_range3 {a b c : Int} {Q : V → St → Prop} (hc : c ≠ 0) (hp : Builtin.divisionGoesByPylong (b - a) c = false) (h : Q (.rng a b c) σ) : CallOK C k F (.opq (.type "range")) [.int a, .int b, .int c] σ Q :=
  fun A s f' us' hA S rf ru => by
    cases rf
    cases ru with | cons ra ru => cases ra; cases ru with | cons rb ru => cases rb; cases ru with | cons rc ru => cases rc; cases ru with | nil =>
    exact call_range_3 hc ⟨_, σ, .rng (IsRange.new ..), S.keeps (keeps_push _), .pure (keeps_push _), h⟩ (.inl hp)
end
end Mine
set_option Elab.async false
set_option linter.unusedVariables false
set_option linter.unusedSimpArgs false
namespace Mine
open PySem PySem.W PyProof.Rows

section
variable {C : Cx} {k : Nat} {F : FE} {σ : St}

theorem fixed_none {b : Addr} (h : σ.sto b = none) : σ.fixed b := fun o e => by rw [h] at e; cases e
/-- the frame of a comprehension -/
def compF (scope : Scope) (cl : List (Str × Addr)) (c : Addr) (F : FE) : FE := ⟨compEnvC scope cl c F.env, [c], F.frames⟩

/-- the tests of a comprehension -/
def Tests (C : Cx) (k : Nat) (F : FE) : List Expr → St → (Bool → St → Prop) → Prop
  | [], σ, Q => Q true σ
  | [c], σ, Q => TB C k F c σ Q
  | _, _, _ => False
theorem tests_go {A : Around} {s : Shared} {ifs : List Expr} {Q : Bool → St → Prop} (hA : Room k F A) (S : Sim C.GB F σ s.heap) (h : Tests C k F ifs σ Q) :
    wpAny (model C.prog C.w) A (forIn ifs true fun c r => if r = true then do let ok ← isTrue c F.env (eval c F.env); pure (ForInStep.yield ok) else pure (ForInStep.yield r)) (Post C F REq σ s Q) No s := by
  match ifs, h with
  | [], h => exact wpAny_tests_nil (post_pure S rfl h)
  | [c], h => exact wpAny_tests_one (h A s hA S)

/-- behind a comprehension's element -/
def CompPush (loc0 : List (Str × V)) (Inv : Nat → List V → (Addr → Option O) → Prop) (i : Nat) (out : List V) (y : V) (σ' : St) : Prop :=
  out.length < maxLen ∧ restrictL (loc0.map (·.1)) σ'.loc = loc0 ∧ Inv (i + 1) (out ++ [y]) σ'.sto
def CompSkip (loc0 : List (Str × V)) (Inv : Nat → List V → (Addr → Option O) → Prop) (i : Nat) (out : List V) (σ' : St) : Prop :=
  restrictL (loc0.map (·.1)) σ'.loc = loc0 ∧ Inv (i + 1) out σ'.sto

/-- what a free name of a comprehension needs -/
def FreeOk (F : FE) (scope : Scope) (cl : List (Str × Addr)) (loc0 loc : List (Str × V)) : Prop :=
  ∀ x v, loc0.lookup x = some v → loc.lookup x = some v ∧ (F.env.kindOf x = some .cell ∨ F.env.kindOf x = some .free) ∧ ((relabel scope F.env).names.lookup x = some .cell ∨ (relabel scope F.env).names.lookup x = some .free) ∧ cl.lookup x = F.env.cells.lookup x

theorem comp_loop {A : Around} {elt target iter : Expr} {ifs : List Expr} {scope : Scope} {pos : Pos} {cl : List (Str × Addr)} {s s₂ s₄ : Shared} {I D c : Addr} {get : Get} {K : Nat → Heap → Prop} {σ₂ : St} {loc0 : List (Str × V)} {Inv : Nat → List V → (Addr → Option O) → Prop} {N : Nat} {Fin' : List V → (Addr → Option O) → Prop} {R : Result → Shared → Prop}
    (hA : Room k F A) (S : Sim C.GB F σ s.heap) (hI : s.heap.get? I = none) (IT : Iter C k I get K) (S₂ : Sim C.GB F σ₂ s₂.heap) (M₂ : Mod F.own σ σ₂ s s₂) (hsI : σ₂.sto I = none)
    (hD : s₂.heap.get? D = none) (hc : s₂.heap.get? c = none) (hDc : D ≠ c) (hoI : ∃ o, s₂.heap.get? I = some o) (L₂ : ∀ o, s₂.heap.get? I = some o → ¬ FrzO o) (hcl : ∀ p ∈ cl, p ∈ F.env.cells)
    (turn : ∀ i out sto', Inv i out sto' → i ≤ N ∧ ∃ r₀, get i sto' = some r₀ ∧ match r₀ with
      | some v => AsgOK C k (compF scope cl c F) target v ⟨loc0, sto'⟩ fun σ₅ => Tests C k (compF scope cl c F) ifs σ₅ fun b σ₆ => if b then TE C k (compF scope cl c F) elt σ₆ (CompPush loc0 Inv i out) else CompSkip loc0 Inv i out σ₆
      | none => Fin' out sto')
    (done : ∀ s₅ out sto', Sim C.GB F (St.setSto ⟨σ₂.loc, sto'⟩ D (.lst out)) s₅.heap → Mod (c :: F.own) σ (St.setSto ⟨σ₂.loc, sto'⟩ D (.lst out)) s s₅ → Loose C.GB F (St.setSto ⟨σ₂.loc, sto'⟩ D (.lst out)) s₅.heap c → (∃ m, s₅.heap.Ns c m) → sto' D = none → Fin' out sto' → R (.ok .next) s₅)
    (S₄ : Sim C.GB (compF scope cl c F) ⟨loc0, σ₂.sto⟩ s₄.heap) (kp₄ : ∀ b ob, s₂.heap.get? b = some ob → s₄.heap.get? b = some ob) (hD₄ : s₄.heap.get? D = some (listOf #[] 0)) (hK₄ : K 0 s₄.heap) (r₄ : s₄ = { s₂ with heap := s₄.heap, toks := s₄.toks }) (h0 : Inv 0 [] σ₂.sto) :
    codeAny (model C.prog C.w) A (.compLoop (.ListComp elt [⟨target, iter, ifs, 0⟩] scope pos) 0 (.ref I) (.ref D) (compEnvC scope cl c F.env)) R s₄ := by
  obtain ⟨oI, hoI⟩ := hoI
  have hID : I ≠ D := fun e => by rw [e, hD] at hoI; cases hoI
  have hIc : I ≠ c := fun e => by rw [e, hc] at hoI; cases hoI
  have cellO : ∀ p ∈ F.env.cells, p.2 ≠ D ∧ p.2 ≠ c ∧ p.2 ≠ I := fun p hp => by
    obtain ⟨v₀, oc, hoc, _⟩ := S₂.cells p hp
    obtain ⟨v₀', oc', hoc', _⟩ := S.cells p hp
    refine ⟨fun e => ?_, fun e => ?_, fun e => ?_⟩
    · rw [e, hD] at hoc; cases hoc
    · rw [e, hc] at hoc; cases hoc
    · rw [e, hI] at hoc'; cases hoc'
  have locO : F.env.locals ≠ D ∧ F.env.locals ≠ c ∧ F.env.locals ≠ I := by
    obtain ⟨m, ⟨oL, _, _, hoL, _⟩, _⟩ := S₂.frame
    obtain ⟨m', ⟨oL', _, _, hoL', _⟩, _⟩ := S.frame
    refine ⟨fun e => ?_, fun e => ?_, fun e => ?_⟩
    · rw [e, hD] at hoL; cases hoL
    · rw [e, hc] at hoL; cases hoL
    · rw [e, hI] at hoL'; cases hoL'
  have gbn : ∀ b, s₂.heap.get? b = none → C.GB.get? b = none := fun b hb => by
    cases hq : C.GB.get? b with
    | none => rfl
    | some o => have := S₂.base b o hq; rw [hb] at this; cases this
  have gbI : C.GB.get? I = none := by
    cases hq : C.GB.get? I with
    | none => rfl
    | some o => have := S.base I o hq; rw [hI] at this; cases this
  have looseI : ∀ {sto' : Addr → Option O} {l : List (Str × V)} {i : Nat} {h : Heap}, K i h → sto' I = none → Loose C.GB (compF scope cl c F) ⟨l, sto'⟩ h I := fun hK hs => by
    obtain ⟨o, ho, hf⟩ := IT.alive _ _ hK
    exact ⟨gbI, hIc, fun p hp => (cellO p (hcl p hp)).2.2, hs, not_frz_of ho hf⟩
  have looseD : ∀ {sto' : Addr → Option O} {l : List (Str × V)} {its : Array Value} {e : Nat} {h : Heap}, h.get? D = some (listOf its e) → sto' D = none → Loose C.GB (compF scope cl c F) ⟨l, sto'⟩ h D := fun ho hs =>
    ⟨gbn D hD, hDc, fun p hp => (cellO p (hcl p hp)).1, hs, not_frz_of ho (not_frz_list rfl)⟩
  have stoX : ∀ {x : Addr} {own : List Addr} {σ' σ'' : St} {s' s'' : Shared} {ob : Obj}, Mod own σ' σ'' s' s'' → s'.heap.get? x = some ob → σ'.sto x = none → σ''.sto x = none := fun M' ho hs' => by
    cases hq : (_ : St).sto _ with
    | none => rfl
    | some o₁ =>
      rcases M'.dom _ o₁ hq with ⟨o', h', _⟩ | h'
      · rw [hs'] at h'; cases h'
      · rw [ho] at h'; cases h'
  refine codeAny_loop rfl (fun n s' => ∃ i out out' e sto', n = N + 1 - i ∧ Sim C.GB (compF scope cl c F) ⟨loc0, sto'⟩ s'.heap ∧ Mod (c :: I :: D :: []) σ₂ ⟨loc0, sto'⟩ s₂ s' ∧ K i s'.heap ∧ s'.heap.get? D = some (listOf (List.toArray out') e) ∧
    Reps s'.heap out out' ∧ out.length ≤ maxLen ∧ sto' I = none ∧ sto' D = none ∧ Inv i out sto') (fun n s' ⟨i, out, out', e, sto', hn, S', M', hK', hD', hr, hlen, hsI', hsD', hInv⟩ => ?_) (N + 1)
    ⟨0, [], [], 0, σ₂.sto, rfl, S₄, ⟨fun b o e _ _ => kp₄ b o e, fun b o e => .inl ⟨o, e, id⟩, fun b o e => ⟨o, kp₄ b o e⟩, r₄⟩, hK₄, hD₄, .nil, Nat.zero_le _, hsI, S₂.fresh_none hD, h0⟩
  obtain ⟨hi, r₀, hg, ht⟩ := turn i out sto' hInv
  show wpAny _ A ((compTurn (.ListComp elt [⟨target, iter, ifs, 0⟩] scope pos) 0 (.ref I) (.ref D) (compEnvC scope cl c F.env)).onRaise (fun x => do noteFrame x (compEnvC scope cl c F.env); theTreesLotGoes x)) _ _ s'
  refine wpAny_noted ?_
  rw [compTurn_list]
  refine wpAny_bind (wpAny_standAt (wpAny_bind ?_))
  refine no_mono (wpAny_mono (IT.next A (compF scope cl c F) ⟨loc0, sto'⟩ s' i r₀ hA S' (looseI hK' hsI') hK' hg) (fun r s₅ ⟨hext, hrest, hget⟩ => ?_) fun _ _ x => x)
  have S₅ : Sim C.GB (compF scope cl c F) ⟨loc0, sto'⟩ s₅.heap := S'.extBut (looseI hK' hsI') hext
  have hD₅ := hext D _ hID.symm hD'
  have fz₅ := not_frz_ext (looseI (l := loc0) hK' hsI').frz hext
  cases r₀ with
  | none =>
    subst hget
    refine wpAny_pure ?_
    obtain ⟨m, hm, _⟩ := S₅.frame
    have kpAll : ∀ b ob, s₂.heap.get? b = some ob → σ₂.fixed b → ¬ (b = I) → s₅.heap.get? b = some ob := fun b ob eb fb hbI => by
      have hbc : b ≠ c := fun q => by rw [q, hc] at eb; cases eb
      have hbD : b ≠ D := fun q => by rw [q, hD] at eb; cases eb
      refine hext b ob hbI (M'.keep b ob eb fb fun hm => ?_)
      rcases List.mem_cons.mp hm with q | hm
      · exact hbc q
      · rcases List.mem_cons.mp hm with q | hm
        · exact hbI q
        · rcases List.mem_cons.mp hm with q | hm
          · exact hbD q
          · cases hm
    have SB : Sim C.GB F ⟨σ₂.loc, sto'⟩ s₅.heap := by
      refine S₂.back (fun b => b = I) kpAll locO.2.2 (fun p hp => (cellO p hp).2.2) (fun b o ho hf q => ?_) S₅.base S₅.sto (fun a o ea hm => (S₅.off a o ea).1 hm) (fun b ob eb => ?_)
      · subst q
        exact (L₂ o ho) hf
      · rcases M'.dom b ob eb with ⟨o', q, _⟩ | q
        · exact .inl ⟨o', q⟩
        · exact .inr q
    have SF : Sim C.GB F (St.setSto ⟨σ₂.loc, sto'⟩ D (.lst out)) s₅.heap := SB.adopt ⟨hlen, out', e, hD₅, hr.keeps fz₅⟩ (gbn D hD) locO.1.symm fun p hp => (cellO p hp).1
    have MA : Mod (I :: D :: c :: F.own) σ ⟨loc0, sto'⟩ s s' := (M₂.wide fun b hb => .tail _ (.tail _ (.tail _ hb))).trans' (M'.wide fun b hb => by
      rcases List.mem_cons.mp hb with q | hb
      · exact q ▸ .tail _ (.tail _ (.head _))
      · rcases List.mem_cons.mp hb with q | hb
        · exact q ▸ .head _
        · rcases List.mem_cons.mp hb with q | hb
          · exact q ▸ .tail _ (.head _)
          · cases hb)
    have MB : Mod (D :: c :: F.own) σ ⟨loc0, sto'⟩ s s₅ := MA.endOf hI hext hrest .refl
    have MC : Mod (c :: F.own) σ ⟨σ₂.loc, sto'⟩ s s₅ := let x := MB.less (M₂.back hD); ⟨x.keep, x.dom, x.alive, x.rest⟩
    have hsc : sto' c = none := by
      cases hq : sto' c with
      | none => rfl
      | some o => exact absurd rfl (S₅.off c o hq).2.1
    exact done s₅ out sto' SF (MC.adopt (M₂.back hD)) ⟨gbn c hc, locO.2.1.symm, fun p hp => (cellO p hp).2.1, by
      rw [setSto_other _ _ (Ne.symm hDc)]; exact hsc, fun o ho hf => frz_not_dict ho hf hm⟩ ⟨m, hm⟩ hsD' ht
  | some v =>
    obtain ⟨v', rfl, rv', hK₅⟩ := hget
    obtain ⟨oI', hoI', hcI⟩ := IT.alive _ _ hK₅
    have M₅ : Mod (c :: I :: D :: []) (⟨loc0, sto'⟩ : St) ⟨loc0, sto'⟩ s' s₅ := ⟨fun b o eb _ nb => hext b o (fun q => nb (q ▸ .tail _ (.head _))) eb, fun b o eb => .inl ⟨o, eb, id⟩, fun b o eb => by
      by_cases hb : b = I
      · subst hb; exact ⟨oI', hoI'⟩
      · exact ⟨o, hext b o hb eb⟩, hrest⟩
    refine wpAny_bind (no_mono (IT.lot A s₅ (i + 1) target v' _ hK₅ ?_))
    refine wpAny_bind (no_mono (go (ht A s₅ v' hA S₅ (rv'.keeps fz₅)) fun _ _ σ₆ s₆ _ S₆ M₆ h₆ => ?_))
    have LI₅ := looseI (l := loc0) hK₅ hsI'
    have LD₅ := looseD (l := loc0) hD₅ hsD'
    have hK₆ : K (i + 1) s₆.heap := IT.only _ _ _ hK₅ fun o ho => M₆.keep I o ho (fixed_none hsI') (LI₅.own S₅)
    have hD₆ := M₆.keep D _ hD₅ (fixed_none hsD') (LD₅.own S₅)
    have hsI₆ := stoX (x := I) M₆ hoI' hsI'
    have hsD₆ := stoX (x := D) M₆ hD₅ hsD'
    have wid : ∀ b ∈ (compF scope cl c F).own, b ∈ c :: I :: D :: [] := fun b hb => by
      rcases List.mem_cons.mp hb with q | hb
      · exact q ▸ .head _
      · cases hb
    have M₂₆ := (M'.trans' M₅).trans' (M₆.wide wid)
    refine wpAny_bind (no_mono (go (tests_go (F := compF scope cl c F) hA S₆ h₆) fun b b' σ₇ s₇ rb S₇ M₇ h₇ => ?_))
    cases rb
    obtain ⟨o₆, ho₆, hf₆⟩ := IT.alive _ _ hK₆
    have LI₆ : Loose C.GB (compF scope cl c F) σ₆ s₆.heap I := looseI (l := σ₆.loc) hK₆ hsI₆
    have LD₆ : Loose C.GB (compF scope cl c F) σ₆ s₆.heap D := looseD (l := σ₆.loc) hD₆ hsD₆
    have hK₇ : K (i + 1) s₇.heap := IT.only _ _ _ hK₆ fun o ho => M₇.keep I o ho (fixed_none hsI₆) (LI₆.own S₆)
    have hD₇ := M₇.keep D _ hD₆ (fixed_none hsD₆) (LD₆.own S₆)
    have hsI₇ := stoX (x := I) M₇ ho₆ hsI₆
    have hsD₇ := stoX (x := D) M₇ hD₆ hsD₆
    have M₂₇ := M₂₆.trans' (M₇.wide wid)
    have hr₇ : Reps s₇.heap out out' := M₇.reps S₆ (M₆.reps S₅ (hr.keeps fz₅))
    cases b with
    | false =>
      obtain ⟨hl0, hInv'⟩ := h₇
      refine wpAny_pure ⟨rfl, N + 1 - (i + 1), by omega, i + 1, out, out', e, σ₇.sto, rfl, ?_, ⟨M₂₇.keep, M₂₇.dom, M₂₇.alive, M₂₇.rest⟩, hK₇, hD₇, hr₇, hlen, hsI₇, hsD₇, hInv'⟩
      have := S₇.weak (l := loc0) (by intro x v hx; rw [← hl0] at hx; exact restrictL_sub _ _ x v hx)
      exact this
    | true =>
      refine wpAny_bind (wpAny_bind (no_mono (go (h₇ A s₇ hA S₇) fun y y' σ₈ s₈ ry S₈ M₈ h₈ => ?_)))
      obtain ⟨hlt, hl0, hInv'⟩ := h₈
      obtain ⟨o₇, ho₇, hf₇⟩ := IT.alive _ _ hK₇
      have LI₇ : Loose C.GB (compF scope cl c F) σ₇ s₇.heap I := looseI (l := σ₇.loc) hK₇ hsI₇
      have LD₇ : Loose C.GB (compF scope cl c F) σ₇ s₇.heap D := looseD (l := σ₇.loc) hD₇ hsD₇
      have hK₈ : K (i + 1) s₈.heap := IT.only _ _ _ hK₇ fun o ho => M₈.keep I o ho (fixed_none hsI₇) (LI₇.own S₇)
      have hD₈ := M₈.keep D _ hD₇ (fixed_none hsD₇) (LD₇.own S₇)
      have hsI₈ := stoX (x := I) M₈ ho₇ hsI₇
      have hsD₈ := stoX (x := D) M₈ hD₇ hsD₇
      have M₂₈ := M₂₇.trans' (M₈.wide wid)
      have hr₈ : Reps s₈.heap out out' := M₈.reps S₇ hr₇
      have hz : (List.toArray out').size ≤ sizeLine := by rw [List.size_toArray, hr₈.length]; exact Nat.le_trans hlen maxLen_le
      refine wpAny_bind (append_at (hsz := hz) hD₈ fun h' hsb hD' => wpAny_pure (wpAny_pure ?_))
      have LD₈ : Loose C.GB (compF scope cl c F) σ₈ s₈.heap D := looseD (l := σ₈.loc) hD₈ hsD₈
      have S₉ : Sim C.GB (compF scope cl c F) σ₈ h' := S₈.extBut LD₈ hsb.extBut
      have fz₉ := not_frz_ext LD₈.frz hsb.extBut
      refine ⟨rfl, N + 1 - (i + 1), by omega, i + 1, out ++ [y], out' ++ [y'], e + 1, σ₈.sto, rfl, ?_, ?_, ?_, ?_, ?_, ?_, hsI₈, hsD₈, hInv'⟩
      · exact S₉.weak (l := loc0) (by intro x v hx; rw [← hl0] at hx; exact restrictL_sub _ _ x v hx)
      · have M₉ : Mod (c :: I :: D :: []) σ₈ σ₈ s₈ { s₈ with heap := h' } := ⟨fun b o eb _ nb => hsb.extBut b o (fun q => nb (q ▸ .tail _ (.tail _ (.head _)))) eb, fun b o eb => .inl ⟨o, eb, id⟩, fun b o eb => by
          by_cases hb : b = D
          · subst hb; exact ⟨_, hD'⟩
          · exact ⟨o, hsb.extBut b o hb eb⟩, rfl⟩
        have := M₂₈.trans' M₉
        exact ⟨this.keep, this.dom, this.alive, this.rest⟩
      · exact IT.only _ _ _ hK₈ fun o ho => hsb.extBut I o hID ho
      · show h'.get? D = _
        rw [hD']
        simp
      · exact (hr₈.append (.cons ry .nil)).keeps fz₉
      · simp; omega

/-- the head of a comprehension -/
theorem comp_head {A : Around} {elt target iter : Expr} {ifs : List Expr} {scope : Scope} {pos : Pos} {cl : List (Str × Addr)} {s s₂ : Shared} {I : Addr} {get : Get} {K : Nat → Heap → Prop} {σ₂ : St} {loc0 : List (Str × V)} {Inv : Nat → List V → (Addr → Option O) → Prop} {N : Nat} {Fin' : List V → (Addr → Option O) → Prop}
    {RR : Value → Addr → Result → Shared → Prop} (ok : EnvOk F.env) (hkind : scope.kind = .function) (hcell : ∀ y ∈ scope.names, y.2 ≠ .cell) (hcl : ∀ p ∈ cl, p ∈ F.env.cells) (hap : cl.Pairwise fun x y => x.2 ≠ y.2)
    (hA : Room k F A) (S : Sim C.GB F σ s.heap) (hI : s.heap.get? I = none) (IT : Iter C k I get K) (hK : K 0 s₂.heap) (S₂ : Sim C.GB F σ₂ s₂.heap) (M₂ : Mod F.own σ σ₂ s s₂) (hsI : σ₂.sto I = none) (fr : FreeOk F scope cl loc0 σ₂.loc)
    (turn : ∀ c i out sto', Inv i out sto' → i ≤ N ∧ ∃ r₀, get i sto' = some r₀ ∧ match r₀ with
      | some v => AsgOK C k (compF scope cl c F) target v ⟨loc0, sto'⟩ fun σ₅ => Tests C k (compF scope cl c F) ifs σ₅ fun b σ₆ => if b then TE C k (compF scope cl c F) elt σ₆ (CompPush loc0 Inv i out) else CompSkip loc0 Inv i out σ₆
      | none => Fin' out sto') (h0 : Inv 0 [] σ₂.sto)
    (done : ∀ D c s₅ out sto', Sim C.GB F (St.setSto ⟨σ₂.loc, sto'⟩ D (.lst out)) s₅.heap → Mod (c :: F.own) σ (St.setSto ⟨σ₂.loc, sto'⟩ D (.lst out)) s s₅ → Loose C.GB F (St.setSto ⟨σ₂.loc, sto'⟩ D (.lst out)) s₅.heap c → (∃ m, s₅.heap.Ns c m) → s.heap.get? c = none → sto' D = none → Fin' out sto' → RR (.ref D) c (.ok .next) s₅) :
    wpAny (model C.prog C.w) A (newList []) (fun acc s₃ => wpAny (model C.prog C.w) A (newFunctionEnv scope F.env.globals cl [] F.env.qual none .none (some F.env)) (fun cenv s₄ =>
      codeAny (model C.prog C.w) A (.compStart (.ListComp elt [⟨target, iter, ifs, 0⟩] scope pos) 0 (.ref I) acc { cenv with scope := relabel scope F.env }) (RR acc cenv.locals) s₄) No s₃) No s₂ := by
  refine wpAny_newList ?_ (by show 0 ≤ _; exact Nat.zero_le _)
  refine wpAny_newFunctionEnv hcell (fun x hx => nomatch hx) (fun h' hns hsb => ?_) hkind
  have hD : s₂.heap.get? s₂.heap.objs.size = none := get_size _
  have hsz : (s₂.heap.push { cls := .type "list", data := .seq ([] : List Value).toArray }).objs.size = s₂.heap.objs.size + 1 := Heap.size_push ..
  have hc : s₂.heap.get? (s₂.heap.objs.size + 1) = none := by
    cases hq : s₂.heap.get? (s₂.heap.objs.size + 1) with
    | none => rfl
    | some o => exact absurd (Heap.lt_size hq) (Nat.not_lt.mpr (Nat.le_succ _))
  obtain ⟨oI, hoI, hfI⟩ := IT.alive _ _ hK
  have kp : ∀ b ob, s₂.heap.get? b = some ob → h'.get? b = some ob := fun b ob e =>
    hsb.extBut b ob (by have := Heap.lt_size e; show b ≠ (s₂.heap.push _).objs.size; rw [hsz]; exact Nat.ne_of_lt (Nat.lt_succ_of_lt this)) (Heap.get?_push_of_some _ (Heap.get?_push_of_some _ e))
  have hDh : h'.get? s₂.heap.objs.size = some (listOf #[] 0) := hsb.extBut _ _ (by show s₂.heap.objs.size ≠ (s₂.heap.push _).objs.size; rw [hsz]; exact Nat.ne_of_lt (Nat.lt_succ_self _)) (Heap.get?_push_of_some _ (Heap.get?_push_size _ rfl))
  have gbn : ∀ b, s₂.heap.get? b = none → C.GB.get? b = none := fun b hb => by
    cases hq : C.GB.get? b with
    | none => rfl
    | some o => have := S₂.base b o hq; rw [hb] at this; cases this
  have S0 := S₂.keeps kp
  have hns' : h'.Ns (s₂.heap.objs.size + 1) (fun x => ([] : List (Str × Value)).reverse.lookup x) := by rw [← hsz]; exact hns
  have S₄ : Sim C.GB (compF scope cl (s₂.heap.objs.size + 1) F) ⟨loc0, σ₂.sto⟩ h' := {
    base := S0.base
    frame := by
      refine ⟨_, hns', fun x v e => ?_⟩
      obtain ⟨h1, h2, h3, h4⟩ := fr x v e
      obtain ⟨m, hn, hl⟩ := S0.frame
      obtain ⟨v', hp, hr⟩ := hl x v h1
      refine ⟨v', .inr ⟨h3, ?_⟩, hr⟩
      rcases hp with ⟨hp, _⟩ | ⟨_, cc, hcc, hce⟩
      · rcases h2 with h2 | h2 <;> rw [h2] at hp <;> cases hp
      · exact ⟨cc, h4.trans hcc, hce⟩
    cells := fun p hp => S0.cells p (hcl p hp)
    apart := hap
    sto := S0.sto
    inOwn := .head _
    ownIs := fun b hb => by
      rcases List.mem_cons.mp hb with q | hb
      · exact .inl q
      · cases hb
    new := fun b hb => by
      rcases List.mem_cons.mp hb with q | hb
      · rw [q]; exact gbn _ hc
      · cases hb
    off := fun a o e => by
      refine ⟨(S₂.off a o e).1, fun q => ?_, fun p hp q => (S₂.off a o e).2.2 p (hcl p hp) q⟩
      obtain ⟨ob, hob⟩ := S₂.sto_alive e
      rw [show a = s₂.heap.objs.size + 1 from q, hc] at hob; cases hob }
  have hK' : K 0 h' := IT.only _ _ _ hK fun o ho => kp _ _ ho
  have loop := comp_loop (s := s) (s₂ := s₂) (s₄ := { s₂ with heap := h' }) (elt := elt) (target := target) (iter := iter) (ifs := ifs) (scope := scope) (pos := pos) (cl := cl) (D := s₂.heap.objs.size) (c := s₂.heap.objs.size + 1) (R := RR (.ref s₂.heap.objs.size) (s₂.heap.objs.size + 1)) hA S hI IT S₂ M₂ hsI hD hc (Nat.ne_of_lt (Nat.lt_succ_self _)) ⟨oI, hoI⟩ (not_frz_of hoI hfI) hcl
    (turn _) (fun s₅ out sto' a1 a2 a3 a4 a5 a6 => done _ _ s₅ out sto' a1 a2 a3 a4 (M₂.back hc) a5 a6) S₄ kp hDh hK' rfl h0
  have e1 : ({ newEnv scope (s₂.heap.push { cls := .type "list", data := .seq ([] : List Value).toArray }).objs.size F.env.globals cl F.env.qual none .none (some F.env) 0 with scope := relabel scope F.env } : Env) = compEnvC scope cl (s₂.heap.objs.size + 1) F.env := by rw [hsz]; rfl
  show codeAny _ A (.compStart _ 0 (.ref I) (.ref s₂.heap.objs.size) { newEnv scope (s₂.heap.push { cls := .type "list", data := .seq ([] : List Value).toArray }).objs.size F.env.globals cl F.env.qual none .none (some F.env) 0 with scope := relabel scope F.env }) (RR (.ref s₂.heap.objs.size) (s₂.heap.push { cls := .type "list", data := .seq ([] : List Value).toArray }).objs.size) { s₂ with heap := h' }
  rw [e1, hsz]
  exact codeAny_compStart_list loop (no_mono (IT.again A _ 0 _ hK' loop))

theorem comp_ok {scope : Scope} {cl : List (Str × Addr)} {c : Addr} (ok : EnvOk F.env) (hkind : scope.kind = .function) : EnvOk (compF scope cl c F).env := ⟨hkind, ok.globals, ok.builtins⟩
def CompOK (C : Cx) (k : Nat) (F : FE) (elt target : Expr) (ifs : List Expr) (scope : Scope) (cl : List (Str × Addr)) (loc0 : List (Str × V)) (get : Get) (σ₁ : St) (Q : V → St → Prop) : Prop :=
  FreeOk F scope cl loc0 σ₁.loc ∧ ∃ (Inv : Nat → List V → (Addr → Option O) → Prop) (N : Nat), Inv 0 [] σ₁.sto ∧ ∀ c i out sto', EnvOk (compF scope cl c F).env → Inv i out sto' → i ≤ N ∧ ∃ r₀, get i sto' = some r₀ ∧ match r₀ with
      | some v => AsgOK C k (compF scope cl c F) target v ⟨loc0, sto'⟩ fun σ₅ => Tests C k (compF scope cl c F) ifs σ₅ fun b σ₆ => if b then TE C k (compF scope cl c F) elt σ₆ (CompPush loc0 Inv i out) else CompSkip loc0 Inv i out σ₆
      | none => ∀ D, sto' D = none → Q (.ref D) (St.setSto ⟨σ₁.loc, sto'⟩ D (.lst out))

theorem e_comp {elt target iter : Expr} {ifs : List Expr} {scope : Scope} {pos : Pos} {Q : V → St → Prop} (ok : EnvOk F.env) (cl : List (Str × Addr)) (loc0 : List (Str × V)) (h : TIter C k F iter σ fun get σ₁ => CompOK C k F elt target ifs scope cl loc0 get σ₁ Q)
    (hclos : closureFor scope F.env = pure cl := by rfl) (hcl : ∀ p ∈ cl, p ∈ F.env.cells := by intro p hp; first | exact (nomatch hp) | simpa using hp) (hap : cl.Pairwise fun x y => x.2 ≠ y.2 := by first | exact List.Pairwise.nil | simp)
    (hkind : scope.kind = .function := by rfl) (hcell : ∀ y ∈ scope.names, y.2 ≠ .cell := by decide) (hnames : ∀ x ∈ scope.names, x.2 = .local → scope.names.lookup x.1 = some .local := by decide)
    (hs : ∀ x, foldedSetIterable iter F.env x = pure x := by intro _; rfl) : TE C k F (.ListComp elt [⟨target, iter, ifs, 0⟩] scope pos) σ Q :=
  fun A s hA S => by
    show wpAny _ A (eval (.ListComp elt [⟨target, iter, ifs, 0⟩] scope pos) F.env) _ _ s
    rw [eval_ListComp]
    refine wpAny_comprehension_free (use := none) rfl hs hclos hkind hnames (wpAny_mono (h A s hA S) (fun x s₁ h₁ => wpAny_mono h₁ (fun itv s₂ ⟨I, get, K, σ₂, e, hI, IT, hK, S₂, M₂, hsI, fr, Inv, N, h0, turn⟩ => ?_) fun _ _ x => x) fun _ _ x => x)
    subst e
    refine comp_head (RR := fun acc c => compPost (model C.prog C.w) A No none (Post C F Rep σ s Q) acc c) ok hkind hcell hcl hap hA S hI IT hK S₂ M₂ hsI fr (fun c i out sto' hi => turn c i out sto' (comp_ok ok hkind) hi) h0 fun D c s₅ out sto' SF MC LC ⟨m, hm⟩ hsc hsD hq => ?_
    refine ⟨m, hm, fun h' hsb => ?_⟩
    exact ⟨.ref D, _, .ref D, SF.extBut LC hsb.extBut, MC.endOf (s₃ := { s₅ with heap := h' }) hsc hsb.extBut rfl .refl, hq D hsD⟩
end
end Mine
set_option Elab.async false
set_option linter.unusedVariables false
set_option linter.unusedSimpArgs false
namespace Mine
open PySem PySem.W PyProof.Rows PySem.SeqAt PyProof.V

section
variable {C : Cx} {k : Nat} {F : FE} {σ : St}

-- a comprehension stored at once
-- slices
def pickV (vs : List V) (lo hi st : Option Int) : List V :=
  (sliceRange (sliceBounds lo hi st vs.length).1 (sliceBounds lo hi st vs.length).2.1 (sliceBounds lo hi st vs.length).2.2).filterMap fun i => vs[i]?
theorem reps_pick {h : Heap} {vs : List V} {vs' : List Value} (r : Reps h vs vs') : ∀ l : List Nat, Reps h (l.filterMap fun i => vs[i]?) (l.filterMap fun i => vs'[i]?)
  | [] => .nil
  | i :: l => by
    rw [List.filterMap_cons, List.filterMap_cons]
    cases hv : vs[i]? with
    | none =>
      have : vs'[i]? = none := by
        rw [List.getElem?_eq_none_iff] at hv ⊢
        rw [r.length]; exact hv
      rw [this]; exact reps_pick r l
    | some v =>
      obtain ⟨v', hv', rv⟩ := r.get hv
      rw [hv']; exact .cons rv (reps_pick r l)
def PartOK (C : Cx) (k : Nat) (F : FE) : Option Expr → St → (Option Int → St → Prop) → Prop
  | none, σ, Q => Q none σ
  | some e, σ, Q => TE C k F e σ fun v σ₁ => ∃ i, v = .int i ∧ Q (some i) σ₁
theorem part_go {A : Around} {s : Shared} {e : Option Expr} {Q : Option Int → St → Prop} (hA : Room k F A) (S : Sim C.GB F σ s.heap) (h : PartOK C k F e σ Q) : wpAny (model C.prog C.w) A (evalPart e F.env) (Post C F (fun _ p v => IsPart v p) σ s Q) No s := by
  cases e with
  | none => exact wpAny_pure (post_pure S .none h)
  | some e => exact go (h A s hA S) fun v v' σ₁ s₁ rv S₁ M₁ ⟨i, e, h₁⟩ => by subst e; cases rv; exact ⟨some i, σ₁, .int _ _, S₁, M₁, h₁⟩
theorem e_slice {ve : Expr} {lo hi st : Option Expr} {p q : Pos} {Q : V → St → Prop}
    (h : TE C k F ve σ fun v σ₁ => PartOK C k F lo σ₁ fun l σ₂ => PartOK C k F hi σ₂ fun u σ₃ => PartOK C k F st σ₃ fun c σ₄ => ∃ a vs, v = .ref a ∧ (σ₄.sto a).bind O.items = some vs ∧ c ≠ some 0 ∧ (pickV vs l u c).length ≤ maxLen ∧
      ∀ b, σ₄.sto b = none → Q (.ref b) (σ₄.setSto b (.lst (pickV vs l u c)))) : TE C k F (.Subscript ve (.Slice lo hi st p) q) σ Q :=
  fun A s hA S => Subscript_ (go (h A s hA S) fun v v' σ₁ s₁ rv S₁ M₁ h₁ => wpAny_Slice (go (part_go hA S₁ h₁) fun l l' σ₂ s₂ rl S₂ M₂ h₂ => go (part_go hA S₂ h₂) fun u u' σ₃ s₃ ru S₃ M₃ h₃ => go (part_go hA S₃ h₃) fun c c' σ₄ s₄ rc S₄ M₄ ⟨a, vs, e, hs, hc, hlen, hq⟩ => by
    subst e
    cases rv
    obtain ⟨hb, vs', hL, hr⟩ := S₄.list hs
    have kp := keeps_push (h := s₄.heap) { cls := .type "slice", data := .fields #[l', u', c'] }
    have hL' : (s₄.heap.push { cls := .type "slice", data := .fields #[l', u', c'] }).IsList a vs'.toArray := hL.push _
    have hz : vs'.toArray.size ≤ sizeLine := by rw [List.size_toArray, hr.length]; exact Nat.le_trans hb maxLen_le
    have S₅ : Sim C.GB F σ₄ (s₄.heap.push { cls := .type "slice", data := .fields #[l', u', c'] }) := S₄.keeps kp
    have M₅ : Mod F.own σ₄ σ₄ s₄ { s₄ with heap := s₄.heap.push { cls := .type "slice", data := .fields #[l', u', c'] } } := .pure (tk := s₄.toks) kp
    have hg : wpAny (model C.prog C.w) A (getItem (.ref a) (.ref s₄.heap.objs.size)) (Post C F Rep σ s Q) No { s₄ with heap := s₄.heap.push { cls := .type "slice", data := .fields #[l', u', c'] } } := by
      refine wpAny_getItem_list_slice hL' ⟨_, Heap.get?_push_size _ rfl, rfl, rfl⟩ rl ru rc hc ?_ hz
      have e2 : slicePick vs'.toArray l u c = ((sliceRange (sliceBounds l u c vs.length).1 (sliceBounds l u c vs.length).2.1 (sliceBounds l u c vs.length).2.2).filterMap fun i => vs'[i]?).toArray := by
        unfold slicePick
        rw [List.size_toArray, hr.length]
        congr 1
        simp
      have hP := post_newList (s := { s₄ with heap := s₄.heap.push { cls := .type "slice", data := .fields #[l', u', c'] } }) (tk := s₄.toks) (vs := pickV vs l u c) S₅ ((reps_pick hr _).keeps (frz_of_keeps kp)) hlen hq
      rw [e2]
      exact post_on S₁ M₁ (post_on S₂ M₂ (post_on S₃ M₃ (post_on S₄ M₄ (post_on (s₁ := { s₄ with heap := s₄.heap.push { cls := .type "slice", data := .fields #[l', u', c'] } }) S₅ M₅ hP))))
    cases st with
    | none => exact tail_any hL'.typeIs slot_list_getitem.lookup hg rfl
    | some e => exact tail_any hL'.typeIs slot_list_getitem.lookup hg rfl))

-- + of lists
theorem bin_cat {a b : Addr} {us vs : List V} {Q : V → St → Prop} (ha : (σ.sto a).bind O.items = some us) (hb : (σ.sto b).bind O.items = some vs) (hl : us.length + vs.length ≤ maxLen) (h : ∀ c, σ.sto c = none → Q (.ref c) (σ.setSto c (.lst (us ++ vs)))) :
    BinOK C k F .Add (.ref a) (.ref b) σ Q :=
  fun A s a' b' hA S ra rb => by
    cases ra; cases rb
    obtain ⟨h1, us', hL, hr⟩ := S.list ha
    obtain ⟨h2, vs', hL2, hr2⟩ := S.list hb
    obtain ⟨⟨cls, dd, data, sl⟩, ho, hc, n, hd⟩ := id hL
    obtain ⟨⟨cls2, dd2, data2, sl2⟩, ho2, hc2, n2, hd2⟩ := id hL2
    simp only at hc hd hc2 hd2
    subst hc hd hc2 hd2
    have hz : us'.toArray.size + vs'.toArray.size ≤ sizeLine := by rw [List.size_toArray, List.size_toArray, hr.length, hr2.length]; exact Nat.le_trans hl maxLen_le
    refine wpAny_binaryOp_concat hL.typeIs hL2.typeIs noFill_list_add seq_list_add (call_meets PySem.F.slot_list_add hL.typeIs PySem.F.entry_list_add (PySem.F.args_list_add_2 _ _) (list_addW a b _ _ n n2 dd dd2 sl sl2 hz) ⟨ho, ho2, ?_⟩)
    have hP := post_newList (C := C) (F := F) (σ := σ) (s := s) (tk := s.toks) (vs := us ++ vs) (vs' := us' ++ vs') (Q := Q) S (hr.append hr2) (by simpa using hl) h
    simpa using hP

-- == and != of lists and tuples
theorem canLay_tups : ∀ xs : List (List Int), PyData.canLayAll0 (xs.map fun x => PyData.tuple (x.map .int)) = true
  | [] => by simp [PyData.canLayAll0]
  | n :: r => by simp [PyData.canLayAll0, PyData.canLay0, canLayAll0_ints n, canLay_tups r]
theorem depth_tups : ∀ xs : List (List Int), PyData.depthAll (xs.map fun x => PyData.tuple (x.map .int)) ≤ 2
  | [] => by simp [PyData.depthAll]
  | n :: r => by
    have h1 := depth_tups r
    have h2 := PySem.W.depthAll_ints n
    simp only [List.map_cons, PyData.depthAll, PyData.depth]
    omega
theorem shaped_tups (xs : List (List Int)) : shaped (.list (xs.map fun x => PyData.tuple (x.map .int))) = true := by
  have h1 := depth_tups xs
  show (PyData.canLay0 (.list (xs.map fun x => PyData.tuple (x.map .int))) && decide (PyData.depth (.list (xs.map fun x => PyData.tuple (x.map .int))) ≤ 64)) = true
  rw [Bool.and_eq_true]
  exact ⟨by simp only [PyData.canLay0]; exact canLay_tups xs, decide_eq_true (by simp only [PyData.depth]; omega)⟩
theorem shaped_tup (xs : List Int) : shaped (.tuple (xs.map .int)) = true := by
  have h1 := PySem.W.depthAll_ints xs
  show (PyData.canLay0 (.tuple (xs.map .int)) && decide (PyData.depth (.tuple (xs.map .int)) ≤ 64)) = true
  rw [Bool.and_eq_true]
  exact ⟨by simp only [PyData.canLay0]; exact canLayAll0_ints xs, decide_eq_true (by simp only [PyData.depth]; omega)⟩
theorem noMix_tups : ∀ xs ys : List (List Int), noMixAll (xs.map fun x => PyData.tuple (x.map .int)) (ys.map fun x => PyData.tuple (x.map .int)) = true
  | [], [] => by simp [noMixAll]
  | [], _ :: _ => by simp [noMixAll]
  | _ :: _, [] => by simp [noMixAll]
  | a :: r, b :: q => by simp [noMixAll, noMix, noMix_tups r q, noMix_ints a b]
theorem same_tups : ∀ xs ys : List (List Int), PySem.Spec.sameAll (xs.map fun x => PyData.tuple (x.map .int)) (ys.map fun x => PyData.tuple (x.map .int)) = decide (xs = ys)
  | [], [] => by simp [PySem.Spec.sameAll]
  | [], _ :: _ => by simp [PySem.Spec.sameAll]
  | _ :: _, [] => by simp [PySem.Spec.sameAll]
  | n :: r, m :: q => by
    simp only [List.map_cons, PySem.Spec.sameAll, PySem.Spec.same, same_tups r q, same_ints]
    by_cases h : n = m <;> simp [h]
theorem reads_tup {h : Heap} {a : Addr} {vs' : List Value} {xs : List Int} (ht : IsTup h a vs'.toArray) (hi : IntsAre vs' xs) : Reads h (.ref a) (.tuple (xs.map .int)) [] := by
  obtain ⟨o, ho, hc, n, hd⟩ := ht
  exact Reads.tuple ho hc hd (by simpa using readsAll_of_ints hi)
theorem readsAll_tups {h : Heap} : ∀ {xs : List (List Int)} {vs' : List Value}, Reps h (xs.map V.tup) vs' → ReadsAll h vs' (xs.map fun x => PyData.tuple (x.map .int)) []
  | [], _, .nil => .nil
  | x :: xs, _, .cons (.tup ht hi) r => by
    have := ReadsAll.cons (reads_tup ht hi) (readsAll_tups r)
    simpa using this
theorem reads_tups {h : Heap} {a : Addr} {xs : List (List Int)} {vs' : List Value} (hl : h.IsList a vs'.toArray) (r : Reps h (xs.map V.tup) vs') : Reads h (.ref a) (.list (xs.map fun x => PyData.tuple (x.map .int))) [a] := by
  obtain ⟨o, ho, hc, n, hd⟩ := hl
  exact Reads.list ho hc hd (by simpa using readsAll_tups r)
theorem room64 {A : Around} (hA : Room k F A) (hk : 7 ≤ k) : A.units + 64 < cLine := by have := hA.2.2.1; omega

theorem cmp_ne_ints {a b : Addr} {xs ys : List Int} {Q : V → St → Prop} (hk : 7 ≤ k) (ha : (σ.sto a).bind O.items = some (xs.map V.int)) (hb : (σ.sto b).bind O.items = some (ys.map V.int)) (h : Q (.bool (!decide (xs = ys))) σ) : CmpOK C k F .NotEq (.ref a) (.ref b) σ Q :=
  fun A s a' b' hA S ra rb => by
    cases ra; cases rb
    obtain ⟨_, us', hL, hr⟩ := S.list ha
    obtain ⟨_, vs', hL2, hr2⟩ := S.list hb
    exact ne_intsK hL (ints_reps hr) hL2 (ints_reps hr2) (room64 hA hk) (post_pure S (.bool _) h)
theorem cmp_eq_tups {a b : Addr} {xs ys : List (List Int)} {Q : V → St → Prop} (hk : 7 ≤ k) (ha : (σ.sto a).bind O.items = some (xs.map V.tup)) (hb : (σ.sto b).bind O.items = some (ys.map V.tup)) (h : Q (.bool (decide (xs = ys))) σ) : CmpOK C k F .Eq (.ref a) (.ref b) σ Q :=
  fun A s a' b' hA S ra rb => by
    cases ra; cases rb
    obtain ⟨_, us', hL, hr⟩ := S.list ha
    obtain ⟨_, vs', hL2, hr2⟩ := S.list hb
    exact eq_dataH_same (reads_tups hL hr) (reads_tups hL2 hr2) (shaped_tups xs) (shaped_tups ys) (room64 hA hk) (by simp only [noMix]; exact noMix_tups xs ys) (by simp only [PySem.Spec.same]; rw [same_tups]; exact post_pure S (.bool _) h)
theorem cmp_ne_tups {a b : Addr} {xs ys : List (List Int)} {Q : V → St → Prop} (hk : 7 ≤ k) (ha : (σ.sto a).bind O.items = some (xs.map V.tup)) (hb : (σ.sto b).bind O.items = some (ys.map V.tup)) (h : Q (.bool (!decide (xs = ys))) σ) : CmpOK C k F .NotEq (.ref a) (.ref b) σ Q :=
  fun A s a' b' hA S ra rb => by
    cases ra; cases rb
    obtain ⟨_, us', hL, hr⟩ := S.list ha
    obtain ⟨_, vs', hL2, hr2⟩ := S.list hb
    exact ne_dataH_same (reads_tups hL hr) (reads_tups hL2 hr2) (shaped_tups xs) (shaped_tups ys) (room64 hA hk) (by simp only [noMix]; exact noMix_tups xs ys) (by simp only [PySem.Spec.same]; rw [same_tups]; exact post_pure S (.bool _) h)
theorem cmp_eq_tup {xs ys : List Int} {Q : V → St → Prop} (hk : 7 ≤ k) (h : Q (.bool (decide (xs = ys))) σ) : CmpOK C k F .Eq (.tup xs) (.tup ys) σ Q :=
  fun A s a' b' hA S ra rb => by
    cases ra with | tup ht hi => cases rb with | tup ht2 hi2 =>
    exact eq_dataH_same (reads_tup ht hi) (reads_tup ht2 hi2) (shaped_tup xs) (shaped_tup ys) (room64 hA hk) (by simp only [noMix]; exact noMix_ints xs ys) (by simp only [PySem.Spec.same]; rw [same_ints]; exact post_pure S (.bool _) h)
theorem cmp_ne_tup {xs ys : List Int} {Q : V → St → Prop} (hk : 7 ≤ k) (h : Q (.bool (!decide (xs = ys))) σ) : CmpOK C k F .NotEq (.tup xs) (.tup ys) σ Q :=
  fun A s a' b' hA S ra rb => by
    cases ra with | tup ht hi => cases rb with | tup ht2 hi2 =>
    exact ne_dataH_same (reads_tup ht hi) (reads_tup ht2 hi2) (shaped_tup xs) (shaped_tup ys) (room64 hA hk) (by simp only [noMix]; exact noMix_ints xs ys) (by simp only [PySem.Spec.same]; rw [same_ints]; exact post_pure S (.bool _) h)

-- < of tuples
theorem tuple_ltAt (l b : Addr) (items items2 : Array Value) (n n2 : Nat) (dd dd2 : Option Addr) (sl sl2 : Array (Option Value)) (xs ys : List Int) (hx : IntsAre items.toList xs) (hy : IntsAre items2.toList ys) :
    Meets (Builtin.«tuple.__lt__» ⟨[.ref l, .ref b], []⟩)
      (fun A R s => s.heap.get? l = some { cls := .type "tuple", dict := dd, data := .seq items n, slots := sl } ∧ s.heap.get? b = some { cls := .type "tuple", dict := dd2, data := .seq items2 n2, slots := sl2 } ∧
        R (.ok (.ret (.bool (decide (xs < ys))))) s) :=
  .of_wp fun prog w A R s h => by
    obtain ⟨hp, g, d, tk, os⟩ := s; obtain ⟨hl, hb, h⟩ := h
    have f2 := AutoSeq1.sub_tuple_tuple
    wp_walk using wpAny_loadPart' hl, wpAny_loadPart' hb, wpAny_forIn_list _ (fun rest b s' => b.1 = none ∧ s' = ⟨hp, g, d, tk, os⟩ ∧ ∃ (us vs : List Value) (xs' ys' : List Int) (j : Nat), rest = us.zip vs ∧ IntsAre us xs' ∧ IntsAre vs ys' ∧ (xs' < ys' ↔ xs < ys) ∧ items.size = j + us.length ∧ items2.size = j + vs.length) _
    case turn =>
      rintro ⟨y, x⟩ rest b s' ⟨hb', rfl, us, vs, xs', ys', j, hz, hus, hvs, hlt, hj1, hj2⟩
      cases hus with
      | nil => simp at hz
      | cons nx tx hus' =>
        cases hvs with
        | nil => simp at hz
        | cons ny ty hvs' =>
          rename_i us0 xs0 vs0 ys0
          rw [List.zip_cons_cons] at hz
          injection hz with hyx hrest
          injection hyx with hy hx'
          subst hy hx'
          refine wpAny_bind (wpAny_eqBool_int ?_)
          by_cases hn : nx = ny
          · subst hn
            simp only [beq_self_eq_true]
            wp_walk
            refine ⟨rfl, rfl, us0, vs0, xs0, ys0, j + 1, hrest, hus', hvs', ?_, by simp at hj1; omega, by simp at hj2; omega⟩
            rw [← hlt, List.cons_lt_cons_iff]
            simp
          · have e : (nx == ny) = false := by simpa using hn
            rw [e]
            refine wpAny_bind (wpAny_rule (wpAny_bind (show wpAny _ _ (compareOp .Lt (.int nx tx) (.int ny ty)) _ _ _ from PySem.P.lt_int ?_)))
            refine wpAny_bind (wpAny_pure (wpAny_pure ?_))
            refine wpAny_pure ⟨_, rfl, ?_⟩
            have e2 : decide (nx < ny) = decide (xs < ys) := by
              rw [decide_eq_decide, ← hlt, List.cons_lt_cons_iff]
              simp [hn]
            rw [e2]; exact h
    case fin =>
      rintro ⟨b1, b2⟩ s' ⟨hb', rfl, us, vs, xs', ys', j, hz, hus, hvs, hlt, hj1, hj2⟩
      simp only at hb'
      subst hb'
      wp_walk
      refine ⟨_, rfl, ?_⟩
      have e2 : decide (items.size < items2.size) = decide (xs < ys) := by
        rw [decide_eq_decide, ← hlt]
        cases hus with
        | nil =>
          cases hvs with
          | nil => simp at hj1 hj2; simp [hj1, hj2]
          | cons ny ty hvs' => simp at hj1 hj2; simp [hj1, hj2]
        | cons nx tx hus' =>
          cases hvs with
          | nil => simp at hj1 hj2; simp [hj1, hj2]
          | cons ny ty hvs' => simp at hz
      show R (.ok (.ret (.bool (decide (items.size < items2.size))))) _
      rw [e2]; exact h
    case h =>
      exact ⟨rfl, rfl, items.toList, items2.toList, xs, ys, 0, rfl, hx, hy, Iff.rfl, by simp, by simp⟩
theorem cmp_lt_tup {xs ys : List Int} {Q : V → St → Prop} (h : Q (.bool (decide (xs < ys))) σ) : CmpOK C k F .Lt (.tup xs) (.tup ys) σ Q :=
  fun A s a' b' hA S ra rb => by
    cases ra with | tup ht hi => cases rb with | tup ht2 hi2 =>
    obtain ⟨⟨cls, dd, data, sl⟩, ho, hc, n, hd⟩ := id ht
    obtain ⟨⟨cls2, dd2, data2, sl2⟩, ho2, hc2, n2, hd2⟩ := id ht2
    simp only at hc hd hc2 hd2
    subst hc hd hc2 hd2
    have hu : A.units < cLine := by have := hA.2.2.1; omega
    exact richCompare_meets_room (op := .Lt) ⟨_, ho, rfl⟩ ⟨_, ho2, rfl⟩ PySem.F.slot_tuple_lt PySem.F.entry_tuple_lt (PySem.F.args_tuple_lt_2 _ _) (tuple_ltAt _ _ _ _ n n2 dd dd2 sl sl2 xs ys (by simpa using hi) (by simpa using hi2))
      ⟨ho, ho2, show Value.bool (decide (xs < ys)) ≠ Value.notImplemented ∧ Post C F Rep σ s Q (.bool (decide (xs < ys))) s from ⟨(fun x => nomatch x), post_pure S (.bool _) h⟩⟩ hu
end
end Mine
set_option Elab.async false
set_option linter.unusedVariables false
set_option linter.unusedSimpArgs false
namespace Mine
open PySem PySem.W PyProof.Rows

-- the whole heap as a ledger
def allNews (h : Heap) (L : Addr) : List (Addr × Obj) := (List.range h.objs.size).filterMap fun b => if b = L then none else (h.get? b).map fun o => (b, o)
theorem allNews_mem {h : Heap} {L b : Addr} {o : Obj} (hb : b ≠ L) (ho : h.get? b = some o) : (b, o) ∈ allNews h L :=
  List.mem_filterMap.mpr ⟨b, List.mem_range.mpr (Heap.lt_size ho), by rw [if_neg hb, ho]; rfl⟩
theorem allNews_of {h : Heap} {L : Addr} {p : Addr × Obj} (hp : p ∈ allNews h L) : h.get? p.1 = some p.2 ∧ p.1 ≠ L := by
  obtain ⟨b, _, e⟩ := List.mem_filterMap.mp hp
  by_cases hb : b = L
  · rw [if_pos hb] at e; cases e
  · rw [if_neg hb] at e
    obtain ⟨o, ho, e⟩ := Option.map_eq_some_iff.mp e
    subst e
    exact ⟨ho, hb⟩
theorem empty_get (b : Addr) : ({} : Heap).get? b = none := by
  show (match (#[] : Array Obj)[b]? with | some ⟨_, _, .freed, _⟩ => none | o => o) = none
  simp
theorem fr_empty {h : Heap} {L : Addr} {m : Str → Option Value} (hn : h.Ns L m) : Fr {} L h m := ⟨hn, (fun b o e => by rw [empty_get] at e; cases e), Nat.zero_le _⟩
theorem news_all (h : Heap) (L : Addr) : News {} L h (allNews h L) := fun p hp => ⟨(allNews_of hp).1, (allNews_of hp).2, empty_get _⟩

section
variable {C : Cx} {k : Nat} {F : FE} {σ : St}

/-- behind a rule of the ledger's -/
theorem Sim.ledger {s : Shared} {h' : Heap} {m : Str → Option Value} (S : Sim C.GB F σ s.heap) (hn : s.heap.Ns F.env.locals m) (hl : ∀ x v, σ.loc.lookup x = some v → ∃ v', Place F.env m s.heap x v' ∧ Rep s.heap v v')
    (F' : Fr {} F.env.locals h' m) (N' : News {} F.env.locals h' (allNews s.heap F.env.locals)) : Sim C.GB F σ h' ∧ (∀ b o, b ≠ F.env.locals → s.heap.get? b = some o → h'.get? b = some o) := by
  have kp : ∀ b o, b ≠ F.env.locals → s.heap.get? b = some o → h'.get? b = some o := fun b o hb e => (N' (b, o) (allNews_mem hb e)).1
  have ext : Heap.ExtBut F.env.locals s.heap h' := fun b o hb e => kp b o hb e
  have hnt : ∀ o, s.heap.get? F.env.locals = some o → ¬ FrzO o := fun o ho hf => frz_not_dict ho hf hn
  refine ⟨{
    base := fun b o e => kp b o (fun q => by rw [q, S.new _ S.inOwn] at e; cases e) (S.base b o e)
    frame := by
      refine ⟨m, F'.ns, fun x v e => ?_⟩
      obtain ⟨v', hp, hr⟩ := hl x v e
      refine ⟨v', ?_, hr.keeps (not_frz_ext hnt ext)⟩
      rcases hp with hp | ⟨hk, c, hc, oc, hoc, hd⟩
      · exact .inl hp
      · exact .inr ⟨hk, c, hc, oc, kp c oc (S.local_not_cell (mem_of_lookup hc)) hoc, hd⟩
    cells := fun p hp => by obtain ⟨v₀, oc, hoc, hd⟩ := S.cells p hp; exact ⟨v₀, oc, kp _ _ (S.local_not_cell hp) hoc, hd⟩
    apart := S.apart
    sto := fun b o e => (S.sto b o e).ext (S.off b o e).2.1 hnt ext
    inOwn := S.inOwn
    ownIs := S.ownIs
    new := S.new
    off := S.off }, kp⟩
theorem Mod.ledger {s : Shared} {h' : Heap} {tk : Nat} {m : Str → Option Value} (S : Sim C.GB F σ s.heap) (hn' : h'.Ns F.env.locals m) (kp : ∀ b o, b ≠ F.env.locals → s.heap.get? b = some o → h'.get? b = some o) : Mod F.own σ σ s { s with heap := h', toks := tk } :=
  ⟨fun b o e _ nb => kp b o (fun q => nb (q ▸ S.inOwn)) e, fun b o e => .inl ⟨o, e, id⟩, fun b o e => by
    by_cases hb : b = F.env.locals
    · subst hb; obtain ⟨o', _, _, ho', _⟩ := hn'; exact ⟨o', ho'⟩
    · exact ⟨o, kp b o hb e⟩, rfl⟩

def sortI (xs : List Int) : List Int := xs.mergeSort fun a b => decide (a ≤ b)
theorem sortI_perm (xs : List Int) : (sortI xs).Perm xs := List.mergeSort_perm _ _
theorem sortI_sorted (xs : List Int) : (sortI xs).Pairwise (· ≤ ·) := by
  have := List.pairwise_mergeSort (le := fun a b : Int => decide (a ≤ b)) (by intro a b c h1 h2; simp at *; omega) (by intro a b; simp; omega) xs
  exact this.imp fun h => by simpa using h
theorem sortI_uniq {xs ys : List Int} (p : ys.Perm xs) (o : ys.Pairwise (· ≤ ·)) : ys = sortI xs := ksm_same (p.trans (sortI_perm xs).symm) o (sortI_sorted xs)
theorem sortI_length (xs : List Int) : (sortI xs).length = xs.length := (sortI_perm xs).length_eq

theorem call_sorted_ints {l : Addr} {xs : List Int} {Q : V → St → Prop} (hs : (σ.sto l).bind O.items = some (xs.map V.int)) (h64 : xs.length < 64) (h : ∀ D, σ.sto D = none → Q (.ref D) (σ.setSto D (.lst ((sortI xs).map V.int)))) :
    CallOK C k F (.opq (.builtin "sorted")) [.ref l] σ Q :=
  fun A s f' us' hA S rf ru => by
    cases rf
    cases ru with | cons ra ru => cases ra; cases ru with | nil =>
    obtain ⟨hb, vs', hL, hr⟩ := S.list hs
    obtain ⟨m, hn, hl⟩ := S.frame
    refine kso_sorted (fr_empty hn) (news_all s.heap F.env.locals) hL (ints_reps hr) h64 fun D ws' ns' c h' F' N' hlt hi hlen hperm hsort _ => ?_
    have e := sortI_uniq hperm hsort
    subst e
    obtain ⟨S', kp⟩ := S.ledger hn hl F' fun p hp => N' p (.tail _ hp)
    have ho := (N' _ (.head _)).1
    have hDL := (N' _ (.head _)).2.1
    have hDn : s.heap.get? D = none := by
      cases hq : s.heap.get? D with
      | none => rfl
      | some o => exact absurd (hlt (D, o) (allNews_mem hDL hq)) (Nat.lt_irrefl _)
    have hgb : C.GB.get? D = none := by
      cases hq : C.GB.get? D with
      | none => rfl
      | some o => have := S.base D o hq; rw [hDn] at this; cases this
    refine ⟨.ref D, σ.setSto D (.lst ((sortI xs).map V.int)), .ref D, S'.adopt ⟨by rw [List.length_map, sortI_length]; simpa using hb, ws', c, ho, reps_ints hi⟩ hgb hDL fun p hp q => ?_, (Mod.ledger (tk := s.toks) S F'.ns kp).adopt hDn, h D (S.fresh_none hDn)⟩
    obtain ⟨v₀, oc, hoc, _⟩ := S.cells p hp
    rw [q, hDn] at hoc; cases hoc
end
end Mine
set_option Elab.async false
set_option linter.unusedVariables false
set_option linter.unusedSimpArgs false
namespace Mine
open PySem PySem.W PyProof.Rows

-- the text's defs
def isDef (n : Str) : Stmt → Bool
  | .FunctionDef m _ _ _ _ _ _ _ _ _ => m == n
  | _ => false
def stOf (p : Program) (n : Str) : Stmt := (p.main.body.find? (isDef n)).getD (.Pass ⟨0, 0, 0, 0⟩)
def bodyOf : Stmt → List Stmt
  | .FunctionDef _ _ b _ _ _ _ _ _ _ => b
  | _ => []
def scopeOf : Stmt → Scope
  | .FunctionDef _ _ _ _ _ _ s _ _ _ => s
  | _ => default
def paramsOf : Stmt → Arguments
  | .FunctionDef _ a _ _ _ _ _ _ _ _ => a
  | _ => default
def nameOf : Stmt → Str
  | .FunctionDef n _ _ _ _ _ _ _ _ _ => n
  | _ => Str.empty
def fdOf (st : Stmt) (pm cd doc : Value) : FuncData := Calls.docDef (nameOf st) (paramsOf st) (bodyOf st) (scopeOf st) pm cd doc
def namesOf (st : Stmt) : List Str := (paramsOf st).args.map (·.arg)
/-- a def of the text stands under its name -/
def Fn (C : Cx) (p : Program) (n : Str) (a : Addr) : Prop := ∃ pm cd doc, FnAt C a (fdOf (stOf p n) pm cd doc) (bodyOf (stOf p n)) (namesOf (stOf p n))

/-- what the elements' order is -/
structure Ord (C : Cx) (E : V → Prop) (lt : V → V → Bool) (P : (Addr → Option O) → Prop) : Prop where
  cmp : ∀ (k : Nat) (F : FE) (σ : St) (x y : V) (Q : V → St → Prop), P σ.sto → E x → E y → Q (.bool (lt x y)) σ → CmpOK C k F .Lt x y σ Q

theorem getD_mem {l : List V} {i : Nat} (h : i < l.length) : l.getD i .none ∈ l := by simp [h]
def sdGo (lt : V → V → Bool) (x : V) (sp p : Nat) (vs : List V) : List V :=
  if h : sp < p then
    if lt x (vs.getD ((p - 1) / 2) .none) then sdGo lt x sp ((p - 1) / 2) (vs.set p (vs.getD ((p - 1) / 2) .none)) else vs.set p x
  else vs.set p x
termination_by p
decreasing_by omega
theorem sdGo_length (lt : V → V → Bool) (x : V) (sp p : Nat) (vs : List V) : (sdGo lt x sp p vs).length = vs.length := by
  induction p using Nat.strongRecOn generalizing vs with
  | ind p ih =>
    rw [sdGo]
    split
    · split
      · rw [ih _ (by omega)]; simp
      · simp
    · simp
theorem sdGo_mem (lt : V → V → Bool) (x : V) (sp p : Nat) (vs : List V) (E : V → Prop) (hx : E x) (hp : p < vs.length) (h : ∀ v ∈ vs, E v) : ∀ v ∈ sdGo lt x sp p vs, E v := by
  induction p using Nat.strongRecOn generalizing vs with
  | ind p ih =>
    rw [sdGo]
    have hset : ∀ (y : V) (q : Nat), E y → ∀ v ∈ vs.set q y, E v := fun y q hy v hv => by
      rcases List.mem_or_eq_of_mem_set hv with a | a
      · exact h v a
      · exact a ▸ hy
    split
    · split
      · exact ih _ (by omega) _ (by simp; omega) (hset _ _ (h _ (getD_mem (by omega))))
      · exact hset _ _ hx
    · exact hset _ _ hx

/-- the lesser child -/
def suPick (lt : V → V → Bool) (n : Nat) (vs : List V) (p : Nat) : Nat :=
  if 2 * p + 2 < n ∧ lt (vs.getD (2 * p + 1) .none) (vs.getD (2 * p + 2) .none) = false then 2 * p + 2 else 2 * p + 1
theorem suPick_lt (lt : V → V → Bool) (n : Nat) (vs : List V) (p : Nat) (h : 2 * p + 1 < n) : suPick lt n vs p < n ∧ p < suPick lt n vs p := by
  unfold suPick
  split <;> omega
def suGo (lt : V → V → Bool) (n p : Nat) (vs : List V) : List V × Nat :=
  if h : 2 * p + 1 < n then suGo lt n (suPick lt n vs p) (vs.set p (vs.getD (suPick lt n vs p) .none)) else (vs, p)
termination_by n - p
decreasing_by have := suPick_lt lt n vs p h; omega
def siftup (lt : V → V → Bool) (vs : List V) (p : Nat) : List V :=
  sdGo lt (vs.getD p .none) p (suGo lt vs.length p vs).2 ((suGo lt vs.length p vs).1.set (suGo lt vs.length p vs).2 (vs.getD p .none))
end Mine
set_option Elab.async false
set_option linter.unusedVariables false
set_option linter.unusedSimpArgs false
namespace Mine
open PySem PySem.W PyProof.Rows

section
variable {C : Cx} {k : Nat} {F : FE} {σ : St}

-- several targets
theorem s_asgtup {es : List Expr} {n : Nat} {tp p : Pos} {e : Expr} {Q : Fl → St → Prop} (h : TE C k F e σ fun v σ₁ => AsgOK C k F (.Tuple es n tp) v σ₁ fun σ₂ => Q .next σ₂)
    (hs : swapsWithSole [.Tuple es n tp] e p.line F.env = pure false := by rfl) (hw : swappedStores [.Tuple es n tp] e F.env = pure none := by rfl) : TS C k F (.Assign [.Tuple es n tp] e p) σ Q :=
  fun A s hA S => Assign_Tuple (go (h A s hA S) fun v v' σ₁ s₁ rv S₁ M₁ h₁ => go (h₁ A s₁ v' hA S₁ rv) fun _ _ σ₂ s₂ _ S₂ M₂ h₂ => ⟨_, σ₂, .next, S₂, M₁.trans S₁ M₂, h₂⟩) hs hw
-- the law's own call
theorem law_call {a : Addr} {fd : FuncData} {body : List Stmt} {names : List Str} {vs : List V} {vs' : List Value} {sto : Addr → Option O} {A : Around} {s : Shared} {Q : V → Prop} (cx : CxOk C) (f : FnAt C a fd body names) (hlen : vs.length = names.length)
    (hA : Room (k + 1) ⟨default, [], []⟩ A) (hb : ∀ b o, C.GB.get? b = some o → s.heap.get? b = some o) (hs : ∀ b o, sto b = some o → o.isMut = false ∧ ORep s.heap b o) (rv : Reps s.heap vs vs')
    (h : ∀ L, TX C k (frameOf fd L a []) body ⟨names.zip vs, sto⟩ fun fl σ' => Q (retV fl)) :
    codeAny (model C.prog C.w) A (.call (.ref a) ⟨vs', []⟩) (fun r s' => ∃ v v', r = .ok (.ret v') ∧ Rep s'.heap v v' ∧ Q v ∧ (∀ b o, s.heap.get? b = some o → s'.heap.get? b = some o) ∧ s' = { s with heap := s'.heap, toks := s'.toks }) s := by
  obtain ⟨o, ho, hd⟩ := f.obj
  have hsz : ∀ b ob, s.heap.get? b = some ob → b < s.heap.objs.size := fun b ob e => Heap.lt_size e
  have hbind := f.bind vs' (by rw [rv.length, hlen])
  refine codeAny_call_cells (fd := fd) (body := body) (binds := names.zip vs') (Nat.lt_of_le_of_lt (Nat.le_add_right _ _) hA.2.1) (hb _ _ ho) hd (cx.nolimit.keeps hb) ?hcd f.body hbind f.clo ?hkind (fun s₁ x => ?hb) f.co f.gen f.kind
  case hcd =>
    obtain ⟨c, oc, ws, tq, h1, h2, h3⟩ := f.code
    exact ⟨c, oc, ws, tq, h1, hb _ _ h2, h3⟩
  case hkind =>
    intro y hy
    have hyn : y.1 ∈ names := by obtain ⟨y1, y2⟩ := y; exact (List.of_mem_zip hy).1
    rcases f.kinds _ hyn with q | ⟨q, q'⟩
    · exact .inl q
    · refine .inr ⟨q, ?_⟩
      rw [cellsFrom_names fd.scope.names 0 (s.heap.objs.size + 1) [] [] rfl] at q'
      obtain ⟨p, hp, e⟩ := List.mem_map.mp q'
      have hnd : ((cellsFrom (s.heap.objs.size + 1) fd.scope.names []).map (·.1)).Nodup := by
        rw [cellsFrom_names fd.scope.names (s.heap.objs.size + 1) 0 [] [] rfl]; exact f.cnodup
      rw [← e, lookup_of_nodup hnd p hp]; rfl
  case hb =>
    have hnd : ((callEnvC fd s.heap.objs.size a).cells.map (·.1)).Nodup := by
      show ((cellsFrom (s.heap.objs.size + 1) fd.scope.names []).map (·.1)).Nodup
      rw [cellsFrom_names fd.scope.names (s.heap.objs.size + 1) 0 [] [] rfl]; exact f.cnodup
    have hab : ∀ p ∈ (callEnvC fd s.heap.objs.size a).cells, s.heap.objs.size < p.2 := fun p hp => x.above p.1 p.2 hp
    have keep := x.toInCall.keep
    have hown : ∀ b ∈ (frameOf fd s.heap.objs.size a []).own, s.heap.objs.size ≤ b := fun b hb => by
      rcases List.mem_cons.mp hb with e | hb
      · exact Nat.le_of_eq e.symm
      · obtain ⟨p, hp, e⟩ := List.mem_map.mp hb
        rw [← e]; exact Nat.le_of_lt (hab p hp)
    have hnone : ∀ b, s.heap.objs.size ≤ b → s.heap.get? b = none := fun b hb => by
      cases hq : s.heap.get? b with
      | none => rfl
      | some ob => exact absurd (hsz b ob hq) (Nat.not_lt.mpr hb)
    have hgb : ∀ b, s.heap.objs.size ≤ b → C.GB.get? b = none := fun b hb' => by
      cases hq : C.GB.get? b with
      | none => rfl
      | some ob => have := hb b ob hq; rw [hnone b hb'] at this; cases this
    have S₁ : Sim C.GB (frameOf fd s.heap.objs.size a []) ⟨names.zip vs, sto⟩ s₁.heap := {
      base := fun b o e => keep b o (hb b o e)
      frame := by
        refine ⟨_, x.toInCall.ns, fun y v e => ?_⟩
        obtain ⟨v', r, hl, hc⟩ := bind_in (h := s.heap) (callEnvC fd s.heap.objs.size a).kindOf names vs vs' (fun _ => none) (fun _ => none) f.nodup rv y v e
        refine ⟨v', ?_, r.keeps (frz_of_keeps keep)⟩
        have hy : y ∈ names := (List.of_mem_zip (mem_of_lookup e)).1
        rcases f.kinds y hy with q | ⟨q, q'⟩
        · exact .inl ⟨q, hl q⟩
        · refine .inr ⟨.inl q, ?_⟩
          rw [cellsFrom_names fd.scope.names 0 (s.heap.objs.size + 1) [] [] rfl] at q'
          obtain ⟨p, hp, ep⟩ := List.mem_map.mp q'
          have hlk := lookup_of_nodup hnd p hp
          rw [ep] at hlk
          refine ⟨p.2, hlk, ?_⟩
          have := x.cell y p.2 hlk
          rwa [hc (by show fd.scope.names.lookup y ≠ _; rw [q]; decide)] at this
      cells := fun p hp => ⟨_, x.cell p.1 p.2 (lookup_of_nodup hnd p hp)⟩
      apart := x.apart
      sto := fun b ob e => by
        obtain ⟨hm, hr⟩ := hs b ob e
        cases ob with
        | lst vs => cases hm
        | raw o => cases hm
        | rol vs =>
          obtain ⟨hl, vs', hL, hr⟩ := hr
          obtain ⟨o', ho', r⟩ := hL
          exact ⟨hl, vs', ⟨o', keep _ _ ho', r⟩, hr.keeps (frz_of_keeps keep)⟩
      inOwn := .head _
      ownIs := fun b hb => by
        rcases List.mem_cons.mp hb with e | hb
        · exact .inl e
        · obtain ⟨p, hp, e⟩ := List.mem_map.mp hb; exact .inr ⟨p, hp, e⟩
      new := fun b hb => hgb b (hown b hb)
      off := fun b ob e => by
        obtain ⟨hm, hr⟩ := hs b ob e
        obtain ⟨o', ho'⟩ : ∃ o', s.heap.get? b = some o' := by
          cases ob with
          | lst vs => cases hm
          | raw o => cases hm
          | rol vs => obtain ⟨_, _, ⟨o', ho', _⟩, _⟩ := hr; exact ⟨o', ho'⟩
        have hlt := hsz b o' ho'
        exact ⟨fun q => absurd q (by rw [hm]; exact Bool.noConfusion), Nat.ne_of_lt hlt, fun p hp q => by have := hab p hp; rw [q] at this; exact absurd hlt (Nat.lt_asymm this)⟩ }
    have hA' : Room k (frameOf fd s.heap.objs.size a []) (A.deeper (callEnvC fd s.heap.objs.size a)) := ⟨hA.1, by have := hA.2.1; show A.depth + 1 + k < _; omega, by have := hA.2.2.1; show A.units + 3 + 10 * k + 5 < _; omega, by show A.frames.map _ = _; rw [hA.2.2.2]; rfl⟩
    refine wpAny_mono (h s.heap.objs.size _ s₁ hA' S₁) (fun fl' s' ⟨fl, σ', rfl', S', M', hq⟩ => ?_) fun _ _ z => z.elim
    have hb₁ : ∀ b ob, s.heap.get? b = some ob → b ∉ (frameOf fd s.heap.objs.size a []).own := fun b ob e hb => absurd (hsz b ob e) (Nat.not_lt.mpr (hown b hb))
    have kp : ∀ b ob, s.heap.get? b = some ob → s'.heap.get? b = some ob := fun b ob e => M'.keep b ob (keep b ob e) (fun o' q => (hs b o' q).1) (hb₁ b ob e)
    have rest : s' = { s with heap := s'.heap, toks := s'.toks } := by
      obtain ⟨h₁, tk, e⟩ := x.toInCall.same
      rw [M'.rest, e]
    cases rfl' with
    | next => exact ⟨.none, _, rfl, .none, hq, kp, rest⟩
    | brk => exact ⟨.none, _, rfl, .none, hq, kp, rest⟩
    | cont => exact ⟨.none, _, rfl, .none, hq, kp, rest⟩
    | ret r => exact ⟨_, _, rfl, r, hq, kp, rest⟩

/-- the facts about a def that its text decides -/
structure DefOk (st : Stmt) : Prop where
  kind : (scopeOf st).kind = .function
  co : (scopeOf st).isCoroutine = false
  gen : (scopeOf st).isGenerator = false
  nodup : (namesOf st).Nodup
  cnodup : ((cellsFrom 0 (scopeOf st).names []).map (·.1)).Nodup
  kinds : ∀ x ∈ namesOf st, (scopeOf st).names.lookup x = some .local ∨ ((scopeOf st).names.lookup x = some .cell ∧ x ∈ (cellsFrom 0 (scopeOf st).names []).map (·.1))
  bind : ∀ (pm cd doc : Value) (vs : List Value), vs.length = (namesOf st).length → bindArgs (fdOf st pm cd doc) ⟨vs, []⟩ = pure ((namesOf st).zip vs)

theorem fn_of_top {p pw : Program} {loose : List Str} {mean : ExcName → Option Value} {mg mb : Str → Option Value} {h : Heap} {n : Str} (T : Top p loose mean mg mb h) (d : DefRec) (hd : d ∈ recsOf p)
    (h1 : d.name = n) (h2 : d.params = paramsOf (stOf pw n)) (h3 : d.body = bodyOf (stOf pw n)) (h4 : d.scope = scopeOf (stOf pw n)) (h5 : nameOf (stOf pw n) = n) (ok : DefOk (stOf pw n)) :
    ∃ a, mg n = some (.ref a) ∧ ∀ prog w GT, Fn ⟨prog, w, h, mg, mb, GT⟩ pw n a := by
  obtain ⟨a, o, pm, cd, doc, e1, e2, e3, e4⟩ := T.fn d hd
  rw [h1] at e1
  refine ⟨a, e1, fun prog w GT => ⟨pm, cd, doc, ⟨o, e2, ?_⟩, ?_, rfl, rfl, rfl, rfl, ok.kind, ok.co, ok.gen, ok.nodup, ok.cnodup, ok.kinds, ok.bind pm cd doc⟩⟩
  · rw [e3, h1, h2, h3, h4]; unfold fdOf; rw [h5]
  · show h.CodeRec cd (nameOf (stOf pw n))
    rw [h5, ← h1]; exact e4
end
end Mine
set_option Elab.async false
set_option linter.unusedVariables false
set_option linter.unusedSimpArgs false
namespace Mine
open PySem PySem.W PyProof.Rows

/-- an order on the elements -/
structure SWO (E : V → Prop) (lt : V → V → Bool) : Prop where
  asymm : ∀ x y, E x → E y → lt x y = true → lt y x = false
  trans : ∀ x y z, E x → E y → E z → lt y x = false → lt z y = false → lt z x = false
theorem SWO.lt_le {E : V → Prop} {lt : V → V → Bool} (o : SWO E lt) {x y z : V} (hx : E x) (hy : E y) (hz : E z) (h1 : lt x y = true) (h2 : lt z y = false) : lt z x = false :=
  o.trans x y z hx hy hz (o.asymm x y hx hy h1) h2
theorem SWO.refl {E : V → Prop} {lt : V → V → Bool} (o : SWO E lt) {x : V} (hx : E x) : lt x x = false := by
  cases h : lt x x with
  | false => rfl
  | true => have q := o.asymm x x hx hx h; rw [h] at q; exact q

abbrev gt (vs : List V) (i : Nat) : V := vs.getD i .none
theorem gt_set (vs : List V) (i j : Nat) (x : V) : gt (vs.set i x) j = if j = i ∧ i < vs.length then x else gt vs j := by
  unfold gt
  simp only [List.getD_eq_getElem?_getD, List.getElem?_set]
  by_cases h : i = j
  · subst h
    by_cases hl : i < vs.length
    · simp [hl]
    · simp [hl]
  · simp [h, Ne.symm h]
theorem gt_set_same {vs : List V} {i : Nat} {x : V} (h : i < vs.length) : gt (vs.set i x) i = x := by rw [gt_set, if_pos ⟨rfl, h⟩]
theorem gt_set_ne {vs : List V} {i j : Nat} {x : V} (h : j ≠ i) : gt (vs.set i x) j = gt vs j := by rw [gt_set, if_neg (fun q => h q.1)]
theorem gt_mem {vs : List V} {i : Nat} (h : i < vs.length) : gt vs i ∈ vs := getD_mem h

/-- the heap's order from a place on -/
def Heapd (lt : V → V → Bool) (s : Nat) (vs : List V) : Prop := ∀ i, i < vs.length → 0 < i → s ≤ (i - 1) / 2 → lt (gt vs i) (gt vs ((i - 1) / 2)) = false
inductive Desc (s : Nat) : Nat → Prop
  | here : Desc s s
  | down {p : Nat} : 0 < p → Desc s ((p - 1) / 2) → Desc s p
theorem Desc.le {s p : Nat} (d : Desc s p) : s ≤ p := by
  induction d with
  | here => exact Nat.le_refl _
  | down _ _ ih => omega
theorem Desc.up {s p : Nat} (d : Desc s p) (h : s < p) : Desc s ((p - 1) / 2) := by
  cases d with
  | here => omega
  | down _ d => exact d
theorem Desc.zero : ∀ p, Desc 0 p := fun p => by
  induction p using Nat.strongRecOn with
  | ind p ih =>
    cases p with
    | zero => exact .here
    | succ p => exact .down (by omega) (ih _ (by omega))

section
variable {E : V → Prop} {lt : V → V → Bool}

theorem swap_perm {vs : List V} {q c : Nat} {x : V} (hq : q < vs.length) (hc : c < vs.length) (hne : c ≠ q) : ((vs.set q (gt vs c)).set c x).Perm (vs.set q x) := by
  have h := (Array.swap_perm (xs := (vs.set q x).toArray) (i := q) (j := c) (by simpa using hq) (by simpa using hc)).toList
  simp only [Array.swap_def, Array.toList_set, List.getElem_toArray] at h
  have e1 : (vs.set q x)[q]'(by simpa using hq) = x := by simp
  have e2 : (vs.set q x)[c]'(by simpa using hc) = gt vs c := by
    rw [List.getElem_set_ne (Ne.symm hne)]; unfold gt; simp [hc]
  simp only [e1, e2, List.set_set] at h
  exact h

theorem sdGo_perm (x : V) (sp : Nat) : ∀ (p : Nat) (vs : List V), p < vs.length → (sdGo lt x sp p vs).Perm (vs.set p x) := by
  intro p
  induction p using Nat.strongRecOn with
  | ind p ih =>
    intro vs hp
    rw [sdGo]
    split
    · split
      · refine (ih _ (by omega) _ (by simp; omega)).trans ?_
        exact swap_perm hp (by omega) (by omega)
      · exact .refl _
    · exact .refl _

theorem sdGo_heap (o : SWO E lt) {x : V} (hx : E x) (sp : Nat) : ∀ (p : Nat) (vs : List V), (∀ v ∈ vs, E v) → p < vs.length → Desc sp p →
    (∀ i, i < vs.length → 0 < i → sp ≤ (i - 1) / 2 → i ≠ p → (i - 1) / 2 ≠ p → lt (gt vs i) (gt vs ((i - 1) / 2)) = false) →
    (∀ i, i < vs.length → 0 < i → (i - 1) / 2 = p → lt (gt vs i) x = false ∧ (sp < p → lt (gt vs i) (gt vs ((p - 1) / 2)) = false)) →
    Heapd lt sp (sdGo lt x sp p vs) := by
  intro p
  induction p using Nat.strongRecOn with
  | ind p ih =>
    intro vs hE hp hd hA hB
    have hEi : ∀ i, i < vs.length → E (gt vs i) := fun i hi => hE _ (gt_mem hi)
    have last : (sp < p → lt x (gt vs ((p - 1) / 2)) = false) → Heapd lt sp (vs.set p x) := by
      intro hlast i hi h0 hs
      rw [List.length_set] at hi
      by_cases hip : i = p
      · subst hip
        rw [gt_set_same hp, gt_set_ne (by omega)]
        exact hlast (by omega)
      · rw [gt_set_ne hip]
        by_cases hpp : (i - 1) / 2 = p
        · rw [hpp, gt_set_same hp]
          exact (hB i hi h0 hpp).1
        · rw [gt_set_ne hpp]
          exact hA i hi h0 hs hip hpp
    rw [sdGo]
    split
    · rename_i hsp
      have hq : (p - 1) / 2 < p := by omega
      have hdq := hd.up hsp
      have hsq := hdq.le
      split
      · rename_i hlt
        have hlt' : lt x (gt vs ((p - 1) / 2)) = true := hlt
        have hmove : vs.getD ((p - 1) / 2) .none = gt vs ((p - 1) / 2) := rfl
        rw [hmove]
        refine ih _ hq _ ?_ (by simp; omega) hdq ?_ ?_
        · intro v hv
          rcases List.mem_or_eq_of_mem_set hv with a | a
          · exact hE v a
          · exact a ▸ hEi _ (by omega)
        · intro i hi h0 hs hi1 hi2
          rw [List.length_set] at hi
          have hip : i ≠ p := fun e => hi2 (by rw [e])
          rw [gt_set_ne hip]
          by_cases hpp : (i - 1) / 2 = p
          · rw [hpp, gt_set_same hp]
            exact (hB i hi h0 hpp).2 hsp
          · rw [gt_set_ne hpp]
            exact hA i hi h0 hs hip hpp
        · intro i hi h0 hpar
          rw [List.length_set] at hi
          by_cases hip : i = p
          · subst hip
            rw [gt_set_same hp]
            refine ⟨o.asymm _ _ hx (hEi _ (by omega)) hlt', fun hs2 => ?_⟩
            rw [gt_set_ne (by omega)]
            exact hA _ (by omega) (by omega) (by have := (hdq.up hs2).le; omega) (by omega) (by omega)
          · rw [gt_set_ne hip]
            have h1 : lt (gt vs i) (gt vs ((p - 1) / 2)) = false := by
              have := hA i hi h0 (by omega) hip (by omega)
              rwa [hpar] at this
            refine ⟨o.lt_le hx (hEi _ (by omega)) (hEi _ hi) hlt' h1, fun hs2 => ?_⟩
            rw [gt_set_ne (by omega)]
            exact o.trans _ _ _ (hEi _ (by omega)) (hEi _ (by omega)) (hEi _ hi) (hA _ (by omega) (by omega) (by have := (hdq.up hs2).le; omega) (by omega) (by omega)) h1
      · rename_i hlt
        exact last fun _ => by simpa using hlt
    · rename_i hsp
      exact last fun h => absurd h hsp

theorem suGo_spec (o : SWO E lt) (n : Nat) (x : V) (sp : Nat) : ∀ (m p : Nat) (vs : List V), m = n - p → (∀ v ∈ vs, E v) → vs.length = n → p < n → Desc sp p →
    (suGo lt n p vs).1.length = n ∧ (suGo lt n p vs).2 < n ∧ n ≤ 2 * (suGo lt n p vs).2 + 1 ∧ Desc sp (suGo lt n p vs).2 ∧ (∀ v ∈ (suGo lt n p vs).1, E v) ∧ ((suGo lt n p vs).1.set (suGo lt n p vs).2 x).Perm (vs.set p x) ∧
    ((∀ i, i < n → 0 < i → sp ≤ (i - 1) / 2 → i ≠ p → (i - 1) / 2 ≠ p → lt (gt vs i) (gt vs ((i - 1) / 2)) = false) →
      (∀ i, i < n → 0 < i → (i - 1) / 2 = p → sp < p → lt (gt vs i) (gt vs ((p - 1) / 2)) = false) →
      ∀ i, i < n → 0 < i → sp ≤ (i - 1) / 2 → i ≠ (suGo lt n p vs).2 → (i - 1) / 2 ≠ (suGo lt n p vs).2 → lt (gt (suGo lt n p vs).1 i) (gt (suGo lt n p vs).1 ((i - 1) / 2)) = false) := by
  intro m
  induction m using Nat.strongRecOn with
  | ind m ih =>
    intro p vs hm hE hlen hp hd
    by_cases h : 2 * p + 1 < n
    · rw [suGo, dif_pos h]
      have hpk := suPick_lt lt n vs p h
      have hmin : ∀ i, i < n → 0 < i → (i - 1) / 2 = p → lt (gt vs i) (gt vs (suPick lt n vs p)) = false := by
        intro i hi h0 hpar
        have hEl := hE _ (gt_mem (i := 2 * p + 1) (by omega))
        unfold suPick
        by_cases hr : 2 * p + 2 < n
        · have hEr := hE _ (gt_mem (i := 2 * p + 2) (by omega))
          cases hb : lt (vs.getD (2 * p + 1) .none) (vs.getD (2 * p + 2) .none) with
          | true =>
            rw [if_neg (by simp)]
            rcases (by omega : i = 2 * p + 1 ∨ i = 2 * p + 2) with e | e
            · subst e; exact o.refl hEl
            · subst e; exact o.asymm _ _ hEl hEr hb
          | false =>
            rw [if_pos ⟨hr, rfl⟩]
            rcases (by omega : i = 2 * p + 1 ∨ i = 2 * p + 2) with e | e
            · subst e; exact hb
            · subst e; exact o.refl hEr
        · rw [if_neg (by omega)]
          have : i = 2 * p + 1 := by omega
          subst this; exact o.refl hEl
      have hpar : (suPick lt n vs p - 1) / 2 = p := by unfold suPick; split <;> omega
      generalize suPick lt n vs p = c at hpk hmin hpar ⊢
      have hE2 : ∀ v ∈ vs.set p (vs.getD c .none), E v := fun v hv => by
        rcases List.mem_or_eq_of_mem_set hv with a | a
        · exact hE v a
        · exact a ▸ hE _ (getD_mem (by omega))
      obtain ⟨h1, h2, h3, h4, h5, h6, h7⟩ := ih (n - c) (by omega) c (vs.set p (vs.getD c .none)) rfl hE2 (by simpa using hlen) hpk.1 (.down (by omega) (by rw [hpar]; exact hd))
      refine ⟨h1, h2, h3, h4, h5, h6.trans (swap_perm (by omega) (by omega) (by omega)), fun hA hB => h7 ?_ ?_⟩
      · intro i hi h0 hs hi1 hi2
        have hmove : vs.getD c .none = gt vs c := rfl
        rw [hmove]
        by_cases hip : i = p
        · subst hip
          rw [gt_set_same (by omega), gt_set_ne (by omega)]
          exact hB c hpk.1 (by omega) hpar (by omega)
        · rw [gt_set_ne hip]
          by_cases hpp : (i - 1) / 2 = p
          · rw [hpp, gt_set_same (by omega)]
            exact hmin i hi h0 hpp
          · rw [gt_set_ne hpp]
            exact hA i hi h0 hs hip hpp
      · intro i hi h0 hpi hs
        rw [hpar]
        have hmove : vs.getD c .none = gt vs c := rfl
        rw [hmove, gt_set_same (by omega), gt_set_ne (by omega)]
        have := hA i hi h0 (by have := hd.le; omega) (by omega) (by omega)
        rwa [hpi] at this
    · rw [suGo, dif_neg h]
      exact ⟨hlen, hp, by omega, hd, hE, .refl _, fun hA _ => hA⟩

theorem siftup_perm (o : SWO E lt) {vs : List V} {p : Nat} (hE : ∀ v ∈ vs, E v) (hp : p < vs.length) : (siftup lt vs p).Perm vs := by
  obtain ⟨h1, h2, h3, h4, h5, h6, h7⟩ := suGo_spec o vs.length (vs.getD p .none) p _ p vs rfl hE rfl hp .here
  unfold siftup
  refine (sdGo_perm _ _ _ _ (by simp; omega)).trans ?_
  rw [List.set_set]
  refine h6.trans ?_
  have e : vs.set p (vs.getD p .none) = vs := by
    rw [List.getD_eq_getElem?_getD, List.getElem?_eq_getElem hp]; simp
  rw [e]
theorem siftup_heap (o : SWO E lt) {vs : List V} {p : Nat} (hE : ∀ v ∈ vs, E v) (hp : p < vs.length) (hh : Heapd lt (p + 1) vs) : Heapd lt p (siftup lt vs p) := by
  obtain ⟨h1, h2, h3, h4, h5, h6, h7⟩ := suGo_spec o vs.length (vs.getD p .none) p _ p vs rfl hE rfl hp .here
  unfold siftup
  have hx := hE _ (getD_mem hp)
  refine sdGo_heap o hx p _ _ ?_ (by simp; omega) h4 ?_ ?_
  · intro v hv
    rcases List.mem_or_eq_of_mem_set hv with a | a
    · exact h5 v a
    · exact a ▸ hx
  · intro i hi h0 hs hi1 hi2
    rw [gt_set_ne hi1, gt_set_ne hi2]
    rw [List.length_set, h1] at hi
    exact h7 (fun i hi h0 hs hi1 hi2 => hh i hi h0 (by omega)) (fun i _ _ _ hs => absurd hs (by omega)) i hi h0 hs hi1 hi2
  · intro i hi h0 hpar
    rw [List.length_set, h1] at hi
    omega
theorem heap_min (o : SWO E lt) {vs : List V} (hE : ∀ v ∈ vs, E v) (hh : Heapd lt 0 vs) : ∀ i, i < vs.length → lt (gt vs i) (gt vs 0) = false := by
  intro i
  induction i using Nat.strongRecOn with
  | ind i ih =>
    intro hi
    cases i with
    | zero => exact o.refl (hE _ (gt_mem hi))
    | succ i =>
      have h1 := hh (i + 1) hi (by omega) (by omega)
      exact o.trans _ _ _ (hE _ (gt_mem (by omega))) (hE _ (gt_mem (by omega))) (hE _ (gt_mem hi)) (ih _ (by omega) (by omega)) h1
theorem heap_min' (o : SWO E lt) {vs : List V} (hE : ∀ v ∈ vs, E v) (hh : Heapd lt 0 vs) : ∀ v ∈ vs, lt v (gt vs 0) = false := by
  intro v hv
  obtain ⟨i, hi, e⟩ := List.getElem_of_mem hv
  have := heap_min o hE hh i hi
  unfold gt at this
  rw [List.getD_eq_getElem?_getD, List.getElem?_eq_getElem hi] at this
  simpa [e] using this

/-- a push -/
def pushL (lt : V → V → Bool) (vs : List V) (x : V) : List V := sdGo lt x 0 vs.length (vs ++ [x])
theorem pushL_perm (vs : List V) (x : V) : (pushL lt vs x).Perm (x :: vs) := by
  refine (sdGo_perm _ _ _ _ (by simp)).trans ?_
  have : (vs ++ [x]).set vs.length x = vs ++ [x] := by simp
  rw [this]
  exact List.perm_append_comm (l₁ := vs) (l₂ := [x])
theorem pushL_heap (o : SWO E lt) {vs : List V} {x : V} (hE : ∀ v ∈ vs, E v) (hx : E x) (hh : Heapd lt 0 vs) : Heapd lt 0 (pushL lt vs x) := by
  have hg : ∀ i, i < vs.length → gt (vs ++ [x]) i = gt vs i := fun i hi => by
    unfold gt; simp [List.getD_eq_getElem?_getD, List.getElem?_append_left hi]
  refine sdGo_heap o hx 0 _ _ ?_ (by simp) (Desc.zero _) ?_ ?_
  · intro v hv
    rcases List.mem_append.mp hv with a | a
    · exact hE v a
    · simp at a; exact a ▸ hx
  · intro i hi h0 hs hi1 hi2
    simp at hi
    rw [hg _ (by omega), hg _ (by omega)]
    exact hh i (by omega) h0 hs
  · intro i hi h0 hpar
    simp at hi
    omega

/-- a pop: of the first, when the last has gone -/
def popL (lt : V → V → Bool) (vs : List V) (l : V) : List V := match vs with
  | [] => []
  | v :: r => siftup lt (l :: r) 0
def popV (vs : List V) (l : V) : V := match vs with
  | [] => l
  | v :: _ => v
theorem heapd_replace {vs : List V} {v l : V} (h : Heapd lt 0 (v :: vs)) : Heapd lt 1 (l :: vs) := by
  intro i hi h0 hs
  have := h i (by simpa using hi) h0 (by omega)
  obtain ⟨i, rfl⟩ : ∃ j, i = j + 1 := ⟨i - 1, by omega⟩
  obtain ⟨j, hj⟩ : ∃ j, (i + 1 - 1) / 2 = j + 1 := ⟨(i + 1 - 1) / 2 - 1, by omega⟩
  rw [hj] at this ⊢
  simpa [gt] using this
theorem heapd_prefix {vs : List V} {l : V} (h : Heapd lt 0 (vs ++ [l])) : Heapd lt 0 vs := by
  intro i hi h0 hs
  have := h i (by simp; omega) h0 hs
  have hg : ∀ i, i < vs.length → gt (vs ++ [l]) i = gt vs i := fun i hi => by
    unfold gt; simp [List.getD_eq_getElem?_getD, List.getElem?_append_left hi]
  rwa [hg _ hi, hg _ (by omega)] at this
theorem replace_heap (o : SWO E lt) {vs : List V} {v l : V} (hE : ∀ u ∈ v :: vs, E u) (hl : E l) (h : Heapd lt 0 (v :: vs)) : Heapd lt 0 (siftup lt (l :: vs) 0) :=
  siftup_heap o (fun u hu => by
    rcases List.mem_cons.mp hu with e | e
    · exact e ▸ hl
    · exact hE u (.tail _ e)) (by simp) (heapd_replace h)
theorem replace_perm (o : SWO E lt) {vs : List V} {l : V} (hE : ∀ u ∈ vs, E u) (hl : E l) : (siftup lt (l :: vs) 0).Perm (l :: vs) :=
  siftup_perm o (fun u hu => by
    rcases List.mem_cons.mp hu with e | e
    · exact e ▸ hl
    · exact hE u e) (by simp)
theorem popL_spec (o : SWO E lt) {vs : List V} {l : V} (hE : ∀ u ∈ vs ++ [l], E u) (h : Heapd lt 0 (vs ++ [l])) : (popV vs l :: popL lt vs l).Perm (vs ++ [l]) ∧ Heapd lt 0 (popL lt vs l) ∧ popV vs l = gt (vs ++ [l]) 0 := by
  cases vs with
  | nil => exact ⟨.refl _, fun i hi => absurd hi (by simp [popL]), rfl⟩
  | cons v r =>
    have hl : E l := hE l (by simp)
    have hr : ∀ u ∈ v :: r, E u := fun u hu => hE u (List.mem_append_left _ hu)
    refine ⟨.cons _ ?_, replace_heap o hr hl (heapd_prefix h), rfl⟩
    exact (replace_perm o (fun u hu => hr u (.tail _ hu)) hl).trans (List.perm_append_comm (l₁ := [l]) (l₂ := r))

/-- what is a rearrangement of an image -/
theorem perm_map_inv {α β : Type} {f : α → β} {xs : List α} {ws : List β} (h : ws.Perm (xs.map f)) : ∃ ys : List α, ys.Perm xs ∧ ws = ys.map f := by
  generalize e : xs.map f = zs at h
  induction h generalizing xs with
  | nil => 
    cases xs with
    | nil => exact ⟨[], .refl _, rfl⟩
    | cons _ _ => cases e
  | cons z _ ih =>
    cases xs with
    | nil => cases e
    | cons x xs =>
      simp at e
      obtain ⟨e1, e2⟩ := e
      obtain ⟨ys, h1, h2⟩ := ih e2
      exact ⟨x :: ys, .cons _ h1, by simp [h2, e1]⟩
  | swap a b l =>
    match xs, e with
    | x :: y :: xs, e =>
      simp at e
      obtain ⟨e1, e2, e3⟩ := e
      exact ⟨y :: x :: xs, .swap _ _ _, by simp [e1, e2, e3]⟩
  | trans _ _ ih1 ih2 =>
    obtain ⟨ys, h1, h2⟩ := ih2 e
    obtain ⟨zs, h3, h4⟩ := ih1 h2.symm
    exact ⟨zs, h3.trans h1, h4⟩
end
end Mine
set_option Elab.async false
set_option linter.unusedVariables false
set_option linter.unusedSimpArgs false
namespace Mine
open PySem PySem.W PyProof.Rows

def ltV : V → V → Bool
  | .int a, .int b => decide (a < b)
  | .tup a, .tup b => decide (a < b)
  | _, _ => false
def isI (v : V) : Prop := ∃ i, v = .int i
def isT (v : V) : Prop := ∃ xs, v = .tup xs
theorem ord_tup {C : Cx} : Ord C isT ltV (fun _ => True) := ⟨fun k F σ x y Q _ hx hy h => by
  obtain ⟨i, rfl⟩ := hx
  obtain ⟨j, rfl⟩ := hy
  exact cmp_lt_tup h⟩
theorem swo_tup : SWO isT ltV where
  asymm := by
    rintro _ _ ⟨i, rfl⟩ ⟨j, rfl⟩ h
    simp only [ltV, decide_eq_true_eq, decide_eq_false_iff_not] at *
    exact fun q => List.lt_irrefl i (List.lt_trans h q)
  trans := by
    rintro _ _ _ ⟨i, rfl⟩ ⟨j, rfl⟩ ⟨l, rfl⟩ h1 h2
    simp only [ltV, decide_eq_false_iff_not] at *
    rw [List.not_lt] at *
    exact List.le_trans h1 h2
theorem tups_isT (xs : List (List Int)) : ∀ v ∈ xs.map V.tup, isT v := fun v hv => by
  obtain ⟨i, _, e⟩ := List.mem_map.mp hv; exact ⟨i, e.symm⟩
abbrev PT : (Addr → Option O) → Prop := fun _ => True

/-- push, then pop -/
def ppL (lt : V → V → Bool) (vs : List V) (x : V) : List V := match vs with
  | [] => []
  | v :: r => if lt v x then siftup lt (x :: r) 0 else v :: r
def ppV (lt : V → V → Bool) (vs : List V) (x : V) : V := match vs with
  | [] => x
  | v :: r => if lt v x then v else x
-- lists of ints
end Mine
set_option Elab.async false
set_option linter.unusedVariables false
set_option linter.unusedSimpArgs false
namespace Mine
open PySem PySem.W PyProof.Rows

section
variable {C : Cx} {k : Nat} {F : FE} {σ : St}
-- ranges
theorem getList_at {l : Addr} {vs : List V} {sto : Addr → Option O} {i : Nat} (h : (sto l).bind O.items = some vs) : getList l i sto = some vs[i]? := by simp [getList, h]
theorem small_of {a n : Int} (ha : 0 ≤ a) (hn : n ≤ maxLen) (han : a ≤ n) : Builtin.Range.small a n 1 = true := by
  have hm : (maxLen : Int) = 1048576 := by decide
  simp [Builtin.Range.small, Builtin.Range.rangeFitsLong, Builtin.Range.rangeSize]
  omega
theorem iter_range0 {n : Nat} {P : Get → St → Prop} (hn : n ≤ maxLen) (h : P (getRange 0 n 1) σ) : IterOK C k F (.rng 0 n 1) σ P := by
  refine iter_rng (small_of (by omega) (by omega) (by omega)) ?_ h
  simp [Builtin.Range.rangeSize]; omega
-- slices
theorem part_none {Q : Option Int → St → Prop} (h : Q none σ) : PartOK C k F none σ Q := h
theorem part_some {e : Expr} {Q : Option Int → St → Prop} (h : TE C k F e σ fun v σ₁ => ∃ i, v = .int i ∧ Q (some i) σ₁) : PartOK C k F (some e) σ Q := h
theorem pickV_run (vs : List V) (lo hi : Option Int) : pickV vs lo hi none = (vs.drop (kms_lo lo vs.length)).take (kms_hi hi vs.length - kms_lo lo vs.length) := by
  unfold pickV
  rw [kms_bounds]
  simp only [sliceRange_one]
  have := pick_run vs.toArray (kms_lo lo vs.length) (kms_hi hi vs.length - kms_lo lo vs.length)
  simpa using this
theorem pickV_upto (vs : List V) {y : Int} (h : 0 ≤ y) : pickV vs none (some y) none = vs.take y.toNat := by
  rw [pickV_run]
  simp only [kms_lo, kms_hi, List.drop_zero, Nat.sub_zero]
  rw [if_neg (by omega), List.take_eq_take_iff]
  omega
theorem pickV_from (vs : List V) {x : Int} (h : 0 ≤ x) : pickV vs (some x) none none = vs.drop x.toNat := by
  rw [pickV_run]
  simp only [kms_lo, kms_hi]
  rw [if_neg (by omega)]
  rcases Nat.le_total x.toNat vs.length with q | q
  · rw [Nat.min_eq_left q, List.take_of_length_le (by simp)]
  · rw [Nat.min_eq_right q, List.drop_eq_nil_of_le (Nat.le_refl _), List.drop_eq_nil_of_le q]; simp
end

-- medians
/-- the two heaps -/
structure Med (lo up ys : List Int) : Prop where
  hl : Heapd ltV 0 (lo.map V.int)
  hu : Heapd ltV 0 (up.map V.int)
  p : (lo.map (0 - ·) ++ up).Perm ys
  le : ∀ a ∈ lo, ∀ b ∈ up, 0 - a ≤ b
end Mine
set_option Elab.async false
set_option linter.unusedVariables false
set_option linter.unusedSimpArgs false
namespace Mine
open PySem PySem.W PyProof.Rows

theorem fn_top {p pw : Program} {loose : List Str} {mean : ExcName → Option Value} {mg mb : Str → Option Value} {h : Heap} {n : Str} (T : Top p loose mean mg mb h)
    (hf : ((recsOf p).find? (fun e => e.name == n)).map (fun d => (d.name, d.params, d.body, d.scope)) = some (n, paramsOf (stOf pw n), bodyOf (stOf pw n), scopeOf (stOf pw n))) (h5 : nameOf (stOf pw n) = n) (ok : DefOk (stOf pw n)) :
    ∃ a, mg n = some (.ref a) ∧ ∀ prog w GT, Fn ⟨prog, w, h, mg, mb, GT⟩ pw n a := by
  cases hq : (recsOf p).find? (fun e => e.name == n) with
  | none => rw [hq] at hf; cases hf
  | some d =>
    rw [hq] at hf
    simp only [Option.map_some, Option.some.injEq, Prod.mk.injEq] at hf
    obtain ⟨h1, h2, h3, h4⟩ := hf
    exact fn_of_top T d (List.mem_of_find?_eq_some hq) h1 h2 h3 h4 h5 ok

/-- the globals that a text reads -/
def GtOk (mg mb : Str → Option Value) (GT : List (Str × V)) : Prop := ∀ x v, GT.lookup x = some v → ∃ v', (mg x = some v' ∨ (mg x = none ∧ mb x = some v')) ∧ ∀ h, Rep h v v'
theorem gt_nil {mg mb : Str → Option Value} : GtOk mg mb [] := fun x v e => by simp at e
theorem gt_fn {mg mb : Str → Option Value} {GT : List (Str × V)} {n : Str} {a : Addr} (hm : mg n = some (.ref a)) (r : GtOk mg mb GT) : GtOk mg mb ((n, .ref a) :: GT) := fun x v e => by
  rw [List.lookup_cons] at e
  by_cases hx : (x == n) = true
  · rw [hx] at e; cases e; rw [beq_iff_eq.mp hx]; exact ⟨_, .inl hm, fun _ => .ref a⟩
  · rw [show (x == n) = false by simpa using hx] at e; exact r x v e
theorem gt_bi {p : Program} {loose : List Str} {mean : ExcName → Option Value} {mg mb : Str → Option Value} {h : Heap} {GT : List (Str × V)} {n : Str} {v : Value} (T : Top p loose mean mg mb h)
    (hfree : (startupNames.contains n || loose.contains n || ((recsOf p).map (·.name)).contains n || ((litsOf p).map (·.1)).contains n || ((clssOf p loose).map (·.name)).contains n || (n == ("__name__" : Str))) = false) (hv : bootBuiltins n = some v) (hr : ∀ a, v ≠ .ref a) (r : GtOk mg mb GT) :
    GtOk mg mb ((n, .opq v) :: GT) := fun x u e => by
  rw [List.lookup_cons] at e
  by_cases hx : (x == n) = true
  · rw [hx] at e; cases e; rw [beq_iff_eq.mp hx]
    simp only [Bool.or_eq_false_iff] at hfree
    obtain ⟨⟨⟨⟨⟨h1, h2⟩, h3⟩, h4⟩, h5⟩, h6⟩ := hfree
    have nin : ∀ {l : List Str}, l.contains n = false → n ∉ l := fun hl hq => by
      rw [List.contains_iff_mem.mpr hq] at hl; cases hl
    exact ⟨v, .inr ⟨T.free n (nin h1) (nin h2) (nin h3) (nin h4) (nin h5), by rw [T.builtins n (fun e => by rw [e] at h6; simp at h6)]; exact hv⟩, fun _ => .opq hr⟩
  · rw [show (x == n) = false by simpa using hx] at e; exact r x u e
theorem cx_top {p : Program} {loose : List Str} {mean : ExcName → Option Value} {mg mb : Str → Option Value} {h : Heap} {GT : List (Str × V)} {prog : Program} {w : World} (T : Top p loose mean mg mb h) (hg : GtOk mg mb GT) : CxOk ⟨prog, w, h, mg, mb, GT⟩ := ⟨T.g, T.b, T.nolimit, hg⟩

/-- the end of a law -/
theorem law_done {c : ClaimW} {cl : Str → Option Addr} {mean : ExcName → Option Value} {args : List WData} {s₁ : Shared} {prog : Program} {w : World} {A : Around} {kd : Code} (hg : s₁.gens = #[]) (hn : ∀ cls, c.raises args cls = false) (hp : c.post args (.bool true) args = true)
    (h : codeAny (model prog w) A kd (fun r s' => ∃ v v', r = .ok (.ret v') ∧ Rep s'.heap v v' ∧ v = .bool true ∧ (∀ b o, s₁.heap.get? b = some o → s'.heap.get? b = some o) ∧ s' = { s₁ with heap := s'.heap, toks := s'.toks }) s₁) :
    codeAny (model prog w) A kd (GoodW c cl mean args s₁) s₁ := codeAny_mono h fun r s' ⟨v, v', e, rv, ev, kp, rest⟩ => by
  subst ev
  cases rv
  refine ⟨.inl ⟨_, .bool true, [], e, hn, .bool true, hp, unshared_nil⟩, kp, ?_, ?_⟩
  · rw [rest]
  · rw [rest]; exact hg
theorem script_sto {h : Heap} {sc : Addr} {xs : List Int} {vs : List Value} (hL : h.IsList sc vs.toArray) (hI : IntsAre vs xs) (hl : xs.length ≤ maxLen) :
    ∀ b o, (fun b => if b = sc then some (O.rol (xs.map V.int)) else none) b = some o → o.isMut = false ∧ ORep h b o := fun b o e => by
  by_cases hb : b = sc
  · subst hb
    simp at e
    subst e
    exact ⟨rfl, by simpa using hl, vs, hL, reps_ints hI⟩
  · simp [hb] at e
end Mine
set_option Elab.async false
set_option linter.unusedVariables false
set_option linter.unusedSimpArgs false
namespace Mine
open PySem PySem.W PyProof.Rows

-- reversed(range(..))
section
variable {prog : Program} {w : World} {A : Around} {E : Value → Shared → Prop} {s : Shared}
def ritObj (x left st : Int) : Obj := { cls := .type "range_iterator", data := .fields #[rawInt x, rawInt left, rawInt st] }
def revSmall (a b c : Int) : Bool := Builtin.Range.rangeFitsLong a && Builtin.Range.rangeFitsLong b && Builtin.Range.rangeFitsLong c && Builtin.Range.rangeFitsLong (-c) && Builtin.Range.rangeFitsLong (a - c) && Builtin.Range.rangeFitsLong (Builtin.Range.rangeSize a b c)
end

section
variable {C : Cx} {k : Nat} {F : FE} {σ : St}
def St.delSto (σ : St) (a : Addr) : St := { σ with sto := fun b => if b = a then none else σ.sto b }
end
end Mine
set_option Elab.async false
set_option linter.unusedVariables false
set_option linter.unusedSimpArgs false
namespace Mine
open PySem PySem.W PyProof.Rows

-- heapify
def hfyGo (lt : V → V → Bool) : Nat → List V → List V
  | 0, vs => vs
  | m + 1, vs => hfyGo lt m (siftup lt vs m)
section
variable {E : V → Prop} {lt : V → V → Bool}
theorem suGo_plain (n : Nat) : ∀ (m p : Nat) (vs : List V), m = n - p → vs.length = n → p < n → (∀ v ∈ vs, E v) → (suGo lt n p vs).1.length = n ∧ (suGo lt n p vs).2 < n ∧ ∀ v ∈ (suGo lt n p vs).1, E v := by
  intro m
  induction m using Nat.strongRecOn with
  | ind m ih =>
    intro p vs hm hlen hp hE
    by_cases h : 2 * p + 1 < n
    · rw [suGo, dif_pos h]
      have hpk := suPick_lt lt n vs p h
      refine ih (n - suPick lt n vs p) (by omega) _ _ rfl (by simpa using hlen) hpk.1 fun v hv => ?_
      rcases List.mem_or_eq_of_mem_set hv with a | a
      · exact hE v a
      · exact a ▸ hE _ (getD_mem (by omega))
    · rw [suGo, dif_neg h]; exact ⟨hlen, hp, hE⟩
theorem siftup_length (vs : List V) (p : Nat) : (siftup lt vs p).length = vs.length := by
  unfold siftup
  rw [sdGo_length, List.length_set]
  by_cases hp : p < vs.length
  · exact (suGo_plain (E := fun _ => True) (lt := lt) vs.length _ p vs rfl rfl hp fun _ _ => trivial).1
  · rw [suGo, dif_neg (by omega)]
theorem siftup_mem {vs : List V} {p : Nat} (hp : p < vs.length) (hE : ∀ v ∈ vs, E v) : ∀ v ∈ siftup lt vs p, E v := by
  obtain ⟨h1, h2, h3⟩ := suGo_plain (lt := lt) vs.length _ p vs rfl rfl hp hE
  have hx := hE _ (getD_mem hp)
  unfold siftup
  refine sdGo_mem _ _ _ _ _ E hx (by simp; omega) fun v hv => ?_
  rcases List.mem_or_eq_of_mem_set hv with a | a
  · exact h3 v a
  · exact a ▸ hx
end

-- the other way round
structure OrdM (C : Cx) (E : V → Prop) (lt : V → V → Bool) (P : (Addr → Option O) → Prop) : Prop where
  cmp : ∀ (k : Nat) (F : FE) (σ : St) (x y : V) (Q : V → St → Prop), P σ.sto → E x → E y → Q (.bool (lt y x)) σ → CmpOK C k F .Lt x y σ Q
def gtV (x y : V) : Bool := ltV y x
end Mine
set_option Elab.async false
set_option linter.unusedVariables false
set_option linter.unusedSimpArgs false
namespace Mine
open PySem PySem.W PyProof.Rows

-- an exception on its way: what it leaves alone
structure Fly (h0 : Heap) (S : List Addr) (e : Addr) (cls fl : Value) (h : Heap) : Prop where
  same : ∀ b o, h0.get? b = some o → b ∉ S → h.get? b = some o
  slots : ∀ b o, h0.get? b = some o → ∃ sl, h.get? b = some { o with slots := sl }
  new : h0.get? e = none
  exc : ∃ oe vs T oT ts, h.get? e = some oe ∧ oe.cls = cls ∧ oe.data = .fields vs ∧ vs[1]? = some (.ref T) ∧ h.get? T = some oT ∧ oT.data = .fields ts ∧ ts[3]? = some fl ∧ T ≠ e ∧ h0.get? T = none
section
variable {M : Model} {A : Around} {E : Value → Shared → Prop} {s : Shared}
end
end Mine
set_option Elab.async false
set_option linter.unusedVariables false
set_option linter.unusedSimpArgs false
namespace Mine
open PySem PySem.W PyProof.Rows

section
variable {C : Cx} {k : Nat} {F : FE} {σ : St}
-- what raises
/-- an exception came: of its class, fresh, the state before it kept -/
def XP (C : Cx) (F : FE) (σ : St) (s : Shared) (cls : String) (X : St → Prop) : Value → Shared → Prop := fun e s' =>
  ∃ ea s₀ σ', e = .ref ea ∧ Heap.NewExcOf s₀.heap s'.heap ea cls ∧ Sim C.GB F σ' s₀.heap ∧ Mod F.own σ σ' s s₀ ∧ s' = { s₀ with heap := s'.heap, toks := s'.toks } ∧ X σ'
def RT (C : Cx) (k : Nat) (F : FE) {α : Type} (t : Sem α) (σ : St) (cls : String) (X : St → Prop) : Prop :=
  ∀ A s, Room k F A → Sim C.GB F σ s.heap → wpAny (model C.prog C.w) A t (fun _ _ => False) (XP C F σ s cls X) s
end
end Mine
set_option Elab.async false
set_option linter.unusedVariables false
set_option linter.unusedSimpArgs false
namespace Mine
open PySem PySem.W PyProof.Rows

section
variable {C : Cx} {k : Nat} {F : FE} {σ : St}
end

-- the greatest
end Mine
set_option Elab.async false
set_option linter.unusedVariables false
set_option linter.unusedSimpArgs false
namespace Mine
open PySem PySem.W PyProof.Rows

-- the sort's tree of questions, answered by an order
def KOk (lt : Nat → Nat → Bool) (N : Nat) {α : Type} : KasT α → (α → Prop) → Prop
  | .ret a, Q => Q a
  | .ask i j k, Q => i < N ∧ j < N ∧ KOk lt N (k (lt i j)) Q
section
variable {lt : Nat → Nat → Bool} {N : Nat}
theorem KOk.mono {α : Type} {Q Q' : α → Prop} (hq : ∀ a, Q a → Q' a) : ∀ (t : KasT α), KOk lt N t Q → KOk lt N t Q'
  | .ret a, h => hq a h
  | .ask i j k, h => ⟨h.1, h.2.1, KOk.mono hq (k (lt i j)) h.2.2⟩
theorem KOk.bind {α β : Type} {f : α → KasT β} {Q : β → Prop} : ∀ (t : KasT α), KOk lt N t (fun a => KOk lt N (f a) Q) → KOk lt N (t.bind f) Q
  | .ret a, h => h
  | .ask i j k, h => ⟨h.1, h.2.1, KOk.bind (k (lt i j)) h.2.2⟩
theorem KOk.wp {α : Type} {cmp : Nat → Nat → (Bool → Shared → Prop) → Shared → Prop} {Q : α → Prop} {s : Shared} (hc : ∀ i j (C : Bool → Shared → Prop), i < N → j < N → C (lt i j) s → cmp i j C s) :
    ∀ (t : KasT α) {R : α → Shared → Prop}, KOk lt N t Q → (∀ a, Q a → R a s) → t.kasWp cmp R s
  | .ret a, R, h, hr => hr a h
  | .ask i j k, R, h, hr => hc i j _ h.1 h.2.1 (KOk.wp hc (k (lt i j)) h.2.2 hr)

abbrev ga (p : Array Nat) (i : Nat) : Nat := p.getD i 0
structure GoodP (N : Nat) (p : Array Nat) : Prop where
  size : p.size = N
  perm : p.toList.Perm (List.range N)
theorem GoodP.ltN {p : Array Nat} (g : GoodP N p) {i : Nat} (hi : i < N) : ga p i < N := by
  have h : i < p.size := by rw [g.size]; exact hi
  have e : ga p i = p[i] := by simp [ga, Array.getD, h]
  rw [e]
  have : p[i] ∈ p.toList := by simp
  exact List.mem_range.mp (g.perm.mem_iff.mp this)
theorem ga_of {p q : Array Nat} {i j : Nat} (h : p[i]? = q[j]?) : ga p i = ga q j := by
  unfold ga
  rw [Array.getD_eq_getD_getElem?, Array.getD_eq_getD_getElem?, h]
theorem GoodP.rev {p : Array Nat} (g : GoodP N p) (i j : Nat) : GoodP N (kas_rev p i j) := ⟨(mirror_size ..).trans g.size, (mirror_perm p i j _).toList.trans g.perm⟩
theorem GoodP.bub {p : Array Nat} (g : GoodP N p) (i j : Nat) : GoodP N (bubble p i j) := ⟨(bubble_size ..).trans g.size, (bubble_perm p i j).toList.trans g.perm⟩
theorem ga_rev {p : Array Nat} {i j : Nat} (hj : j ≤ p.size) (k : Nat) : ga (kas_rev p i j) k = if i ≤ k ∧ k < j then ga p (i + j - 1 - k) else ga p k := by
  have := getElem?_mirror_all (xs := p) (i := i) hj k
  split at this
  · rename_i h; rw [if_pos h]; exact ga_of this
  · rename_i h; rw [if_neg h]; exact ga_of this
theorem ga_bub {p : Array Nat} {src : Nat} (hs : src < p.size) {d : Nat} (hd : d ≤ src) (k : Nat) : ga (bubble p src d) k = if k = src - d then ga p src else if src - d < k ∧ k ≤ src then ga p (k - 1) else ga p k := by
  have := getElem?_bubble hs d hd k
  by_cases h1 : k = src - d
  · rw [if_pos h1] at this ⊢; exact ga_of this
  · rw [if_neg h1] at this ⊢
    by_cases h2 : src - d < k ∧ k ≤ src
    · rw [if_pos h2] at this ⊢; exact ga_of this
    · rw [if_neg h2] at this ⊢; exact ga_of this

/-- a strict order -/
structure SO (lt : Nat → Nat → Bool) : Prop where
  asymm : ∀ a b, lt a b = true → lt b a = false
  trans : ∀ a b c, lt b a = false → lt c b = false → lt c a = false
def UpTo (lt : Nat → Nat → Bool) (p : Array Nat) (n : Nat) : Prop := ∀ i j, i < j → j < n → lt (ga p j) (ga p i) = false
def DnTo (lt : Nat → Nat → Bool) (p : Array Nat) (n : Nat) : Prop := ∀ i j, i < j → j < n → lt (ga p i) (ga p j) = false
theorem SO.refl (o : SO lt) (a : Nat) : lt a a = false := by
  cases h : lt a a with
  | false => rfl
  | true => have q := o.asymm a a h; rw [h] at q; exact q

theorem asc_ok (o : SO lt) {p : Array Nat} (g : GoodP N p) : ∀ (f n : Nat), 1 ≤ n → n + f ≤ N → UpTo lt p n → KOk lt N (kas_asc p f n) fun m => n ≤ m ∧ m ≤ n + f ∧ UpTo lt p m ∧ (m < n + f → lt (ga p m) (ga p (m - 1)) = true)
  | 0, n, _, _, hu => ⟨by omega, by omega, hu, fun h => by omega⟩
  | f + 1, n, h1, h2, hu => by
    refine ⟨g.ltN (by omega), g.ltN (by omega), ?_⟩
    show KOk lt N (if lt (ga p n) (ga p (n - 1)) = true then .ret n else kas_asc p f (n + 1)) _
    cases hc : lt (ga p n) (ga p (n - 1)) with
    | true => rw [if_pos rfl]; exact ⟨by omega, by omega, hu, fun _ => hc⟩
    | false =>
      rw [if_neg (by simp)]
      refine KOk.mono (fun m ⟨a1, a2, a3, a4⟩ => ⟨by omega, by omega, a3, fun h => a4 (by omega)⟩) _ (asc_ok o g f (n + 1) (by omega) (by omega) ?_)
      intro i j hij hj
      rcases Nat.lt_or_ge j n with q | q
      · exact hu i j hij q
      · have : j = n := by omega
        subst this
        rcases Nat.lt_or_ge i (j - 1) with r | r
        · exact o.trans _ _ _ (hu i (j - 1) r (by omega)) hc
        · have : i = j - 1 := by omega
          subst this; exact hc

/-- a block of equals -/
def EqOn (lt : Nat → Nat → Bool) (p : Array Nat) (a b : Nat) : Prop := ∀ i j, a ≤ i → i < b → a ≤ j → j < b → lt (ga p i) (ga p j) = false
theorem desc_ok (o : SO lt) : ∀ (f : Nat) (p : Array Nat) (n q : Nat), GoodP N p → q + 1 ≤ n → n + f ≤ N → DnTo lt p n → EqOn lt p (n - (q + 1)) n →
    KOk lt N (kas_desc f p n q) fun r => GoodP N r.1 ∧ DnTo lt r.1 r.2.1 ∧ n ≤ r.2.1 ∧ r.2.1 ≤ n + f ∧ r.2.2 + 1 ≤ r.2.1 ∧ EqOn lt r.1 (r.2.1 - (r.2.2 + 1)) r.2.1
  | 0, p, n, q, g, h1, h2, hd, he => ⟨g, hd, Nat.le_refl n, Nat.le_refl n, h1, he⟩
  | f + 1, p, n, q, g, h1, h2, hd, he => by
    refine ⟨g.ltN (by omega), g.ltN (by omega), ?_⟩
    have fin1 : ∀ {p' : Array Nat} {q' : Nat}, KOk lt N (kas_desc f p' (n + 1) q') (fun r => GoodP N r.1 ∧ DnTo lt r.1 r.2.1 ∧ n + 1 ≤ r.2.1 ∧ r.2.1 ≤ n + 1 + f ∧ r.2.2 + 1 ≤ r.2.1 ∧ EqOn lt r.1 (r.2.1 - (r.2.2 + 1)) r.2.1) →
        KOk lt N (kas_desc f p' (n + 1) q') (fun r => GoodP N r.1 ∧ DnTo lt r.1 r.2.1 ∧ n ≤ r.2.1 ∧ r.2.1 ≤ n + (f + 1) ∧ r.2.2 + 1 ≤ r.2.1 ∧ EqOn lt r.1 (r.2.1 - (r.2.2 + 1)) r.2.1) := fun h =>
      KOk.mono (fun r ⟨a1, a2, a3, a4, a5, a6⟩ => ⟨a1, a2, by omega, by omega, a5, a6⟩) _ h
    have one : ∀ p' : Array Nat, EqOn lt p' (n + 1 - (0 + 1)) (n + 1) := fun p' i j a1 a2 a3 a4 => by
      have : i = j := by omega
      subst this; exact o.refl _
    show KOk lt N (if lt (ga p n) (ga p (n - 1)) = true then (if q > 0 then kas_desc f (kas_rev p (n - (q + 1)) n) (n + 1) 0 else kas_desc f p (n + 1) 0) else _) _
    cases hc : lt (ga p n) (ga p (n - 1)) with
    | true =>
      rw [if_pos rfl]
      have hle : ∀ i, i < n → lt (ga p i) (ga p n) = false := fun i hi => by
        have h0 := o.asymm _ _ hc
        rcases Nat.lt_or_ge i (n - 1) with r | r
        · exact o.trans _ _ _ h0 (hd i (n - 1) r (by omega))
        · have : i = n - 1 := by omega
          subst this; exact h0
      split
      · refine fin1 (desc_ok o f _ (n + 1) 0 (g.rev _ _) (by omega) (by omega) ?_ (one _))
        have hr := ga_rev (p := p) (i := n - (q + 1)) (j := n) (by rw [g.size]; omega)
        intro i j hij hj
        rw [hr i, hr j]
        by_cases hjn : j = n
        · subst hjn
          rw [if_neg (show ¬ (j - (q + 1) ≤ j ∧ j < j) by omega)]
          split
          · exact hle _ (by omega)
          · exact hle _ (by omega)
        · by_cases hjb : n - (q + 1) ≤ j ∧ j < n
          · rw [if_pos hjb]
            by_cases hib : n - (q + 1) ≤ i ∧ i < n
            · rw [if_pos hib]; exact he _ _ (by omega) (by omega) (by omega) (by omega)
            · rw [if_neg hib]; exact hd _ _ (by omega) (by omega)
          · rw [if_neg hjb, if_neg (by omega)]; exact hd _ _ (by omega) (by omega)
      · refine fin1 (desc_ok o f p (n + 1) 0 g (by omega) (by omega) ?_ (one _))
        intro i j hij hj
        rcases Nat.lt_or_ge j n with r | r
        · exact hd i j hij r
        · have : j = n := by omega
          subst this; exact hle i hij
    | false =>
      rw [if_neg (by simp)]
      refine ⟨g.ltN (by omega), g.ltN (by omega), ?_⟩
      show KOk lt N (if lt (ga p (n - 1)) (ga p n) = true then _ else _) _
      cases hdd : lt (ga p (n - 1)) (ga p n) with
      | true => rw [if_pos rfl]; exact ⟨g, hd, Nat.le_refl n, Nat.le_add_right n (f + 1), h1, he⟩
      | false =>
        rw [if_neg (by simp)]
        refine fin1 (desc_ok o f p (n + 1) (q + 1) g (by omega) (by omega) ?_ ?_)
        · intro i j hij hj
          rcases Nat.lt_or_ge j n with r | r
          · exact hd i j hij r
          · have : j = n := by omega
            subst this
            rcases Nat.lt_or_ge i (j - 1) with r | r
            · exact o.trans _ _ _ hdd (hd i (j - 1) r (by omega))
            · have : i = j - 1 := by omega
              subst this; exact hdd
        · intro i j a1 a2 a3 a4
          have eqn : ∀ m, n - (q + 1) ≤ m → m < n → lt (ga p m) (ga p n) = false ∧ lt (ga p n) (ga p m) = false := fun m b1 b2 =>
            ⟨o.trans _ _ _ hdd (he _ _ b1 b2 (by omega) (by omega)), o.trans _ _ _ (he (n - 1) m (by omega) (by omega) b1 b2) hc⟩
          rcases Nat.lt_or_ge i n with r1 | r1
          · rcases Nat.lt_or_ge j n with r2 | r2
            · exact he i j (by omega) r1 (by omega) r2
            · have : j = n := by omega
              subst this; exact (eqn i (by omega) r1).1
          · have : i = n := by omega
            subst this
            rcases Nat.lt_or_ge j i with r2 | r2
            · exact (eqn j (by omega) r2).2
            · have : j = i := by omega
              subst this; exact o.refl _

theorem tail3_ok (o : SO lt) {p : Array Nat} {n : Nat} (g : GoodP N p) (h1 : 1 ≤ n) (hn : n ≤ N) (hd : DnTo lt p n) : KOk lt N (kas_tail3 n N p) fun r => GoodP N r.2 ∧ UpTo lt r.2 r.1 ∧ 1 ≤ r.1 ∧ r.1 ≤ N := by
  unfold kas_tail3
  have hr := ga_rev (p := p) (i := 0) (j := n) (by rw [g.size]; omega)
  refine KOk.bind _ (KOk.mono (fun m ⟨a1, a2, a3, _⟩ => ⟨g.rev _ _, a3, (by omega : 1 ≤ m), (by omega : m ≤ N)⟩) _ (asc_ok o (g.rev 0 n) (N - n) n h1 (by omega) ?_))
  intro i j hij hj
  rw [hr i, hr j, if_pos ⟨by omega, by omega⟩, if_pos ⟨by omega, by omega⟩]
  exact hd _ _ (by omega) (by omega)
theorem descPart_ok (o : SO lt) {p : Array Nat} {n : Nat} (g : GoodP N p) (h1 : 1 ≤ n) (hn : n + 1 ≤ N) (hd : DnTo lt p (n + 1)) : KOk lt N (kas_descPart n N p) fun r => GoodP N r.2 ∧ UpTo lt r.2 r.1 ∧ 1 ≤ r.1 ∧ r.1 ≤ N := by
  unfold kas_descPart
  refine KOk.bind _ (KOk.mono (fun r ⟨a1, a2, a3, a4, a5, a6⟩ => ?_) _ (desc_ok o (N - (n + 1)) p (n + 1) 0 g (by omega) (by omega) hd fun i j b1 b2 b3 b4 => by
    have : i = j := by omega
    subst this; exact o.refl _))
  split
  · refine tail3_ok o (a1.rev _ _) (by omega) (by omega) ?_
    have hr := ga_rev (p := r.1) (i := r.2.1 - (r.2.2 + 1)) (j := r.2.1) (by rw [a1.size]; omega)
    intro i j hij hj
    rw [hr i, hr j]
    by_cases hjb : r.2.1 - (r.2.2 + 1) ≤ j ∧ j < r.2.1
    · rw [if_pos hjb]
      by_cases hib : r.2.1 - (r.2.2 + 1) ≤ i ∧ i < r.2.1
      · rw [if_pos hib]; exact a6 _ _ (by omega) (by omega) (by omega) (by omega)
      · rw [if_neg hib]; exact a2 _ _ (by omega) (by omega)
    · rw [if_neg hjb, if_neg (by omega)]; exact a2 _ _ (by omega) (by omega)
  · exact tail3_ok o a1 (by omega) (by omega) a2
theorem count_ok (o : SO lt) {p : Array Nat} (g : GoodP N p) (hN : 1 ≤ N) : KOk lt N (kas_count N p) fun r => GoodP N r.2 ∧ UpTo lt r.2 r.1 ∧ 1 ≤ r.1 ∧ r.1 ≤ N := by
  unfold kas_count
  refine KOk.bind _ (KOk.mono (fun n ⟨a1, a2, a3, a4⟩ => ?_) _ (asc_ok o g (N - 1) 1 (by omega) (by omega) fun i j h1 h2 => by omega))
  split
  · rename_i h
    exact ⟨g, a3, (by omega : 1 ≤ n), (by omega : n ≤ N)⟩
  · rename_i h
    have hnN : n < N := by
      have : n ≠ N := by simpa using h
      omega
    have hst := a4 (by omega)
    split
    · rename_i h1
      refine ⟨g.ltN (by omega), g.ltN (by omega), ?_⟩
      show KOk lt N (if lt (ga p 0) (ga p (n - 1)) = true then _ else _) _
      cases hc : lt (ga p 0) (ga p (n - 1)) with
      | true => rw [if_pos rfl]; exact ⟨g, a3, (by omega : 1 ≤ n), (by omega : n ≤ N)⟩
      | false =>
        rw [if_neg (by simp)]
        have hr := ga_rev (p := p) (i := 0) (j := n) (by rw [g.size]; omega)
        have hall : ∀ i j, i < n → j < n → lt (ga p i) (ga p j) = false := fun i j hi hj => by
          have up : ∀ i, i < n → lt (ga p (n - 1)) (ga p i) = false := fun i hi => by
            rcases Nat.lt_or_ge i (n - 1) with r | r
            · exact a3 i (n - 1) r (by omega)
            · have : i = n - 1 := by omega
              subst this; exact o.refl _
          have dn : ∀ j, j < n → lt (ga p j) (ga p 0) = false := fun j hj => by
            rcases Nat.eq_zero_or_pos j with r | r
            · subst r; exact o.refl _
            · exact a3 0 j r hj
          have zero : ∀ j, j < n → lt (ga p 0) (ga p j) = false := fun j hj => o.trans _ _ _ (up j hj) hc
          exact o.trans _ _ _ (zero j hj) (dn i hi)
        refine descPart_ok o (g.rev _ _) (by omega) (by omega) ?_
        intro i j hij hj
        rw [hr i, hr j, if_pos ⟨by omega, by omega⟩]
        by_cases hjn : j < n
        · rw [if_pos ⟨by omega, hjn⟩]; exact hall _ _ (by omega) (by omega)
        · have : j = n := by omega
          subst this
          rw [if_neg (by omega)]
          exact o.trans _ _ _ (o.asymm _ _ hst) (hall _ _ (by omega) (by omega))
    · rename_i h1
      have : n = 1 := by omega
      subst this
      refine descPart_ok o g (by omega) (by omega) ?_
      intro i j hij hj
      have e1 : i = 0 := by omega
      have e2 : j = 1 := by omega
      subst e1 e2
      exact o.asymm _ _ hst

theorem place_ok (o : SO lt) {p : Array Nat} {k : Nat} (g : GoodP N p) (hk : k < N) (hu : UpTo lt p k) : ∀ (f l r : Nat), l ≤ r → r ≤ k → r ≤ l + f → (∀ i, i < l → lt (ga p k) (ga p i) = false) → (∀ i, r ≤ i → i < k → lt (ga p k) (ga p i) = true) →
    KOk lt N (kas_place p k f l r) fun m => m ≤ k ∧ (∀ i, i < m → lt (ga p k) (ga p i) = false) ∧ ∀ i, m ≤ i → i < k → lt (ga p k) (ga p i) = true
  | 0, l, r, h1, h2, h3, hl, hr => ⟨by omega, hl, fun i a b => hr i (by omega) b⟩
  | f + 1, l, r, h1, h2, h3, hl, hr => by
    unfold kas_place
    split
    · exact ⟨by omega, hl, fun i a b => hr i (by omega) b⟩
    · refine ⟨g.ltN hk, g.ltN (by omega), ?_⟩
      show KOk lt N (if lt (ga p k) (ga p ((l + r) / 2)) = true then _ else _) _
      cases hc : lt (ga p k) (ga p ((l + r) / 2)) with
      | true =>
        rw [if_pos rfl]
        refine place_ok o g hk hu f l _ (by omega) (by omega) (by omega) hl fun i a b => ?_
        rcases Nat.lt_or_ge ((l + r) / 2) i with q | q
        · cases hq : lt (ga p k) (ga p i) with
          | true => rfl
          | false =>
            have := o.trans _ _ _ (hu _ i q b) hq
            rw [hc] at this; exact this.symm
        · have : i = (l + r) / 2 := by omega
          subst this; exact hc
      | false =>
        rw [if_neg (by simp)]
        refine place_ok o g hk hu f _ r (by omega) h2 (by omega) (fun i a => ?_) hr
        rcases Nat.lt_or_ge i ((l + r) / 2) with q | q
        · exact o.trans _ _ _ (hu i _ q (by omega)) hc
        · have : i = (l + r) / 2 := by omega
          subst this; exact hc
theorem bin_ok (o : SO lt) : ∀ (f : Nat) (p : Array Nat) (k : Nat), GoodP N p → k + f = N → UpTo lt p k → KOk lt N (kas_bin f p k) fun q => GoodP N q ∧ UpTo lt q N
  | 0, p, k, g, h, hu => ⟨g, by rw [← h]; exact hu⟩
  | f + 1, p, k, g, h, hu => by
    unfold kas_bin
    refine KOk.bind _ (KOk.mono (fun l ⟨a1, a2, a3⟩ => ?_) _ (place_ok o g (by omega) hu k 0 k (by omega) (by omega) (by omega) (fun i h => by omega) fun i a b => by omega))
    refine bin_ok o f _ (k + 1) (g.bub _ _) (by omega) ?_
    have hb := ga_bub (p := p) (src := k) (by rw [g.size]; omega) (d := k - l) (by omega)
    have ekl : k - (k - l) = l := by omega
    rw [ekl] at hb
    intro i j hij hj
    rw [hb i, hb j]
    by_cases hjl : j = l
    · rw [if_pos hjl, if_neg (by omega), if_neg (by omega)]
      exact a2 i (by omega)
    · rw [if_neg hjl]
      by_cases hj2 : l < j ∧ j ≤ k
      · rw [if_pos hj2]
        by_cases hil : i = l
        · rw [if_pos hil]; exact o.asymm _ _ (a3 _ (by omega) (by omega))
        · rw [if_neg hil]
          by_cases hi2 : l < i ∧ i ≤ k
          · rw [if_pos hi2]; exact hu _ _ (by omega) (by omega)
          · rw [if_neg hi2]
            exact hu _ _ (by omega) (by omega)
      · rw [if_neg hj2, if_neg (by omega), if_neg (by omega)]
        exact hu _ _ hij (by omega)
theorem good_range (N : Nat) : GoodP N (List.toArray (List.range N)) := ⟨by simp, .refl _⟩
theorem sort_ok (o : SO lt) (hN : 1 ≤ N) : KOk lt N (kas_sort N) fun p => GoodP N p ∧ UpTo lt p N := by
  unfold kas_sort
  refine KOk.bind _ (KOk.mono (fun r ⟨a1, a2, a3, a4⟩ => ?_) _ (count_ok o (good_range N) hN))
  split
  · refine bin_ok o _ _ _ a1 (by omega) ?_
    rw [Nat.max_eq_left a3]; exact a2
  · exact ⟨a1, by rw [show N = r.1 by omega]; exact a2⟩
end
end Mine
set_option Elab.async false
set_option linter.unusedVariables false
set_option linter.unusedSimpArgs false
namespace Mine
open PySem PySem.W PyProof.Rows

section
variable {prog : Program} {w : World} {A : Around} {E : Value → Shared → Prop} {s : Shared}
theorem list_sort_short {a : Addr} {vs : List Value} {n : Nat} {P : PySem.Fin → Shared → Prop} (ho : s.heap.get? a = some (seqObj "list" vs.toArray n)) (h2 : vs.length < 2)
    (h : ∀ h' c, (∀ b o, b ≠ a → s.heap.get? b = some o → h'.get? b = some o) → h'.get? a = some (seqObj "list" vs.toArray c) → P (.done (.ret .none)) { s with heap := h' }) :
    wpAny (model prog w) A (Builtin.«list.sort» ⟨[.ref a], []⟩) P E s := by
  have ha : a < s.heap.objs.size := Heap.lt_size ho
  have s1 := Heap.SameBut.update s.heap a (Obj.mapSeq fun _ => (#[] : Array Value))
  obtain ⟨e1, ho1⟩ : ∃ e1, (s.heap.update a (Obj.mapSeq fun _ => (#[] : Array Value))).get? a = some (seqObj "list" #[] e1) := ⟨_, get?_update_seq ho fun _ => #[]⟩
  rw [list_sort_plain]
  refine wpAny_bind (listItems_at ho rfl ?_)
  refine wpAny_bind (listUpdate_at ho rfl ?_ (by rw [List.size_toArray, sizeLine_eq]; omega) (Nat.zero_le _))
  refine wpAny_bind (seqEpoch_at ho1 rfl ?_)
  refine wpAny_bind (wpAny_newTuple ?_ (by show vs.length ≤ _; rw [sizeLine_eq]; omega))
  refine wpAny_bind (wpAny_newList ?_ (Nat.zero_le _))
  refine wpAny_holding ?_
  show wpAny (model prog w) A _ P E { s with heap := ((s.heap.update a (Obj.mapSeq fun _ => (#[] : Array Value))).push (seqObj "tuple" vs.toArray 0)).push (seqObj "list" #[] 0) }
  dsimp only
  have hn2 : vs.toArray.size < 2 := by rw [List.size_toArray]; exact h2
  rw [if_pos hn2, if_pos hn2]
  refine wpAny_bind (wpAny_pure ?_)
  rw [StateT.run_pure]
  refine wpAny_bind (wpAny_pure ?_)
  dsimp only
  have ho3 : (((s.heap.update a (Obj.mapSeq fun _ => (#[] : Array Value))).push (seqObj "tuple" vs.toArray 0)).push (seqObj "list" #[] 0)).get? a = some (seqObj "list" #[] e1) := Heap.get?_push_of_some _ (Heap.get?_push_of_some _ ho1)
  refine wpAny_bind (seqEpoch_at ho3 rfl ?_)
  have hout : (arrOf (SortSt.mk' general' (vs.toArray.zip vs.toArray) #[] 7 none)).map (·.2) = vs.toArray := by
    show (vs.toArray.zip vs.toArray).map (·.2) = vs.toArray
    rw [← Array.toList_inj, Array.toList_map, Array.toList_zip]
    simp [List.map_snd_zip]
  rw [hout]
  refine wpAny_bind (listUpdate_at ho3 rfl ?_ (Nat.zero_le _) (by rw [List.size_toArray, sizeLine_eq]; omega))
  simp only [bne_self_eq_false, Bool.false_eq_true, if_false]
  obtain ⟨c2, hc2⟩ : ∃ c2, ((((s.heap.update a (Obj.mapSeq fun _ => (#[] : Array Value))).push (seqObj "tuple" vs.toArray 0)).push (seqObj "list" #[] 0)).update a (Obj.mapSeq fun _ => vs.toArray)).get? a = some (seqObj "list" vs.toArray c2) := ⟨_, get?_update_seq ho3 fun _ => vs.toArray⟩
  refine wpAny_pure (h _ c2 (fun b o hb e => ?_) hc2)
  rw [Heap.get?_update_other _ _ (Ne.symm hb)]
  exact Heap.get?_push_of_some _ (Heap.get?_push_of_some _ ((s1.2 b hb).trans e))
theorem sorted_short {l : Addr} {vs : List Value} {Q : Value → Shared → Prop} (hl : s.heap.IsList l vs.toArray) (h2 : vs.length < 2)
    (h : ∀ D h' c, s.heap.get? D = none → (∀ b o, s.heap.get? b = some o → h'.get? b = some o) → h'.get? D = some (seqObj "list" vs.toArray c) → Q (.ref D) { s with heap := h' }) :
    wpAny (model prog w) A (call (.builtin "sorted") [.ref l]) Q E s := by
  refine Calls.call_function_entry kind_sorted plain_sorted entry_sorted (args_sorted1 _) ?_
  unfold Builtin.«sorted»
  refine wpAny_bind (m := checkCount "sorted" 1 1 _) (wpAny_pure ?_)
  refine wpAny_bind (collect_list hl ?_ (by rw [sizeLine_eq]; omega))
  refine wpAny_bind (wpAny_newList ?_ (by rw [sizeLine_eq]; omega))
  have hsz : ((s.heap.push (seqObj "list" #[] 0)).update s.heap.objs.size (Obj.mapSeq (· ++ vs.toArray))).objs.size = s.heap.objs.size + 1 := by
    rw [Heap.size_update, size_push']
  have hoL : (((s.heap.push (seqObj "list" #[] 0)).update s.heap.objs.size (Obj.mapSeq (· ++ vs.toArray))).push (seqObj "list" vs.toArray 0)).get? (s.heap.objs.size + 1) = some (seqObj "list" vs.toArray 0) := by
    rw [← hsz]; exact Heap.get?_push_size _ rfl
  have keep : ∀ b o, s.heap.get? b = some o → (((s.heap.push (seqObj "list" #[] 0)).update s.heap.objs.size (Obj.mapSeq (· ++ vs.toArray))).push (seqObj "list" vs.toArray 0)).get? b = some o := fun b o q => by
    have hlt : b < s.heap.objs.size := Heap.lt_size q
    rw [Heap.get?_push_ne _ _ _ (by rw [hsz]; exact Nat.ne_of_lt (Nat.lt_succ_of_lt hlt)), Heap.get?_update_ne _ _ _ _ (Nat.ne_of_lt hlt), Heap.get?_push_ne _ _ _ (Nat.ne_of_lt hlt)]
    exact q
  show wpAny _ _ _ _ _ { s with heap := ((s.heap.push (seqObj "list" #[] 0)).update s.heap.objs.size (Obj.mapSeq (· ++ vs.toArray))).push (seqObj "list" vs.toArray 0) }
  rw [hsz]
  have hnew : s.heap.get? (s.heap.objs.size + 1) = none := by
    cases hq : s.heap.get? (s.heap.objs.size + 1) with
    | none => rfl
    | some o => exact absurd (Heap.lt_size hq) (Nat.not_lt.mpr (Nat.le_succ _))
  refine wpAny_bind (wpAny_holding (wpAny_call_entry slot_list_sort ⟨_, hoL, rfl⟩ entry_list_sort ?_ (args_list_sort _)))
  refine list_sort_short (s := { s with heap := ((s.heap.push (seqObj "list" #[] 0)).update s.heap.objs.size (Obj.mapSeq (· ++ vs.toArray))).push (seqObj "list" vs.toArray 0) }) hoL h2 fun h' c kp ho' => ?_
  refine ⟨_, rfl, wpAny_pure ⟨_, rfl, h _ h' c hnew (fun b o q => kp b o (fun e => by rw [e, hnew] at q; cases q) (keep b o q)) ho'⟩⟩

-- tuples of ints, compared by the sort
theorem kat_ints {Q : Bool → Shared → Prop} {fin : Bool} : ∀ {us vs : List Value} {xs ys : List Int} {i : Nat}, IntsAre us xs → IntsAre vs ys → ((xs.length < ys.length) ↔ fin = true) → Q (decide (xs < ys)) s → KatLex prog w A true fin Q (us.zip vs) i s
  | _, _, _, _, i, .nil, .nil, hf, h => by
    have : fin = false := by cases fin with | false => rfl | true => simp at hf
    subst this; simpa [KatLex] using h
  | _, _, _, _, i, .nil, .cons _ _ _, hf, h => by
    have : fin = true := by simpa using hf
    subst this; simpa [KatLex] using h
  | _, _, _, _, i, .cons _ _ _, .nil, hf, h => by
    have : fin = false := by cases fin with | false => rfl | true => simp at hf
    subst this; simpa [KatLex] using h
  | _, _, _ :: xs, _ :: ys, i, .cons nx tx hus, .cons ny ty hvs, hf, h => by
    refine kat_cons (wpAny_eqBool_int ?_)
    by_cases hn : nx = ny
    · subst hn
      rw [beq_self_eq_true]
      refine kat_yes (kat_ints hus hvs (by simpa using hf) ?_)
      have e : decide (nx :: xs < nx :: ys) = decide (xs < ys) := decide_eq_decide.mpr (by rw [List.cons_lt_cons_iff]; simp)
      rw [e] at h
      exact h
    · have e : (nx == ny) = false := by simpa using hn
      rw [e]
      have e2 : decide (nx :: xs < ny :: ys) = decide (nx < ny) := decide_eq_decide.mpr (by rw [List.cons_lt_cons_iff]; simp [hn])
      rw [e2] at h
      refine kat_no ?_
      by_cases hi : (i == 0) = true
      · rw [hi]; exact oneLt_int h
      · rw [show (i == 0) = false by simpa using hi]
        exact kat_one _ _ (PySem.P.lt_int h)
end

def ltTab (xs : List (List Int)) (i j : Nat) : Bool := decide (xs.getD i [] < xs.getD j [])
theorem so_tab (xs : List (List Int)) : SO (ltTab xs) where
  asymm := fun a b h => by
    simp only [ltTab, decide_eq_true_eq, decide_eq_false_iff_not] at *
    exact fun q => List.lt_irrefl _ (List.lt_trans h q)
  trans := fun a b c h1 h2 => by
    simp only [ltTab, decide_eq_false_iff_not] at *
    rw [List.not_lt] at *
    exact List.le_trans h1 h2
def sortT (xs : List (List Int)) : List (List Int) := xs.mergeSort fun a b => decide (a ≤ b)
theorem sortT_perm (xs : List (List Int)) : (sortT xs).Perm xs := List.mergeSort_perm _ _
theorem sortT_sorted (xs : List (List Int)) : (sortT xs).Pairwise (· ≤ ·) := by
  have := List.pairwise_mergeSort (le := fun a b : List Int => decide (a ≤ b)) (by intro a b c h1 h2; simp only [decide_eq_true_eq] at *; exact List.le_trans h1 h2) (by intro a b; simp only [Bool.or_eq_true, decide_eq_true_eq]; exact List.le_total a b) xs
  exact this.imp fun h => by simpa using h
theorem sortT_uniq {xs ys : List (List Int)} (p : ys.Perm xs) (o : ys.Pairwise (· ≤ ·)) : ys = sortT xs :=
  (p.trans (sortT_perm xs).symm).eq_of_pairwise (fun a b _ _ h1 h2 => List.le_antisymm h1 h2) o (sortT_sorted xs)
theorem sortT_length (xs : List (List Int)) : (sortT xs).length = xs.length := (sortT_perm xs).length_eq
theorem sortT_cong {xs ys : List (List Int)} (p : xs.Perm ys) : sortT xs = sortT ys := sortT_uniq ((sortT_perm xs).trans p) (sortT_sorted xs)
end Mine
set_option Elab.async false
set_option linter.unusedVariables false
set_option linter.unusedSimpArgs false
namespace Mine
open PySem PySem.W PyProof.Rows

theorem reps_tup_at {h : Heap} {xs : List (List Int)} {vs' : List Value} (r : Reps h (xs.map V.tup) vs') {i : Nat} (hi : i < xs.length) : ∃ a us, vs'.getD i Value.none = .ref a ∧ vs'[i]? = some (.ref a) ∧ IsTup h a (List.toArray us) ∧ IntsAre us (xs.getD i []) := by
  obtain ⟨v', hv, rv⟩ := r.get (i := i) (v := .tup xs[i]) (by simp [hi])
  cases rv with
  | tup ht hI =>
    rename_i a us
    exact ⟨a, us, by simp [List.getD_eq_getElem?_getD, hv], hv, ht, by rw [List.getD_eq_getElem?_getD, List.getElem?_eq_getElem hi]; exact hI⟩
theorem kat_tups_of {h : Heap} : ∀ {xs : List (List Int)} {vs' : List Value}, Reps h (xs.map V.tup) vs' → (∀ x ∈ xs, x ≠ []) → ∃ fs, KatTups h vs' fs ∧ fs.length = xs.length ∧ ∀ f ∈ fs, ∃ i t, f = Value.int i t
  | [], _, .nil, _ => ⟨[], .nil, rfl, fun f hf => nomatch hf⟩
  | x :: xs, _, .cons (.tup ht hI) r, hne => by
    obtain ⟨fs, h1, h2, h3⟩ := kat_tups_of r fun y hy => hne y (.tail _ hy)
    cases hI with
    | nil => exact absurd rfl (hne [] (.head _))
    | cons n t hI =>
      obtain ⟨o, ho, hc, m, hd⟩ := ht
      refine ⟨.int n t :: fs, KatTups.cons ho hc hd (by simp) h1, by simp [h2], fun f hf => ?_⟩
      rcases List.mem_cons.mp hf with e | hf
      · exact ⟨n, t, e⟩
      · exact h3 f hf
theorem map_range_getD (xs : List (List Int)) : (List.range xs.length).map (fun i => xs.getD i []) = xs := by
  refine List.ext_getElem (by simp) fun i h1 h2 => ?_
  simp [h2]
theorem good_sorts {xs : List (List Int)} {p : Array Nat} (g : GoodP xs.length p) (u : UpTo (ltTab xs) p xs.length) : p.toList.map (fun i => xs.getD i []) = sortT xs := by
  refine sortT_uniq ?_ ?_
  · have := g.perm.map (fun i => xs.getD i [])
    rwa [map_range_getD] at this
  · rw [List.pairwise_map, List.pairwise_iff_getElem]
    intro i j hi hj hij
    have hs := g.size
    simp at hi hj
    have := u i j hij (by omega)
    have e1 : ga p i = p[i] := by simp [ga, Array.getD, hi]
    have e2 : ga p j = p[j] := by simp [ga, Array.getD, hj]
    rw [e1, e2] at this
    simp only [ltTab, decide_eq_false_iff_not] at this
    rw [List.not_lt] at this
    simpa using this
theorem reps_pickTup {h : Heap} {xs : List (List Int)} {vs' : List Value} (r : Reps h (xs.map V.tup) vs') : ∀ (l : List Nat), (∀ i ∈ l, i < xs.length) → Reps h ((l.map fun i => xs.getD i []).map V.tup) (l.map fun i => vs'.getD i Value.none)
  | [], _ => .nil
  | i :: l, hl => by
    obtain ⟨a, us, e1, e2, ht, hI⟩ := reps_tup_at r (hl i (.head _))
    rw [List.map_cons, List.map_cons, List.map_cons, e1]
    exact .cons (.tup ht hI) (reps_pickTup r l fun j hj => hl j (.tail _ hj))

section
variable {C : Cx} {k : Nat} {F : FE} {σ : St}
theorem call_sorted_tups {l : Addr} {xs : List (List Int)} {Q : V → St → Prop} (hs : (σ.sto l).bind O.items = some (xs.map V.tup)) (hne : ∀ x ∈ xs, x ≠ []) (h64 : xs.length < 64) (h : ∀ D, σ.sto D = none → Q (.ref D) (σ.setSto D (.lst ((sortT xs).map V.tup)))) :
    CallOK C k F (.opq (.builtin "sorted")) [.ref l] σ Q :=
  fun A s f' us' hA S rf ru => by
    cases rf
    cases ru with | cons ra ru => cases ra; cases ru with | nil =>
    obtain ⟨hb, vs', hL, hr⟩ := S.list hs
    have hlen : vs'.length = xs.length := by simpa using hr.length
    have hm : maxLen = 1048576 := by decide
    by_cases h2 : xs.length < 2
    · refine sorted_short hL (by omega) fun D h' c hD kp ho' => ?_
      have e : sortT xs = xs := (sortT_uniq (.refl xs) (by
        match xs, h2 with
        | [], _ => exact .nil
        | [x], _ => exact List.pairwise_singleton _ _)).symm
      refine ⟨.ref D, σ.setSto D (.lst ((sortT xs).map V.tup)), .ref D, S.alloc kp hD ⟨by rw [e]; exact hb, vs', c, ho', by rw [e]; exact hr.keeps (frz_of_keeps kp)⟩, .alloc (tk := s.toks) kp hD, h D (S.fresh_none hD)⟩
    · obtain ⟨m, hn, hl⟩ := S.frame
      refine kat_sorted (fr_empty hn) (news_all s.heap F.env.locals) hL (by omega) (by omega) fun D e1 h' F' N' hlt => ?_
      obtain ⟨S', kp⟩ := S.ledger hn hl F' fun p hp => N' p (.tail _ hp)
      have hDL := (N' _ (.head _)).2.1
      have hDn : s.heap.get? D = none := by
        cases hq : s.heap.get? D with
        | none => rfl
        | some o => exact absurd (hlt (D, o) (allNews_mem hDL hq)) (Nat.lt_irrefl _)
      have frz : ∀ hh : Heap, (∀ b o, b ≠ F.env.locals → s.heap.get? b = some o → hh.get? b = some o) → ∀ a o, s.heap.get? a = some o → FrzO o → hh.get? a = some o := fun hh kk a o ho hf => kk a o (fun q => frz_not_dict ho hf (q ▸ hn)) ho
      have hr' : Reps h' (xs.map V.tup) vs' := hr.keeps (frz h' kp)
      obtain ⟨fs, t1, t2, t3⟩ := kat_tups_of hr' hne
      refine kat_kind (s := { s with heap := h' }) (T := .type "int") t1 (by omega) (fun v hv => by obtain ⟨i, t, rfl⟩ := t3 v hv; exact Looks.of_pure rfl) (by decide) ?_
      rw [hlen]
      refine KOk.wp (lt := ltTab xs) (N := xs.length) (fun i j Cc hi hj hC => ?_) _ (sort_ok (so_tab xs) (by omega)) fun p ⟨g, u⟩ => ?_
      · obtain ⟨a, us, e1, _, ⟨oa, hoa, hca, na, hda⟩, hIa⟩ := reps_tup_at hr' hi
        obtain ⟨b, ws, e2, _, ⟨ob, hob, hcb, nb, hdb⟩, hIb⟩ := reps_tup_at hr' hj
        unfold kas_ask
        rw [e1, e2]
        refine kat_lt (s := { s with heap := h' }) hoa hda hob hdb (kat_ints (by simpa using hIa) (by simpa using hIb) ?_ hC)
        rw [List.size_toArray, List.size_toArray, hIa.length, hIb.length]; simp
      · refine KasFin.intro F' N' (.head fun q hq => ?_) fun h'' c F'' N'' => ?_
        · exact fun e => by have := hlt q hq; rw [e] at this; exact absurd this (Nat.lt_irrefl _)
        · obtain ⟨S'', kp''⟩ := S.ledger hn hl F'' fun p hp => N'' p (.tail _ hp)
          have ho := (N'' _ (.head _)).1
          have es := good_sorts g u
          have hr2 : Reps h'' ((sortT xs).map V.tup) (p.toList.map fun i => vs'.getD i Value.none) := by
            rw [← es]
            exact reps_pickTup (hr.keeps (frz h'' kp'')) _ fun i hi => List.mem_range.mp (g.perm.mem_iff.mp hi)
          have hgb : C.GB.get? D = none := by
            cases hq : C.GB.get? D with
            | none => rfl
            | some o => have := S.base D o hq; rw [hDn] at this; cases this
          refine ⟨.ref D, σ.setSto D (.lst ((sortT xs).map V.tup)), .ref D, S''.adopt ⟨by rw [List.length_map, sortT_length]; simpa using hb, _, c, ho, hr2⟩ hgb hDL fun p hp q => ?_, (Mod.ledger (tk := s.toks) S F''.ns kp'').adopt hDn, h D (S.fresh_none hDn)⟩
          obtain ⟨v₀, oc, hoc, _⟩ := S.cells p hp
          rw [q, hDn] at hoc; cases hoc
end
end Mine
set_option Elab.async false
set_option linter.unusedVariables false
set_option linter.unusedSimpArgs false
namespace Mine
open PySem PySem.W PyProof.Rows

section
variable {C : Cx} {k : Nat} {F : FE} {σ : St}
/-- what a comprehension has gathered -/
def Acc (h : Heap) (D : Addr) (out : List V) : Prop := ∃ out' e, h.get? D = some (listOf (List.toArray out') e) ∧ Reps h out out' ∧ out.length ≤ maxLen
def EmitOK (C : Cx) (k : Nat) (F : FE) (D : Addr) (t : Sem PUnit) (σ : St) (out : List V) (Q : List V → St → Prop) : Prop :=
  ∀ A s, Room k F A → Sim C.GB F σ s.heap → Loose C.GB F σ s.heap D → Acc s.heap D out →
    wpAny (model C.prog C.w) A t (fun _ s' => ∃ outN σ', Sim C.GB F σ' s'.heap ∧ Mod (D :: F.own) σ σ' s s' ∧ Acc s'.heap D outN ∧ σ'.sto D = none ∧ Q outN σ') No s
def emit2 (elt target iter : Expr) (ifs : List Expr) (target1 iter1 : Expr) (ifs1 : List Expr) (scope : Scope) (pos : Pos) (D : Addr) (env : Env) : Sem PUnit := do
  let x ← eval iter1 env
  standAt iter1.pos
  let x ← foldedSetIterable iter1 env x
  let _ ← runOwn (.compStart (.ListComp elt [⟨target, iter, ifs, 0⟩, ⟨target1, iter1, ifs1, 0⟩] scope pos) 1 (← holding [x] (pyIter x)) (.ref D) env) env
def Comp2OK (C : Cx) (k : Nat) (F : FE) (elt target iter : Expr) (ifs : List Expr) (target1 iter1 : Expr) (ifs1 : List Expr) (scope : Scope) (pos : Pos) (cl : List (Str × Addr)) (loc0 : List (Str × V)) (get : Get) (σ₁ : St) (Q : V → St → Prop) : Prop :=
  FreeOk F scope cl loc0 σ₁.loc ∧ ∃ (Inv : Nat → List V → (Addr → Option O) → Prop) (N : Nat), Inv 0 [] σ₁.sto ∧ ∀ c D i out sto', EnvOk (compF scope cl c F).env → Inv i out sto' → i ≤ N ∧ ∃ r₀, get i sto' = some r₀ ∧ match r₀ with
      | some v => AsgOK C k (compF scope cl c F) target v ⟨loc0, sto'⟩ fun σ₅ => Tests C k (compF scope cl c F) ifs σ₅ fun b σ₆ => if b then EmitOK C k (compF scope cl c F) D (emit2 elt target iter ifs target1 iter1 ifs1 scope pos D (compF scope cl c F).env) σ₆ out (fun outN σ₇ => restrictL (loc0.map (·.1)) σ₇.loc = loc0 ∧ Inv (i + 1) outN σ₇.sto) else CompSkip loc0 Inv i out σ₆
      | none => ∀ D, sto' D = none → Q (.ref D) (St.setSto ⟨σ₁.loc, sto'⟩ D (.lst out))
end
end Mine
set_option Elab.async false
set_option linter.unusedVariables false
set_option linter.unusedSimpArgs false
namespace Mine
open PySem PySem.W PyProof.Rows

section
variable {C : Cx} {k : Nat} {F : FE} {σ : St}
end

-- order of short tuples
theorem pair_le {x k y l : Int} : ([x, k] : List Int) ≤ [y, l] ↔ x < y ∨ (x = y ∧ k ≤ l) := by
  rw [← List.not_lt, List.cons_lt_cons_iff, List.cons_lt_cons_iff]
  simp
  omega
theorem tri_le {x k a y l b : Int} (h : ([x, k, a] : List Int) ≤ [y, l, b]) : ([x, k] : List Int) ≤ [y, l] := by
  rw [pair_le]
  rw [← List.not_lt, List.cons_lt_cons_iff, List.cons_lt_cons_iff, List.cons_lt_cons_iff] at h
  simp at h
  omega

-- merging of rows
section
variable (R : List (List Int))
def rowK (k : Nat) : List Int := R.getD k []
def frontAt (a : Nat → Nat) (k : Nat) : Option (List Int) := if a k < (rowK R k).length then some [(rowK R k).getD (a k) 0, k, a k] else none
def front (a : Nat → Nat) : List (List Int) := (List.range R.length).filterMap (frontAt R a)
def goneAt (a : Nat → Nat) (k : Nat) : List (List Int) := ((rowK R k).take (a k)).map fun x => [x, (k : Int)]
def gone (a : Nat → Nat) : List (List Int) := (List.range R.length).flatMap (goneAt R a)
def remOf (a : Nat → Nat) : Nat := ((List.range R.length).map fun k => (rowK R k).length - a k).sum
structure Mrg (a : Nat → Nat) (H T : List (List Int)) : Prop where
  hp : H.Perm (front R a)
  tp : T.Perm (gone R a)
  ts : T.Pairwise (· ≤ ·)
  th : ∀ t ∈ T, ∀ h ∈ H, t ≤ h.take 2
def bump (a : Nat → Nat) (k : Nat) : Nat → Nat := fun j => if j = k then a k + 1 else a j
end
section
variable {R : List (List Int)}
def allPairs (R : List (List Int)) : List (List Int) := (List.range R.length).flatMap fun k => (rowK R k).map fun x => [x, (k : Int)]
end
end Mine
set_option Elab.async false
set_option linter.unusedVariables false
set_option linter.unusedSimpArgs false
namespace Mine
open PySem PySem.W PyProof.Rows

-- heaps of tuples
theorem topT {x : List Int} {xs : List (List Int)} (hh : Heapd ltV 0 ((x :: xs).map V.tup)) : ∀ z ∈ x :: xs, x ≤ z := fun z hz => by
  have := heap_min' swo_tup (tups_isT (x :: xs)) hh (.tup z) (List.mem_map_of_mem hz)
  simpa [gt, ltV] using this
theorem popT {hs : List (List Int)} {l : List Int} (hh : Heapd ltV 0 ((hs ++ [l]).map V.tup)) : ∃ (v : List Int) (r : List (List Int)), popV (hs.map V.tup) (.tup l) = .tup v ∧ popL ltV (hs.map V.tup) (.tup l) = r.map V.tup ∧ (hs ++ [l]).Perm (v :: r) ∧ Heapd ltV 0 (r.map V.tup) ∧ (hs ++ [l])[0]? = some v ∧ ∀ z ∈ hs ++ [l], v ≤ z := by
  rw [List.map_append] at hh
  have hE : ∀ u ∈ hs.map V.tup ++ [.tup l], isT u := by have := tups_isT (hs ++ [l]); rwa [List.map_append] at this
  obtain ⟨p1, p2, p3⟩ := popL_spec (l := .tup l) swo_tup hE hh
  have p1' : (popV (hs.map V.tup) (.tup l) :: popL ltV (hs.map V.tup) (.tup l)).Perm ((hs ++ [l]).map V.tup) := by rw [List.map_append]; exact p1
  obtain ⟨ys, q1, q2⟩ := perm_map_inv p1'
  cases ys with
  | nil => cases q2
  | cons v r =>
    simp at q2
    obtain ⟨e1, e2⟩ := q2
    have hv0 : (hs ++ [l])[0]? = some v := by
      have : (hs.map V.tup ++ [.tup l])[0]? = some (.tup v) := by
        rw [← e1, p3]
        unfold gt
        rw [List.getD_eq_getElem?_getD, List.getElem?_eq_getElem (by simp)]; rfl
      have e : hs.map V.tup ++ [V.tup l] = (hs ++ [l]).map V.tup := by simp
      rw [e, List.getElem?_map] at this
      cases hq : (hs ++ [l])[0]? with
      | none => rw [hq] at this; cases this
      | some u => rw [hq] at this; simp at this; rw [this]
    refine ⟨v, r, e1, e2, q1.symm, e2 ▸ p2, hv0, fun z hz => ?_⟩
    have hzm : V.tup z ∈ hs.map V.tup ++ [.tup l] := by
      have := List.mem_map_of_mem (f := V.tup) hz
      rwa [List.map_append] at this
    have := heap_min' swo_tup hE hh (.tup z) hzm
    rw [← p3, e1] at this
    simpa [ltV] using this
theorem pushT {xs : List (List Int)} {x : List Int} (hh : Heapd ltV 0 (xs.map V.tup)) : ∃ ys : List (List Int), pushL ltV (xs.map V.tup) (.tup x) = ys.map V.tup ∧ ys.Perm (x :: xs) ∧ Heapd ltV 0 (ys.map V.tup) := by
  have hp : (pushL ltV (xs.map V.tup) (.tup x)).Perm ((x :: xs).map V.tup) := pushL_perm _ _
  obtain ⟨ys, h1, h2⟩ := perm_map_inv hp
  exact ⟨ys, h2, h1, h2 ▸ pushL_heap swo_tup (tups_isT xs) ⟨x, rfl⟩ hh⟩
-- slices by a step
def pickI (xs : List Int) (lo hi st : Option Int) : List Int :=
  (sliceRange (sliceBounds lo hi st xs.length).1 (sliceBounds lo hi st xs.length).2.1 (sliceBounds lo hi st xs.length).2.2).filterMap fun i => xs[i]?
def cntK (n m k : Nat) : Nat := if k < n then (n - k + m - 1) / m else 0
end Mine
namespace Mine
open PySem PySem.W PyProof.Rows
end Mine
set_option Elab.async false
set_option linter.unusedVariables false
set_option linter.unusedSimpArgs false
namespace Mine
open PySem PySem.W PyProof.Rows

-- lists without like ones
theorem nodup_le {α : Type} [DecidableEq α] : ∀ {l m : List α}, l.Nodup → (∀ x ∈ l, x ∈ m) → l.length ≤ m.length
  | [], m, _, _ => by simp
  | x :: l, m, hn, hs => by
    obtain ⟨h1, h2⟩ := List.nodup_cons.mp hn
    have hx : x ∈ m := hs x (.head _)
    have h3 : ∀ y ∈ l, y ∈ m.erase x := fun y hy => by
      have hne : y ≠ x := fun e => h1 (e ▸ hy)
      exact (List.mem_erase_of_ne hne).mpr (hs y (.tail _ hy))
    have := nodup_le h2 h3
    rw [List.length_erase_of_mem hx] at this
    have := List.length_pos_of_mem hx
    simp; omega

/-- the places of the graphs -/
def place (p : Int) : Prop := 0 ≤ p ∧ p < 9
def places : List Int := (List.range 9).map fun (i : Nat) => (i : Int)
theorem mem_places {p : Int} (h : place p) : p ∈ places := List.mem_map.mpr ⟨p.toNat, List.mem_range.mpr (by have := h.1; have := h.2; omega), by have := h.1; omega⟩

section
variable {C : Cx} {k : Nat} {F : FE} {σ : St}

-- dicts of places to numbers
def DD (C : Cx) (o : Obj) (f : Int → Option Int) : Prop := ∃ kvs : List (Int × Value), o.IsDictOf (intKind C.prog C.w) kvs ∧
  (∀ k i, f k = some i → ∃ t, valueAt kvs k = some (.int i t)) ∧ (∀ k, f k = none → valueAt kvs k = none) ∧ ∀ kv ∈ kvs, place kv.1
theorem valueAt_cons (a : Int) (b : Value) (r : List (Int × Value)) (y : Int) : valueAt ((a, b) :: r) y = if a = y then some b else valueAt r y := by
  unfold valueAt
  by_cases h : a = y
  · simp [h]
  · simp [h]
end
end Mine
set_option Elab.async false
set_option linter.unusedVariables false
set_option linter.unusedSimpArgs false
namespace Mine
open PySem PySem.W PyProof.Rows

-- the mathematics of the shortest ways
structure Way where
  a : Int
  b : Int
  w : Int
def Way.tup (e : Way) : List Int := [e.a, e.b, e.w]

section
variable (ws : List Way)
inductive WalkN : Nat → Int → Int → Prop
  | start : WalkN 0 0 0
  | step {n : Nat} {e : Way} {l : Int} : WalkN n e.a l → e ∈ ws → WalkN (n + 1) e.b (l + e.w)
def Walk (v l : Int) : Prop := ∃ n, WalkN ws n v l
variable {ws}
def cntF (f : Int → Option Int) : Nat := (places.filter fun p => (f p).isSome).length
theorem filter_less {α : Type} (P P' : α → Bool) (h : ∀ x, P x = true → P' x = true) : ∀ l : List α, (l.filter P).length ≤ (l.filter P').length
  | [] => Nat.le_refl _
  | x :: l => by
    have ih := filter_less P P' h l
    rw [List.filter_cons, List.filter_cons]
    cases hp : P x with
    | true => rw [h x hp]; simpa using ih
    | false => cases P' x <;> simp <;> omega
/-- between the turns of the search; c: how many are found -/
structure Dij (ws : List Way) (f : Int → Option Int) (c : Nat) (H : List (List Int)) : Prop where
  least : ∀ p l, f p = some l → Walk ws p l ∧ ∀ l', Walk ws p l' → l ≤ l'
  few : ∀ p l, f p = some l → ∃ n, n < c ∧ WalkN ws n p l
  heap : ∀ h ∈ H, ∃ l p n, h = [l, p] ∧ n ≤ c ∧ WalkN ws n p l ∧ place p
  next : ∀ e ∈ ws, ∀ l, f e.a = some l → (f e.b).isSome = true ∨ [l + e.w, e.b] ∈ H
  zero : (f 0).isSome = true ∨ [0, 0] ∈ H
  pl : ∀ p, (f p).isSome = true → place p
  cnt : c ≤ cntF f

/-- while the ways of a new place are looked at: those before i have been -/
structure DijIn (ws : List Way) (f : Int → Option Int) (c : Nat) (H : List (List Int)) (p l : Int) (i : Nat) : Prop where
  here : f p = some l
  least : ∀ p l, f p = some l → Walk ws p l ∧ ∀ l', Walk ws p l' → l ≤ l'
  few : ∀ p l, f p = some l → ∃ n, n < c ∧ WalkN ws n p l
  heap : ∀ h ∈ H, ∃ l p n, h = [l, p] ∧ n ≤ c ∧ WalkN ws n p l ∧ place p
  next : ∀ e ∈ ws, e.a ≠ p → ∀ l, f e.a = some l → (f e.b).isSome = true ∨ [l + e.w, e.b] ∈ H
  mine : ∀ e ∈ ws.take i, e.a = p → (f e.b).isSome = true ∨ [l + e.w, e.b] ∈ H
  zero : (f 0).isSome = true ∨ [0, 0] ∈ H
  pl : ∀ p, (f p).isSome = true → place p
  cnt : c ≤ cntF f

/-- the ways that are yet to be pushed -/
def left (ws : List Way) (f : Int → Option Int) : Nat := (ws.filter fun e => (f e.a).isNone).length

def cntp (p : Int) (l : List Way) : Nat := (l.filter fun e => decide (e.a = p)).length
/-- mending: what is due after t rounds and the first i ways of the next -/
structure Bell (ws : List Way) (t i : Nat) (g : Int → Option Int) : Prop where
  walk : ∀ p l, g p = some l → Walk ws p l
  all : ∀ n v l, n ≤ t → WalkN ws n v l → ∃ l', g v = some l' ∧ l' ≤ l
  more : ∀ e ∈ ws.take i, ∀ n l, n ≤ t → WalkN ws n e.a l → ∃ l', g e.b = some l' ∧ l' ≤ l + e.w
  pl : ∀ p, (g p).isSome = true → place p
end
end Mine
set_option Elab.async false
set_option linter.unusedVariables false
set_option linter.unusedSimpArgs false
namespace Mine
open PySem PySem.W PyProof.Rows
section
variable {C : Cx} {k : Nat} {F : FE} {σ : St}
theorem e_and3 {x y z : Expr} {p : Pos} {Q : V → St → Prop} (h : TE C k F x σ fun a σ₁ => TruthOK C k F a σ₁ fun b σ₂ => if b then TE C k F (.BoolOp .And [y, z] p) σ₂ Q else Q a σ₂) : TE C k F (.BoolOp .And [x, y, z] p) σ Q :=
  fun A s hA S => by
    show wpAny _ A (do
      let v ← eval x F.env
      standAt p
      let t ← holding [v] (truthy v)
      match BoolOp.And, t with
      | .And, false | .Or, true => pure v
      | _, _ => boolOp p .And [eval y F.env, eval z F.env]) _ _ s
    refine wpAny_bind (wpAny_mono (h A s hA S) (fun a' s₁ ⟨a, σ₁, ra, S₁, M, q⟩ => wpAny_bind (wpAny_standAt (wpAny_bind (wpAny_holding
      (wpAny_mono (q A s₁ a' hA S₁ ra) (fun b s₂ ⟨b', σ₂, rb, S₂, M₂, q₂⟩ => ?_) fun _ _ x => x))))) fun _ _ x => x)
    cases rb
    cases b with
    | true => exact wpAny_mono (q₂ A s₂ hA S₂) (fun _ _ ⟨v, σ₃, r', S₃, M₃, q'⟩ => ⟨v, σ₃, r', S₃, (M.trans S₁ M₂).trans S₂ M₃, q'⟩) fun _ _ x => x
    | false => exact wpAny_pure ⟨a, σ₂, M₂.rep S₁ ra, S₂, M.trans S₁ M₂, q₂⟩
theorem b_or3 {x y z : Expr} {p : Pos} {Q : Bool → St → Prop} (h : TB C k F x σ fun b σ₁ => if b then Q true σ₁ else TB C k F (.BoolOp .Or [y, z] p) σ₁ Q) : TB C k F (.BoolOp .Or [x, y, z] p) σ Q :=
  fun A s hA S => wpAny_isTrue_BoolOp (wpAny_allTrue_Or_cons (go (h A s hA S) fun b b' σ₁ s₁ rb S₁ M₁ h₁ => by
    cases rb
    cases b with
    | false =>
      have := h₁ A s₁ hA S₁
      rw [arm_isTrue_BoolOp] at this
      exact fin S₁ M₁ this
    | true => exact ⟨true, σ₁, rfl, S₁, M₁, h₁⟩))
theorem pickV_mid (vs : List V) : pickV vs (some 1) (some 2) none = (vs.drop 1).take 1 := by
  rw [pickV_run]
  simp only [kms_lo, kms_hi]
  rw [if_neg (by omega), if_neg (by omega)]
  rcases vs with _ | ⟨a, _ | ⟨b, r⟩⟩ <;> simp
theorem call_range_by3 {n : Nat} {Q : V → St → Prop} (hn : n < 64) (h : Q (.rng 0 ((n : Int) - 2) 3) σ) : CallOK C k F (.opq (.type "range")) [.int 0, .int ((n : Int) - 2), .int 3] σ Q := by
  refine call_range3 (by omega) ?_ h
  have : ∀ m : Nat, m < 64 → Builtin.divisionGoesByPylong ((m : Int) - 2 - 0) 3 = false := by decide
  exact this n hn
theorem iter_by3 {n : Nat} {P : Get → St → Prop} (hn : n < 64) (h : P (getRange 0 (n / 3) 3) σ) : IterOK C k F (.rng 0 ((n : Int) - 2) 3) σ P := by
  refine iter_rng ?_ ?_ h
  · have : ∀ m : Nat, m < 64 → Builtin.Range.small 0 ((m : Int) - 2) 3 = true := by decide
    exact this n hn
  · have : ∀ m : Nat, m < 64 → Builtin.Range.rangeSize 0 ((m : Int) - 2) 3 = ((m / 3 : Nat) : Int) := by decide
    exact this n hn
/-- what is known of the store stays known -/
def Keep (d : Addr) (sto sto' : Addr → Option O) : Prop := ∀ b o, b ≠ d → sto b = some o → sto' b = some o
theorem sortT_head {xs : List (List Int)} {m : List Int} {r : List (List Int)} (hp : xs.Perm (m :: r)) (hm : ∀ z ∈ xs, m ≤ z) : sortT xs = m :: sortT r := by
  refine (sortT_uniq (xs := xs) ?_ ?_).symm
  · exact ((sortT_perm r).cons m).trans hp.symm
  · refine List.pairwise_cons.mpr ⟨fun z hz => hm z (hp.mem_iff.mpr (.tail _ ((sortT_perm r).mem_iff.mp hz))), sortT_sorted r⟩
end
end Mine
set_option Elab.async false
set_option linter.unusedVariables false
set_option linter.unusedSimpArgs false
namespace Mine
open PySem PySem.W PyProof.Rows
section
variable {C : Cx} {k : Nat} {F : FE} {σ : St}
theorem any_ints {x : Int} {f : Value → Bool} (hf : ∀ (i : Int) (t : Tok), f (.int i t) = decide (i = x)) : ∀ {vs' : List Value} {xs : List Int}, IntsAre vs' xs → vs'.any f = decide (x ∈ xs)
  | _, _, .nil => by simp
  | _, _, .cons n t r => by
    rw [List.any_cons, any_ints hf r, hf]
    by_cases h : n = x
    · simp [h]
    · simp [h, Ne.symm h]
theorem cmp_notin_ints {l : Addr} {xs : List Int} {x : Int} {Q : V → St → Prop} (hs : (σ.sto l).bind O.items = some (xs.map V.int)) (h : Q (.bool (!decide (x ∈ xs))) σ) : CmpOK C k F .NotIn (.int x) (.ref l) σ Q :=
  fun A s a' b' hA S ra rb => by
    cases rb
    cases ra with | int _ t =>
    obtain ⟨hb, vs', hL, hr⟩ := S.list hs
    have hi := ints_reps hr
    refine SeqAt.notIn_listAt (fun v => match v with | .int i _ => decide (i = x) | _ => false) hL (fun y hy => ?_) ?_
    · obtain ⟨i, hi', e⟩ := List.getElem_of_mem (by simpa using hy : y ∈ vs')
      obtain ⟨t', ht'⟩ := ints_get hi (i := i) (x := xs[i]'(by have := hi.length; omega)) (List.getElem?_eq_getElem _)
      rw [List.getElem?_eq_getElem hi', e] at ht'
      cases ht'
      exact SeqAt.EqAt.int_int _ _ _ _
    · rw [List.any_toArray, any_ints (x := x) (fun _ _ => rfl) hi]
      exact post_pure S (.bool _) h
theorem reps_replicate {h : Heap} {v : V} {v' : Value} (r : Rep h v v') : ∀ n, Reps h (List.replicate n v) (List.replicate n v')
  | 0 => .nil
  | n + 1 => .cons r (reps_replicate r n)
theorem foldl_rep (v' : Value) : ∀ (n : Nat) (acc : Array Value), List.foldl (fun x1 x2 => x1 ++ x2) acc (List.replicate n #[v']) = acc ++ (List.replicate n v').toArray
  | 0, acc => by simp
  | n + 1, acc => by
    rw [List.replicate_succ, List.foldl_cons, foldl_rep v' n]
    apply Array.toList_inj.mp
    simp [List.replicate_succ]
theorem bin_rep {l : Addr} {v : V} {n : Nat} {Q : V → St → Prop} (hs : σ.sto l = some (.lst [v])) (hn : n ≤ maxLen) (h : ∀ D, σ.sto D = none → Q (.ref D) (σ.setSto D (.lst (List.replicate n v)))) : BinOK C k F .Mult (.ref l) (.int (n : Int)) σ Q :=
  fun A s a' b' hA S ra rb => by
    cases ra; cases rb with | int _ t =>
    obtain ⟨hb, vs', c, ho, hr⟩ := S.sto l _ hs
    cases hr with | cons r1 r2 => cases r2 with | nil =>
    rename_i v'
    obtain ⟨m, hm, hl⟩ := S.frame
    have hml : maxLen = 1048576 := by decide
    refine mul_list (fr_empty hm) (news_all s.heap F.env.locals) ho (by omega) (by omega) (by simp; omega) fun h' F' N' => ?_
    rw [show (if ([v'].toArray.isEmpty = true) then 0 else (n : Int).toNat) = n by simp] at N'
    rw [show [v'].toArray = #[v'] from rfl, foldl_rep] at N'
    obtain ⟨S', kp⟩ := S.ledger hm hl F' fun p hp => N' p (.tail _ hp)
    have hoD := (N' _ (.head _)).1
    have hDn := get_size s.heap
    have hDL : s.heap.objs.size ≠ F.env.locals := fun q => by
      obtain ⟨o', _, _, ho', _⟩ := hm
      rw [← q, hDn] at ho'; cases ho'
    have hgb : C.GB.get? s.heap.objs.size = none := by
      cases hq : C.GB.get? s.heap.objs.size with
      | none => rfl
      | some o => have := S.base _ o hq; rw [hDn] at this; cases this
    refine ⟨.ref s.heap.objs.size, σ.setSto s.heap.objs.size (.lst (List.replicate n v)), .ref _, S'.adopt ⟨by simpa using hn, List.replicate n v', 0, by simpa using hoD, reps_replicate (r1.keeps fun b o e hf => kp b o (fun q => by
      subst q; exact frz_not_dict e hf hm) e) n⟩ hgb hDL fun p hp q => ?_, (Mod.ledger (tk := s.toks) S F'.ns kp).adopt hDn, h _ (S.fresh_none hDn)⟩
    obtain ⟨v₀, oc, hoc, _⟩ := S.cells p hp
    rw [q, hDn] at hoc; cases hoc
theorem call_sum_ints {l : Addr} {xs : List Int} {Q : V → St → Prop} (hs : (σ.sto l).bind O.items = some (xs.map V.int)) (h : Q (.int xs.sum) σ) : CallOK C k F (.opq (.builtin "sum")) [.ref l] σ Q :=
  fun A s f' us' hA S rf ru => by
    cases rf
    cases ru with | cons ra ru => cases ra; cases ru with | nil =>
    obtain ⟨hb, vs', hL, hr⟩ := S.list hs
    obtain ⟨m, hn, hl⟩ := S.frame
    refine LSm.sum_ints (fr_empty hn) (news_all s.heap F.env.locals) hA.1 hL (ints_reps hr) fun h' tk t F' N' => ?_
    obtain ⟨S', kp⟩ := S.ledger hn hl F' N'
    exact ⟨.int _, σ, .int _ _, S', Mod.ledger S F'.ns kp, h⟩
theorem ints_items {a c : Int} : ∀ (n : Nat) (acc : List Value) (i : Nat), acc.length = n → (∀ j v, acc[j]? = some v → ∃ t, v = Value.int (a + ((i + j : Nat) : Int) * c) t) → IntsAre acc ((List.range' i n).map fun (j : Nat) => a + (j : Int) * c)
  | 0, acc, i, hl, _ => by
    have : acc = [] := List.length_eq_zero_iff.mp hl
    subst this; exact .nil
  | n + 1, [], i, hl, _ => by simp at hl
  | n + 1, v :: r, i, hl, h => by
    obtain ⟨t, e⟩ := h 0 v rfl
    subst e
    rw [List.range'_succ, List.map_cons]
    refine .cons _ t (ints_items n r (i + 1) (by simpa using hl) fun j v hv => ?_)
    obtain ⟨t, e⟩ := h (j + 1) v (by simpa using hv)
    exact ⟨t, by rw [e, show i + (j + 1) = i + 1 + j by omega]⟩
theorem call_list_rng {lo hi st : Int} {n : Nat} {Q : V → St → Prop} (hsm : Builtin.Range.small lo hi st = true) (hn : Builtin.Range.rangeSize lo hi st = n) (hl : n ≤ maxLen)
    (h : ∀ D, σ.sto D = none → Q (.ref D) (σ.setSto D (.lst (((List.range n).map fun (j : Nat) => lo + (j : Int) * st).map V.int)))) : CallOK C k F (.opq (.type "list")) [.rng lo hi st] σ Q :=
  fun A s f' us' hA S rf ru => by
    cases rf
    cases ru with | cons ra ru => cases ra with | rng hr => cases ru with | nil =>
    have hml : maxLen = 1048576 := by decide
    refine call_list_range hA.1 hr hsm hn (by omega) fun h' tk acc' c' kp hD hacc => ?_
    obtain ⟨acc⟩ := acc'
    have hi : IntsAre acc ((List.range n).map fun (j : Nat) => lo + (j : Int) * st) := by
      rw [List.range_eq_range']
      refine ints_items n acc 0 (by simpa using hacc.1) fun j v hv => ?_
      obtain ⟨t, e⟩ := hacc.2 j v (by simpa using hv)
      exact ⟨t, by rw [e]; simp⟩
    exact ⟨.ref s.heap.objs.size, σ.setSto s.heap.objs.size (.lst (((List.range n).map fun (j : Nat) => lo + (j : Int) * st).map V.int)), .ref _, S.alloc kp (get_size _) ⟨by simpa using hl, acc, c', hD, reps_ints hi⟩, .alloc kp (get_size _), h _ (S.fresh_none (get_size _))⟩
end
end Mine
set_option Elab.async false
set_option linter.unusedVariables false
set_option linter.unusedSimpArgs false
namespace Mine
open PySem PySem.W PyProof.Rows

-- the mathematics of the lightest nets
structure KS where
  lab : Int → Int
  due : Int → Int
def kstep (s : KS) (e : Way) : KS := if s.lab e.a = s.lab e.b then s else ⟨fun x => if s.lab x = s.lab e.b then s.lab e.a else s.lab x, fun p => if p = e.a then s.due p + e.w else s.due p⟩
def krun (es : List Way) (s : KS) : KS := es.foldl kstep s
def Merged (l1 l2 : Int → Int) (u v : Int) : Prop := ∀ x y, l2 x = l2 y ↔ (l1 x = l1 y ∨ (l1 x = l1 u ∧ l1 y = l1 v) ∨ (l1 x = l1 v ∧ l1 y = l1 u))
def Same (l1 l2 : Int → Int) : Prop := ∀ x y, l1 x = l1 y ↔ l2 x = l2 y
theorem Same.trans {a b c : Int → Int} (h1 : Same a b) (h2 : Same b c) : Same a c := fun x y => (h1 x y).trans (h2 x y)
theorem kstep_no {s : KS} {e : Way} (h : s.lab e.a = s.lab e.b) : kstep s e = s := if_pos h
theorem kstep_lab {s : KS} {e : Way} (h : s.lab e.a ≠ s.lab e.b) (x : Int) : (kstep s e).lab x = if s.lab x = s.lab e.b then s.lab e.a else s.lab x := by unfold kstep; rw [if_neg h]
theorem kstep_due {s : KS} {e : Way} (h : s.lab e.a ≠ s.lab e.b) (x : Int) : (kstep s e).due x = if x = e.a then s.due x + e.w else s.due x := by unfold kstep; rw [if_neg h]
theorem kstep_merged {s : KS} {e : Way} (h : s.lab e.a ≠ s.lab e.b) : Merged s.lab (kstep s e).lab e.a e.b := fun x y => by
  rw [kstep_lab h, kstep_lab h]
  generalize s.lab x = X, s.lab y = Y, s.lab e.a = A, s.lab e.b = B at *
  split <;> split <;> omega
theorem krun_mono {x y : Int} : ∀ (es : List Way) (s : KS), s.lab x = s.lab y → (krun es s).lab x = (krun es s).lab y
  | [], s, h => h
  | e :: es, s, h => by
    show (krun es (kstep s e)).lab x = _
    refine krun_mono es (kstep s e) ?_
    by_cases hj : s.lab e.a = s.lab e.b
    · rw [kstep_no hj]; exact h
    · exact (kstep_merged hj x y).mpr (.inl h)
theorem same_step {s1 s2 : KS} {e : Way} (h : Same s1.lab s2.lab) : Same (kstep s1 e).lab (kstep s2 e).lab := by
  by_cases hj : s1.lab e.a = s1.lab e.b
  · rw [kstep_no hj, kstep_no ((h _ _).mp hj)]; exact h
  · have hj2 : s2.lab e.a ≠ s2.lab e.b := fun q => hj ((h _ _).mpr q)
    intro x y
    rw [kstep_merged hj x y, kstep_merged hj2 x y, h x y, h x e.a, h y e.b, h x e.b, h y e.a]
theorem same_due {s1 s2 : KS} {e : Way} {d : Int → Int} (h : Same s1.lab s2.lab) (hd : ∀ p, s1.due p = s2.due p + d p) : ∀ p, (kstep s1 e).due p = (kstep s2 e).due p + d p := fun p => by
  by_cases hj : s1.lab e.a = s1.lab e.b
  · rw [kstep_no hj, kstep_no ((h _ _).mp hj)]; exact hd p
  · have hj2 : s2.lab e.a ≠ s2.lab e.b := fun q => hj ((h _ _).mpr q)
    rw [kstep_due hj, kstep_due hj2, hd p]
    split <;> omega
theorem same_run {d : Int → Int} : ∀ (es : List Way) (s1 s2 : KS), Same s1.lab s2.lab → (∀ p, s1.due p = s2.due p + d p) → Same (krun es s1).lab (krun es s2).lab ∧ ∀ p, (krun es s1).due p = (krun es s2).due p + d p
  | [], _, _, h, hd => ⟨h, hd⟩
  | e :: es, s1, s2, h, hd => same_run es (kstep s1 e) (kstep s2 e) (same_step h) (same_due h hd)
theorem merged_step {l1 l1' l2 l2' : Int → Int} {a b u v : Int} (h1 : Merged l1 l1' a b) (h2 : Merged l2 l2' a b) (h : Merged l1 l2 u v) : Merged l1' l2' u v := fun x y => by
  rw [h2 x y, h x y, h x a, h y b, h x b, h y a, h1 x y, h1 x u, h1 y v, h1 x v, h1 y u]
  generalize l1 x = X, l1 y = Y, l1 a = A, l1 b = B, l1 u = U, l1 v = V
  grind

theorem exch {u v w0 : Int} : ∀ (es : List Way) (s1 s2 : KS), es.Pairwise (fun e f => e.w ≤ f.w) → (∀ e ∈ es, place e.a) → Merged s1.lab s2.lab u v → s1.lab u ≠ s1.lab v → (∀ p, s1.due p = s2.due p) → s1.lab u = s1.lab 0 →
    (∀ e ∈ es, (s1.lab e.a = s1.lab 0 ∧ s1.lab e.b ≠ s1.lab 0 ∨ s1.lab e.b = s1.lab 0 ∧ s1.lab e.a ≠ s1.lab 0) → w0 ≤ e.w) →
    (∃ e ∈ es, e.w = w0 ∧ (e.a = u ∧ e.b = v ∨ e.a = v ∧ e.b = u)) →
    ∃ q, place q ∧ (krun es s1).lab q = (krun es s1).lab 0 ∧ Same (krun es s1).lab (krun es s2).lab ∧ ∀ p, (krun es s1).due p = (krun es s2).due p + if p = q then w0 else 0
  | [], _, _, _, _, _, _, _, _, _, ⟨e, he, _⟩ => nomatch he
  | f :: es, s1, s2, hs, hp, hM, hne, hd, hu0, hB, ⟨e, he, hew, heu⟩ => by
    have hs' := List.pairwise_cons.mp hs
    by_cases hj : s1.lab f.a = s1.lab f.b
    · have hj2 : s2.lab f.a = s2.lab f.b := (hM _ _).mpr (.inl hj)
      have he' : e ∈ es := by
        rcases List.mem_cons.mp he with q | q
        · subst q; exfalso
          rcases heu with ⟨h1, h2⟩ | ⟨h1, h2⟩
          · rw [h1, h2] at hj; exact hne hj
          · rw [h1, h2] at hj; exact hne hj.symm
        · exact q
      show ∃ q, place q ∧ (krun es (kstep s1 f)).lab q = (krun es (kstep s1 f)).lab 0 ∧ Same (krun es (kstep s1 f)).lab (krun es (kstep s2 f)).lab ∧ ∀ p, (krun es (kstep s1 f)).due p = (krun es (kstep s2 f)).due p + if p = q then w0 else 0
      rw [kstep_no hj, kstep_no hj2]
      exact exch es s1 s2 hs'.2 (fun e he => hp e (.tail _ he)) hM hne hd hu0 (fun e he => hB e (.tail _ he)) ⟨e, he', hew, heu⟩
    · have hm1 := kstep_merged hj
      by_cases hj2 : s2.lab f.a = s2.lab f.b
      · have huv := (hM _ _).mp hj2
        have hfw : f.w ≤ w0 := by
          rcases List.mem_cons.mp he with q | q
          · subst q; omega
          · have := hs'.1 e q; omega
        have hwf : w0 ≤ f.w := hB f (.head _) (by
          generalize s1.lab f.a = A, s1.lab f.b = B, s1.lab u = U, s1.lab v = V, s1.lab 0 = Z at *
          omega)
        have hw : f.w = w0 := by omega
        have sm : Same (kstep s1 f).lab (kstep s2 f).lab := fun x y => by
          rw [kstep_no hj2, hm1 x y, hM x y]
          generalize s1.lab x = X, s1.lab y = Y, s1.lab f.a = A, s1.lab f.b = B, s1.lab u = U, s1.lab v = V at *
          omega
        have dd : ∀ p, (kstep s1 f).due p = (kstep s2 f).due p + if p = f.a then w0 else 0 := fun p => by
          rw [kstep_no hj2, kstep_due hj, hd p, hw]
          split <;> omega
        obtain ⟨r1, r2⟩ := same_run es _ _ sm dd
        refine ⟨f.a, hp f (.head _), krun_mono es (kstep s1 f) ?_, r1, r2⟩
        rw [hm1 f.a 0]
        generalize s1.lab f.a = A, s1.lab f.b = B, s1.lab u = U, s1.lab v = V, s1.lab 0 = Z at *
        omega
      · have hm2 := kstep_merged hj2
        have he' : e ∈ es := by
          rcases List.mem_cons.mp he with q | q
          · subst q; exfalso
            apply hj2
            rw [hM]
            rcases heu with ⟨h1, h2⟩ | ⟨h1, h2⟩ <;> rw [h1, h2]
            · exact .inr (.inl ⟨rfl, rfl⟩)
            · exact .inr (.inr ⟨rfl, rfl⟩)
          · exact q
        rw [hM] at hj2
        refine exch es (kstep s1 f) (kstep s2 f) hs'.2 (fun e he => hp e (.tail _ he)) (merged_step hm1 hm2 hM) (fun q => ?_) (fun p => ?_) ((hm1 u 0).mpr (.inl hu0)) (fun g hg hl => ?_) ⟨e, he', hew, heu⟩
        · rw [hm1 u v] at q
          generalize s1.lab f.a = A, s1.lab f.b = B, s1.lab u = U, s1.lab v = V at *
          omega
        · have hj2' : ¬ s2.lab f.a = s2.lab f.b := by rw [hM]; exact hj2
          rw [kstep_due hj, kstep_due hj2', hd p]
        · by_cases hf : s1.lab f.a = s1.lab 0 ∨ s1.lab f.b = s1.lab 0
          · have h1 := hB f (.head _) (by
              generalize s1.lab f.a = A, s1.lab f.b = B, s1.lab 0 = Z at *
              omega)
            have h2 := hs'.1 g hg
            omega
          · refine hB g (.tail _ hg) ?_
            have c1 := hm1 g.a 0
            have c2 := hm1 g.b 0
            generalize s1.lab f.a = A, s1.lab f.b = B, s1.lab 0 = Z, s1.lab g.a = GA, s1.lab g.b = GB, (kstep s1 f).lab g.a = GA', (kstep s1 f).lab g.b = GB', (kstep s1 f).lab 0 = Z' at *
            omega

theorem closed_run : ∀ (es : List Way) (s : KS), (∀ e ∈ es, s.lab e.a = s.lab 0 ↔ s.lab e.b = s.lab 0) → (∀ x, (krun es s).lab x = (krun es s).lab 0 ↔ s.lab x = s.lab 0) ∧ ∀ p, s.lab p = s.lab 0 → (krun es s).due p = s.due p
  | [], s, _ => ⟨fun _ => Iff.rfl, fun _ _ => rfl⟩
  | f :: es, s, h => by
    have hf := h f (.head _)
    show (∀ x, (krun es (kstep s f)).lab x = (krun es (kstep s f)).lab 0 ↔ s.lab x = s.lab 0) ∧ ∀ p, s.lab p = s.lab 0 → (krun es (kstep s f)).due p = s.due p
    by_cases hj : s.lab f.a = s.lab f.b
    · rw [kstep_no hj]; exact closed_run es s fun e he => h e (.tail _ he)
    · have hm := kstep_merged hj
      have h0 : ∀ x, (kstep s f).lab x = (kstep s f).lab 0 ↔ s.lab x = s.lab 0 := fun x => by
        rw [hm x 0]
        generalize s.lab f.a = A, s.lab f.b = B, s.lab 0 = Z, s.lab x = X at *
        omega
      obtain ⟨r1, r2⟩ := closed_run es (kstep s f) fun e he => by rw [h0, h0]; exact h e (.tail _ he)
      refine ⟨fun x => (r1 x).trans (h0 x), fun p hp => ?_⟩
      rw [r2 p ((h0 p).mpr hp), kstep_due hj, if_neg]
      intro q
      subst q
      apply hj; rw [hp]; exact (hf.mp hp).symm

-- the sum over the part of 0
def inPart (s : KS) : List Int := places.filter fun p => decide (s.lab p = s.lab 0)
def tot (s : KS) : Int := ((inPart s).map s.due).sum
theorem inPart_same {s1 s2 : KS} (h : Same s1.lab s2.lab) : inPart s1 = inPart s2 := by
  unfold inPart
  congr 1
  funext p
  simp only [h p 0]
theorem sum_one {d1 d2 : Int → Int} {q w : Int} (h : ∀ p, d1 p = d2 p + if p = q then w else 0) : ∀ l : List Int, l.Nodup → (l.map d1).sum = (l.map d2).sum + if q ∈ l then w else 0
  | [], _ => by simp
  | p :: l, hn => by
    obtain ⟨h1, h2⟩ := List.nodup_cons.mp hn
    rw [List.map_cons, List.map_cons, List.sum_cons, List.sum_cons, sum_one h l h2, h p]
    by_cases hq : p = q
    · subst hq; simp [h1]; omega
    · simp [hq, Ne.symm hq]; omega
theorem places_nodup : places.Nodup := by unfold places; decide
theorem tot_one {s1 s2 : KS} {q w : Int} (hs : Same s1.lab s2.lab) (hq : place q) (h0 : s1.lab q = s1.lab 0) (h : ∀ p, s1.due p = s2.due p + if p = q then w else 0) : tot s1 = tot s2 + w := by
  unfold tot
  rw [← inPart_same hs, sum_one (d1 := s1.due) (d2 := s2.due) h (inPart s1) (places_nodup.filter _), if_pos]
  exact List.mem_filter.mpr ⟨mem_places hq, by simpa using h0⟩

/-- the net that grows: its places together -/
def stS (S : List Int) : KS := ⟨fun x => if x ∈ S then 0 else x, fun _ => 0⟩
def kstart : KS := ⟨fun x => x, fun _ => 0⟩
def Link (e : Way) (x y : Int) : Prop := (e.a = x ∧ e.b = y) ∨ (e.a = y ∧ e.b = x)
structure Val (es : List Way) (S : List Int) (W : Int) : Prop where
  same : Same (krun es kstart).lab (krun es (stS S)).lab
  sum : tot (krun es kstart) = W + tot (krun es (stS S))
  nd : S.Nodup
  pl : ∀ p ∈ S, place p
  zero : 0 ∈ S
theorem Val.start (es : List Way) : Val es [0] 0 := by
  have e : ∀ x, (stS [0]).lab x = kstart.lab x := fun x => by
    show (if x ∈ [0] then 0 else x) = x
    by_cases h : x = 0 <;> simp [h]
  obtain ⟨r1, r2⟩ := same_run (d := fun _ => 0) es kstart (stS [0]) (fun x y => by rw [e, e]) (fun _ => rfl)
  refine ⟨r1, ?_, by simp, fun p hp => by rw [List.mem_singleton.mp hp]; unfold place; omega, by simp⟩
  unfold tot
  rw [inPart_same r1, show (krun es kstart).due = (krun es (stS [0])).due from funext fun p => by rw [r2 p]; omega]
  omega
theorem Val.len {es : List Way} {S : List Int} {W : Int} (v : Val es S W) : S.length ≤ 9 := by
  have := nodup_le v.nd (m := places) fun x hx => mem_places (v.pl x hx)
  simpa [places] using this
theorem stS_lab {S : List Int} (h0 : 0 ∈ S) (x : Int) : (stS S).lab x = (stS S).lab 0 ↔ x ∈ S := by
  show (if x ∈ S then 0 else x) = (if 0 ∈ S then 0 else 0) ↔ x ∈ S
  by_cases h : x ∈ S
  · simp [h]
  · simp [h]; intro q; subst q; exact h h0
theorem Val.enter {es : List Way} {S : List Int} {W : Int} (v : Val es S W) (hs : es.Pairwise fun e f => e.w ≤ f.w) (hpl : ∀ e ∈ es, place e.a) {e : Way} {x p : Int} (he : e ∈ es) (hl : Link e x p) (hx : x ∈ S) (hp : p ∉ S) (hpp : place p)
    (hmin : ∀ f ∈ es, ∀ x y, Link f x y → x ∈ S → y ∉ S → e.w ≤ f.w) : Val es (S ++ [p]) (W + e.w) := by
  have p0 : p ≠ 0 := fun q => hp (q ▸ v.zero)
  have lx : (stS S).lab x = 0 := by show (if x ∈ S then 0 else x) = 0; rw [if_pos hx]
  have lp : (stS S).lab p = p := by show (if p ∈ S then 0 else p) = p; rw [if_neg hp]
  have l0 : (stS S).lab 0 = 0 := by show (if 0 ∈ S then 0 else 0) = 0; simp
  obtain ⟨q, h1, h2, h3, h4⟩ := exch (u := x) (v := p) (w0 := e.w) es (stS S) (stS (S ++ [p])) hs hpl (fun a b => by
      have la : (stS (S ++ [p])).lab a = if (stS S).lab a = p then 0 else (stS S).lab a := by
        show (if a ∈ S ++ [p] then 0 else a) = if (if a ∈ S then 0 else a) = p then 0 else if a ∈ S then 0 else a
        by_cases h : a ∈ S
        · simp [h]
        · by_cases h' : a = p <;> simp [h, h']
          exact fun q => absurd q hp
      have lb : (stS (S ++ [p])).lab b = if (stS S).lab b = p then 0 else (stS S).lab b := by
        show (if b ∈ S ++ [p] then 0 else b) = if (if b ∈ S then 0 else b) = p then 0 else if b ∈ S then 0 else b
        by_cases h : b ∈ S
        · simp [h]
        · by_cases h' : b = p <;> simp [h, h']
          exact fun q => absurd q hp
      rw [la, lb, lx, lp]
      generalize (stS S).lab a = A, (stS S).lab b = B
      split <;> split <;> omega) (by rw [lx, lp]; exact Ne.symm p0) (fun _ => rfl) (by rw [lx, l0]) (fun f hf hlv => by
      simp only [ne_eq, stS_lab v.zero] at hlv
      rcases hlv with ⟨q1, q2⟩ | ⟨q1, q2⟩
      · exact hmin f hf _ _ (.inl ⟨rfl, rfl⟩) q1 q2
      · exact hmin f hf _ _ (.inr ⟨rfl, rfl⟩) q1 q2) ⟨e, he, rfl, hl⟩
  have ht := tot_one h3 h1 h2 h4
  refine ⟨v.same.trans h3, by rw [v.sum, ht]; omega, ?_, fun y hy => ?_, by simp [v.zero]⟩
  · rw [List.nodup_append]
    exact ⟨v.nd, by simp, fun a ha b hb => by rw [List.mem_singleton.mp hb]; intro q; exact hp (q ▸ ha)⟩
  · rcases List.mem_append.mp hy with q | q
    · exact v.pl y q
    · rw [List.mem_singleton.mp q]; exact hpp
theorem Val.done {es : List Way} {S : List Int} {W : Int} (v : Val es S W) (h : ∀ e ∈ es, e.a ∈ S ↔ e.b ∈ S) : tot (krun es kstart) = W ∧ sortI S = inPart (krun es kstart) := by
  obtain ⟨r1, r2⟩ := closed_run es (stS S) fun e he => by rw [stS_lab v.zero, stS_lab v.zero]; exact h e he
  have hp : inPart (krun es kstart) = places.filter fun p => decide (p ∈ S) := by
    rw [inPart_same v.same]
    unfold inPart
    congr 1
    funext p
    simp only [r1 p, stS_lab v.zero]
  have ht : tot (krun es (stS S)) = 0 := by
    unfold tot
    rw [← inPart_same v.same, hp]
    have : ∀ l : List Int, (∀ p ∈ l, p ∈ S) → (l.map (krun es (stS S)).due).sum = 0 := by
      intro l
      induction l with
      | nil => intro _; rfl
      | cons p l ih =>
        intro hl
        rw [List.map_cons, List.sum_cons, ih fun q hq => hl q (.tail _ hq), r2 p ((stS_lab v.zero p).mpr (hl p (.head _)))]
        rfl
    exact this _ fun p hp => by simpa using (List.mem_filter.mp hp).2
  refine ⟨by rw [v.sum, ht]; omega, ?_⟩
  rw [hp]
  refine (sortI_uniq ?_ ?_).symm
  · refine (List.perm_ext_iff_of_nodup (places_nodup.filter _) v.nd).mpr fun a => ?_
    rw [List.mem_filter]
    simp only [decide_eq_true_eq]
    exact ⟨fun h => h.2, fun h => ⟨mem_places (v.pl a h), h⟩⟩
  · refine List.Pairwise.filter _ ?_
    unfold places; decide
end Mine
set_option Elab.async false
set_option linter.unusedVariables false
set_option linter.unusedSimpArgs false
namespace Mine
open PySem PySem.W PyProof.Rows

-- the heap while the net grows
structure Prim (ws es : List Way) (S : List Int) (W : Int) (H : List (List Int)) : Prop where
  val : Val es S W
  heap : ∀ h ∈ H, ∃ e ∈ ws, ∃ x y, Link e x y ∧ x ∈ S ∧ h = [e.w, y]
  all : ∀ e ∈ ws, ∀ x y, Link e x y → x ∈ S → y ∈ S ∨ [e.w, y] ∈ H
structure PrimIn (ws es : List Way) (S : List Int) (W : Int) (H : List (List Int)) (p : Int) (j : Nat) : Prop where
  val : Val es S W
  heap : ∀ h ∈ H, ∃ e ∈ ws, ∃ x y, Link e x y ∧ x ∈ S ∧ h = [e.w, y]
  here : p ∈ S
  rest : ∀ e ∈ ws, ∀ x y, Link e x y → x ∈ S → x ≠ p → y ∈ S ∨ [e.w, y] ∈ H
  mine : ∀ e ∈ ws.take j, ∀ y, Link e p y → [e.w, y] ∈ H
theorem PrimIn.start (ws es : List Way) : PrimIn ws es [0] 0 [] 0 0 := ⟨Val.start es, fun h hh => (nomatch hh), by simp, fun e he x y _ hx hne => absurd (List.mem_singleton.mp hx) hne, fun e he => by simp at he⟩
theorem PrimIn.step {ws es : List Way} {S : List Int} {W : Int} {H H2 : List (List Int)} {p : Int} {j : Nat} (d : PrimIn ws es S W H p j) (hj : j < ws.length) (hsub : ∀ h ∈ H, h ∈ H2) (hnew : ∀ h ∈ H2, h ∈ H ∨ ∃ y, Link ws[j] p y ∧ h = [ws[j].w, y])
    (hall : ∀ y, Link ws[j] p y → [ws[j].w, y] ∈ H2) : PrimIn ws es S W H2 p (j + 1) where
  val := d.val
  heap := fun h hh => by
    rcases hnew h hh with q | ⟨y, q1, q2⟩
    · exact d.heap h q
    · exact ⟨_, List.getElem_mem hj, p, y, q1, d.here, q2⟩
  here := d.here
  rest := fun e he x y hl hx hne => (d.rest e he x y hl hx hne).imp id (hsub _)
  mine := fun e he y hl => by
    rw [List.take_succ_eq_append_getElem hj] at he
    rcases List.mem_append.mp he with q | q
    · exact hsub _ (d.mine e q y hl)
    · rw [List.mem_singleton.mp q] at hl ⊢; exact hall y hl
theorem PrimIn.leave {ws es : List Way} {S : List Int} {W : Int} {H : List (List Int)} {p : Int} {j : Nat} (d : PrimIn ws es S W H p j) (hj : ws.length ≤ j) : Prim ws es S W H where
  val := d.val
  heap := d.heap
  all := fun e he x y hl hx => by
    by_cases hp : x = p
    · subst hp; exact .inr (d.mine e (by rw [List.take_of_length_le hj]; exact he) y hl)
    · exact d.rest e he x y hl hx hp
theorem Prim.drop {ws es : List Way} {S : List Int} {W : Int} {H H' : List (List Int)} {w p : Int} (d : Prim ws es S W H) (hp : H.Perm ([w, p] :: H')) (hs : p ∈ S) : Prim ws es S W H' where
  val := d.val
  heap := fun h hh => d.heap h (hp.mem_iff.mpr (.tail _ hh))
  all := fun e he x y hl hx => by
    rcases d.all e he x y hl hx with q | q
    · exact .inl q
    · rcases List.mem_cons.mp (hp.mem_iff.mp q) with e' | q
      · refine .inl ?_
        have : y = p := by simp at e'; exact e'.2
        rw [this]; exact hs
      · exact .inr q
theorem Prim.enter {ws es : List Way} {S : List Int} {W : Int} {H H' : List (List Int)} {w p : Int} (d : Prim ws es S W H) (hpe : es.Perm ws) (hs : es.Pairwise fun e f => e.w ≤ f.w) (hpl : ∀ e ∈ ws, place e.a ∧ place e.b) (hp : H.Perm ([w, p] :: H')) (hmin : ∀ h ∈ H, [w, p] ≤ h) (hn : p ∉ S) :
    PrimIn ws es (S ++ [p]) (W + w) H' p 0 := by
  obtain ⟨e, he, x, y, hl, hx, hh⟩ := d.heap _ (hp.mem_iff.mpr (.head _))
  cases hh
  have hpp : place p := by
    rcases hl with ⟨_, q⟩ | ⟨q, _⟩
    · rw [← q]; exact (hpl e he).2
    · rw [← q]; exact (hpl e he).1
  refine ⟨d.val.enter hs (fun f hf => (hpl f (hpe.mem_iff.mp hf)).1) (hpe.mem_iff.mpr he) hl hx hn hpp fun f hf a b hfl ha hb => ?_, fun h hh => ?_, by simp, fun f hf a b hfl ha hne => ?_, fun e he => by simp at he⟩
  · rcases d.all f (hpe.mem_iff.mp hf) a b hfl ha with q | q
    · exact absurd q hb
    · have := hmin _ q
      rw [pair_le] at this; omega
  · obtain ⟨f, hf, a, b, h1, h2, h3⟩ := d.heap h (hp.mem_iff.mpr (.tail _ hh))
    exact ⟨f, hf, a, b, h1, by simp [h2], h3⟩
  · have ha' : a ∈ S := by
      rcases List.mem_append.mp ha with q | q
      · exact q
      · exact absurd (List.mem_singleton.mp q) hne
    rcases d.all f hf a b hfl ha' with q | q
    · exact .inl (by simp [q])
    · rcases List.mem_cons.mp (hp.mem_iff.mp q) with e' | q
      · have : b = p := by simp at e'; exact e'.2
        exact .inl (by simp [this])
      · exact .inr q
theorem Prim.done {ws es : List Way} {S : List Int} {W : Int} (d : Prim ws es S W []) (hpe : es.Perm ws) : tot (krun es kstart) = W ∧ sortI S = inPart (krun es kstart) := by
  refine d.val.done fun e he => ?_
  have h1 := d.all e (hpe.mem_iff.mp he) e.a e.b (.inl ⟨rfl, rfl⟩)
  have h2 := d.all e (hpe.mem_iff.mp he) e.b e.a (.inr ⟨rfl, rfl⟩)
  simp at h1 h2
  exact ⟨h1, h2⟩

-- how many are yet to come
def cost (p : Int) : List Way → Nat
  | [] => 0
  | e :: r => (if e.a = p then 1 else 0) + (if e.b = p then 1 else 0) + cost p r
def lft (S : List Int) : List Way → Nat
  | [] => 0
  | e :: r => (if e.a ∈ S then 0 else 1) + (if e.b ∈ S then 0 else 1) + lft S r
theorem lft_le (S : List Int) : ∀ ws, lft S ws ≤ 2 * ws.length
  | [] => Nat.le_refl _
  | e :: r => by
    have := lft_le S r
    unfold lft
    rw [List.length_cons]
    split <;> split <;> omega
theorem lft_enter {S : List Int} {p : Int} (hp : p ∉ S) : ∀ ws, lft (S ++ [p]) ws + cost p ws = lft S ws
  | [] => rfl
  | e :: r => by
    have ih := lft_enter hp r
    unfold lft cost
    have h1 : ∀ x, (if x ∈ S ++ [p] then 0 else 1) + (if x = p then 1 else 0) = if x ∈ S then 0 else 1 := fun x => by
      by_cases hx : x = p
      · subst hx; simp [hp]
      · simp [hx]
    have := h1 e.a
    have := h1 e.b
    omega
theorem cost_drop {p : Int} {ws : List Way} {i : Nat} (hi : i < ws.length) : cost p (ws.drop i) = (if ws[i].a = p then 1 else 0) + (if ws[i].b = p then 1 else 0) + cost p (ws.drop (i + 1)) := by
  rw [List.drop_eq_getElem_cons hi]; rfl
def Way.tri (e : Way) : List Int := [e.w, e.a, e.b]
theorem tri_w {e f : Way} (h : e.tri ≤ f.tri) : e.w ≤ f.w := by
  have := tri_le h
  rw [pair_le] at this; omega
theorem sort_ways (ws : List Way) : ∃ es : List Way, es.Perm ws ∧ sortT (ws.map Way.tri) = es.map Way.tri ∧ es.Pairwise fun e f => e.w ≤ f.w := by
  obtain ⟨es, h1, h2⟩ := perm_map_inv (sortT_perm (ws.map Way.tri))
  refine ⟨es, h1, h2, ?_⟩
  have := sortT_sorted (ws.map Way.tri)
  rw [h2, List.pairwise_map] at this
  exact this.imp tri_w
end Mine
set_option Elab.async false
set_option linter.unusedVariables false
set_option linter.unusedSimpArgs false
namespace Mine
open PySem PySem.W PyProof.Rows
section
variable {C : Cx} {k : Nat} {F : FE} {σ : St}
/-- the state cut down to what is known -/
theorem x_cut {ss : List Stmt} {Q : Fl → St → Prop} (names : List Str) (l : List (Str × V)) (P : (Addr → Option O) → Prop) (he : restrictL names σ.loc = l) (hp : P σ.sto) (h : ∀ sto', P sto' → TX C k F ss ⟨l, sto'⟩ Q) : TX C k F ss σ Q :=
  x_weak names (by unfold St.restrict; rw [he]; exact h _ hp)
theorem free2 {scope : Scope} {cl : List (Str × Addr)} {x y : Str} {u v : V} {loc : List (Str × V)} (h1 : loc.lookup x = some u ∧ (F.env.kindOf x = some .cell ∨ F.env.kindOf x = some .free) ∧ ((relabel scope F.env).names.lookup x = some .cell ∨ (relabel scope F.env).names.lookup x = some .free) ∧ cl.lookup x = F.env.cells.lookup x)
    (h2 : loc.lookup y = some v ∧ (F.env.kindOf y = some .cell ∨ F.env.kindOf y = some .free) ∧ ((relabel scope F.env).names.lookup y = some .cell ∨ (relabel scope F.env).names.lookup y = some .free) ∧ cl.lookup y = F.env.cells.lookup y) :
    FreeOk F scope cl [(x, u), (y, v)] loc := fun z w e => by
  rw [List.lookup_cons] at e
  by_cases q : (z == x) = true
  · rw [q] at e; cases e; rw [beq_iff_eq.mp q]; exact h1
  · rw [show (z == x) = false by simpa using q, List.lookup_cons] at e
    by_cases q2 : (z == y) = true
    · rw [q2] at e; cases e; rw [beq_iff_eq.mp q2]; exact h2
    · rw [show (z == y) = false by simpa using q2] at e; simp at e
theorem free1 {scope : Scope} {cl : List (Str × Addr)} {x : Str} {u : V} {loc : List (Str × V)} (h1 : loc.lookup x = some u ∧ (F.env.kindOf x = some .cell ∨ F.env.kindOf x = some .free) ∧ ((relabel scope F.env).names.lookup x = some .cell ∨ (relabel scope F.env).names.lookup x = some .free) ∧ cl.lookup x = F.env.cells.lookup x) :
    FreeOk F scope cl [(x, u)] loc := fun z w e => by
  rw [List.lookup_cons] at e
  by_cases q : (z == x) = true
  · rw [q] at e; cases e; rw [beq_iff_eq.mp q]; exact h1
  · rw [show (z == x) = false by simpa using q] at e; simp at e
theorem ne_new {s : Addr → Option O} {a b : Addr} {o : O} (ha : s a = some o) (hb : s b = none) : a ≠ b := fun e => by rw [e, hb] at ha; cases ha
end
-- lists of nine by place
def tabI (f : Int → Int) : List Int := places.map f
theorem tabI_len (f : Int → Int) : (tabI f).length = 9 := by simp [tabI, places]
theorem tabI_at (f : Int → Int) {p : Int} (h : place p) : ((tabI f).map V.int)[p.toNat]? = some (.int (f p)) := by
  obtain ⟨h1, h2⟩ := h
  unfold tabI places
  rw [List.getElem?_map, List.getElem?_map, List.getElem?_map, List.getElem?_range (by omega)]
  simp only [Option.map_some]
  rw [Int.toNat_of_nonneg h1]
theorem tabI_set (f : Int → Int) {p : Int} (h : place p) (v : Int) : ((tabI f).map V.int).set p.toNat (.int v) = (tabI fun x => if x = p then v else f x).map V.int := by
  obtain ⟨h1, h2⟩ := h
  apply List.ext_getElem?
  intro i
  rw [List.getElem?_set]
  unfold tabI places
  by_cases hi : i < 9
  · simp only [List.getElem?_map, List.getElem?_range hi, List.length_map, List.length_range, Option.map_some]
    by_cases hp : p.toNat = i
    · subst hp
      rw [if_pos rfl, if_pos hi, if_pos (by omega)]
    · rw [if_neg hp, if_neg (by omega)]
  · have : ∀ g : Int → Int, (List.map V.int (List.map g (List.map (fun (i : Nat) => (i : Int)) (List.range 9))))[i]? = none := fun g => List.getElem?_eq_none (by simp; omega)
    rw [this, this, if_neg (by omega)]
end Mine
set_option Elab.async false
set_option linter.unusedVariables false
set_option linter.unusedSimpArgs false
set_option maxRecDepth 100000
namespace Mine
open PySem PySem.W PyProof.Rows
-- the walk's own line
local macro_rules | `(tactic| walk_at "m") => `(tactic| first
  | ((with_reducible show Then _ _ _ _ _ Fl.next _); refine then_next ?_)
  | ((with_reducible show Then _ _ _ _ _ Fl.brk _); refine then_brk ?_)
  | ((with_reducible show Then _ _ _ _ _ Fl.cont _); refine then_cont ?_)
  | ((with_reducible show Then _ _ _ _ _ (Fl.ret _) _); refine then_ret ?_)
  | ((with_reducible show TurnW _ _ _ _ Fl.brk _); refine turnW_brk ?_)
  | ((with_reducible show TurnW _ _ _ _ (Fl.ret _) _); refine turnW_ret ?_)
  | ((with_reducible show TurnF _ _ _ _ Fl.brk _); refine turnF_brk ?_)
  | ((with_reducible show TurnF _ _ _ _ (Fl.ret _) _); refine turnF_ret ?_)
  | ((with_reducible show TX _ _ _ (_ :: _) _ _); refine x_cons ?_)
  | ((with_reducible show TX _ _ _ [] _ _); refine x_nil ?_)
  | ((with_reducible show TS _ _ _ (Stmt.Assign [Expr.Name _ _] (Expr.ListComp _ _ _ _) _) _ _); fail "m: a comprehension")
  | ((with_reducible show TS _ _ _ (Stmt.Assign [Expr.Name _ _] _ _) _ _); refine s_assign (by assumption) ?_)
  | ((with_reducible show TS _ _ _ (Stmt.Assign [Expr.Subscript _ _ _] _ _) _ _); refine s_setitem ?_)
  | ((with_reducible show TS _ _ _ (Stmt.Expr _ _) _ _); refine s_expr ?_)
  | ((with_reducible show TS _ _ _ (Stmt.Return _ _) _ _); refine s_return ?_)
  | ((with_reducible show TS _ _ _ (Stmt.If _ _ _ _) _ _); refine s_if ?_)
  | ((with_reducible show TS _ _ _ (Stmt.Break _) _ _); refine s_break ?_)
  | ((with_reducible show TS _ _ _ (Stmt.Continue _) _ _); refine s_continue ?_)
  | ((with_reducible show TE _ _ _ (Expr.Name _ _) _ _); first | refine e_name (by assumption) rfl ?_ | refine e_glob (by assumption) (by assumption) (by assumption) ?_)
  | ((with_reducible show TE _ _ _ (Expr.Constant (Const.int _) _ _) _ _); refine e_int ?_)
  | ((with_reducible show TE _ _ _ (Expr.Constant (Const.bool _) _ _) _ _); refine e_bool ?_)
  | ((with_reducible show TE _ _ _ (Expr.Constant Const.none _ _) _ _); refine e_none ?_)
  | ((with_reducible show TE _ _ _ (Expr.BinOp _ _ _ _) _ _); refine e_bin ?_)
  | ((with_reducible show TE _ _ _ (Expr.UnaryOp UnaryOp.USub _ _) _ _); refine e_un ?_)
  | ((with_reducible show TE _ _ _ (Expr.Compare _ _ _ _) _ _); refine e_cmp ?_)
  | ((with_reducible show TE _ _ _ (Expr.Subscript _ (Expr.Slice _ _ _ _) _) _ _); refine e_slice ?_)
  | ((with_reducible show TE _ _ _ (Expr.Subscript _ _ _) _ _); refine e_sub ?_)
  | ((with_reducible show TE _ _ _ (Expr.List _ _) _ _); refine e_list ?_)
  | ((with_reducible show TE _ _ _ (Expr.Tuple _ _ _) _ _); refine e_tup ?_)
  | ((with_reducible show TE _ _ _ (Expr.IfExp _ _ _ _) _ _); refine e_ifexp ?_)
  | ((with_reducible show TE _ _ _ (Expr.BoolOp BoolOp.And [_, _] _) _ _); refine e_and ?_)
  | ((with_reducible show TE _ _ _ (Expr.BoolOp BoolOp.And [_, _, _] _) _ _); refine e_and3 ?_)
  | ((with_reducible show TE _ _ _ (Expr.BoolOp BoolOp.Or [_, _] _) _ _); refine e_or ?_)
  | ((with_reducible show TE _ _ _ (Expr.Call (Expr.Name _ _) _ _ _) _ _); refine e_call ?_)
  | ((with_reducible show TEs _ _ _ _ (_ :: _) _ _); refine es_cons ?_)
  | ((with_reducible show TEs _ _ _ _ [] _ _); refine es_nil ?_)
  | ((with_reducible show TB _ _ _ (Expr.UnaryOp UnaryOp.Not _ _) _ _); refine b_not ?_)
  | ((with_reducible show TB _ _ _ (Expr.BoolOp BoolOp.And [_, _] _) _ _); refine b_and ?_)
  | ((with_reducible show TB _ _ _ (Expr.BoolOp BoolOp.Or [_, _] _) _ _); refine b_or ?_)
  | ((with_reducible show TB _ _ _ (Expr.BoolOp BoolOp.Or [_, _, _] _) _ _); refine b_or3 ?_)
  | ((with_reducible show TB _ _ _ (Expr.BoolOp BoolOp.And [_, _, _] _) _ _); refine b_and3 ?_)
  | ((with_reducible show TB _ _ _ (Expr.Compare _ _ _ _) _ _); refine b_cmp ?_)
  | ((with_reducible show TB _ _ _ (Expr.IfExp _ _ _ _) _ _); fail "m: a test by if")
  | ((with_reducible show TB _ _ _ _ _ _); refine b_val ?_)
  | ((with_reducible show BinOK _ _ _ Operator.Add (V.int _) (V.int _) _ _); refine bin_add ?_)
  | ((with_reducible show BinOK _ _ _ Operator.Sub (V.int _) (V.int _) _ _); refine bin_sub ?_)
  | ((with_reducible show BinOK _ _ _ Operator.Mult (V.int _) (V.int _) _ _); refine bin_mul (IntMulOk.of_left (by decide)) ?_)
  | ((with_reducible show UnOK _ _ _ UnaryOp.USub (V.int _) _ _); refine un_neg ?_)
  | ((with_reducible show CmpOK _ _ _ CmpOp.Lt (V.int _) (V.int _) _ _); refine cmp_lt ?_)
  | ((with_reducible show CmpOK _ _ _ CmpOp.Gt (V.int _) (V.int _) _ _); refine cmp_gt ?_)
  | ((with_reducible show CmpOK _ _ _ CmpOp.LtE (V.int _) (V.int _) _ _); refine cmp_le ?_)
  | ((with_reducible show CmpOK _ _ _ CmpOp.GtE (V.int _) (V.int _) _ _); refine cmp_ge ?_)
  | ((with_reducible show CmpOK _ _ _ CmpOp.Eq (V.int _) (V.int _) _ _); refine cmp_eq ?_)
  | ((with_reducible show CmpOK _ _ _ CmpOp.NotEq (V.int _) (V.int _) _ _); refine cmp_ne ?_)
  | ((with_reducible show TruthOK _ _ _ (V.bool _) _ _); refine truth_bool ?_)
  | ((with_reducible show PartOK _ _ _ none _ _); refine part_none ?_)
  | ((with_reducible show PartOK _ _ _ (some _) _ _); refine part_some ?_)
  | ((with_reducible show ∃ i, V.int _ = V.int i ∧ _); refine ⟨_, rfl, ?_⟩)
  | ((with_reducible show IsFun _ (V.opq _)); exact trivial)
  | ((with_reducible show _ ∧ CallOK _ _ _ (V.opq _) _ _ _); refine ⟨trivial, ?_⟩)
  | fail "m: no step")
local macro_rules | `(tactic| walk_at "n") => `(tactic| ((fail_if_success (with_reducible show TX _ _ _ (Stmt.If _ _ _ _ :: _) _ _)); walk_at "m"))
local macro_rules | `(tactic| walk_at "v") => `(tactic| ((fail_if_success (with_reducible show TE _ _ _ (Expr.Tuple _ _ _) _ _)); walk_at "m"))
section
variable {C : Cx} {k : Nat} {F : FE} {σ : St} {E : V → Prop} {lt : V → V → Bool} {P : (Addr → Option O) → Prop}

set_option maxHeartbeats 4000000 in
theorem sd_ok {a d : Addr} {vs : List V} {sp p : Nat} {Q : V → St → Prop} (cx : CxOk C) (fn : Fn C PySem.Challenge.pw_dn0024_05 (Str.ofString "_siftdown") a)
    (o : Ord C E lt P) (hP : ∀ sto o, P sto → P (fun b => if b = d then some o else sto b)) (h0 : P σ.sto) (hd : σ.sto d = some (.lst vs)) (hp : p < vs.length) (hE : ∀ v ∈ vs, E v)
    (h : Q .none (σ.setSto d (.lst (sdGo lt (vs.getD p .none) sp p vs)))) : CallOK C (k + 1) F (.ref a) [.ref d, .int sp, .int p] σ Q := by
  obtain ⟨pm, cd, doc, f⟩ := fn
  refine call_own cx f rfl ?_
  intro L
  have ok := f.envOk L F.frames
  refine x_cons ?_
  (repeat walk_at "m")
  refine item_at (vs := vs) (v := vs.getD p .none) (by simp [hd, O.items]) (by omega) (by simp [hp]) ?_
  (repeat walk_at "m")
  have hx : E (vs.getD p .none) := hE _ (by simp [hp])
  generalize hxe : vs.getD p .none = x at h hx ⊢
  refine s_whileN [Str.ofString "heap", Str.ofString "startpos", Str.ofString "pos", Str.ofString "newitem"]
    (fun n σ' => ∃ (p' : Nat) (vs' : List V), p' = n ∧ σ' = ⟨[(Str.ofString "heap", .ref d), (Str.ofString "startpos", .int sp), (Str.ofString "pos", .int p'), (Str.ofString "newitem", x)], fun b => if b = d then some (.lst vs') else σ.sto b⟩ ∧
      p' < vs'.length ∧ (∀ v ∈ vs', E v) ∧ sdGo lt x sp p' vs' = sdGo lt x sp p vs) p ⟨p, vs, rfl, ?_, hp, hE, rfl⟩ ?_
  · refine st_ext rfl ?_
    funext b
    by_cases hb : b = d
    · subst hb; simp [hd]
    · simp [hb]
  rintro n σ' ⟨p', vs', rfl, rfl, hp', hE', hgo⟩
  (repeat walk_at "m")
  by_cases hlt : sp < p'
  · rw [if_pos (by simpa using hlt)]
    (repeat walk_at "m")
    refine bin_rshift1 (by omega) ?_
    (repeat walk_at "m")
    have hpp : (((p' : Int) - 1) / 2).toNat = (p' - 1) / 2 := by omega
    have hl : (p' - 1) / 2 < vs'.length := by omega
    refine item_at (vs := vs') (v := vs'.getD ((p' - 1) / 2) .none) (by simp [O.items]) (by omega) (by rw [hpp]; simp [hl]) ?_
    (repeat walk_at "m")
    have hpe : E (vs'.getD ((p' - 1) / 2) .none) := hE' _ (by simp [hl])
    refine o.cmp _ _ _ _ _ _ (hP _ _ h0) hx hpe ?_
    (repeat walk_at "m")
    rw [sdGo, dif_pos hlt] at hgo
    by_cases hc : lt x (vs'.getD ((p' - 1) / 2) .none) = true
    · rw [if_pos hc]
      rw [if_pos hc] at hgo
      (repeat walk_at "m")
      refine set_at (vs := vs') (by simp) (by omega) (by omega) ?_
      (repeat walk_at "m")
      refine ⟨(p' - 1) / 2, by omega, (p' - 1) / 2, vs'.set p' (vs'.getD ((p' - 1) / 2) .none), rfl, ?_, by simpa using hl, ?_, hgo⟩
      · have e2 : ((p' : Int) - 1) / 2 = (((p' - 1) / 2 : Nat) : Int) := by omega
        refine st_ext ?_ ?_
        · rw [← e2]; rfl
        · funext b
          by_cases hb : b = d <;> simp [St.setSto, hb]
      · intro v hv
        rcases List.mem_or_eq_of_mem_set hv with q | q
        · exact hE' v q
        · exact q ▸ hpe
    · rw [if_neg hc]
      rw [if_neg hc] at hgo
      (repeat walk_at "m")
      refine set_at (vs := vs') (by simp) (by omega) (by omega) ?_
      (repeat walk_at "m")
      rw [← hgo] at h
      exact q_eq h fun b => by by_cases hb : b = d <;> simp [St.setSto, St.setLoc, hb]
  · rw [if_neg (by simpa using hlt)]
    (repeat walk_at "m")
    refine set_at (vs := vs') (by simp) (by omega) (by omega) ?_
    (repeat walk_at "m")
    rw [sdGo, dif_neg hlt] at hgo
    rw [← hgo] at h
    exact q_eq h fun b => by by_cases hb : b = d <;> simp [St.setSto, St.setLoc, hb]

end
section
variable {C : Cx} {k : Nat} {F : FE} {σ : St} {E : V → Prop} {lt : V → V → Bool} {P : (Addr → Option O) → Prop}
set_option maxHeartbeats 4000000 in
theorem su_ok {a asd d : Addr} {vs : List V} {p : Nat} {Q : V → St → Prop} (cx : CxOk C) (gl : C.GT.lookup (Str.ofString "len") = some (.opq (.builtin "len"))) (fsd : Fn C PySem.Challenge.pw_dn0024_05 (Str.ofString "_siftdown") asd) (gsd : C.GT.lookup (Str.ofString "_siftdown") = some (.ref asd))
    (fn : Fn C PySem.Challenge.pw_dn0024_05 (Str.ofString "_siftup") a)
    (o : Ord C E lt P) (hP : ∀ sto o, P sto → P (fun b => if b = d then some o else sto b)) (h0 : P σ.sto) (hd : σ.sto d = some (.lst vs)) (hp : p < vs.length) (hE : ∀ v ∈ vs, E v)
    (h : Q .none (σ.setSto d (.lst (siftup lt vs p)))) : CallOK C (k + 2) F (.ref a) [.ref d, .int p] σ Q := by
  obtain ⟨pm, cd, doc, f⟩ := fn
  refine call_own cx f rfl ?_
  intro L
  have ok := f.envOk L F.frames
  refine x_cons ?_
  (repeat walk_at "m")
  refine call_len (vs := vs) (by simp [hd, O.items]) ?_
  (repeat walk_at "m")
  refine item_at (vs := vs) (v := vs.getD p .none) (by simp [hd, O.items]) (by omega) (by simp [hp]) ?_
  (repeat walk_at "m")
  have hx : E (vs.getD p .none) := hE _ (by simp [hp])
  unfold siftup at h
  generalize hxe : vs.getD p .none = x at h hx ⊢
  refine s_whileN [Str.ofString "heap", Str.ofString "endpos", Str.ofString "startpos", Str.ofString "newitem", Str.ofString "pos", Str.ofString "childpos"]
    (fun n σ' => ∃ (q : Nat) (vs' : List V), n = vs.length - q ∧ σ' = ⟨[(Str.ofString "heap", .ref d), (Str.ofString "endpos", .int vs.length), (Str.ofString "startpos", .int p), (Str.ofString "newitem", x), (Str.ofString "pos", .int q), (Str.ofString "childpos", .int (2 * q + 1))], fun b => if b = d then some (.lst vs') else σ.sto b⟩ ∧
      q < vs.length ∧ vs'.length = vs.length ∧ (∀ v ∈ vs', E v) ∧ suGo lt vs.length q vs' = suGo lt vs.length p vs) (vs.length - p) ⟨p, vs, rfl, ?_, hp, rfl, hE, rfl⟩ ?_
  · refine st_ext rfl ?_
    funext b
    by_cases hb : b = d
    · subst hb; simp [hd]
    · simp [hb]
  rintro n σ' ⟨q, vs', rfl, rfl, hq, hlen, hE', hgo⟩
  (repeat walk_at "m")
  by_cases hlt : 2 * q + 1 < vs.length
  · rw [if_pos (by simp; omega)]
    (repeat walk_at "n")
    have hc1 : (2 * (q : Int) + 1).toNat = 2 * q + 1 := by omega
    have hc2 : (2 * (q : Int) + 1 + 1).toNat = 2 * q + 2 := by omega
    have hpk := suPick_lt lt vs.length vs' q hlt
    rw [suGo, dif_pos hlt] at hgo
    refine x_ifJ [Str.ofString "heap", Str.ofString "endpos", Str.ofString "startpos", Str.ofString "newitem", Str.ofString "pos", Str.ofString "childpos"]
      (fun σ₂ => σ₂ = ⟨[(Str.ofString "heap", .ref d), (Str.ofString "endpos", .int vs.length), (Str.ofString "startpos", .int p), (Str.ofString "newitem", x), (Str.ofString "pos", .int q), (Str.ofString "childpos", .int (suPick lt vs.length vs' q))], fun b => if b = d then some (.lst vs') else σ.sto b⟩) ?_ ?_
    · (repeat walk_at "m")
      by_cases hr : 2 * q + 2 < vs.length
      · rw [if_pos (by simp; omega)]
        (repeat walk_at "m")
        refine item_at (vs := vs') (v := vs'.getD (2 * q + 1) .none) (by simp [O.items]) (by omega) (by rw [hc1]; simp [hlen, hlt]) ?_
        (repeat walk_at "m")
        refine item_at (vs := vs') (v := vs'.getD (2 * q + 2) .none) (by simp [O.items]) (by omega) (by rw [hc2]; simp [hlen, hr]) ?_
        refine o.cmp _ _ _ _ _ _ (hP _ _ h0) (hE' _ (getD_mem (by omega))) (hE' _ (getD_mem (by omega))) ?_
        (repeat walk_at "m")
        cases hb : lt (vs'.getD (2 * q + 1) .none) (vs'.getD (2 * q + 2) .none) with
        | true =>
          rw [if_neg (by simp)]
          (repeat walk_at "m")
          refine join_next (st_ext ?_ rfl)
          have e : suPick lt vs.length vs' q = 2 * q + 1 := by unfold suPick; rw [if_neg (by rw [hb]; simp)]
          rw [e]; rfl
        | false =>
          rw [if_pos (by simp)]
          (repeat walk_at "m")
          refine join_next (st_ext ?_ rfl)
          have e : suPick lt vs.length vs' q = 2 * q + 2 := by unfold suPick; rw [if_pos ⟨hr, hb⟩]
          rw [e]; rfl
      · rw [if_neg (by simp; omega)]
        (repeat walk_at "m")
        rw [if_neg (by simp)]
        (repeat walk_at "m")
        refine join_next (st_ext ?_ rfl)
        have e : suPick lt vs.length vs' q = 2 * q + 1 := by unfold suPick; rw [if_neg (by omega)]
        rw [e]; rfl
    · rintro σ₂ rfl
      generalize hck : suPick lt vs.length vs' q = c at hpk hgo ⊢
      (repeat walk_at "m")
      refine item_at (vs := vs') (v := vs'.getD c .none) (by simp [O.items]) (by omega) (by simp [hlen, hpk.1]) ?_
      (repeat walk_at "m")
      refine set_at (vs := vs') (by simp) (by omega) (by omega) ?_
      (repeat walk_at "m")
      refine turnW_next ⟨vs.length - c, by omega, c, vs'.set q (vs'.getD c .none), rfl, st_ext rfl ?_, hpk.1, by simpa using hlen, ?_, hgo⟩
      · funext b
        by_cases hb : b = d <;> simp [St.setSto, St.setLoc, hb]
      · intro v hv
        rcases List.mem_or_eq_of_mem_set hv with r | r
        · exact hE' v r
        · exact r ▸ hE' _ (getD_mem (by omega))
  · rw [if_neg (by simp; omega)]
    (repeat walk_at "m")
    refine set_at (vs := vs') (by simp) (by omega) (by omega) ?_
    (repeat walk_at "m")
    rw [suGo, dif_neg hlt] at hgo
    rw [← hgo] at h
    have hm : ∀ v ∈ vs'.set q x, E v := fun v hv => by
      rcases List.mem_or_eq_of_mem_set hv with r | r
      · exact hE' v r
      · exact r ▸ hx
    refine ⟨let ⟨_, _, _, g⟩ := fsd; g.isFun, sd_ok cx fsd o hP ?_ (d := d) (vs := vs'.set q x) (by simp [St.setSto]) (by simp; omega) hm ?_⟩
    · exact hP _ _ (hP _ _ h0)
    · (repeat walk_at "m")
      have e : (vs'.set q x).getD q .none = x := by simp [hlen, hq]
      rw [e]
      exact q_eq h fun b => by by_cases hb : b = d <;> simp [St.setSto, St.setLoc, hb]
end
section
variable {C : Cx} {k : Nat} {F : FE} {σ : St} {E : V → Prop} {lt : V → V → Bool} {P : (Addr → Option O) → Prop}
set_option maxHeartbeats 4000000 in
theorem push_ok {a asd d : Addr} {vs : List V} {x : V} {Q : V → St → Prop} (cx : CxOk C) (gl : C.GT.lookup (Str.ofString "len") = some (.opq (.builtin "len"))) (fsd : Fn C PySem.Challenge.pw_dn0024_05 (Str.ofString "_siftdown") asd) (gsd : C.GT.lookup (Str.ofString "_siftdown") = some (.ref asd))
    (fn : Fn C PySem.Challenge.pw_dn0024_05 (Str.ofString "heappush") a)
    (o : Ord C E lt P) (hP : ∀ sto o, P sto → P (fun b => if b = d then some o else sto b)) (h0 : P σ.sto) (hd : σ.sto d = some (.lst vs)) (hl : vs.length < maxLen) (hE : ∀ v ∈ vs, E v) (hx : E x)
    (h : Q .none (σ.setSto d (.lst (pushL lt vs x)))) : CallOK C (k + 2) F (.ref a) [.ref d, x] σ Q := by
  obtain ⟨pm, cd, doc, f⟩ := fn
  refine call_own cx f rfl ?_
  intro L
  have ok := f.envOk L F.frames
  refine x_cons ?_
  (repeat walk_at "m")
  refine e_meth slot_list_append rfl ?_
  (repeat walk_at "m")
  refine ⟨d, vs, rfl, hd, ?_⟩
  (repeat walk_at "m")
  refine call_append (vs := vs) hd hl ?_
  (repeat walk_at "m")
  refine call_len (vs := vs ++ [x]) (by simp [O.items]) ?_
  (repeat walk_at "m")
  have e1 : (((vs ++ [x]).length : Nat) : Int) - 1 = ((vs.length : Nat) : Int) := by simp
  rw [e1]
  refine ⟨let ⟨_, _, _, g⟩ := fsd; g.isFun, sd_ok (sp := 0) (p := vs.length) cx fsd o hP ?_ (d := d) (vs := vs ++ [x]) (by simp) (by simp) ?_ ?_⟩
  · exact hP _ _ h0
  · intro v hv
    rcases List.mem_append.mp hv with q | q
    · exact hE v q
    · simp at q; exact q ▸ hx
  · (repeat walk_at "m")
    have e : (vs ++ [x]).getD vs.length .none = x := by simp [List.getD_eq_getElem?_getD]
    rw [e]
    exact q_eq h fun b => by by_cases hb : b = d <;> simp [St.setSto, St.setLoc, hb, pushL]
end
section
variable {C : Cx} {k : Nat} {F : FE} {σ : St} {E : V → Prop} {lt : V → V → Bool} {P : (Addr → Option O) → Prop}
set_option maxHeartbeats 4000000 in
theorem pop_ok {a asd asu d : Addr} {l : V} {ws : List V} {Q : V → St → Prop} (cx : CxOk C) (gl : C.GT.lookup (Str.ofString "len") = some (.opq (.builtin "len")))
    (fsd : Fn C PySem.Challenge.pw_dn0024_05 (Str.ofString "_siftdown") asd) (gsd : C.GT.lookup (Str.ofString "_siftdown") = some (.ref asd))
    (fsu : Fn C PySem.Challenge.pw_dn0024_05 (Str.ofString "_siftup") asu) (gsu : C.GT.lookup (Str.ofString "_siftup") = some (.ref asu)) (fn : Fn C PySem.Challenge.pw_dn0024_05 (Str.ofString "heappop") a)
    (o : Ord C E lt P) (hP : ∀ sto o, P sto → P (fun b => if b = d then some o else sto b)) (h0 : P σ.sto) (hd : σ.sto d = some (.lst (ws ++ [l]))) (hE : ∀ u ∈ ws ++ [l], E u)
    (h : Q (popV ws l) (σ.setSto d (.lst (popL lt ws l)))) : CallOK C (k + 3) F (.ref a) [.ref d] σ Q := by
  obtain ⟨pm, cd, doc, f⟩ := fn
  refine call_own cx f rfl ?_
  intro L
  have ok := f.envOk L F.frames
  have ifsu : IsFun C.GB (.ref asu) := let ⟨_, _, _, g⟩ := fsu; g.isFun
  refine x_cons ?_
  (repeat walk_at "m")
  refine e_meth PySem.F.slot_list_pop rfl ?_
  (repeat walk_at "m")
  refine ⟨d, _, rfl, hd, ?_⟩
  (repeat walk_at "m")
  refine call_pop hd ?_
  (repeat walk_at "m")
  refine truth_list (vs := ws) (by simp [O.items, St.setLoc]) ?_
  cases ws with
  | nil =>
    rw [if_neg (by simp)]
    (repeat walk_at "m")
    exact q_eq h fun b => by by_cases hb : b = d <;> simp [St.setSto, St.setLoc, hb, popL]
  | cons v r =>
    rw [if_pos (by simp)]
    (repeat walk_at "m")
    refine item_at (vs := v :: r) (v := v) (by simp [O.items, St.setLoc]) (by omega) (by simp) ?_
    (repeat walk_at "m")
    refine set_at (vs := v :: r) (by simp [St.setLoc]) (by omega) (by simp) ?_
    (repeat walk_at "m")
    refine ⟨ifsu, su_ok (p := 0) cx gl fsd gsd fsu o hP (hP _ _ (hP _ _ h0)) (d := d) (vs := l :: r) (by simp) (by simp) ?_ ?_⟩
    · intro u hu
      rcases List.mem_cons.mp hu with q | q
      · exact hE u (by simp [q])
      · exact hE u (by simp [q])
    · (repeat walk_at "m")
      exact q_eq h fun b => by by_cases hb : b = d <;> simp [St.setSto, St.setLoc, hb, popL]
end
section
variable {C : Cx} {k : Nat} {F : FE} {σ : St}
set_option maxHeartbeats 4000000 in
theorem lpush_ok {a asd apu d : Addr} {xs : List (List Int)} {x : List Int} {Q : V → St → Prop} (cx : CxOk C) (gl : C.GT.lookup (Str.ofString "len") = some (.opq (.builtin "len"))) (gs : C.GT.lookup (Str.ofString "sorted") = some (.opq (.builtin "sorted")))
    (fsd : Fn C PySem.Challenge.pw_dn0024_05 (Str.ofString "_siftdown") asd) (gsd : C.GT.lookup (Str.ofString "_siftdown") = some (.ref asd)) (fpu : Fn C PySem.Challenge.pw_dn0024_05 (Str.ofString "heappush") apu) (gpu : C.GT.lookup (Str.ofString "heappush") = some (.ref apu))
    (fn : Fn C PySem.Challenge.pw_dn0024_05 (Str.ofString "_law_push") a) (hd : σ.sto d = some (.lst (xs.map V.tup))) (hl : xs.length < 63) (hne : ∀ y ∈ x :: xs, y ≠ []) (hh : Heapd ltV 0 (xs.map V.tup))
    (h : ∀ (ys : List (List Int)) sto', ys.Perm (x :: xs) → Heapd ltV 0 (ys.map V.tup) → Keep d σ.sto sto' → sto' d = some (.lst (ys.map V.tup)) → Q (.bool true) ⟨σ.loc, sto'⟩) : CallOK C (k + 9) F (.ref a) [.ref d, .tup x] σ Q := by
  obtain ⟨pm, cd, doc, f⟩ := fn
  refine call_own cx f rfl ?_
  intro L
  have ok := f.envOk L F.frames
  have hm : maxLen = 1048576 := by decide
  have ifpu : IsFun C.GB (.ref apu) := let ⟨_, _, _, g⟩ := fpu; g.isFun
  refine x_cons ?_
  (repeat walk_at "m")
  refine ⟨by simp [maxLen], fun t1 ht1 => ?_⟩
  have m1 : d ≠ t1 := fun e => by rw [← e] at ht1; simp [hd] at ht1
  refine bin_cat (us := xs.map V.tup) (vs := [x].map V.tup) (by simp [St.setSto, m1, hd, O.items]) (by simp [St.setSto, O.items]) (by simp; omega) fun t2 ht2 => ?_
  have m2 : d ≠ t2 := fun e => by rw [← e] at ht2; simp [St.setSto, m1, hd] at ht2
  (repeat walk_at "m")
  refine call_sorted_tups (xs := xs ++ [x]) (by simp [St.setSto, O.items]) (fun y hy => hne y (by simp at hy ⊢; exact hy.symm)) (by simp; omega) fun t3 ht3 => ?_
  have m3 : d ≠ t3 := fun e => by rw [← e] at ht3; simp [St.setSto, m1, m2, hd] at ht3
  (repeat walk_at "m")
  obtain ⟨ys, e1, p1, hh1⟩ := pushT (x := x) hh
  refine ⟨ifpu, push_ok (vs := xs.map V.tup) cx gl fsd gsd fpu ord_tup (fun _ _ _ => trivial) trivial (d := d) (by simp [St.setLoc, St.setSto, m1, m2, m3, hd]) (by simp; omega) (tups_isT _) ⟨_, rfl⟩ ?_⟩
  rw [e1]
  (repeat walk_at "m")
  refine cmp_is_none (fun v e => by cases e) ?_
  (repeat walk_at "m")
  rw [if_pos (by rfl)]
  (repeat walk_at "m")
  refine call_sorted_tups (xs := ys) (by simp [St.setSto, St.setLoc, O.items]) (fun y hy => hne y (p1.mem_iff.mp hy)) (by rw [p1.length_eq]; simp; omega) fun t4 ht4 => ?_
  have m4 : d ≠ t4 := fun e => by rw [← e] at ht4; simp [St.setSto, St.setLoc] at ht4
  have m5 : t3 ≠ t4 := fun e => by rw [← e] at ht4; simp [St.setSto, St.setLoc, Ne.symm m3] at ht4
  have es : sortT ys = sortT (xs ++ [x]) := sortT_cong (p1.trans (by simpa using (List.perm_append_comm (l₁ := [x]) (l₂ := xs))))
  (repeat walk_at "m")
  refine cmp_eq_tups (xs := sortT ys) (ys := sortT (xs ++ [x])) (by omega) (by simp [St.setSto, O.items]) (by simp [St.setSto, St.setLoc, m5, Ne.symm m3, O.items]) ?_
  (repeat walk_at "m")
  rw [if_pos (by simp [es])]
  (repeat walk_at "m")
  cases ys with
  | nil => exact absurd p1.length_eq (by simp)
  | cons y0 yr =>
    have hs := sortT_head (.refl _) (topT hh1)
    refine item_at (vs := (y0 :: yr).map V.tup) (v := .tup y0) (by simp [St.setSto, St.setLoc, m4, O.items]) (by omega) (by simp) ?_
    (repeat walk_at "m")
    refine item_at (vs := (sortT (xs ++ [x])).map V.tup) (v := .tup y0) (by simp [St.setSto, St.setLoc, m5, Ne.symm m3, O.items]) (by omega) (by rw [← es, hs]; simp) ?_
    refine cmp_eq_tup (by omega) ?_
    (repeat walk_at "m")
    have ee : decide (y0 = y0) = true := by simp
    rw [ee]
    have fresh : ∀ b o, σ.sto b = some o → b ≠ d → b ≠ t1 ∧ b ≠ t2 ∧ b ≠ t3 ∧ b ≠ t4 := fun b o hb hbd => by
      have q1 : b ≠ t1 := fun e => by rw [← e] at ht1; simp [hb] at ht1
      have q2 : b ≠ t2 := fun e => by rw [← e] at ht2; simp [St.setSto, q1, hb] at ht2
      have q3 : b ≠ t3 := fun e => by rw [← e] at ht3; simp [St.setSto, q1, q2, hb] at ht3
      exact ⟨q1, q2, q3, fun e => by rw [← e] at ht4; simp [St.setSto, St.setLoc, q1, q2, q3, hb, hbd] at ht4⟩
    refine h (y0 :: yr) _ p1 hh1 (fun b o hbd hb => ?_) ?_
    · obtain ⟨q1, q2, q3, q4⟩ := fresh b o hb hbd
      simp [St.setSto, St.setLoc, q1, q2, q3, q4, hbd, hb]
    · simp [St.setSto, St.setLoc, m4]
end
section
variable {C : Cx} {k : Nat} {F : FE} {σ : St}
set_option maxHeartbeats 4000000 in
theorem lpop_ok {a asd asu apo d : Addr} {x0 : List Int} {xs : List (List Int)} {Q : V → St → Prop} (cx : CxOk C) (gl : C.GT.lookup (Str.ofString "len") = some (.opq (.builtin "len"))) (gs : C.GT.lookup (Str.ofString "sorted") = some (.opq (.builtin "sorted")))
    (fsd : Fn C PySem.Challenge.pw_dn0024_05 (Str.ofString "_siftdown") asd) (gsd : C.GT.lookup (Str.ofString "_siftdown") = some (.ref asd)) (fsu : Fn C PySem.Challenge.pw_dn0024_05 (Str.ofString "_siftup") asu) (gsu : C.GT.lookup (Str.ofString "_siftup") = some (.ref asu))
    (fpo : Fn C PySem.Challenge.pw_dn0024_05 (Str.ofString "heappop") apo) (gpo : C.GT.lookup (Str.ofString "heappop") = some (.ref apo))
    (fn : Fn C PySem.Challenge.pw_dn0024_05 (Str.ofString "_law_pop") a) (hd : σ.sto d = some (.lst ((x0 :: xs).map V.tup))) (hl : (x0 :: xs).length < 64) (hne : ∀ y ∈ x0 :: xs, y ≠ []) (hh : Heapd ltV 0 ((x0 :: xs).map V.tup))
    (h : ∀ (r : List (List Int)) sto', (x0 :: xs).Perm (x0 :: r) → Heapd ltV 0 (r.map V.tup) → Keep d σ.sto sto' → sto' d = some (.lst (r.map V.tup)) → Q (.tup x0) ⟨σ.loc, sto'⟩) : CallOK C (k + 9) F (.ref a) [.ref d] σ Q := by
  obtain ⟨pm, cd, doc, f⟩ := fn
  refine call_own cx f rfl ?_
  intro L
  have ok := f.envOk L F.frames
  have hm : maxLen = 1048576 := by decide
  have ifpo : IsFun C.GB (.ref apo) := let ⟨_, _, _, g⟩ := fpo; g.isFun
  refine x_cons ?_
  (repeat walk_at "m")
  refine call_sorted_tups (xs := x0 :: xs) (by simp [hd, O.items]) hne hl fun t1 ht1 => ?_
  have m1 : d ≠ t1 := fun e => by rw [← e] at ht1; simp [hd] at ht1
  (repeat walk_at "m")
  rcases List.eq_nil_or_concat (x0 :: xs) with q | ⟨hs0, l, q⟩
  · cases q
  rw [List.concat_eq_append] at q
  have hh' := hh
  rw [q] at hh'
  obtain ⟨v, r, g1, g2, g3, g4, g5, g6⟩ := popT hh'
  rw [← q] at g3 g5
  have ev : x0 = v := by simpa using g5
  subst ev
  have hs : sortT (x0 :: xs) = x0 :: sortT r := sortT_head g3 (topT hh)
  have hrl : r.length ≤ xs.length := by have := g3.length_eq; simp at this; omega
  refine ⟨ifpo, pop_ok (ws := hs0.map V.tup) (l := .tup l) cx gl fsd gsd fsu gsu fpo ord_tup (fun _ _ _ => trivial) trivial (d := d) ?_ ?_ ?_⟩
  · have : hs0.map V.tup ++ [V.tup l] = (x0 :: xs).map V.tup := by rw [q]; simp
    rw [this]; simp [St.setLoc, St.setSto, m1, hd]
  · have := tups_isT (hs0 ++ [l]); rwa [List.map_append] at this
  rw [g1, g2]
  (repeat walk_at "m")
  refine item_at (vs := (sortT (x0 :: xs)).map V.tup) (v := .tup x0) (by simp [St.setSto, St.setLoc, Ne.symm m1, O.items]) (by omega) (by rw [hs]; simp) ?_
  refine cmp_ne_tup (by omega) ?_
  (repeat walk_at "m")
  rw [if_neg (by simp)]
  (repeat walk_at "m")
  refine call_sorted_tups (xs := r) (by simp [St.setSto, St.setLoc, O.items]) (fun y hy => hne y (g3.mem_iff.mpr (.tail _ hy))) (by simp at hl; omega) fun t2 ht2 => ?_
  have m2 : d ≠ t2 := fun e => by rw [← e] at ht2; simp [St.setSto, St.setLoc] at ht2
  have m3 : t1 ≠ t2 := fun e => by rw [← e] at ht2; simp [St.setSto, St.setLoc, Ne.symm m1] at ht2
  (repeat walk_at "m")
  have ep1 : pickV ((sortT (x0 :: xs)).map V.tup) (some 1) none none = (sortT r).map V.tup := by rw [pickV_from _ (by omega), hs]; simp
  have hsl : (sortT r).length ≤ 64 := by rw [sortT_length]; simp at hl; omega
  refine ⟨t1, (sortT (x0 :: xs)).map V.tup, rfl, by simp [St.setSto, St.setLoc, m3, Ne.symm m1, O.items], fun e => by simp at e, by rw [ep1]; simp; omega, fun t3 ht3 => ?_⟩
  rw [ep1]
  have n1 : d ≠ t3 := fun e => by rw [← e] at ht3; simp [St.setSto, St.setLoc, m2] at ht3
  have n2 : t1 ≠ t3 := fun e => by rw [← e] at ht3; simp [St.setSto, St.setLoc, m3, Ne.symm m1] at ht3
  have n3 : t2 ≠ t3 := fun e => by rw [← e] at ht3; simp [St.setSto, St.setLoc] at ht3
  refine cmp_ne_tups (xs := sortT r) (ys := sortT r) (by omega) (by simp [St.setSto, n3, O.items]) (by simp [St.setSto, O.items]) ?_
  (repeat walk_at "m")
  rw [if_neg (by simp)]
  (repeat walk_at "m")
  have ep2 : pickV (r.map V.tup) none (some 1) none = (r.take 1).map V.tup := by rw [pickV_upto _ (by omega)]; simp
  refine ⟨d, r.map V.tup, rfl, by simp [St.setSto, St.setLoc, m2, n1, O.items], fun e => by simp at e, by rw [ep2]; simp; omega, fun t4 ht4 => ?_⟩
  rw [ep2]
  have o1 : d ≠ t4 := fun e => by rw [← e] at ht4; simp [St.setSto, St.setLoc, m2, n1] at ht4
  have o2 : t1 ≠ t4 := fun e => by rw [← e] at ht4; simp [St.setSto, St.setLoc, m3, n2, Ne.symm m1] at ht4
  (repeat walk_at "m")
  have ep3 : pickV ((sortT (x0 :: xs)).map V.tup) (some 1) (some 2) none = ((sortT r).take 1).map V.tup := by
    rw [pickV_mid, hs]; simp
  refine ⟨t1, (sortT (x0 :: xs)).map V.tup, rfl, by simp [St.setSto, St.setLoc, m3, n2, o2, Ne.symm m1, O.items], fun e => by simp at e, by rw [ep3]; simp; omega, fun t5 ht5 => ?_⟩
  rw [ep3]
  have o3 : t4 ≠ t5 := fun e => by rw [← e] at ht5; simp [St.setSto, St.setLoc] at ht5
  have o4 : d ≠ t5 := fun e => by rw [← e] at ht5; simp [St.setSto, St.setLoc, m2, n1, o1] at ht5
  have et : (sortT r).take 1 = r.take 1 := by
    cases r with
    | nil => simp [sortT]
    | cons y yr => rw [sortT_head (.refl _) (topT g4)]; simp
  refine cmp_ne_tups (xs := r.take 1) (ys := (sortT r).take 1) (by omega) (by simp [St.setSto, o3, O.items]) (by simp [St.setSto, O.items]) ?_
  (repeat walk_at "m")
  rw [if_neg (by simp [et])]
  (repeat walk_at "m")
  have fresh : ∀ b o, σ.sto b = some o → b ≠ d → b ≠ t1 ∧ b ≠ t2 ∧ b ≠ t3 ∧ b ≠ t4 ∧ b ≠ t5 := fun b o hb hbd => by
    have q1 : b ≠ t1 := fun e => by rw [← e] at ht1; simp [hb] at ht1
    have q2 : b ≠ t2 := fun e => by rw [← e] at ht2; simp [St.setSto, St.setLoc, q1, hb, hbd] at ht2
    have q3 : b ≠ t3 := fun e => by rw [← e] at ht3; simp [St.setSto, St.setLoc, q1, q2, hb, hbd] at ht3
    have q4 : b ≠ t4 := fun e => by rw [← e] at ht4; simp [St.setSto, St.setLoc, q1, q2, q3, hb, hbd] at ht4
    exact ⟨q1, q2, q3, q4, fun e => by rw [← e] at ht5; simp [St.setSto, St.setLoc, q1, q2, q3, q4, hb, hbd] at ht5⟩
  refine h r _ g3 g4 (fun b o hbd hb => ?_) ?_
  · obtain ⟨q1, q2, q3, q4, q5⟩ := fresh b o hb hbd
    simp [St.setSto, St.setLoc, q1, q2, q3, q4, q5, hbd, hb]
  · simp [St.setSto, St.setLoc, m2, n1, o1, o4]
end
section
variable {C : Cx} {k : Nat}
set_option maxHeartbeats 8000000 in
theorem law_due {a dw di : Addr} {ws es : List Way} {S : List Int} {W : Int} (cx : CxOk C) (gr : C.GT.lookup (Str.ofString "range") = some (.opq (.type "range"))) (gs : C.GT.lookup (Str.ofString "sorted") = some (.opq (.builtin "sorted")))
    (gli : C.GT.lookup (Str.ofString "list") = some (.opq (.type "list"))) (gsu : C.GT.lookup (Str.ofString "sum") = some (.opq (.builtin "sum")))
    {pm cd doc : Value} (f : FnAt C a (fdOf (stOf PySem.Challenge.pw_dn0024_05 (Str.ofString "law")) pm cd doc) (bodyOf (stOf PySem.Challenge.pw_dn0024_05 (Str.ofString "law"))) (namesOf (stOf PySem.Challenge.pw_dn0024_05 (Str.ofString "law")))) (L : Addr)
    {s : Addr → Option O} (hsw : s dw = some (.lst (ws.map fun e => V.tup e.tri))) (hsi : s di = some (.lst (S.map V.int))) (hws : ∀ e ∈ ws, place e.a ∧ place e.b) (hwl : ws.length ≤ 21) (hSl : S.length ≤ 9) (hpe : es.Perm ws) (hse : sortT (ws.map Way.tri) = es.map Way.tri)
    (hW : tot (krun es kstart) = W) (hS : sortI S = inPart (krun es kstart)) :
    TX C (k + 12) (frameOf (fdOf (stOf PySem.Challenge.pw_dn0024_05 (Str.ofString "law")) pm cd doc) L a []) ((bodyOf (stOf PySem.Challenge.pw_dn0024_05 (Str.ofString "law"))).drop 7)
      ⟨[(Str.ofString "ways", .ref dw), (Str.ofString "inside", .ref di), (Str.ofString "weight", .int W)], s⟩ fun fl _ => retV fl = .bool true := by
  have ok := f.envOk L []
  have hm : maxLen = 1048576 := by decide
  refine x_cons (s_assign (hk := .inr ⟨rfl, L + 1, rfl, .tail _ (.tail _ (.tail _ (.tail _ (.head _))))⟩) ok ?_)
  (repeat walk_at "m")
  refine call_range1 ?_
  (repeat walk_at "m")
  refine call_list_rng (n := 9) (by decide) (by decide) (by omega) fun dp hdp => ?_
  have hid : (List.range 9).map (fun (j : Nat) => (0 : Int) + (j : Int) * 1) = tabI kstart.lab := by decide
  rw [hid]
  have p1 : dw ≠ dp := ne_new hsw hdp
  have p2 : di ≠ dp := ne_new hsi hdp
  refine then_next (x_cons (s_assign (hk := .inr ⟨rfl, L + 2, rfl, .tail _ (.tail _ (.tail _ (.head _)))⟩) ok ?_))
  (repeat walk_at "m")
  refine ⟨by simp [maxLen], fun t1 ht1 => ?_⟩
  have q1 : dw ≠ t1 := ne_new (o := .lst (ws.map fun e => V.tup e.tri)) (by simp [St.setSto, St.setLoc, p1, hsw]) ht1
  have q2 : di ≠ t1 := ne_new (o := .lst (S.map V.int)) (by simp [St.setSto, St.setLoc, p2, hsi]) ht1
  have q3 : dp ≠ t1 := ne_new (o := .lst ((tabI kstart.lab).map V.int)) (by simp [St.setSto, St.setLoc]) ht1
  (repeat walk_at "m")
  refine bin_rep (n := 9) (v := .int 0) (by simp [St.setSto]) (by omega) fun dd hdd => ?_
  have hiz : List.replicate 9 (V.int 0) = (tabI kstart.due).map V.int := rfl
  rw [hiz]
  have r1 : dw ≠ dd := ne_new (o := .lst (ws.map fun e => V.tup e.tri)) (by simp [St.setSto, St.setLoc, p1, q1, hsw]) hdd
  have r2 : di ≠ dd := ne_new (o := .lst (S.map V.int)) (by simp [St.setSto, St.setLoc, p2, q2, hsi]) hdd
  have r3 : dp ≠ dd := ne_new (o := .lst ((tabI kstart.lab).map V.int)) (by simp [St.setSto, St.setLoc, q3]) hdd
  refine then_next (x_cons ?_)
  refine s_forN [Str.ofString "inside", Str.ofString "weight", Str.ofString "parts", Str.ofString "due"] (titer_of ?_)
  (repeat walk_at "m")
  refine call_sorted_tups (xs := ws.map Way.tri) (by simp [St.setSto, St.setLoc, p1, q1, r1, hsw, O.items]) (fun x hx => by obtain ⟨e, _, rfl⟩ := List.mem_map.mp hx; simp [Way.tri]) (by simp; omega) fun D hD => ?_
  rw [hse]
  have s2 : di ≠ D := ne_new (o := .lst (S.map V.int)) (by simp [St.setSto, St.setLoc, p2, q2, r2, hsi]) hD
  have s3 : dp ≠ D := ne_new (o := .lst ((tabI kstart.lab).map V.int)) (by simp [St.setSto, St.setLoc, q3, r3]) hD
  have s4 : dd ≠ D := ne_new (o := .lst ((tabI kstart.due).map V.int)) (by simp [St.setSto, St.setLoc]) hD
  refine iter_list (vs := (es.map Way.tri).map V.tup) (by simp [O.items, St.setLoc, St.setSto]) ?_
  refine ⟨fun j σ' => ∃ s dp, σ' = ⟨[(Str.ofString "inside", .ref di), (Str.ofString "weight", .int W), (Str.ofString "parts", .ref dp), (Str.ofString "due", .ref dd)], s⟩ ∧ s di = some (.lst (S.map V.int)) ∧ s D = some (.lst ((es.map Way.tri).map V.tup)) ∧
      s dp = some (.lst ((tabI (krun (es.take j) kstart).lab).map V.int)) ∧ s dd = some (.lst ((tabI (krun (es.take j) kstart).due).map V.int)) ∧ dp ≠ dd ∧ j ≤ es.length, es.length,
    ⟨_, dp, rfl, by simp [St.setSto, St.setLoc, p2, q2, r2, s2, hsi], by simp [St.setSto, St.setLoc], by simp [St.setSto, St.setLoc, q3, r3, s3, krun], by simp [St.setSto, St.setLoc, s4, krun], r3, by omega⟩, ?_⟩
  clear p1 p2 q1 q2 q3 r1 r3 s3 hsw hsi hdp hdd ht1 hD dp
  rintro j σ' ⟨s, dp, rfl, hsi, hsD, hsp, hsd, hpd, hj⟩
  refine ⟨hj, _, getList_at (vs := (es.map Way.tri).map V.tup) (by simp [hsD, O.items]), ?_⟩
  by_cases hjl : j < es.length
  · rw [List.getElem?_map, List.getElem?_map, List.getElem?_eq_getElem hjl]
    obtain ⟨pa, pb⟩ := hws _ (hpe.mem_iff.mp (List.getElem_mem hjl))
    have hrn : krun (es.take (j + 1)) kstart = kstep (krun (es.take j) kstart) es[j] := by rw [List.take_succ_eq_append_getElem hjl]; unfold krun; rw [List.foldl_append]; rfl
    generalize hK : krun (es.take j) kstart = K at hsp hsd hrn
    refine asg_tup (xs := [es[j].w, es[j].a, es[j].b]) rfl (asg_name ok (asg_name ok (asg_name ok ?_)))
    refine x_cons ?_
    (repeat walk_at "m")
    refine item_at (vs := (tabI K.lab).map V.int) (v := .int (K.lab es[j].a)) (by simp [St.setLoc, hsp, O.items]) pa.1 (tabI_at _ pa) ?_
    (repeat walk_at "m")
    refine item_at (vs := (tabI K.lab).map V.int) (v := .int (K.lab es[j].b)) (by simp [St.setLoc, hsp, O.items]) pb.1 (tabI_at _ pb) ?_
    (repeat walk_at "m")
    by_cases hjo : K.lab es[j].a = K.lab es[j].b
    · rw [if_neg (by simp [hjo])]
      (repeat walk_at "m")
      exact turnF_next ⟨_, dp, rfl, hsi, hsD, by rw [hrn, kstep_no hjo]; exact hsp, by rw [hrn, kstep_no hjo]; exact hsd, hpd, by omega⟩
    · rw [if_pos (by simp [hjo])]
      refine x_cons (s_asgtup ?_)
      (repeat walk_at "m")
      refine item_at (vs := (tabI K.lab).map V.int) (v := .int (K.lab es[j].b)) (by simp [St.setLoc, hsp, O.items]) pb.1 (tabI_at _ pb) ?_
      (repeat walk_at "m")
      refine item_at (vs := (tabI K.lab).map V.int) (v := .int (K.lab es[j].a)) (by simp [St.setLoc, hsp, O.items]) pa.1 (tabI_at _ pa) ?_
      (repeat walk_at "m")
      refine ⟨[K.lab es[j].b, K.lab es[j].a], rfl, by simp [maxLen], ?_⟩
      refine asg_tup rfl (asg_name (hk := .inr ⟨rfl, L + 3, rfl, .tail _ (.tail _ (.head _))⟩) ok (asg_name (hk := .inr ⟨rfl, L + 4, rfl, .tail _ (.head _)⟩) ok ?_))
      refine then_next (x_cons ?_)
      refine s_assign (hk := .inr ⟨rfl, L + 1, rfl, .tail _ (.tail _ (.tail _ (.tail _ (.head _))))⟩) ok (e_comp (hcl := fun p hp => by
        rcases List.mem_cons.mp hp with e | hp
        · rw [e]; exact .head _
        · rw [List.mem_singleton.mp hp]; exact .tail _ (.head _)) (hap := by simp) ok [(Str.ofString "kept", L + 4), (Str.ofString "gone", L + 3)] [(Str.ofString "kept", .int (K.lab es[j].a)), (Str.ofString "gone", .int (K.lab es[j].b))] (titer_of ?_))
      (repeat walk_at "m")
      refine iter_list (vs := (tabI K.lab).map V.int) (by simp [hsp, O.items, St.setLoc]) ?_
      refine ⟨free2 ⟨rfl, .inl rfl, .inl rfl, rfl⟩ ⟨rfl, .inl rfl, .inl rfl, rfl⟩, fun i out s => out = ((places.take i).map fun p => V.int ((kstep K es[j]).lab p)) ∧ i ≤ 9 ∧ s di = some (.lst (S.map V.int)) ∧ s D = some (.lst ((es.map Way.tri).map V.tup)) ∧ s dp = some (.lst ((tabI K.lab).map V.int)) ∧ s dd = some (.lst ((tabI K.due).map V.int)), 9,
        ⟨rfl, by omega, hsi, hsD, hsp, hsd⟩, ?_⟩
      clear hsi hsD hsp hsd
      rintro c i out s okc ⟨rfl, hi, hsi, hsD, hsp, hsd⟩
      refine ⟨hi, _, getList_at (vs := (tabI K.lab).map V.int) (by simp [hsp, O.items]), ?_⟩
      by_cases hil : i < 9
      · have hpi : place (i : Int) := ⟨by omega, by omega⟩
        have hat := tabI_at K.lab hpi
        rw [Int.toNat_natCast] at hat
        rw [hat]
        refine asg_name okc ?_
        show TE _ _ _ _ _ _
        have htk : (places.take (i + 1)).map (fun p => V.int ((kstep K es[j]).lab p)) = (places.take i).map (fun p => V.int ((kstep K es[j]).lab p)) ++ [V.int ((kstep K es[j]).lab i)] := by
          have : places[i]? = some (i : Int) := by unfold places; simp [hil]
          rw [List.take_add_one, this]; simp
        (repeat walk_at "m")
        by_cases hg : K.lab i = K.lab es[j].b
        · rw [if_pos (by simp [hg])]
          (repeat walk_at "m")
          exact ⟨by simp; omega, rfl, by rw [htk, kstep_lab hjo, if_pos hg], by omega, hsi, hsD, hsp, hsd⟩
        · rw [if_neg (by simp [hg])]
          (repeat walk_at "m")
          exact ⟨by simp; omega, rfl, by rw [htk, kstep_lab hjo, if_neg hg], by omega, hsi, hsD, hsp, hsd⟩
      · rw [List.getElem?_eq_none (by rw [List.length_map, tabI_len]; omega)]
        intro dn hdn
        have hi9 : i = 9 := by omega
        subst hi9
        have u1 : di ≠ dn := ne_new hsi hdn
        have u2 : D ≠ dn := ne_new hsD hdn
        have u3 : dd ≠ dn := ne_new hsd hdn
        have hnew : (places.take 9).map (fun p => V.int ((kstep K es[j]).lab p)) = (tabI (kstep K es[j]).lab).map V.int := by unfold tabI; rw [List.map_map]; rfl
        rw [hnew]
        (repeat walk_at "m")
        refine item_at (vs := (tabI K.due).map V.int) (v := .int (K.due es[j].a)) (by simp [St.setLoc, St.setSto, u3, hsd, O.items]) pa.1 (tabI_at _ pa) ?_
        (repeat walk_at "m")
        refine set_at (vs := (tabI K.due).map V.int) (by simp [St.setLoc, St.setSto, u3, hsd]) pa.1 (by rw [List.length_map, tabI_len]; exact pa.2) ?_
        rw [tabI_set _ pa]
        have hdu : (fun x => if x = es[j].a then K.due es[j].a + es[j].w else K.due x) = (kstep K es[j]).due := by
          funext x
          rw [kstep_due hjo]
          by_cases hxa : x = es[j].a
          · rw [if_pos hxa, if_pos hxa, hxa]
          · rw [if_neg hxa, if_neg hxa]
        rw [hdu]
        (repeat walk_at "m")
        exact turnF_next ⟨_, dn, rfl, by simp [St.setSto, St.setLoc, u1, r2, hsi], by simp [St.setSto, St.setLoc, u2, Ne.symm s4, hsD], by rw [hrn]; simp [St.setSto, St.setLoc, Ne.symm u3], by rw [hrn]; simp [St.setSto, St.setLoc], Ne.symm u3, by omega⟩
  · rw [List.getElem?_eq_none (by rw [List.length_map, List.length_map]; omega)]
    have : j = es.length := by omega
    subst this
    rw [List.take_length] at hsp hsd
    generalize krun es kstart = K at hsp hsd hW hS
    (repeat walk_at "m")
    refine call_sorted_ints (xs := S) (by simp [hsi, O.items]) (by omega) fun d1 hd1 => ?_
    rw [hS]
    have v1 : dp ≠ d1 := ne_new hsp hd1
    have v2 : dd ≠ d1 := ne_new hsd hd1
    have p0 : place 0 := ⟨by omega, by omega⟩
    have htk : ∀ i : Nat, i < 9 → places.take (i + 1) = places.take i ++ [(i : Int)] := fun i hi => by
      have : places[i]? = some (i : Int) := by unfold places; simp [hi]
      rw [List.take_add_one, this]; simp
    refine e_comp (hcl := fun p hp => by rw [List.mem_singleton.mp hp]; exact .tail _ (.tail _ (.tail _ (.head _)))) (hap := List.pairwise_singleton _ _) ok [(Str.ofString "parts", L + 1)] [(Str.ofString "parts", .ref dp)] (titer_of ?_)
    (repeat walk_at "m")
    refine call_range1 ?_
    (repeat walk_at "m")
    refine iter_range0 (n := 9) (by omega) ?_
    refine ⟨free1 ⟨rfl, .inl rfl, .inl rfl, rfl⟩, fun i out s => out = ((places.take i).filter fun p => decide (K.lab p = K.lab 0)).map V.int ∧ i ≤ 9 ∧ s d1 = some (.lst ((inPart K).map V.int)) ∧ s dp = some (.lst ((tabI K.lab).map V.int)) ∧ s dd = some (.lst ((tabI K.due).map V.int)), 9,
      ⟨rfl, by omega, by simp [St.setSto], by simp [St.setSto, v1, hsp], by simp [St.setSto, v2, hsd]⟩, ?_⟩
    clear hsi hsp hsd hsD hd1
    rintro c i out s okc ⟨rfl, hi, hs1, hsp, hsd⟩
    refine ⟨hi, _, rfl, ?_⟩
    by_cases hil : i < 9
    · rw [if_pos hil]
      refine asg_name okc ?_
      show TB _ _ _ _ _ _
      have ei : (0 : Int) + (i : Int) * 1 = (i : Int) := by omega
      have hpi : place (i : Int) := ⟨by omega, by omega⟩
      have hfl : ((places.take i).filter fun p => decide (K.lab p = K.lab 0)).length ≤ 9 := Nat.le_trans (List.length_filter_le _ _) (by simp [places]; omega)
      rw [ei]
      (repeat walk_at "m")
      refine item_at (vs := (tabI K.lab).map V.int) (v := .int (K.lab i)) (by simp [St.setLoc, hsp, O.items]) (by omega) (tabI_at _ hpi) ?_
      (repeat walk_at "m")
      refine item_at (vs := (tabI K.lab).map V.int) (v := .int (K.lab 0)) (by simp [St.setLoc, hsp, O.items]) (by omega) (tabI_at _ p0) ?_
      (repeat walk_at "m")
      by_cases hg : K.lab i = K.lab 0
      · rw [if_pos (by simp [hg])]
        (repeat walk_at "m")
        exact ⟨by simp at hfl ⊢; omega, rfl, by rw [htk i hil, List.filter_append]; simp [hg], by omega, hs1, hsp, hsd⟩
      · rw [if_neg (by simp [hg])]
        exact ⟨rfl, by rw [htk i hil, List.filter_append]; simp [hg], by omega, hs1, hsp, hsd⟩
    rw [if_neg hil]
    intro d2 hd2
    have hi9 : i = 9 := by omega
    subst hi9
    have hin : (places.take 9).filter (fun p => decide (K.lab p = K.lab 0)) = inPart K := rfl
    rw [hin]
    have w1 : d1 ≠ d2 := ne_new hs1 hd2
    have w2 : dp ≠ d2 := ne_new hsp hd2
    have w3 : dd ≠ d2 := ne_new hsd hd2
    refine cmp_ne_ints (xs := inPart K) (ys := inPart K) (by omega) (by simp [St.setSto, w1, hs1, O.items]) (by simp [St.setSto, O.items]) ?_
    (repeat walk_at "m")
    rw [if_neg (by simp)]
    (repeat walk_at "m")
    refine e_comp (hcl := fun p hp => by
        rcases List.mem_cons.mp hp with e | hp
        · rw [e]; exact .tail _ (.tail _ (.tail _ (.head _)))
        · rw [List.mem_singleton.mp hp]; exact .tail _ (.tail _ (.head _))) (hap := by simp) ok [(Str.ofString "parts", L + 1), (Str.ofString "due", L + 2)] [(Str.ofString "parts", .ref dp), (Str.ofString "due", .ref dd)] (titer_of ?_)
    (repeat walk_at "m")
    refine call_range1 ?_
    (repeat walk_at "m")
    refine iter_range0 (n := 9) (by omega) ?_
    refine ⟨free2 ⟨rfl, .inl rfl, .inl rfl, rfl⟩ ⟨rfl, .inl rfl, .inl rfl, rfl⟩, fun i out s => out = (((places.take i).filter fun p => decide (K.lab p = K.lab 0)).map K.due).map V.int ∧ i ≤ 9 ∧ s dp = some (.lst ((tabI K.lab).map V.int)) ∧ s dd = some (.lst ((tabI K.due).map V.int)), 9,
      ⟨rfl, by omega, by simp [St.setSto, w2, hsp], by simp [St.setSto, w3, hsd]⟩, ?_⟩
    clear hsp hsd hs1 hd2
    rintro c i out s okc ⟨rfl, hi, hsp, hsd⟩
    refine ⟨hi, _, rfl, ?_⟩
    by_cases hil : i < 9
    · rw [if_pos hil]
      refine asg_name okc ?_
      show TB _ _ _ _ _ _
      have ei : (0 : Int) + (i : Int) * 1 = (i : Int) := by omega
      have hpi : place (i : Int) := ⟨by omega, by omega⟩
      have hfl : ((places.take i).filter fun p => decide (K.lab p = K.lab 0)).length ≤ 9 := Nat.le_trans (List.length_filter_le _ _) (by simp [places]; omega)
      rw [ei]
      (repeat walk_at "m")
      refine item_at (vs := (tabI K.lab).map V.int) (v := .int (K.lab i)) (by simp [St.setLoc, hsp, O.items]) (by omega) (tabI_at _ hpi) ?_
      (repeat walk_at "m")
      refine item_at (vs := (tabI K.lab).map V.int) (v := .int (K.lab 0)) (by simp [St.setLoc, hsp, O.items]) (by omega) (tabI_at _ p0) ?_
      (repeat walk_at "m")
      by_cases hg : K.lab i = K.lab 0
      · rw [if_pos (by simp [hg])]
        (repeat walk_at "m")
        refine item_at (vs := (tabI K.due).map V.int) (v := .int (K.due i)) (by simp [St.setLoc, hsd, O.items]) (by omega) (tabI_at _ hpi) ?_
        exact ⟨by simp at hfl ⊢; omega, rfl, by rw [htk i hil, List.filter_append]; simp [hg], by omega, hsp, hsd⟩
      · rw [if_neg (by simp [hg])]
        exact ⟨rfl, by rw [htk i hil, List.filter_append]; simp [hg], by omega, hsp, hsd⟩
    rw [if_neg hil]
    intro d3 hd3
    have hi9 : i = 9 := by omega
    subst hi9
    (repeat walk_at "m")
    refine call_sum_ints (xs := (inPart K).map K.due) (by simp [St.setSto, O.items]; rfl) ?_
    (repeat walk_at "m")
    show V.bool _ = V.bool true
    have : ((inPart K).map K.due).sum = W := hW
    rw [this]
    simp
end
section
variable {C : Cx} {k : Nat}
def triOf (xs : List Int) (i : Nat) : Way := ⟨(xs.getD (3 * i) 0).fmod 9, (xs.getD (3 * i + 1) 0).fmod 9, xs.getD (3 * i + 2) 0⟩
def trisOf (xs : List Int) (n : Nat) : List Way := (List.range n).map (triOf xs)
theorem tri_ok (xs : List Int) (n : Nat) : ∀ e ∈ trisOf xs n, place e.a ∧ place e.b := fun e he => by
  obtain ⟨i, _, rfl⟩ := List.mem_map.mp he
  exact ⟨⟨Int.fmod_nonneg_of_pos _ (by omega), Int.fmod_lt_of_pos _ (by omega)⟩, ⟨Int.fmod_nonneg_of_pos _ (by omega), Int.fmod_lt_of_pos _ (by omega)⟩⟩
set_option maxHeartbeats 8000000 in
theorem law_net {a asd asu apu apo alu alo dw : Addr} {ws es : List Way} (cx : CxOk C) (gl : C.GT.lookup (Str.ofString "len") = some (.opq (.builtin "len"))) (gs : C.GT.lookup (Str.ofString "sorted") = some (.opq (.builtin "sorted"))) (gr : C.GT.lookup (Str.ofString "range") = some (.opq (.type "range")))
    (gli : C.GT.lookup (Str.ofString "list") = some (.opq (.type "list"))) (gsu' : C.GT.lookup (Str.ofString "sum") = some (.opq (.builtin "sum")))
    (fsd : Fn C PySem.Challenge.pw_dn0024_05 (Str.ofString "_siftdown") asd) (gsd : C.GT.lookup (Str.ofString "_siftdown") = some (.ref asd))
    (fsu : Fn C PySem.Challenge.pw_dn0024_05 (Str.ofString "_siftup") asu) (gsu : C.GT.lookup (Str.ofString "_siftup") = some (.ref asu)) (fpu : Fn C PySem.Challenge.pw_dn0024_05 (Str.ofString "heappush") apu) (gpu : C.GT.lookup (Str.ofString "heappush") = some (.ref apu))
    (fpo : Fn C PySem.Challenge.pw_dn0024_05 (Str.ofString "heappop") apo) (gpo : C.GT.lookup (Str.ofString "heappop") = some (.ref apo)) (flu : Fn C PySem.Challenge.pw_dn0024_05 (Str.ofString "_law_push") alu) (glu : C.GT.lookup (Str.ofString "_law_push") = some (.ref alu))
    (flo : Fn C PySem.Challenge.pw_dn0024_05 (Str.ofString "_law_pop") alo) (glo : C.GT.lookup (Str.ofString "_law_pop") = some (.ref alo))
    {pm cd doc : Value} (f : FnAt C a (fdOf (stOf PySem.Challenge.pw_dn0024_05 (Str.ofString "law")) pm cd doc) (bodyOf (stOf PySem.Challenge.pw_dn0024_05 (Str.ofString "law"))) (namesOf (stOf PySem.Challenge.pw_dn0024_05 (Str.ofString "law")))) (L : Addr)
    {s : Addr → Option O} (hsw : s dw = some (.lst (ws.map fun e => V.tup e.tri))) (hws : ∀ e ∈ ws, place e.a ∧ place e.b) (hwl : ws.length ≤ 21) (hpe : es.Perm ws) (hse : sortT (ws.map Way.tri) = es.map Way.tri) (hso : es.Pairwise fun e f => e.w ≤ f.w) :
    TX C (k + 12) (frameOf (fdOf (stOf PySem.Challenge.pw_dn0024_05 (Str.ofString "law")) pm cd doc) L a []) ((bodyOf (stOf PySem.Challenge.pw_dn0024_05 (Str.ofString "law"))).drop 2)
      ⟨[(Str.ofString "ways", .ref dw)], s⟩ fun fl _ => retV fl = .bool true := by
  have ok := f.envOk L []
  have hm : maxLen = 1048576 := by decide
  have iflu : IsFun C.GB (.ref alu) := let ⟨_, _, _, g⟩ := flu; g.isFun
  have iflo : IsFun C.GB (.ref alo) := let ⟨_, _, _, g⟩ := flo; g.isFun
  refine x_cons ?_
  (repeat walk_at "m")
  refine ⟨by simp [maxLen], fun di hdi => ?_⟩
  have d1 : dw ≠ di := ne_new hsw hdi
  (repeat walk_at "m")
  refine ⟨by simp [maxLen], fun dh hdh => ?_⟩
  have d2 : dw ≠ dh := ne_new (o := .lst (ws.map fun e => V.tup e.tri)) (by simp [St.setSto, St.setLoc, d1, hsw]) hdh
  have d3 : di ≠ dh := ne_new (o := .lst [.int 0]) (by simp [St.setSto, St.setLoc]) hdh
  refine then_next (x_cons ?_)
  (repeat walk_at "m")
  refine s_whileN [Str.ofString "ways", Str.ofString "inside", Str.ofString "weight", Str.ofString "heap", Str.ofString "new"]
    (fun n σ' => ∃ (H : List (List Int)) (S : List Int) (W : Int) (s : Addr → Option O), s dw = some (.lst (ws.map fun e => V.tup e.tri)) ∧ s di = some (.lst (S.map V.int)) ∧ s dh = some (.lst (H.map V.tup)) ∧ Heapd ltV 0 (H.map V.tup) ∧
      ((∃ p, σ' = ⟨[(Str.ofString "ways", .ref dw), (Str.ofString "inside", .ref di), (Str.ofString "weight", .int W), (Str.ofString "heap", .ref dh), (Str.ofString "new", .int p)], s⟩ ∧ PrimIn ws es S W H p 0 ∧ n = 10 - S.length ∧ H.length + cost p ws + lft S ws ≤ 42) ∨ (σ' = ⟨[(Str.ofString "ways", .ref dw), (Str.ofString "inside", .ref di), (Str.ofString "weight", .int W), (Str.ofString "heap", .ref dh), (Str.ofString "new", .none)], s⟩ ∧ Prim ws es S W H ∧ H = [] ∧ n = 0)))
    9 ⟨[], [0], 0, _, by simp [St.setSto, St.setLoc, d1, d2, hsw], by simp [St.setSto, St.setLoc, d3], by simp [St.setSto, St.setLoc], fun i hi h0 => by simp at hi, .inl ⟨0, rfl, PrimIn.start ws es, by simp, ?_⟩⟩ ?_
  · have := lft_enter (S := []) (p := 0) (by simp) ws
    have := lft_le [] ws
    simp at *; omega
  clear hsw hdi hdh
  rintro n σ' ⟨H, S, W, s, hsw, hsi, hsh, hh, ⟨p, rfl, pin, hn, hsz⟩ | ⟨rfl, pr, rfl, hn⟩⟩
  rotate_left
  · (repeat walk_at "m")
    refine cmp_isnot_none (fun v e => by cases e) ?_
    (repeat walk_at "m")
    rw [if_neg (by simp [isNoneV])]
    refine x_nil (then_next ?_)
    refine x_cut [Str.ofString "ways", Str.ofString "inside", Str.ofString "weight"] [(Str.ofString "ways", .ref dw), (Str.ofString "inside", .ref di), (Str.ofString "weight", .int W)] (fun s => s dw = some (.lst (ws.map fun e => V.tup e.tri)) ∧ s di = some (.lst (S.map V.int))) rfl ⟨hsw, hsi⟩ ?_
    rintro s' ⟨hsw', hsi'⟩
    obtain ⟨e1, e2⟩ := pr.done hpe
    exact law_due cx gr gs gli gsu' f L hsw' hsi' hws hwl pr.val.len hpe hse e1 e2
  (repeat walk_at "m")
  refine cmp_isnot_none (fun v e => by cases e) ?_
  (repeat walk_at "m")
  rw [if_pos (by simp [isNoneV])]
  refine x_cons ?_
  refine s_forN [Str.ofString "ways", Str.ofString "inside", Str.ofString "weight", Str.ofString "heap", Str.ofString "new"] (titer_of ?_)
  (repeat walk_at "m")
  refine iter_list (vs := ws.map fun e => V.tup e.tri) (by simp [hsw, O.items]) ?_
  refine ⟨fun j σ' => ∃ (H : List (List Int)) (s : Addr → Option O), σ' = ⟨[(Str.ofString "ways", .ref dw), (Str.ofString "inside", .ref di), (Str.ofString "weight", .int W), (Str.ofString "heap", .ref dh), (Str.ofString "new", .int p)], s⟩ ∧ s dw = some (.lst (ws.map fun e => V.tup e.tri)) ∧ s di = some (.lst (S.map V.int)) ∧ s dh = some (.lst (H.map V.tup)) ∧ Heapd ltV 0 (H.map V.tup) ∧ PrimIn ws es S W H p j ∧ H.length + cost p (ws.drop j) + lft S ws ≤ 42 ∧ j ≤ ws.length, ws.length,
    ⟨H, s, rfl, hsw, hsi, hsh, hh, pin, by simpa using hsz, by omega⟩, ?_⟩
  clear hsw hsi hsh hh pin hsz
  rintro j σ' ⟨H, s, rfl, hsw, hsi, hsh, hh, pin, hsz, hj⟩
  refine ⟨hj, _, getList_at (vs := ws.map fun e => V.tup e.tri) (by simp [hsw, O.items]), ?_⟩
  have hne : ∀ {H : List (List Int)} {j : Nat}, PrimIn ws es S W H p j → ∀ h ∈ H, h ≠ [] := fun pin h hm => by obtain ⟨_, _, _, _, _, _, e⟩ := pin.heap h hm; rw [e]; simp
  by_cases hjl : j < ws.length
  · rw [List.getElem?_map, List.getElem?_eq_getElem hjl]
    have hcd := cost_drop (p := p) hjl
    refine asg_tup (xs := [ws[j].w, ws[j].a, ws[j].b]) rfl (asg_name ok (asg_name ok (asg_name ok ?_)))
    refine x_ifJ [Str.ofString "ways", Str.ofString "inside", Str.ofString "weight", Str.ofString "heap", Str.ofString "new", Str.ofString "more", Str.ofString "a", Str.ofString "b"]
      (fun σ' => ∃ (H1 : List (List Int)) (s : Addr → Option O), σ' = ⟨[(Str.ofString "ways", .ref dw), (Str.ofString "inside", .ref di), (Str.ofString "weight", .int W), (Str.ofString "heap", .ref dh), (Str.ofString "new", .int p), (Str.ofString "more", .int ws[j].w), (Str.ofString "a", .int ws[j].a), (Str.ofString "b", .int ws[j].b)], s⟩ ∧ s dw = some (.lst (ws.map fun e => V.tup e.tri)) ∧ s di = some (.lst (S.map V.int)) ∧ s dh = some (.lst (H1.map V.tup)) ∧ Heapd ltV 0 (H1.map V.tup) ∧ H1.Perm ((if ws[j].a = p then [[ws[j].w, ws[j].b]] else []) ++ H)) ?_ ?_
    · (repeat walk_at "n")
      by_cases hap : ws[j].a = p
      · rw [if_pos (by simp [hap])]
        rw [if_pos hap] at hcd
        (repeat walk_at "n")
        refine ⟨[ws[j].w, ws[j].b], rfl, by simp [maxLen], ?_⟩
        (repeat walk_at "n")
        refine ⟨iflu, lpush_ok (x := [ws[j].w, ws[j].b]) (xs := H) (k := k + 3) cx gl gs fsd gsd fpu gpu flu (d := dh) (by simp [St.setLoc, hsh]) (by omega) (fun y hy => ?_) hh fun H2 s2 hp hh2 kp hs2 => ?_⟩
        · rcases List.mem_cons.mp hy with e | hy
          · rw [e]; simp
          · exact hne pin y hy
        (repeat walk_at "n")
        rw [if_neg (by simp)]
        refine x_nil (join_next ⟨H2, s2, rfl, kp dw _ d2 (by simp [St.setLoc, hsw]), kp di _ d3 (by simp [St.setLoc, hsi]), hs2, hh2, ?_⟩)
        rw [if_pos hap]; exact hp
      · rw [if_neg (by simp [hap])]
        (repeat walk_at "n")
        refine x_nil (join_next ⟨H, s, rfl, hsw, hsi, hsh, hh, ?_⟩)
        rw [if_neg hap]; exact .refl _
    clear hsw hsi hsh hh s
    rintro σ₂ ⟨H1, s, rfl, hsw, hsi, hsh, hh, hp1⟩
    have hl1 : H1.length = (if ws[j].a = p then 1 else 0) + H.length := by rw [hp1.length_eq]; split <;> simp <;> omega
    have hne1 : ∀ h ∈ H1, h ≠ [] := fun h hm => by
      rcases List.mem_append.mp (hp1.mem_iff.mp hm) with q | q
      · split at q
        · rw [List.mem_singleton.mp q]; simp
        · cases q
      · exact hne pin h q
    have stp : ∀ H2 : List (List Int), H2.Perm ((if ws[j].b = p then [[ws[j].w, ws[j].a]] else []) ++ H1) → PrimIn ws es S W H2 p (j + 1) := fun H2 hp2 => by
      refine pin.step hjl (fun h hm => hp2.mem_iff.mpr (List.mem_append.mpr (.inr (hp1.mem_iff.mpr (List.mem_append.mpr (.inr hm)))))) (fun h hm => ?_) (fun y hl => ?_)
      · rcases List.mem_append.mp (hp2.mem_iff.mp hm) with q | q
        · split at q
          · rename_i hb; exact .inr ⟨_, .inr ⟨rfl, hb⟩, List.mem_singleton.mp q⟩
          · cases q
        · rcases List.mem_append.mp (hp1.mem_iff.mp q) with q | q
          · split at q
            · rename_i ha; exact .inr ⟨_, .inl ⟨ha, rfl⟩, List.mem_singleton.mp q⟩
            · cases q
          · exact .inl q
      · rcases hl with ⟨h1, h2⟩ | ⟨h1, h2⟩
        · exact hp2.mem_iff.mpr (List.mem_append.mpr (.inr (hp1.mem_iff.mpr (List.mem_append.mpr (.inl (by rw [if_pos h1, h2]; exact .head _))))))
        · exact hp2.mem_iff.mpr (List.mem_append.mpr (.inl (by rw [if_pos h2, h1]; exact .head _)))
    (repeat walk_at "m")
    by_cases hbp : ws[j].b = p
    · rw [if_pos (by simp [hbp])]
      rw [if_pos hbp] at hcd
      (repeat walk_at "m")
      refine ⟨[ws[j].w, ws[j].a], rfl, by simp [maxLen], ?_⟩
      (repeat walk_at "m")
      refine ⟨iflu, lpush_ok (x := [ws[j].w, ws[j].a]) (xs := H1) (k := k + 3) cx gl gs fsd gsd fpu gpu flu (d := dh) (by simp [St.setLoc, hsh]) (by omega) (fun y hy => ?_) hh fun H2 s2 hp hh2 kp hs2 => ?_⟩
      · rcases List.mem_cons.mp hy with e | hy
        · rw [e]; simp
        · exact hne1 y hy
      (repeat walk_at "m")
      rw [if_neg (by simp)]
      (repeat walk_at "m")
      have hl2 := hp.length_eq
      refine turnF_next ⟨H2, s2, rfl, kp dw _ d2 (by simp [St.setLoc, hsw]), kp di _ d3 (by simp [St.setLoc, hsi]), hs2, hh2, stp H2 (by rw [if_pos hbp]; exact hp), ?_, by omega⟩
      simp at hl2; omega
    · rw [if_neg (by simp [hbp])]
      rw [if_neg hbp] at hcd
      rw [if_neg (by simp)]
      (repeat walk_at "m")
      exact turnF_next ⟨H1, s, rfl, hsw, hsi, hsh, hh, stp H1 (by rw [if_neg hbp]; exact .refl _), by omega, by omega⟩
  rw [List.getElem?_eq_none (by rw [List.length_map]; omega)]
  have hjw : j = ws.length := by omega
  subst hjw
  have pr := pin.leave (Nat.le_refl _)
  have hsz' : H.length + lft S ws ≤ 42 := by omega
  have hS9 := pr.val.len
  (repeat walk_at "m")
  clear pin hsz hj hjl hne
  refine s_whileN [Str.ofString "ways", Str.ofString "inside", Str.ofString "weight", Str.ofString "heap", Str.ofString "new"]
    (fun m σ' => ∃ (H : List (List Int)) (s : Addr → Option O), s dw = some (.lst (ws.map fun e => V.tup e.tri)) ∧ s dh = some (.lst (H.map V.tup)) ∧ Heapd ltV 0 (H.map V.tup) ∧
      ((∃ q w, σ' = ⟨[(Str.ofString "ways", .ref dw), (Str.ofString "inside", .ref di), (Str.ofString "weight", .int (W + w)), (Str.ofString "heap", .ref dh), (Str.ofString "new", .int q)], s⟩ ∧ s di = some (.lst ((S ++ [q]).map V.int)) ∧ PrimIn ws es (S ++ [q]) (W + w) H q 0 ∧ m = 0 ∧ H.length + cost q ws + lft (S ++ [q]) ws ≤ 42) ∨
       (σ' = ⟨[(Str.ofString "ways", .ref dw), (Str.ofString "inside", .ref di), (Str.ofString "weight", .int W), (Str.ofString "heap", .ref dh), (Str.ofString "new", .none)], s⟩ ∧ s di = some (.lst (S.map V.int)) ∧ Prim ws es S W H ∧ m = H.length ∧ H.length + lft S ws ≤ 42)))
    H.length ⟨H, _, hsw, hsh, hh, .inr ⟨rfl, hsi, pr, rfl, hsz'⟩⟩ ?_
  clear hsw hsi hsh hh pr hsz'
  rintro m σ' ⟨H, s, hsw, hsh, hh, ⟨q, w, rfl, hsi, pin, hm0, hsz⟩ | ⟨rfl, hsi, pr, hm0, hsz⟩⟩
  · (repeat walk_at "m")
    refine ⟨by simp [maxLen], fun t1 ht1 => ?_⟩
    have m1 : dw ≠ t1 := ne_new hsw ht1
    have m2 : di ≠ t1 := ne_new hsi ht1
    have m3 : dh ≠ t1 := ne_new hsh ht1
    refine cmp_ne_tups (xs := H) (ys := []) (by omega) (by simp [St.setSto, m3, hsh, O.items]) (by simp [St.setSto, O.items]) ?_
    (repeat walk_at "m")
    have hS10 := pin.val.len
    by_cases hH0 : H = []
    · rw [if_neg (by simp [hH0]), if_neg (by simp)]
      exact x_nil (then_next (x_nil (turnW_next ⟨10 - (S ++ [q]).length, by simp at hS10 ⊢; omega, H, S ++ [q], W + w, _, by simp [St.setSto, m1, hsw], by simp [St.setSto, m2, hsi], by simp [St.setSto, m3, hsh], hh, .inl ⟨q, rfl, pin, rfl, hsz⟩⟩)))
    · rw [if_pos (by simp [hH0])]
      (repeat walk_at "m")
      refine cmp_is_none (fun v e => by cases e) ?_
      (repeat walk_at "m")
      rw [if_neg (by simp [isNoneV])]
      exact x_nil (then_next (x_nil (turnW_next ⟨10 - (S ++ [q]).length, by simp at hS10 ⊢; omega, H, S ++ [q], W + w, _, by simp [St.setSto, m1, hsw], by simp [St.setSto, m2, hsi], by simp [St.setSto, m3, hsh], hh, .inl ⟨q, rfl, pin, rfl, hsz⟩⟩)))
  · (repeat walk_at "m")
    refine ⟨by simp [maxLen], fun t1 ht1 => ?_⟩
    have m1 : dw ≠ t1 := ne_new hsw ht1
    have m2 : di ≠ t1 := ne_new hsi ht1
    have m3 : dh ≠ t1 := ne_new hsh ht1
    refine cmp_ne_tups (xs := H) (ys := []) (by omega) (by simp [St.setSto, m3, hsh, O.items]) (by simp [St.setSto, O.items]) ?_
    (repeat walk_at "m")
    have hne : ∀ h ∈ H, h ≠ [] := fun h hm => by obtain ⟨_, _, _, _, _, _, e⟩ := pr.heap h hm; rw [e]; simp
    cases H with
    | nil =>
      rw [if_neg (by simp), if_neg (by simp)]
      exact x_nil (then_next (x_nil (turnW_next ⟨0, by omega, [], S, W, _, by simp [St.setSto, m1, hsw], by simp [St.setSto, m2, hsi], by simp [St.setSto, m3, hsh], hh, .inr ⟨rfl, pr, rfl, rfl⟩⟩)))
    | cons h0 H1 =>
      rw [if_pos (by simp)]
      (repeat walk_at "m")
      refine cmp_is_none (fun v e => by cases e) ?_
      (repeat walk_at "m")
      rw [if_pos (by simp [isNoneV])]
      obtain ⟨e0, _, _, q, _, _, eh⟩ := pr.heap h0 (.head _)
      subst eh
      (repeat walk_at "m")
      refine ⟨iflo, lpop_ok (x0 := [e0.w, q]) (xs := H1) (k := k + 3) cx gl gs fsd gsd fsu gsu fpo gpo flo (d := dh) (by simp [St.setSto, m3, hsh]) (by simp at hsz ⊢; omega) hne hh fun H2 s2 hp hh2 kp hs2 => ?_⟩
      have hsw2 : s2 dw = some (.lst (ws.map fun e => V.tup e.tri)) := kp dw _ d2 (by simp [St.setSto, m1, hsw])
      have hsi2 : s2 di = some (.lst (S.map V.int)) := kp di _ d3 (by simp [St.setSto, m2, hsi])
      (repeat walk_at "m")
      refine cmp_is_none (fun v e => by cases e) ?_
      (repeat walk_at "m")
      rw [if_neg (by simp [isNoneV])]
      (repeat walk_at "m")
      refine s_asgtup ?_
      (repeat walk_at "m")
      refine asg_tup rfl (asg_name ok (asg_name ok ?_))
      show TX _ _ _ _ _ _
      (repeat walk_at "m")
      refine cmp_notin_ints (xs := S) (by simp [St.setLoc, hsi2, O.items]) ?_
      (repeat walk_at "m")
      have hH2 : H2.length = H1.length := by have := hp.length_eq; simp at this; omega
      by_cases hq : q ∈ S
      · rw [if_neg (by simp [hq])]
        (repeat walk_at "m")
        exact turnW_next ⟨H2.length, by simp at hm0; omega, H2, s2, hsw2, hs2, hh2, .inr ⟨rfl, hsi2, pr.drop hp hq, rfl, by simp at hsz; omega⟩⟩
      · rw [if_pos (by simp [hq])]
        (repeat walk_at "m")
        refine e_meth slot_list_append rfl ?_
        (repeat walk_at "m")
        refine ⟨di, S.map V.int, rfl, by simp [St.setLoc, hsi2], ?_⟩
        (repeat walk_at "m")
        refine call_append (vs := S.map V.int) (by simp [St.setLoc, hsi2]) (by simp; omega) ?_
        (repeat walk_at "m")
        have hle := lft_enter hq ws
        exact turnW_next ⟨0, by simp at hm0; omega, H2, _, by simp [St.setSto, St.setLoc, d1, hsw2], by simp [St.setSto, St.setLoc, Ne.symm d3, hs2], hh2, .inl ⟨q, e0.w, rfl, by simp [St.setSto, St.setLoc], pr.enter hpe hso hws hp (topT hh) hq, rfl, by simp at hsz; omega⟩⟩
set_option maxHeartbeats 8000000 in
theorem law_walk {a asd asu apu apo alu alo sc : Addr} {xs : List Int} (cx : CxOk C) (gl : C.GT.lookup (Str.ofString "len") = some (.opq (.builtin "len"))) (gs : C.GT.lookup (Str.ofString "sorted") = some (.opq (.builtin "sorted"))) (gr : C.GT.lookup (Str.ofString "range") = some (.opq (.type "range")))
    (gli : C.GT.lookup (Str.ofString "list") = some (.opq (.type "list"))) (gsu' : C.GT.lookup (Str.ofString "sum") = some (.opq (.builtin "sum")))
    (fsd : Fn C PySem.Challenge.pw_dn0024_05 (Str.ofString "_siftdown") asd) (gsd : C.GT.lookup (Str.ofString "_siftdown") = some (.ref asd))
    (fsu : Fn C PySem.Challenge.pw_dn0024_05 (Str.ofString "_siftup") asu) (gsu : C.GT.lookup (Str.ofString "_siftup") = some (.ref asu)) (fpu : Fn C PySem.Challenge.pw_dn0024_05 (Str.ofString "heappush") apu) (gpu : C.GT.lookup (Str.ofString "heappush") = some (.ref apu))
    (fpo : Fn C PySem.Challenge.pw_dn0024_05 (Str.ofString "heappop") apo) (gpo : C.GT.lookup (Str.ofString "heappop") = some (.ref apo)) (flu : Fn C PySem.Challenge.pw_dn0024_05 (Str.ofString "_law_push") alu) (glu : C.GT.lookup (Str.ofString "_law_push") = some (.ref alu))
    (flo : Fn C PySem.Challenge.pw_dn0024_05 (Str.ofString "_law_pop") alo) (glo : C.GT.lookup (Str.ofString "_law_pop") = some (.ref alo)) (hx : xs.length < 64)
    {pm cd doc : Value} (f : FnAt C a (fdOf (stOf PySem.Challenge.pw_dn0024_05 (Str.ofString "law")) pm cd doc) (bodyOf (stOf PySem.Challenge.pw_dn0024_05 (Str.ofString "law"))) (namesOf (stOf PySem.Challenge.pw_dn0024_05 (Str.ofString "law")))) (L : Addr) :
    TX C (k + 12) (frameOf (fdOf (stOf PySem.Challenge.pw_dn0024_05 (Str.ofString "law")) pm cd doc) L a []) (bodyOf (stOf PySem.Challenge.pw_dn0024_05 (Str.ofString "law"))) ⟨(namesOf (stOf PySem.Challenge.pw_dn0024_05 (Str.ofString "law"))).zip [.ref sc], fun b => if b = sc then some (.rol (xs.map V.int)) else none⟩
      fun fl _ => retV fl = .bool true := by
  have ok := f.envOk L []
  have hm : maxLen = 1048576 := by decide
  refine x_cons ?_
  (repeat walk_at "m")
  refine ⟨by simp [maxLen], fun dw hdw => ?_⟩
  have d1 : sc ≠ dw := fun e => by rw [← e] at hdw; simp at hdw
  refine then_next (x_cut [Str.ofString "script", Str.ofString "ways"] [(Str.ofString "script", .ref sc), (Str.ofString "ways", .ref dw)] (fun s => s sc = some (.rol (xs.map V.int)) ∧ s dw = some (.lst [])) rfl ⟨by simp [St.setSto, St.setLoc, d1], by simp [St.setSto, St.setLoc]⟩ ?_)
  clear hdw
  rintro sto ⟨hsc, hsw⟩
  refine x_cons ?_
  refine s_forN [Str.ofString "script", Str.ofString "ways"] (titer_of ?_)
  (repeat walk_at "m")
  refine call_len (vs := xs.map V.int) (by simp [hsc, O.items]) ?_
  (repeat walk_at "m")
  rw [List.length_map]
  refine call_range_by3 hx ?_
  refine iter_by3 hx ?_
  refine ⟨fun i σ' => ∃ s, σ' = ⟨[(Str.ofString "script", .ref sc), (Str.ofString "ways", .ref dw)], s⟩ ∧ s sc = some (.rol (xs.map V.int)) ∧ s dw = some (.lst ((trisOf xs i).map fun e => V.tup e.tri)) ∧ i ≤ xs.length / 3, xs.length / 3, ⟨_, rfl, hsc, hsw, by omega⟩, ?_⟩
  clear hsc hsw
  rintro i σ' ⟨s, rfl, hsc, hsw, hi⟩
  refine ⟨hi, _, rfl, ?_⟩
  by_cases hil : i < xs.length / 3
  · rw [if_pos hil]
    refine asg_name ok ?_
    have ei : (0 : Int) + (i : Int) * 3 = ((3 * i : Nat) : Int) := by omega
    rw [ei]
    refine x_cons ?_
    (repeat walk_at "m")
    refine e_meth slot_list_append rfl ?_
    (repeat walk_at "m")
    refine ⟨dw, (trisOf xs i).map fun e => V.tup e.tri, rfl, by simp [St.setLoc, hsw], ?_⟩
    (repeat walk_at "m")
    have at_ : ∀ j, j < xs.length → (xs.map V.int)[j]? = some (.int (xs.getD j 0)) := fun j hj => by rw [List.getElem?_map, List.getElem?_eq_getElem hj]; simp [hj]
    refine item_at (vs := xs.map V.int) (v := .int (xs.getD (3 * i + 2) 0)) (by simp [St.setLoc, hsc, O.items]) (by omega) (by rw [show (((3 * i : Nat) : Int) + 2).toNat = 3 * i + 2 by omega]; exact at_ _ (by omega)) ?_
    (repeat walk_at "m")
    refine item_at (vs := xs.map V.int) (v := .int (xs.getD (3 * i) 0)) (by simp [St.setLoc, hsc, O.items]) (by omega) (by rw [Int.toNat_natCast]; exact at_ _ (by omega)) ?_
    (repeat walk_at "m")
    refine bin_mod (by omega) ?_
    (repeat walk_at "m")
    refine item_at (vs := xs.map V.int) (v := .int (xs.getD (3 * i + 1) 0)) (by simp [St.setLoc, hsc, O.items]) (by omega) (by rw [show (((3 * i : Nat) : Int) + 1).toNat = 3 * i + 1 by omega]; exact at_ _ (by omega)) ?_
    (repeat walk_at "m")
    refine bin_mod (by omega) ?_
    (repeat walk_at "m")
    refine ⟨(triOf xs i).tri, rfl, by simp [Way.tri, maxLen], ?_⟩
    (repeat walk_at "m")
    refine call_append (vs := (trisOf xs i).map fun e => V.tup e.tri) (by simp [St.setLoc, hsw]) (by simp [trisOf]; omega) ?_
    (repeat walk_at "m")
    refine turnF_next ⟨_, rfl, by simp [St.setSto, St.setLoc, d1, hsc], ?_, by omega⟩
    simp [St.setSto, St.setLoc, trisOf, List.range_succ]
  · rw [if_neg hil]
    have : i = xs.length / 3 := by omega
    subst this
    refine x_nil (then_next ?_)
    refine x_cut [Str.ofString "ways"] [(Str.ofString "ways", .ref dw)] (fun s => s dw = some (.lst ((trisOf xs (xs.length / 3)).map fun e => V.tup e.tri))) rfl hsw ?_
    rintro s' hsw'
    obtain ⟨es, h1, h2, h3⟩ := sort_ways (trisOf xs (xs.length / 3))
    exact law_net cx gl gs gr gli gsu' fsd gsd fsu gsu fpu gpu fpo gpo flu glu flo glo f L hsw' (tri_ok xs _) (by simp [trisOf]; omega) h1 h2 h3
end
end Mine
set_option Elab.async false
set_option linter.unusedVariables false
set_option linter.unusedSimpArgs false
set_option maxRecDepth 100000
set_option maxHeartbeats 8000000
namespace Mine
open PySem PySem.W PyProof.Rows
theorem def_sd : DefOk (stOf PySem.Challenge.pw_dn0024_05 (Str.ofString "_siftdown")) :=
  ⟨rfl, rfl, rfl, by decide, by decide, by decide, fun pm cd doc vs h => match vs, h with | [_, _, _], _ => rfl⟩
theorem def_su : DefOk (stOf PySem.Challenge.pw_dn0024_05 (Str.ofString "_siftup")) :=
  ⟨rfl, rfl, rfl, by decide, by decide, by decide, fun pm cd doc vs h => match vs, h with | [_, _], _ => rfl⟩
theorem def_pu : DefOk (stOf PySem.Challenge.pw_dn0024_05 (Str.ofString "heappush")) :=
  ⟨rfl, rfl, rfl, by decide, by decide, by decide, fun pm cd doc vs h => match vs, h with | [_, _], _ => rfl⟩
theorem def_po : DefOk (stOf PySem.Challenge.pw_dn0024_05 (Str.ofString "heappop")) :=
  ⟨rfl, rfl, rfl, by decide, by decide, by decide, fun pm cd doc vs h => match vs, h with | [_], _ => rfl⟩
theorem def_lu : DefOk (stOf PySem.Challenge.pw_dn0024_05 (Str.ofString "_law_push")) :=
  ⟨rfl, rfl, rfl, by decide, by decide, by decide, fun pm cd doc vs h => match vs, h with | [_, _], _ => rfl⟩
theorem def_lo : DefOk (stOf PySem.Challenge.pw_dn0024_05 (Str.ofString "_law_pop")) :=
  ⟨rfl, rfl, rfl, by decide, by decide, by decide, fun pm cd doc vs h => match vs, h with | [_], _ => rfl⟩
theorem def_law : DefOk (stOf PySem.Challenge.pw_dn0024_05 (Str.ofString "law")) :=
  ⟨rfl, rfl, rfl, by decide, by decide, by decide, fun pm cd doc vs h => match vs, h with | [_], _ => rfl⟩
end Mine
open PySem PySem.W PyProof.Rows Mine
open_top hd for PySem.Challenge.rw_dn0024_05
theorem PySem.Challenge.cw_dn0024_05_holds : PySem.Challenge.rw_dn0024_05.Holds :=
  hd (by
  intro w s₀ s₁ mg mb G Y fa o pm cd doc dV kV ho hd hcd hD hmg hg args vals as hpre hlay hrd hwl hlo
  refine Ground.open G ?_
  intro T B D TE TW
  wrow_args hpre hlay hrd hwl hlo
  first | refine callC_kw (enter_call ?_) | refine enter_call ?_ | refine callC_kw (enter_callW ?_) | refine enter_callW ?_
  try refine codeAny_mono ?_ (fun _ _ g => GoodW.toG g)
  rename_i ns _ _ _ _ _ _ _ sc vs _ hL _ _ _ hI _ hc _
  obtain ⟨a_sd, m_sd, F_sd⟩ := fn_top T (pw := PySem.Challenge.pw_dn0024_05) (n := Str.ofString "_siftdown") rfl rfl def_sd
  obtain ⟨a_su, m_su, F_su⟩ := fn_top T (pw := PySem.Challenge.pw_dn0024_05) (n := Str.ofString "_siftup") rfl rfl def_su
  obtain ⟨a_pu, m_pu, F_pu⟩ := fn_top T (pw := PySem.Challenge.pw_dn0024_05) (n := Str.ofString "heappush") rfl rfl def_pu
  obtain ⟨a_po, m_po, F_po⟩ := fn_top T (pw := PySem.Challenge.pw_dn0024_05) (n := Str.ofString "heappop") rfl rfl def_po
  obtain ⟨a_lu, m_lu, F_lu⟩ := fn_top T (pw := PySem.Challenge.pw_dn0024_05) (n := Str.ofString "_law_push") rfl rfl def_lu
  obtain ⟨a_lo, m_lo, F_lo⟩ := fn_top T (pw := PySem.Challenge.pw_dn0024_05) (n := Str.ofString "_law_pop") rfl rfl def_lo
  obtain ⟨a_law, m_law, F_law⟩ := fn_top T (pw := PySem.Challenge.pw_dn0024_05) (n := Str.ofString "law") rfl rfl def_law
  have gt : GtOk mg mb [(Str.ofString "len", V.opq (.builtin "len")), (Str.ofString "sorted", V.opq (.builtin "sorted")), (Str.ofString "range", V.opq (.type "range")), (Str.ofString "list", V.opq (.type "list")), (Str.ofString "sum", V.opq (.builtin "sum")), (Str.ofString "_siftdown", V.ref a_sd), (Str.ofString "_siftup", V.ref a_su), (Str.ofString "heappush", V.ref a_pu), (Str.ofString "heappop", V.ref a_po), (Str.ofString "_law_push", V.ref a_lu), (Str.ofString "_law_pop", V.ref a_lo)] := gt_bi T rfl rfl (fun _ e => nomatch e) (gt_bi T rfl rfl (fun _ e => nomatch e) (gt_bi T rfl rfl (fun _ e => nomatch e) (gt_bi T rfl rfl (fun _ e => nomatch e) (gt_bi T rfl rfl (fun _ e => nomatch e) (gt_fn m_sd (gt_fn m_su (gt_fn m_pu (gt_fn m_po (gt_fn m_lu (gt_fn m_lo (gt_nil)))))))))))
  have cx := cx_top (prog := PySem.Challenge.rw_dn0024_05.row.prog) (w := w) T gt
  obtain ⟨pm', cd', doc', f⟩ := F_law PySem.Challenge.rw_dn0024_05.row.prog w [(Str.ofString "len", V.opq (.builtin "len")), (Str.ofString "sorted", V.opq (.builtin "sorted")), (Str.ofString "range", V.opq (.type "range")), (Str.ofString "list", V.opq (.type "list")), (Str.ofString "sum", V.opq (.builtin "sum")), (Str.ofString "_siftdown", V.ref a_sd), (Str.ofString "_siftup", V.ref a_su), (Str.ofString "heappush", V.ref a_pu), (Str.ofString "heappop", V.ref a_po), (Str.ofString "_law_push", V.ref a_lu), (Str.ofString "_law_pop", V.ref a_lo)]
  have ea : fa = a_law := by
    have e : some (Value.ref fa) = some (Value.ref a_law) := hmg.symm.trans m_law
    cases e; rfl
  subst ea
  refine law_done hg (raisesW_false (by wrow_none_raised)) (by first | wrow_post | kc_post) (law_call (k := 60) cx f rfl (by refine ⟨rfl, ?_, ?_, rfl⟩ <;> decide) (fun _ _ e => e) (script_sto hL hI (by simp [maxLen]; omega)) (.cons (.ref sc) .nil) (fun L => law_walk cx rfl rfl rfl rfl rfl (F_sd _ _ _) rfl (F_su _ _ _) rfl (F_pu _ _ _) rfl (F_po _ _ _) rfl (F_lu _ _ _) rfl (F_lo _ _ _) rfl (by omega) f L)))
