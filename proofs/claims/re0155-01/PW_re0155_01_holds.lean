import PyProof.Rows.All
import Wide.All
import OpenK.AllK
import Wide.FinOn
import Lean
import PySem.Challenge.RW_re0155_01
open PySem PySem.W PyProof.Rows
set_option Elab.async false
set_option linter.unusedVariables false
set_option maxRecDepth 100000
set_option maxHeartbeats 4000000
namespace Mine
open Sem (wp)
/-! text Big -/
/-- a big-step evaluator of trees: `call` runs a code, `none`: not served -/
noncomputable def go (M : Model) (callF : Ctx → Pos → Shared → Option (Result × Shared)) (Γ : Ctx) {α : Type} (t : Sem α) :
    Pos → Shared → Option (Except Value α × Pos × Shared) :=
  Sem.rec (motive := fun _ => Pos → Shared → Option (Except Value α × Pos × Shared))
    (fun a p s => some (.ok a, p, s))
    (fun e p s => some (.error e, p, s))
    (fun _ _ _ => none)
    (fun _ _ _ => none)
    (fun _ _ ih p s => ih () p s)
    (fun p' _ ih _ s => ih () p' s)
    (fun a _ _ ih p s => Option.rec (motive := fun _ => Option (Except Value α × Pos × Shared)) none (fun o => ih o p s) (s.heap.get? a))
    (fun a _ f _ ih p s => Bool.rec (motive := fun _ => Option (Except Value α × Pos × Shared)) none (ih () p ⟨s.heap.update a f, s.gens, s.drawn, s.toks, s.os⟩) (s.heap.get? a).isSome)
    (fun o _ ih p s => ih s.heap.objs.size p ⟨s.heap.push o, s.gens, s.drawn, s.toks, s.os⟩)
    (fun a _ ih p s => ih (s.heap.get? a) p s)
    (fun _ _ ih p s => ih () p s)
    (fun _ _ _ _ _ => none)
    (fun _ ih p s => ih s.toks p ⟨s.heap, s.gens, s.drawn, s.toks + 1, s.os⟩)
    (fun _ ih p s => ih ⟨M.prog, M.w.params⟩ p s)
    (fun _ _ _ _ _ _ => none)
    (fun _ _ _ _ _ _ => none)
    (fun c h _ _ _ ih p s => Option.rec (motive := fun _ => Option (Except Value α × Pos × Shared)) none (fun rs => ih rs.1 p rs.2) (callF (Γ.enter c h p) p s))
    (fun own _ ih p s => ih (if own then Γ.own else Γ.handled) p s)
    (fun _ _ _ _ _ => none)
    (fun _ _ _ _ _ => none)
    (fun _ _ _ _ _ _ _ => none)
    (fun _ _ _ _ _ _ _ => none)
    (fun _ ih p s => ih ((Γ.code, p) :: Γ.below) p s)
    (fun _ _ _ _ _ => none)
    (fun _ ih p s => ih 0 p s)
    (fun _ _ _ _ _ _ _ _ => none) t

/-- what stands behind a tree's end -/
noncomputable def codeStep (ih : Ctx → Pos → Shared → Option (Result × Shared)) (Γ : Ctx) (x : Option (Except Value Fin × Pos × Shared)) : Option (Result × Shared) :=
  Option.rec (motive := fun _ => Option (Result × Shared)) none
      (fun x => Except.rec (motive := fun _ => Option (Result × Shared)) (fun e => some (.error e, x.2.2))
        (fun f => PySem.Fin.rec (motive := fun _ => Option (Result × Shared)) (fun f => some (.ok f, x.2.2)) (fun c => Bool.rec (motive := fun _ => Option (Result × Shared)) none (ih (Γ.goto c) x.2.1 x.2.2) c.quiet) f) x.1) x

/-- running a code with fuel -/
noncomputable def code (M : Model) (n : Nat) : Ctx → Pos → Shared → Option (Result × Shared) :=
  Nat.rec (motive := fun _ => Ctx → Pos → Shared → Option (Result × Shared)) (fun _ _ _ => none)
    (fun _ ih Γ p s => codeStep ih Γ (go M ih Γ (M.den Γ.code) p s)) n

theorem code_succ (M : Model) (n : Nat) (Γ : Ctx) (p : Pos) (s : Shared) :
    code M (n + 1) Γ p s = codeStep (code M n) Γ (go M (code M n) Γ (M.den Γ.code) p s) := rfl

theorem go_wp {M : Model} {callF : Ctx → Pos → Shared → Option (Result × Shared)} {Γ : Ctx}
    (hc : ∀ Γ p s r s', callF Γ p s = some (r, s') → Returns M Γ p s r s') {α : Type} (t : Sem α) :
    ∀ (p : Pos) (s : Shared) (r : Except Value α) (p' : Pos) (s' : Shared) (Q : α → Pos → Shared → Prop) (E : Value → Pos → Shared → Prop),
      go M callF Γ t p s = some (r, p', s') → (match r with | .ok a => Q a p' s' | .error e => E e p' s') → wp M Γ t Q E p s := by
  induction t with
  | pure a => intro p s r p' s' Q E h k; cases h; exact k
  | raise e => intro p s r p' s' Q E h k; cases h; exact k
  | unsupported | finish | register | choose | os | genState | newGen | resume | yield | fork | await => intro p s r p' s' Q E h k; cases h
  | rule tag k ih => intro p s r p' s' Q E h q; exact ih () p s r p' s' Q E h q
  | «at» p₀ k ih => intro p s r p' s' Q E h q; exact ih () p₀ s r p' s' Q E h q
  | load a part k ih =>
    intro p s r p' s' Q E h q
    have h' : Option.rec (motive := fun _ => Option (Except Value _ × Pos × Shared)) none (fun o => go M callF Γ (k o) p s) (s.heap.get? a) = some (r, p', s') := h
    cases ho : s.heap.get? a with
    | none => rw [ho] at h'; cases h'
    | some o => rw [ho] at h'; exact ⟨o, ho, ih o p s r p' s' Q E h' q⟩
  | update a part f k ih =>
    intro p s r p' s' Q E h q
    have h' : Bool.rec (motive := fun _ => Option (Except Value _ × Pos × Shared)) none (go M callF Γ (k ()) p ⟨s.heap.update a f, s.gens, s.drawn, s.toks, s.os⟩) (s.heap.get? a).isSome = some (r, p', s') := h
    cases ho : (s.heap.get? a).isSome with
    | false => rw [ho] at h'; cases h'
    | true => rw [ho] at h'; exact ⟨ho, ih () p _ r p' s' Q E h' q⟩
  | alloc o k ih => intro p s r p' s' Q E h q; exact ih _ p _ r p' s' Q E h q
  | loadIfAlive a k ih => intro p s r p' s' Q E h q; exact ih _ p s r p' s' Q E h q
  | point l k ih => intro p s r p' s' Q E h q; exact ih () p s r p' s' Q E h q
  | fresh k ih => intro p s r p' s' Q E h q; exact ih _ p _ r p' s' Q E h q
  | ask k ih => intro p s r p' s' Q E h q; exact ih _ p s r p' s' Q E h q
  | call c h₀ g l k ih =>
    intro p s r p' s' Q E h q
    have h' : Option.rec (motive := fun _ => Option (Except Value _ × Pos × Shared)) none (fun rs => go M callF Γ (k rs.1) p rs.2) (callF (Γ.enter c h₀ p) p s) = some (r, p', s') := h
    cases hr : callF (Γ.enter c h₀ p) p s with
    | none => rw [hr] at h'; cases h'
    | some rs =>
      obtain ⟨r₁, s₁⟩ := rs
      rw [hr] at h'
      exact ⟨r₁, s₁, hc _ _ _ _ _ hr, ih r₁ p s₁ r p' s' Q E h' q⟩
  | handled own k ih => intro p s r p' s' Q E h q; exact ih _ p s r p' s' Q E h q
  | stack k ih => intro p s r p' s' Q E h q; exact ih _ p s r p' s' Q E h q
  | thread k ih => intro p s r p' s' Q E h q; exact ih _ p s r p' s' Q E h q

theorem code_returns {M : Model} : ∀ (n : Nat) (Γ : Ctx) (p : Pos) (s : Shared) (r : Result) (s' : Shared), code M n Γ p s = some (r, s') → Returns M Γ p s r s'
  | 0, Γ, p, s, r, s', h => by cases h
  | n + 1, Γ, p, s, r, s', h => by
    rw [code_succ] at h
    have key : wpCode M Γ (fun r₁ s₁ => r₁ = r ∧ s₁ = s') p s := by
      rw [wpCode_iff_wp]
      cases hg : go M (code M n) Γ (M.den Γ.code) p s with
      | none => rw [hg] at h; cases h
      | some x =>
        obtain ⟨x, p₁, s₁⟩ := x
        rw [hg] at h
        refine go_wp (fun Γ p s r s' h => code_returns n Γ p s r s' h) _ p s x p₁ s₁ _ _ hg ?_
        cases x with
        | error e => cases h; exact ⟨rfl, rfl⟩
        | ok f =>
          cases f with
          | done f => cases h; exact ⟨rfl, rfl⟩
          | again c =>
            have h : Bool.rec (motive := fun _ => Option (Result × Shared)) none (code M n (Γ.goto c) p₁ s₁) c.quiet = some (r, s') := h
            cases hq : c.quiet with
            | false => rw [hq] at h; cases h
            | true => rw [hq] at h; exact ⟨hq, r, s', code_returns n _ _ _ _ _ h, rfl, rfl⟩
    obtain ⟨r₁, s₁, hr, rfl, rfl⟩ := key
    exact hr

/-! text PL1 -/
/-! abstract values and objects -/
inductive LV where
  | none
  | bool (b : Bool)
  | int (i : Int)
  | str (x : Str)
  | obj (k : Nat)
  | const (v : Value)

inductive VR (ρ : List Addr) : LV → Value → Prop
  | none : VR ρ .none .none
  | bool (b : Bool) : VR ρ (.bool b) (.bool b)
  | int (i : Int) (t : Tok) : VR ρ (.int i) (.int i t)
  | str (x : Str) (t : Tok) : VR ρ (.str x) (.str x t)
  | obj (k : Nat) (a : Addr) (h : ρ[k]? = some a) : VR ρ (.obj k) (.ref a)
  | const (v : Value) : VR ρ (.const v) v

theorem pre_get {ρ ρ' : List Addr} (h : ρ <+: ρ') {k : Nat} {a : Addr} (e : ρ[k]? = some a) : ρ'[k]? = some a := by
  obtain ⟨l, rfl⟩ := h
  have hk := (List.getElem?_eq_some_iff.mp e).1
  rw [List.getElem?_append_left hk]; exact e

theorem VR.mono {ρ ρ' : List Addr} (h : ρ <+: ρ') {lv : LV} {v : Value} (x : VR ρ lv v) : VR ρ' lv v := by
  cases x with
  | none => exact .none
  | bool b => exact .bool b
  | int i t => exact .int i t
  | str x t => exact .str x t
  | obj k a e => exact .obj k a (pre_get h e)
  | const v => exact .const v

noncomputable def VRs (ρ : List Addr) : List LV → List Value → Prop
  | [], [] => True
  | a :: as, v :: vs => VR ρ a v ∧ VRs ρ as vs
  | _, _ => False
theorem VRs.mono {ρ ρ' : List Addr} (h : ρ <+: ρ') : ∀ {ls : List LV} {vs : List Value}, VRs ρ ls vs → VRs ρ' ls vs
  | [], [], _ => trivial
  | _ :: _, _ :: _, ⟨a, b⟩ => ⟨a.mono h, b.mono h⟩
  | [], _ :: _, h => h.elim
  | _ :: _, [], h => h.elim
theorem VRs.length {ρ : List Addr} : ∀ {ls : List LV} {vs : List Value}, VRs ρ ls vs → vs.length = ls.length
  | [], [], _ => rfl
  | _ :: _, _ :: _, ⟨_, b⟩ => congrArg (· + 1) b.length
  | [], _ :: _, h => h.elim
  | _ :: _, [], h => h.elim
theorem VRs.get {ρ : List Addr} : ∀ {ls : List LV} {vs : List Value} {i : Nat} {a : LV}, VRs ρ ls vs → ls[i]? = some a → ∃ v, vs[i]? = some v ∧ VR ρ a v
  | [], [], _, _, _, e => by simp at e
  | a :: as, v :: vs, 0, x, ⟨h, _⟩, e => ⟨v, rfl, by cases e; exact h⟩
  | a :: as, v :: vs, i + 1, x, ⟨_, h⟩, e => by
    rw [List.getElem?_cons_succ] at e ⊢
    exact VRs.get h e
  | [], _ :: _, _, _, h, _ => h.elim
  | _ :: _, [], _, _, h, _ => h.elim
theorem VRs.append {ρ : List Addr} : ∀ {as bs : List LV} {vs ws : List Value}, VRs ρ as vs → VRs ρ bs ws → VRs ρ (as ++ bs) (vs ++ ws)
  | [], _, [], _, _, h => h
  | _ :: _, _, _ :: _, _, ⟨a, b⟩, h => ⟨a, b.append h⟩
  | [], _, _ :: _, _, h, _ => h.elim
  | _ :: _, _, [], _, h, _ => h.elim
theorem VRs.take {ρ : List Addr} : ∀ {as : List LV} {vs : List Value} (n : Nat), VRs ρ as vs → VRs ρ (as.take n) (vs.take n)
  | [], [], n, _ => by simp [VRs]
  | _ :: _, _ :: _, 0, _ => trivial
  | _ :: _, _ :: _, n + 1, ⟨a, b⟩ => ⟨a, b.take n⟩
  | [], _ :: _, _, h => h.elim
  | _ :: _, [], _, h => h.elim
theorem VRs.drop {ρ : List Addr} : ∀ {as : List LV} {vs : List Value} (n : Nat), VRs ρ as vs → VRs ρ (as.drop n) (vs.drop n)
  | [], [], n, _ => by simp [VRs]
  | _ :: _, _ :: _, 0, h => h
  | _ :: _, _ :: _, n + 1, ⟨_, b⟩ => b.drop n
  | [], _ :: _, _, h => h.elim
  | _ :: _, [], _, h => h.elim

noncomputable abbrev Loc := List (Str × LV)
noncomputable def lget : Loc → Str → Option LV
  | [], _ => none
  | (y, v) :: m, x => if y = x then some v else lget m x
noncomputable def lset : Loc → Str → LV → Loc
  | [], x, v => [(x, v)]
  | (y, u) :: m, x, v => if y = x then (y, v) :: m else (y, u) :: lset m x v
theorem lget_lset (m : Loc) (x : Str) (v : LV) (y : Str) : lget (lset m x v) y = if x = y then some v else lget m y := by
  induction m with
  | nil => simp [lset, lget]
  | cons p m ih =>
    obtain ⟨z, u⟩ := p
    unfold lset
    by_cases hz : z = x
    · subst hz
      simp only [if_true, lget]
      split <;> rfl
    · simp only [hz, if_false, lget, ih]
      by_cases hzy : z = y
      · subst hzy; simp [Ne.symm hz]
      · simp [hzy]

inductive LO where
  | list (xs : List LV)
  | tup (xs : List LV)
  | raw (o : Obj)
  | flds (cls : Value) (xs : List LV)
  | ns (d : Addr) (m : Loc)
  | plc (p : Addr) (n : Int)

noncomputable def NsR (ρ : List Addr) (m : Loc) (mm : Str → Option Value) : Prop := ∀ x, (∀ lv, lget m x = some lv → ∃ v, mm x = some v ∧ VR ρ lv v) ∧ (lget m x = none → mm x = none)
theorem NsR.mono {ρ ρ' : List Addr} (hp : ρ <+: ρ') {m : Loc} {mm : Str → Option Value} (h : NsR ρ m mm) : NsR ρ' m mm :=
  fun x => ⟨fun lv e => let ⟨v, a, b⟩ := (h x).1 lv e; ⟨v, a, b.mono hp⟩, (h x).2⟩

noncomputable def OR (ρ : List Addr) (h : Heap) (a : Addr) : LO → Prop
  | .list xs => ∃ vs n, h.get? a = some ⟨.type "list", none, .seq vs.toArray n, #[]⟩ ∧ VRs ρ xs vs
  | .tup xs => ∃ vs n, h.get? a = some ⟨.type "tuple", none, .seq vs.toArray n, #[]⟩ ∧ VRs ρ xs vs
  | .raw o => h.get? a = some o
  | .flds cls xs => ∃ vs, h.get? a = some ⟨cls, none, .fields vs.toArray, #[]⟩ ∧ VRs ρ xs vs
  | .ns d m => a = d ∧ (∃ o es ep, h.get? a = some o ∧ o.cls = .type "dict" ∧ o.dict = none ∧ o.data = .dict es ep) ∧ ∃ mm, h.Ns1 a mm ∧ NsR ρ m mm
  | .plc p n => a = p ∧ ∃ t, h.IsList a #[.int n t]

theorem ns1_at {h h' : Heap} {a : Addr} {mm : Str → Option Value} (k : ∀ o, h.get? a = some o → h'.get? a = some o) (x : h.Ns1 a mm) : h'.Ns1 a mm :=
  let ⟨o, es, ep, e, r⟩ := x; ⟨o, es, ep, k _ e, r⟩

theorem OR.at {ρ ρ' : List Addr} (hp : ρ <+: ρ') {h h' : Heap} {a : Addr} (k : ∀ o, h.get? a = some o → h'.get? a = some o) : ∀ {lo : LO}, OR ρ h a lo → OR ρ' h' a lo
  | .list _, ⟨vs, n, e, r⟩ => ⟨vs, n, k _ e, r.mono hp⟩
  | .tup _, ⟨vs, n, e, r⟩ => ⟨vs, n, k _ e, r.mono hp⟩
  | .raw _, e => k _ e
  | .flds _ _, ⟨vs, e, r⟩ => ⟨vs, k _ e, r.mono hp⟩
  | .ns _ _, ⟨e, ⟨o, es, ep, h1, h2⟩, mm, h3, h4⟩ => ⟨e, ⟨o, es, ep, k _ h1, h2⟩, mm, ns1_at k h3, h4.mono hp⟩
  | .plc _ _, ⟨e, t, o, h1, h2⟩ => ⟨e, t, o, k _ h1, h2⟩
theorem OR.alive {ρ : List Addr} {h : Heap} {a : Addr} : ∀ {lo : LO}, OR ρ h a lo → ∃ o, h.get? a = some o
  | .list _, ⟨_, _, e, _⟩ => ⟨_, e⟩
  | .tup _, ⟨_, _, e, _⟩ => ⟨_, e⟩
  | .raw _, e => ⟨_, e⟩
  | .flds _ _, ⟨_, e, _⟩ => ⟨_, e⟩
  | .ns _ _, ⟨_, ⟨_, _, _, e, _⟩, _⟩ => ⟨_, e⟩
  | .plc _ _, ⟨_, _, _, e, _⟩ => ⟨_, e⟩

/-- what stands fast: the program, the world, the top's objects -/
structure Kit where
  prog : Program
  w : World
  B : Addr → Option Obj
  tab : Addr → Bool
  mg : Str → Option Value
  mb : Str → Option Value
  hg : ∀ h : Heap, (∀ a o, B a = some o → h.get? a = some o) → h.Ns mainGlobals mg ∧ h.Ns builtinsNs mb ∧ h.NoLimit
  low : B sysModules ≠ none
  top : Addr
  htop : B top ≠ none
  htab : ∀ a, tab a = true → a ≤ top

noncomputable def Kit.M (K : Kit) : Model := model K.prog K.w
noncomputable def Kit.Base (K : Kit) (h : Heap) : Prop := ∀ a o, K.B a = some o → h.get? a = some o

structure Hp (K : Kit) (ρ : List Addr) (H : List LO) (s : Shared) : Prop where
  base : K.Base s.heap
  len : ρ.length = H.length
  objs : ∀ (k : Nat) (a : Addr) (lo : LO), ρ[k]? = some a → H[k]? = some lo → OR ρ s.heap a lo
  nd : ρ.Nodup
  own : ∀ a ∈ ρ, K.B a = none ∧ K.tab a = false
  gens : s.gens = #[]

/-- what a call leaves as it was -/
structure Kp (K : Kit) (own ρ : List Addr) (s s' : Shared) : Prop where
  keep : ∀ b o, s.heap.get? b = some o → b ∉ ρ → b ∉ own → K.tab b = false → s'.heap.get? b = some o
  os : s'.os = s.os

theorem Kp.refl (K : Kit) (own ρ : List Addr) (s : Shared) : Kp K own ρ s s := ⟨fun _ _ e _ _ _ => e, rfl⟩

structure Cx where
  K : Kit
  A : Around
  env : Env
  n0 : Nat
structure Dy where
  s0 : Shared
  ρ0 : List Addr

noncomputable def Cx.M (C : Cx) : Model := C.K.M
noncomputable def Cx.own (C : Cx) : List Addr := C.env.locals :: C.env.cells.map (·.2)
/-- what it may write of these: a block in place (a comprehension) writes no cell -/
noncomputable def isCellK : Option NameKind → Bool
  | some .cell => true
  | _ => false
noncomputable def Cx.wr (C : Cx) : List Addr := C.env.locals :: (if C.env.func.isSome then (C.env.cells.filter fun p => isCellK (C.env.kindOf p.1)).map (·.2) else [])
theorem Cx.wr_own {C : Cx} {a : Addr} (h : a ∈ C.wr) : a ∈ C.own := by
  unfold Cx.wr at h
  unfold Cx.own
  rcases List.mem_cons.mp h with h | h
  · exact h ▸ .head _
  · split at h
    · obtain ⟨p, hp, e⟩ := List.mem_map.mp h
      exact .tail _ (List.mem_map.mpr ⟨p, (List.mem_filter.mp hp).1, e⟩)
    · cases h

structure St (C : Cx) (D : Dy) (ρ : List Addr) (H : List LO) (m : Loc) (s : Shared) : Prop where
  hp : Hp C.K ρ H s
  ns : ∃ mm, s.heap.Ns C.env.locals mm ∧ ∀ x lv, lget m x = some lv → C.env.kindOf x = some .local → ∃ v, mm x = some v ∧ VR ρ lv v
  cl : ∀ x c, C.env.cells.lookup x = some c → ∃ v, s.heap.IsCell c v ∧ ∀ lv, lget m x = some lv → ∃ v', v = some v' ∧ VR ρ lv v'
  nd : C.env.locals ∉ C.env.cells.map (·.2)
  nd2 : C.env.func.isSome = true → (C.env.cells.map (·.2)).Nodup
  alive : ∀ a ∈ C.own, ∃ o, s.heap.get? a = some o
  off : ∀ a ∈ C.own, a ∉ ρ ∧ C.K.B a = none ∧ C.K.tab a = false
  kp : Kp C.K C.wr D.ρ0 D.s0 s
  new : ∀ a ∈ ρ, a ∈ D.ρ0 ∨ D.s0.heap.get? a = none
  sz : C.n0 ≤ ρ.length

noncomputable abbrev NoE : Value → Shared → Prop := fun _ _ => False

inductive Post (C : Cx) (D : Dy) (ρ : List Addr) (m : Loc) (Q : LV → List LO → Prop) (v : Value) (s' : Shared) : Prop
  | mk (ρ' : List Addr) (H' : List LO) (lv : LV) (p : ρ <+: ρ') (st : St C D ρ' H' m s') (r : VR ρ' lv v) (q : Q lv H')

structure Ev (C : Cx) (e : PySem.Expr) (H : List LO) (m : Loc) (Q : LV → List LO → Prop) : Prop where
  go : ∀ D ρ s, St C D ρ H m s → wpAny C.M C.A (eval e C.env) (Post C D ρ m Q) NoE s

theorem pre_refl (ρ : List Addr) : ρ <+: ρ := ⟨[], by simp⟩
theorem pre_trans {a b c : List Addr} (x : a <+: b) (y : b <+: c) : a <+: c := x.trans y

theorem Post.step {C : Cx} {D : Dy} {ρ ρ' : List Addr} {m : Loc} {Q : LV → List LO → Prop} {v : Value} {s : Shared} (h : ρ <+: ρ') (x : Post C D ρ' m Q v s) : Post C D ρ m Q v s :=
  let ⟨r, H, lv, p, a, b, q⟩ := x; ⟨r, H, lv, pre_trans h p, a, b, q⟩

theorem wp_imp {α : Type} {M : Model} {A : Around} {t : Sem α} {Q Q' : α → Shared → Prop} {s : Shared} (h : wpAny M A t Q NoE s) (k : ∀ a s, Q a s → Q' a s) {E : Value → Shared → Prop} : wpAny M A t Q' E s :=
  wpAny_mono h k fun _ _ x => x.elim

/-- the heap is as it was -/
theorem St.toks {C : Cx} {D : Dy} {ρ : List Addr} {H : List LO} {m : Loc} {s : Shared} (h : St C D ρ H m s) (t : Nat) : St C D ρ H m { s with toks := t } :=
  ⟨⟨h.hp.base, h.hp.len, h.hp.objs, h.hp.nd, h.hp.own, h.hp.gens⟩, h.ns, h.cl, h.nd, h.nd2, h.alive, h.off, ⟨h.kp.keep, h.kp.os⟩, h.new, h.sz⟩

theorem Hp.alive {K : Kit} {ρ : List Addr} {H : List LO} {s : Shared} (h : Hp K ρ H s) {a : Addr} (ha : a ∈ ρ) : ∃ o, s.heap.get? a = some o := by
  obtain ⟨k, hk, e⟩ := List.getElem_of_mem ha
  have hk' : k < H.length := h.len ▸ hk
  exact (h.objs k a H[k] (by rw [List.getElem?_eq_getElem hk, e]) (List.getElem?_eq_getElem hk')).alive

theorem fresh_size (h : Heap) : h.get? h.objs.size = none := by
  cases e : h.get? h.objs.size with
  | none => rfl
  | some o => exact absurd (Heap.lt_size e) (Nat.lt_irrefl _)
theorem Hp.fresh {K : Kit} {ρ : List Addr} {H : List LO} {s : Shared} (h : Hp K ρ H s) : s.heap.objs.size ∉ ρ ∧ K.B s.heap.objs.size = none ∧ K.tab s.heap.objs.size = false := by
  have hf := fresh_size s.heap
  refine ⟨fun hm => ?_, ?_, ?_⟩
  · obtain ⟨o, q⟩ := h.alive hm
    rw [q] at hf; cases hf
  · cases e : K.B s.heap.objs.size with
    | none => rfl
    | some o => rw [h.base _ _ e] at hf; cases hf
  · cases e : K.tab s.heap.objs.size with
    | false => rfl
    | true =>
      have h1 := K.htab _ e
      cases e2 : K.B K.top with
      | none => exact absurd e2 K.htop
      | some o => exact absurd (Nat.lt_of_le_of_lt h1 (Heap.lt_size (h.base _ _ e2))) (Nat.lt_irrefl _)

/-- behind something that keeps all but ρ's own objects -/
theorem St.after {C : Cx} {D : Dy} {ρ ρ' : List Addr} {H H' : List LO} {m : Loc} {s s' : Shared} (h : St C D ρ H m s) (hp : ρ <+: ρ') (hh : Hp C.K ρ' H' s') (k : Kp C.K [] ρ s s')
    (hn : ∀ a ∈ ρ', a ∈ ρ ∨ s.heap.get? a = none) : St C D ρ' H' m s' := by
  have keepOwn : ∀ a ∈ C.own, ∀ o, s.heap.get? a = some o → s'.heap.get? a = some o := fun a ha o e =>
    k.keep a o e (h.off a ha).1 (by simp) (h.off a ha).2.2
  refine ⟨hh, ?_, ?_, h.nd, h.nd2, ?_, ?_, ⟨fun b o e h1 h2 h3 => ?_, k.os.trans h.kp.os⟩, ?_, ?_⟩
  · obtain ⟨mm, ⟨o, es, ep, ho, r⟩, q⟩ := h.ns
    exact ⟨mm, ⟨o, es, ep, keepOwn _ (by simp [Cx.own]) o ho, r⟩, fun x lv e e' => let ⟨v, a, b⟩ := q x lv e e'; ⟨v, a, b.mono hp⟩⟩
  · intro x c hc
    obtain ⟨v, ⟨o, ho, hd⟩, q⟩ := h.cl x c hc
    have hm : c ∈ C.own := List.mem_cons_of_mem _ (List.mem_map.mpr ⟨(x, c), mem_of_lookup hc, rfl⟩)
    exact ⟨v, ⟨o, keepOwn c hm o ho, hd⟩, fun lv e => let ⟨v', a, b⟩ := q lv e; ⟨v', a, b.mono hp⟩⟩
  · intro a ha
    obtain ⟨o, ho⟩ := h.alive a ha
    exact ⟨o, keepOwn a ha o ho⟩
  · intro a ha
    refine ⟨fun hm => ?_, (h.off a ha).2⟩
    obtain ⟨o, ho⟩ := h.alive a ha
    rcases hn a hm with x | x
    · exact (h.off a ha).1 x
    · rw [x] at ho; cases ho
  · have e1 := h.kp.keep b o e h1 h2 h3
    refine k.keep b o e1 (fun hm => ?_) (by simp) h3
    rcases h.new b hm with x | x
    · exact h1 x
    · rw [x] at e; cases e
  · intro a ha
    rcases hn a ha with x | x
    · exact h.new a x
    · by_cases hr : a ∈ D.ρ0
      · exact .inl hr
      · right
        cases e : D.s0.heap.get? a with
        | none => rfl
        | some o =>
          exfalso
          have ho : a ∉ C.own := fun hm => by
            obtain ⟨o, ho⟩ := h.alive a hm
            rw [x] at ho; cases ho
          have := h.kp.keep a o e hr (fun w => ho (Cx.wr_own w)) (hh.own a ha).2
          rw [x] at this; cases this
  · have := hp.length_le
    exact Nat.le_trans h.sz this

theorem St.fresh {C : Cx} {D : Dy} {ρ : List Addr} {H : List LO} {m : Loc} {s : Shared} (h : St C D ρ H m s) :
    s.heap.objs.size ∉ C.own ∧ (s.heap.objs.size ∈ D.ρ0 ∨ D.s0.heap.get? s.heap.objs.size = none) := by
  have hf := fresh_size s.heap
  have h1 : s.heap.objs.size ∉ C.own := fun hm => by
    obtain ⟨o, q⟩ := h.alive _ hm
    rw [q] at hf; cases hf
  refine ⟨h1, ?_⟩
  by_cases hr : s.heap.objs.size ∈ D.ρ0
  · exact .inl hr
  · right
    cases e : D.s0.heap.get? s.heap.objs.size with
    | none => rfl
    | some o =>
      have := h.kp.keep _ o e hr (fun w => h1 (Cx.wr_own w)) h.hp.fresh.2.2
      rw [this] at hf; cases hf

theorem Ev.mono {C : Cx} {e : PySem.Expr} {H : List LO} {m : Loc} {Q Q' : LV → List LO → Prop} (h : Ev C e H m Q) (k : ∀ lv H, Q lv H → Q' lv H) : Ev C e H m Q' :=
  .mk fun D ρ s hs => wp_imp (h.go D ρ s hs) fun v s' ⟨r, H', lv, p, a, b, c⟩ => ⟨r, H', lv, p, a, b, k _ _ c⟩

/-! names and constants -/
section
variable {C : Cx} {H : List LO} {m : Loc} {Q : LV → List LO → Prop}

theorem ev_local {x : Str} {pos : Pos} {lv : LV} (hm : lget m x = some lv) (h : Q lv H)
    (hk : C.env.scope.kind = .function := by kernel_rfl) (hl : C.env.kindOf x = some .local := by kernel_rfl) (hd : (x == ("__debug__" : Str)) = false := by kernel_rfl) : Ev C (.Name x pos) H m Q := by
  refine .mk fun D ρ s hs => ?_
  obtain ⟨mm, hn, hv⟩ := hs.ns
  obtain ⟨v, e, r⟩ := hv x lv hm hl
  exact wpAny_Name (wpAny_loadName_local hk hl hn e ⟨ρ, H, lv, pre_refl ρ, hs, r, h⟩) hd

theorem ev_cell {x : Str} {pos : Pos} {lv : LV} (hm : lget m x = some lv) (h : Q lv H)
    (hk : C.env.scope.kind = .function := by kernel_rfl) (hl : C.env.kindOf x = some .cell := by kernel_rfl) (hc : (C.env.cells.lookup x).isSome = true := by kernel_rfl) (hd : (x == ("__debug__" : Str)) = false := by kernel_rfl) : Ev C (.Name x pos) H m Q := by
  refine .mk fun D ρ s hs => ?_
  obtain ⟨c, hc⟩ := Option.isSome_iff_exists.mp hc
  obtain ⟨v, hv, k⟩ := hs.cl x c hc
  obtain ⟨v', rfl, r⟩ := k lv hm
  exact wpAny_Name (wpAny_loadName_cell hk hl hc hv ⟨ρ, H, lv, pre_refl ρ, hs, r, h⟩) hd

theorem ev_free {x : Str} {pos : Pos} {lv : LV} (hm : lget m x = some lv) (h : Q lv H)
    (hk : C.env.scope.kind = .function := by kernel_rfl) (hl : C.env.kindOf x = some .free := by kernel_rfl) (hc : (C.env.cells.lookup x).isSome = true := by kernel_rfl) (hd : (x == ("__debug__" : Str)) = false := by kernel_rfl)
    (hn : (x == ("__classdict__" : Str)) = false := by kernel_rfl) : Ev C (.Name x pos) H m Q := by
  refine .mk fun D ρ s hs => ?_
  obtain ⟨c, hc⟩ := Option.isSome_iff_exists.mp hc
  obtain ⟨v, hv, k⟩ := hs.cl x c hc
  obtain ⟨v', rfl, r⟩ := k lv hm
  exact wpAny_Name (wpAny_loadName_free hk hl hc hv ⟨ρ, H, lv, pre_refl ρ, hs, r, h⟩ hn) hd

theorem ev_int {i : Int} {k : Nat} {pos : Pos} (h : Q (.int i) H) : Ev C (.Constant (.int i) k pos) H m Q :=
  .mk fun D ρ s hs => wpAny_Constant_int ⟨ρ, H, .int i, pre_refl ρ, hs.toks _, .int _ _, h⟩
theorem ev_none {k : Nat} {pos : Pos} (h : Q .none H) : Ev C (.Constant .none k pos) H m Q :=
  .mk fun D ρ s hs => Constant_none ⟨ρ, H, .none, pre_refl ρ, hs, .none, h⟩
theorem ev_bool {b : Bool} {k : Nat} {pos : Pos} (h : Q (.bool b) H) : Ev C (.Constant (.bool b) k pos) H m Q :=
  .mk fun D ρ s hs => Constant_bool ⟨ρ, H, .bool b, pre_refl ρ, hs, .bool b, h⟩
theorem ev_str {x : Str} {k : Nat} {pos : Pos} (h : Q (.str x) H) : Ev C (.Constant (.str x) k pos) H m Q :=
  .mk fun D ρ s hs => (show wpAny C.M C.A (mkText x) _ _ s from wpAny_mkText ⟨ρ, H, .str x, pre_refl ρ, hs.toks _, .str _ _, h⟩)

/-- a name of the top's -/
theorem ev_global {x : Str} {pos : Pos} {v : Value} (hv : C.K.mg x = some v) (h : Q (.const v) H)
    (hk : C.env.scope.kind = .function := by kernel_rfl) (hl : C.env.kindOf x = some .globalImplicit := by kernel_rfl) (hgl : C.env.globals = mainGlobals := by kernel_rfl)
    (hd : (x == ("__debug__" : Str)) = false := by kernel_rfl) : Ev C (.Name x pos) H m Q := by
  refine .mk fun D ρ s hs => ?_
  have hg := (C.K.hg s.heap hs.hp.base).1
  exact Calls.Name_function_global hk hl (Calls.loadGlobal_global (hgl ▸ hg) hv ⟨ρ, H, _, pre_refl ρ, hs, .const _, h⟩) hd
theorem ev_builtin {x : Str} {pos : Pos} {v : Value} (hmiss : C.K.mg x = none) (hv : C.K.mb x = some v) (h : Q (.const v) H)
    (hk : C.env.scope.kind = .function := by kernel_rfl) (hl : C.env.kindOf x = some .globalImplicit := by kernel_rfl) (hgl : C.env.globals = mainGlobals := by kernel_rfl) (hbl : C.env.builtins = builtinsNs := by kernel_rfl)
    (hd : (x == ("__debug__" : Str)) = false := by kernel_rfl) : Ev C (.Name x pos) H m Q := by
  refine .mk fun D ρ s hs => ?_
  have hg := C.K.hg s.heap hs.hp.base
  exact Calls.Name_function_global hk hl (Calls.loadGlobal_builtin (hgl ▸ hg.1) hmiss (hbl ▸ hg.2.1) hv ⟨ρ, H, _, pre_refl ρ, hs, .const _, h⟩) hd

/-! operators -/
structure Two (C : Cx) (t : Value → Value → Sem Value) (a b : LV) (H : List LO) (m : Loc) (Q : LV → List LO → Prop) : Prop where
  go : ∀ D ρ s va vb, St C D ρ H m s → VR ρ a va → VR ρ b vb → wpAny C.M C.A (t va vb) (Post C D ρ m Q) NoE s
noncomputable abbrev Bin (C : Cx) (op : Operator) := Two C (binaryOp op)
noncomputable abbrev Cmp (C : Cx) (op : CmpOp) := Two C (compareOp op)

theorem ev_two {t : Value → Value → Sem Value} {l r : PySem.Expr} (hl : Ev C l H m fun a H1 => Ev C r H1 m fun b H2 => Two C t a b H2 m Q)
    {D : Dy} {ρ : List Addr} {s : Shared} (hs : St C D ρ H m s) :
    wpAny C.M C.A (eval l C.env) (fun a s₁ => wpAny C.M C.A (eval r C.env) (fun b s₂ => wpAny C.M C.A (t a b) (Post C D ρ m Q) NoE s₂) NoE s₁) NoE s :=
  wp_imp (hl.go D ρ s hs) fun va s1 ⟨ρ1, H1, la, p1, hs1, ra, q1⟩ => wp_imp (q1.go D ρ1 s1 hs1) fun vb s2 ⟨ρ2, H2, lb, p2, hs2, rb, q2⟩ =>
    wp_imp (q2.go D ρ2 s2 va vb hs2 (ra.mono p2) rb) fun _ _ x => x.step (pre_trans p1 p2)

theorem ev_BinOp {l r : PySem.Expr} {op : Operator} {pos : Pos} (h : Ev C l H m fun a H1 => Ev C r H1 m fun b H2 => Bin C op a b H2 m Q) : Ev C (.BinOp l op r pos) H m Q :=
  .mk fun D ρ s hs => wpAny_BinOp (ev_two h hs)
theorem ev_Compare {l r : PySem.Expr} {op : CmpOp} {pos : Pos} (h : Ev C l H m fun a H1 => Ev C r H1 m fun b H2 => Cmp C op a b H2 m Q)
    (hm : behindInMarks op r = false := by kernel_rfl) : Ev C (.Compare l [op] [r] pos) H m Q :=
  .mk fun D ρ s hs => wpAny_Compare1 (ev_two h hs) hm
end

/-! tests -/
inductive PostB (C : Cx) (D : Dy) (ρ : List Addr) (m : Loc) (Q : Bool → List LO → Prop) (b : Bool) (s' : Shared) : Prop
  | mk (ρ' : List Addr) (H' : List LO) (p : ρ <+: ρ') (st : St C D ρ' H' m s') (q : Q b H')
structure Tst (C : Cx) (e : PySem.Expr) (H : List LO) (m : Loc) (Q : Bool → List LO → Prop) : Prop where
  go : ∀ D ρ s, St C D ρ H m s → wpAny C.M C.A (isTrue e C.env (eval e C.env)) (PostB C D ρ m Q) NoE s
structure Tru (C : Cx) (a : LV) (H : List LO) (m : Loc) (Q : Bool → List LO → Prop) : Prop where
  go : ∀ D ρ s va, St C D ρ H m s → VR ρ a va → wpAny C.M C.A (truthy va) (PostB C D ρ m Q) NoE s
section
variable {C : Cx} {H : List LO} {m : Loc} {Q : Bool → List LO → Prop}
theorem PostB.step {D : Dy} {ρ ρ' : List Addr} {b : Bool} {s : Shared} (h : ρ <+: ρ') (x : PostB C D ρ' m Q b s) : PostB C D ρ m Q b s :=
  let ⟨r, H, p, a, q⟩ := x; ⟨r, H, pre_trans h p, a, q⟩
theorem tru_bool {b : Bool} (h : Q b H) : Tru C (.bool b) H m Q := by
  refine .mk fun D ρ s va hs ra => ?_
  cases ra
  exact wpAny_truthy_bool ⟨ρ, H, pre_refl ρ, hs, h⟩
theorem tst_Compare {l r : PySem.Expr} {op : CmpOp} {pos : Pos} (h : Ev C l H m fun a H1 => Ev C r H1 m fun b H2 => Cmp C op a b H2 m fun c H3 => Tru C c H3 m Q)
    (hm : behindInMarks op r = false := by kernel_rfl) : Tst C (.Compare l [op] [r] pos) H m Q := by
  refine .mk fun D ρ s hs => ?_
  refine wpAny_isTrue_Compare1 ?_ hm
  exact wp_imp (h.go D ρ s hs) fun va s1 ⟨ρ1, H1, la, p1, hs1, ra, q1⟩ => wp_imp (q1.go D ρ1 s1 hs1) fun vb s2 ⟨ρ2, H2, lb, p2, hs2, rb, q2⟩ =>
    wp_imp (q2.go D ρ2 s2 va vb hs2 (ra.mono p2) rb) fun vc s3 ⟨ρ3, H3, lc, p3, hs3, rc, q3⟩ => wp_imp (q3.go D ρ3 s3 vc hs3 rc) fun _ _ x => x.step (pre_trans p1 (pre_trans p2 p3))
theorem tst_not {x : PySem.Expr} {pos : Pos} (h : Tst C x H m fun b H1 => Q (!b) H1) : Tst C (.UnaryOp .Not x pos) H m Q :=
  .mk fun D ρ s hs => isTrue_not (wp_imp (h.go D ρ s hs) fun _ _ ⟨a, b, c, d, e⟩ => ⟨a, b, c, d, e⟩)
theorem tst_or_nil {pos : Pos} (h : Q false H) : Tst C (.BoolOp .Or [] pos) H m Q := .mk fun D ρ s hs => isTrue_or_nil ⟨ρ, H, pre_refl ρ, hs, h⟩
theorem isTrue_boolop {op : BoolOp} {es : List PySem.Expr} {pos : Pos} {env : Env} {w1 w2 : Sem Value} : isTrue (.BoolOp op es pos) env w1 = isTrue (.BoolOp op es pos) env w2 := rfl
theorem tst_and {x : PySem.Expr} {rest : List PySem.Expr} {pos : Pos} (h : Tst C x H m fun b H1 => if b then Tst C (.BoolOp .And rest pos) H1 m Q else Q false H1) : Tst C (.BoolOp .And (x :: rest) pos) H m Q := by
  refine .mk fun D ρ s hs => ?_
  refine isTrue_and (wp_imp (h.go D ρ s hs) fun b s1 ⟨ρ1, H1, p1, hs1, q1⟩ => ?_)
  cases b with
  | false => exact ⟨ρ1, H1, p1, hs1, by simpa using q1⟩
  | true =>
    simp only [if_true] at q1 ⊢
    rw [isTrue_boolop (w2 := eval (.BoolOp .And rest pos) C.env)]
    exact wp_imp (q1.go D ρ1 s1 hs1) fun _ _ x => x.step p1
theorem tst_or {x : PySem.Expr} {rest : List PySem.Expr} {pos : Pos} (h : Tst C x H m fun b H1 => if b then Q true H1 else Tst C (.BoolOp .Or rest pos) H1 m Q) : Tst C (.BoolOp .Or (x :: rest) pos) H m Q := by
  refine .mk fun D ρ s hs => ?_
  refine isTrue_or (wp_imp (h.go D ρ s hs) fun b s1 ⟨ρ1, H1, p1, hs1, q1⟩ => ?_)
  cases b with
  | true => exact ⟨ρ1, H1, p1, hs1, by simpa using q1⟩
  | false =>
    simp only [Bool.false_eq_true, if_false] at q1 ⊢
    rw [isTrue_boolop (w2 := eval (.BoolOp .Or rest pos) C.env)]
    exact wp_imp (q1.go D ρ1 s1 hs1) fun _ _ x => x.step p1
theorem tst_plain {e : PySem.Expr} (h : Ev C e H m fun a H1 => Tru C a H1 m Q)
    (he : isTrue e C.env (eval e C.env) = (do let v ← eval e C.env; standAt e.pos; holding [v] (truthy v)) := by rfl) : Tst C e H m Q := by
  refine .mk fun D ρ s hs => ?_
  refine isTrue_plain (wp_imp (h.go D ρ s hs) fun va s1 ⟨ρ1, H1, la, p1, hs1, ra, q1⟩ => wp_imp (q1.go D ρ1 s1 va hs1 ra) fun _ _ x => x.step p1) he
end

/-! statements -/
inductive LF where
  | next | brk | cont
  | ret (v : LV)
inductive FR (ρ : List Addr) : LF → Flow → Prop
  | next : FR ρ .next .next
  | brk : FR ρ .brk .brk
  | cont : FR ρ .cont .cont
  | ret {lv : LV} {v : Value} (h : VR ρ lv v) : FR ρ (.ret lv) (.ret v)

inductive PostS (C : Cx) (D : Dy) (ρ : List Addr) (Q : LF → List LO → Loc → Prop) (f : Flow) (s' : Shared) : Prop
  | mk (ρ' : List Addr) (H' : List LO) (m' : Loc) (lf : LF) (p : ρ.take C.n0 <+: ρ') (st : St C D ρ' H' m' s') (r : FR ρ' lf f) (q : Q lf H' m')
structure Ex (C : Cx) (ss : List Stmt) (H : List LO) (m : Loc) (Q : LF → List LO → Loc → Prop) : Prop where
  go : ∀ D ρ s, St C D ρ H m s → wpAny C.M C.A (execs ss C.env) (PostS C D ρ Q) NoE s
structure X (C : Cx) (st : Stmt) (H : List LO) (m : Loc) (Q : LF → List LO → Loc → Prop) : Prop where
  go : ∀ D ρ s, St C D ρ H m s → wpAny C.M C.A (exec st C.env) (PostS C D ρ Q) NoE s

theorem take_step {n : Nat} {a b c : List Addr} (h : n ≤ a.length) (x : a.take n <+: b) (y : b.take n <+: c) : a.take n <+: c := by
  obtain ⟨l, rfl⟩ := x
  have : (a.take n ++ l).take n = a.take n := by
    rw [List.take_append_of_le_length (by simp; (first | lia | omega)), List.take_take, Nat.min_self]
  rwa [this] at y
theorem take_of_pre {n : Nat} {a b : List Addr} (x : a <+: b) : a.take n <+: b := (List.take_prefix n a).trans x

section
variable {C : Cx} {H : List LO} {m : Loc} {Q : LF → List LO → Loc → Prop}
theorem PostS.step {D : Dy} {ρ ρ' : List Addr} {f : Flow} {s : Shared} (hn : C.n0 ≤ ρ.length) (h : ρ.take C.n0 <+: ρ') (x : PostS C D ρ' Q f s) : PostS C D ρ Q f s :=
  let ⟨r, H, m, lf, p, a, b, q⟩ := x; ⟨r, H, m, lf, take_step hn h p, a, b, q⟩
theorem PostS.pre {D : Dy} {ρ ρ' : List Addr} {f : Flow} {s : Shared} (hn : C.n0 ≤ ρ.length) (h : ρ <+: ρ') (x : PostS C D ρ' Q f s) : PostS C D ρ Q f s :=
  x.step hn (take_of_pre h)
theorem ex_nil (h : Q .next H m) : Ex C [] H m Q := .mk fun D ρ s hs => wpAny_execs_nil ⟨ρ, H, m, .next, List.take_prefix _ _, hs, .next, h⟩
noncomputable def Then (C : Cx) (rest : List Stmt) (Q : LF → List LO → Loc → Prop) : LF → List LO → Loc → Prop
  | .next, H, m => Ex C rest H m Q
  | f, H, m => Q f H m
theorem ex_cons {st : Stmt} {rest : List Stmt} (h : X C st H m (Then C rest Q)) : Ex C (st :: rest) H m Q := by
  refine .mk fun D ρ s hs => ?_
  refine wpAny_execs_cons (wp_imp (h.go D ρ s hs) fun f s1 ⟨ρ1, H1, m1, lf, p1, hs1, r1, q1⟩ => ?_)
  cases r1 with
  | next => exact wp_imp (q1.go D ρ1 s1 hs1) fun _ _ x => x.step hs.sz p1
  | brk => exact ⟨ρ1, H1, m1, _, p1, hs1, .brk, q1⟩
  | cont => exact ⟨ρ1, H1, m1, _, p1, hs1, .cont, q1⟩
  | ret r => exact ⟨ρ1, H1, m1, _, p1, hs1, .ret r, q1⟩
theorem ex_one {st : Stmt} (h : X C st H m Q) : Ex C [st] H m Q :=
  ex_cons (.mk fun D ρ s hs => wp_imp (h.go D ρ s hs) fun f s1 ⟨ρ1, H1, m1, lf, p1, hs1, r1, q1⟩ => ⟨ρ1, H1, m1, lf, p1, hs1, r1, by cases r1 <;> first | exact ex_nil q1 | exact q1⟩)

noncomputable def KeepsBut (I : Addr) (h h' : Heap) : Prop := ∀ b o, b ≠ I → h.get? b = some o → h'.get? b = some o

theorem store_local {D : Dy} {ρ : List Addr} {s : Shared} {x : Str} {lv : LV} {v : Value} {P : Unit → Shared → Prop} (hs : St C D ρ H m s) (r : VR ρ lv v)
    (h : ∀ s', St C D ρ H (lset m x lv) s' → KeepsBut C.env.locals s.heap s'.heap → P () s') (hl : C.env.kindOf x = some .local)
    (hp : (C.env.scope.kind == .class || (C.env.scope.kind == .module && C.env.locals != C.env.globals)) = false)
    (hncl : C.env.cells.lookup x = none) : wpAny C.M C.A (storeName C.env x v) P NoE s := by
  obtain ⟨mm, hn, hv⟩ := hs.ns
  have hL : C.env.locals ∈ C.own := by simp [Cx.own]
  have hL2 : C.env.locals ∈ C.wr := by simp [Cx.wr]
  refine wpAny_storeName_local hl hn (fun h' hn' hb => h _ ?_ fun b o hb' e => (hb.2 b hb').trans e) hp
  have keep : ∀ b o, b ≠ C.env.locals → s.heap.get? b = some o → h'.get? b = some o := fun b o hb' e => (hb.2 b hb').trans e
  have hB : ∀ b o, C.K.B b = some o → b ≠ C.env.locals := fun b o e q => by
    have := (hs.off _ hL).2.1
    rw [q, this] at e; cases e
  have hρ : ∀ b ∈ ρ, b ≠ C.env.locals := fun b hb' q => (hs.off _ hL).1 (q ▸ hb')
  refine ⟨⟨fun a o e => keep a o (hB a o e) (hs.hp.base a o e), hs.hp.len, fun k a lo e e' => (hs.hp.objs k a lo e e').at (pre_refl ρ) fun o => keep a o (hρ a (List.mem_of_getElem? e)), hs.hp.nd, hs.hp.own, hs.hp.gens⟩,
    ⟨_, hn', fun y lv' e e' => ?_⟩, fun y c hc => ?_, hs.nd, hs.nd2, fun a ha => ?_, hs.off, ⟨fun b o e h1 h2 h3 => keep b o (fun q => h2 (q ▸ hL2)) (hs.kp.keep b o e h1 h2 h3), hs.kp.os⟩, hs.new, hs.sz⟩
  · rw [lget_lset] at e
    by_cases hx : x = y
    · subst hx
      rw [if_pos rfl] at e
      cases e
      exact ⟨v, if_pos rfl, r⟩
    · rw [if_neg hx] at e
      obtain ⟨v', e1, r1⟩ := hv y lv' e e'
      exact ⟨v', (if_neg (Ne.symm hx)).trans e1, r1⟩
  · obtain ⟨v', hc', q⟩ := hs.cl y c hc
    have hcm : c ∈ C.env.cells.map (·.2) := List.mem_map.mpr ⟨(y, c), mem_of_lookup hc, rfl⟩
    have hcL : c ≠ C.env.locals := fun q => hs.nd (q ▸ hcm)
    refine ⟨v', hc'.sameBut hb hcL, fun lv' e => ?_⟩
    rw [lget_lset] at e
    have hxy : x ≠ y := fun q => by rw [q, hc] at hncl; cases hncl
    rw [if_neg hxy] at e
    exact q lv' e
  · by_cases q : a = C.env.locals
    · subst q
      obtain ⟨o, _, _, ho, _⟩ := hn'
      exact ⟨o, ho⟩
    · obtain ⟨o, ho⟩ := hs.alive a ha
      exact ⟨o, keep a o q ho⟩

theorem x_assign {x : Str} {pos' pos : Pos} {e : PySem.Expr} (h : Ev C e H m fun lv H1 => Q .next H1 (lset m x lv))
    (hl : C.env.kindOf x = some .local := by kernel_rfl)
    (hp : (C.env.scope.kind == .class || (C.env.scope.kind == .module && C.env.locals != C.env.globals)) = false := by kernel_rfl)
    (hncl : C.env.cells.lookup x = none := by kernel_rfl)
    (hs : swapsWith e (some (.Name x pos')) pos.line C.env = pure false := by kernel_rfl) : X C (.Assign [.Name x pos'] e pos) H m Q := by
  refine .mk fun D ρ s hst => ?_
  refine wpAny_Assign_Name (wp_imp (h.go D ρ s hst) fun v s1 ⟨ρ1, H1, lv, p1, hs1, r1, q1⟩ => ?_) hs
  exact wp_imp (store_local (P := fun _ s' => PostS C D ρ Q .next s') hs1 r1 (fun s' hs' _ => ⟨ρ1, H1, _, .next, take_of_pre p1, hs', .next, q1⟩) hl hp hncl) fun _ _ x => x

theorem x_If {test : PySem.Expr} {body orelse : List Stmt} {pos : Pos} (h : Tst C test H m fun b H1 => if b then Ex C body H1 m Q else Ex C orelse H1 m Q) : X C (.If test body orelse pos) H m Q := by
  refine .mk fun D ρ s hs => ?_
  refine wpAny_If (wp_imp (h.go D ρ s hs) fun b s1 ⟨ρ1, H1, p1, hs1, q1⟩ => ?_)
  cases b with
  | true => simp only [if_true] at q1 ⊢; exact wp_imp (q1.go D ρ1 s1 hs1) fun _ _ x => x.pre hs.sz p1
  | false => simp only [Bool.false_eq_true, if_false] at q1 ⊢; exact wp_imp (q1.go D ρ1 s1 hs1) fun _ _ x => x.pre hs.sz p1

theorem x_Return {e : PySem.Expr} {pos : Pos} (h : Ev C e H m fun lv H1 => Q (.ret lv) H1 m) : X C (.Return (some e) pos) H m Q :=
  .mk fun D ρ s hs => wpAny_Return_some (wp_imp (h.go D ρ s hs) fun v s1 ⟨ρ1, H1, lv, p1, hs1, r1, q1⟩ => ⟨ρ1, H1, m, _, take_of_pre p1, hs1, .ret r1, q1⟩)

noncomputable def Sub (m m' : Loc) : Prop := ∀ x lv, lget m x = some lv → lget m' x = some lv
theorem St.sub {C : Cx} {H : List LO} {m : Loc} {D : Dy} {ρ : List Addr} {m' : Loc} {s : Shared} (h : St C D ρ H m s) (hs : Sub m' m) : St C D ρ H m' s :=
  ⟨h.hp, let ⟨mm, a, b⟩ := h.ns; ⟨mm, a, fun x lv e => b x lv (hs x lv e)⟩, fun x c e => let ⟨v, a, b⟩ := h.cl x c e; ⟨v, a, fun lv e => b lv (hs x lv e)⟩, h.nd, h.nd2, h.alive, h.off, h.kp, h.new, h.sz⟩
theorem Sub.refl (m : Loc) : Sub m m := fun _ _ h => h
theorem Sub.nil (m : Loc) : Sub [] m := fun _ _ h => by cases h
theorem Sub.cons {m t : Loc} {x : Str} {v : LV} (h : lget m x = some v) (ht : Sub t m) : Sub ((x, v) :: t) m := fun y lv e => by
  unfold lget at e
  by_cases hx : x = y
  · subst hx; rw [if_pos rfl] at e; cases e; exact h
  · rw [if_neg hx] at e; exact ht y lv e
end

/-! text PL2 -/
structure Rm (k : Nat) (A : Around) : Prop where
  d : A.depth + 2 * k < 600
  u : A.units + 10 * k < 5000
  h : A.handled = none

theorem Rm.deeper {k : Nat} {A : Around} (r : Rm (k + 1) A) (env : Env) : Rm k (A.deeper env) :=
  ⟨by show A.depth + 1 + 2 * k < 600; have := r.d; (first | lia | omega), by show A.units + 3 + 10 * k < 5000; have := r.u; (first | lia | omega), r.h⟩
theorem Rm.mono {k j : Nat} {A : Around} (r : Rm k A) (h : j ≤ k) : Rm j A := ⟨by have := r.d; (first | lia | omega), by have := r.u; (first | lia | omega), r.h⟩
theorem Rm.depth {k : Nat} {A : Around} (r : Rm k A) : A.depth < recursionLimit := by
  have := r.d
  show A.depth < 1000
  (first | lia | omega)
theorem Rm.units {k : Nat} {A : Around} (r : Rm k A) : A.units < cLine := by
  have := r.u
  show A.units < 9900
  (first | lia | omega)

/-! arguments -/
noncomputable def Evs (C : Cx) : List PySem.Expr → List LO → Loc → (List LV → List LO → Prop) → Prop
  | [], H, _, Q => Q [] H
  | e :: es, H, m, Q => Ev C e H m fun a H1 => Evs C es H1 m fun as H2 => Q (a :: as) H2

inductive PostL (C : Cx) (D : Dy) (ρ : List Addr) (m : Loc) (Q : List LV → List LO → Prop) (vs : List Value) (s' : Shared) : Prop
  | mk (ρ' : List Addr) (H' : List LO) (ls : List LV) (p : ρ <+: ρ') (st : St C D ρ' H' m s') (r : VRs ρ' ls vs) (q : Q ls H')

noncomputable def isStarred : PySem.Expr → Bool
  | .Starred .. => true
  | _ => false

theorem star_cons (e : PySem.Expr) (rest : List PySem.Expr) (env : Env) (h : isStarred e = false) : starEach (e :: rest) env = (false, eval e env) :: starEach rest env := by
  cases e <;> first | rfl | (simp [isStarred] at h)

theorem evs_sound {C : Cx} {m : Loc} {pos : Pos} : ∀ (es : List PySem.Expr) {H : List LO} {Q : List LV → List LO → Prop} (_ : es.any isStarred = false) (_ : Evs C es H m Q) {D : Dy} {ρ : List Addr} {s : Shared}, St C D ρ H m s →
    wpAny C.M C.A (spliced (backTo pos (starEach es C.env))) (PostL C D ρ m Q) NoE s
  | [], H, Q, _, h, D, ρ, s, hs => Calls.spliced_nil ⟨ρ, H, [], pre_refl ρ, hs, trivial, h⟩
  | e :: es, H, Q, hp, h, D, ρ, s, hs => by
    rw [List.any_cons, Bool.or_eq_false_iff] at hp
    rw [star_cons e es C.env hp.1]
    refine Calls.spliced_cons (wp_imp (h.go D ρ s hs) fun v s1 ⟨ρ1, H1, a, p1, hs1, r1, q1⟩ => ?_)
    exact wp_imp (evs_sound es hp.2 q1 hs1) fun vs s2 ⟨ρ2, H2, as, p2, hs2, r2, q2⟩ => ⟨ρ2, H2, a :: as, pre_trans p1 p2, hs2, ⟨r1.mono p2, r2⟩, q2⟩

theorem evalArgs_of {C : Cx} {m : Loc} {pos : Pos} {f : Value} {es : List PySem.Expr} {H : List LO} {Q : List LV → List LO → Prop} (hp : es.any isStarred = false) (h : Evs C es H m Q) {D : Dy} {ρ : List Addr} {s : Shared} (hs : St C D ρ H m s) :
    wpAny C.M C.A (evalArgs f true (backTo pos (starEach es C.env)) []) (fun a s' => a.kw = [] ∧ PostL C D ρ m Q a.pos s') NoE s := by
  cases es with
  | nil => exact PySem.evalArgs_none ⟨rfl, ρ, H, [], pre_refl ρ, hs, trivial, h⟩
  | cons e es =>
    have k := evs_sound (pos := pos) (e :: es) hp h hs
    rw [List.any_cons, Bool.or_eq_false_iff] at hp
    rw [star_cons e es C.env hp.1] at k ⊢
    exact Calls.evalArgs_plain (wp_imp k fun vs s1 q => ⟨rfl, q⟩)

/-! keyword arguments -/
/-! a def of the top's: what a call of it does -/
noncomputable abbrev Pre := List LV → List LV → List LO → (LV → List LO → Prop) → Prop
inductive PostF (K : Kit) (ρ : List Addr) (s : Shared) (Q : LV → List LO → Prop) (v : Value) (s' : Shared) : Prop
  | mk (ρ' : List Addr) (H' : List LO) (lv : LV) (p : ρ <+: ρ') (hp : Hp K ρ' H' s') (r : VR ρ' lv v) (kp : Kp K [] ρ s s') (new : ∀ b ∈ ρ', b ∈ ρ ∨ s.heap.get? b = none) (q : Q lv H')
noncomputable def RetOk (Q : Value → Shared → Prop) : Result → Shared → Prop := fun r s' => match r with
  | .ok (.ret v) => Q v s'
  | _ => False
structure FnSpec (K : Kit) (f : Value) (k : Nat) (nk : List Str) (pre : Pre) : Prop where
  go : ∀ A ρ H s las vas lks vks Q, Rm k A → Hp K ρ H s → VRs ρ las vas → VRs ρ lks vks → lks.length = nk.length → pre las lks H Q → codeAny K.M A (.call f ⟨vas, nk.zip vks⟩) (RetOk (PostF K ρ s Q)) s
theorem FnSpec.wp {K : Kit} {f : Value} {k : Nat} {nk : List Str} {pre : Pre} (spec : FnSpec K f k nk pre) (A : Around) (ρ : List Addr) (H : List LO) (s : Shared) (las : List LV) (vas : List Value) (lks : List LV) (vks : List Value) (Q : LV → List LO → Prop)
    (h1 : Rm k A) (h2 : Hp K ρ H s) (h3 : VRs ρ las vas) (h4 : VRs ρ lks vks) (h5 : lks.length = nk.length) (h6 : pre las lks H Q) : wpAny K.M A (call f vas (nk.zip vks)) (PostF K ρ s Q) NoE s :=
  wpAny_call (codeAny_mono (spec.go A ρ H s las vas lks vks Q h1 h2 h3 h4 h5 h6) fun r s' x => by
    match r, x with
    | .ok (.ret v), x => exact x)

theorem PostF.st {C : Cx} {D : Dy} {ρ : List Addr} {H : List LO} {m : Loc} {s : Shared} {Q : LV → List LO → Prop} (hs : St C D ρ H m s) {v : Value} {s' : Shared} (x : PostF C.K ρ s Q v s') : Post C D ρ m Q v s' :=
  let ⟨ρ', H', lv, p, hh, r, k, n, q⟩ := x; ⟨ρ', H', lv, p, hs.after p hh k n, r, q⟩

theorem ev_call {C : Cx} {H : List LO} {m : Loc} {Q : LV → List LO → Prop} {x : Str} {p pos : Pos} {args : List PySem.Expr} {a : Addr} {o : Obj} {fd : FuncData} {k : Nat} {pre : Pre}
    (spec : FnSpec C.K (.ref a) k [] pre) (hf : Ev C (.Name x p) H m fun v H1 => v = .const (.ref a) ∧ H1 = H) (hB : C.K.B a = some o) (hd : o.data = .func fd) (hr : Rm k C.A) (hp : args.any isStarred = false)
    (h : Evs C args H m fun las H1 => pre las [] H1 Q) : Ev C (.Call (.Name x p) args [] pos) H m Q := by
  refine .mk fun D ρ s hs => ?_
  refine Call_Name rfl (wp_imp (hf.go D ρ s hs) fun v s1 ⟨ρ1, H1, lv, p1, hs1, r1, q1⟩ => ?_)
  obtain ⟨rfl, rfl⟩ := q1
  cases r1
  refine Calls.callWith_function (o := o) (fd := fd) (wp_imp (evalArgs_of hp h hs1) fun x s2 ⟨e, ρ2, H2, ls, p2, hs2, r2, q2⟩ => ?_)
  refine ⟨⟨hs2.hp.base a o hB, hd⟩, ?_⟩
  rw [e]
  exact wp_imp (spec.wp C.A ρ2 H2 s2 ls x.pos [] [] Q hr hs2.hp r2 trivial rfl q2) fun _ _ y => (y.st hs2).step (pre_trans p1 p2)
/-! a call's end: what is kept of the objects made -/
noncomputable def LF.val : LF → LV
  | .ret v => v
  | _ => .none
noncomputable def LV.ren (g : Nat → Nat) : LV → LV
  | .obj k => .obj (g k)
  | v => v
noncomputable def LV.below (n : Nat) : LV → Prop
  | .obj k => k < n
  | _ => True
noncomputable def LO.ren (g : Nat → Nat) : LO → LO
  | .list xs => .list (xs.map (LV.ren g))
  | .tup xs => .tup (xs.map (LV.ren g))
  | .raw o => .raw o
  | .flds c xs => .flds c (xs.map (LV.ren g))
  | .ns d m => .ns d (m.map fun p => (p.1, p.2.ren g))
  | .plc p n => .plc p n
noncomputable def LO.below (n : Nat) : LO → Prop
  | .list xs => ∀ x ∈ xs, x.below n
  | .tup xs => ∀ x ∈ xs, x.below n
  | .raw _ => True
  | .flds _ xs => ∀ x ∈ xs, x.below n
  | .ns _ m => ∀ p ∈ m, p.2.below n
  | .plc _ _ => True
theorem lget_map (f : LV → LV) (m : Loc) (x : Str) : lget (m.map fun p => (p.1, f p.2)) x = (lget m x).map f := by
  induction m with
  | nil => rfl
  | cons p m ih =>
    obtain ⟨y, v⟩ := p
    simp only [List.map_cons, lget, ih]
    split <;> rfl
theorem lget_mem {m : Loc} {x : Str} {v : LV} (h : lget m x = some v) : (x, v) ∈ m := by
  induction m with
  | nil => cases h
  | cons p m ih =>
    obtain ⟨y, u⟩ := p
    unfold lget at h
    by_cases hy : y = x
    · subst hy; rw [if_pos rfl] at h; cases h; exact .head _
    · rw [if_neg hy] at h; exact .tail _ (ih h)
noncomputable def gk (n : Nat) (ks : List Nat) (j : Nat) : Nat := if j < n then j else ks.getD (j - n) 0

/-- n is how many objects the caller had, H0 what they were -/
inductive Ret (H0 : List LO) (Q : LV → List LO → Prop) (lf : LF) (H : List LO) : Prop
  | all (h : Q lf.val H)
  | pick (ks : List Nat) (H' : List LO) (lv : LV) (nd : ks.Nodup) (hk : ∀ k ∈ ks, H0.length ≤ k ∧ k < H.length) (hl : H'.length = H0.length + ks.length)
      (ho : ∀ (j : Nat) (o : LO), H'[j]? = some o → (j < H0.length ∧ H0[j]? = some o ∧ H[j]? = some o) ∨ (H[gk H0.length ks j]? = some (o.ren (gk H0.length ks)) ∧ o.below (H0.length + ks.length)))
      (hv : lf.val = lv.ren (gk H0.length ks)) (hb : lv.below (H0.length + ks.length)) (h : Q lv H')

theorem LV.ren_below {g : Nat → Nat} {n : Nat} (hg : ∀ j, j < n → g j = j) {lv : LV} (h : lv.below n) : lv.ren g = lv := by
  cases lv with
  | obj k => exact congrArg LV.obj (hg k h)
  | _ => rfl
theorem VR.unren {ρ ρ' : List Addr} {g : Nat → Nat} {n : Nat} (hg : ∀ j, j < n → ∀ a, ρ[g j]? = some a → ρ'[j]? = some a) {lv : LV} {v : Value} (hb : lv.below n) (h : VR ρ (lv.ren g) v) : VR ρ' lv v := by
  cases lv with
  | obj k => cases h with | obj _ a e => exact .obj k a (hg k hb a e)
  | none => cases h; exact .none
  | bool b => cases h; exact .bool b
  | int i => cases h; exact .int i _
  | str x => cases h; exact .str x _
  | const v => cases h; exact .const v
theorem VRs.unren {ρ ρ' : List Addr} {g : Nat → Nat} {n : Nat} (hg : ∀ j, j < n → ∀ a, ρ[g j]? = some a → ρ'[j]? = some a) : ∀ {ls : List LV} {vs : List Value}, (∀ x ∈ ls, x.below n) → VRs ρ (ls.map (LV.ren g)) vs → VRs ρ' ls vs
  | [], [], _, _ => trivial
  | l :: ls, v :: vs, hb, ⟨a, b⟩ => ⟨a.unren hg (hb l (by simp)), b.unren hg fun x hx => hb x (by simp [hx])⟩
  | [], _ :: _, _, h => h.elim
  | _ :: _, [], _, h => h.elim
theorem OR.unren {ρ ρ' : List Addr} {g : Nat → Nat} {n : Nat} (hg : ∀ j, j < n → ∀ a, ρ[g j]? = some a → ρ'[j]? = some a) {h : Heap} {a : Addr} : ∀ {lo : LO}, lo.below n → OR ρ h a (lo.ren g) → OR ρ' h a lo
  | .list _, hb, ⟨vs, k, e, r⟩ => ⟨vs, k, e, r.unren hg hb⟩
  | .tup _, hb, ⟨vs, k, e, r⟩ => ⟨vs, k, e, r.unren hg hb⟩
  | .raw _, _, e => e
  | .flds _ _, hb, ⟨vs, e, r⟩ => ⟨vs, e, r.unren hg hb⟩
  | .ns _ _, hb, ⟨e, h1, mm, h3, h4⟩ => ⟨e, h1, mm, h3, fun x => ⟨fun lv el => by
      obtain ⟨v, a, b⟩ := (h4 x).1 (lv.ren g) (by rw [lget_map, el]; rfl)
      exact ⟨v, a, b.unren hg (hb _ (lget_mem el))⟩, fun el => (h4 x).2 (by rw [lget_map, el]; rfl)⟩⟩
  | .plc _ _, _, e => e

theorem nodup_inj {l : List Nat} (h : l.Nodup) {i j : Nat} (hi : i < l.length) (hj : j < l.length) (e : l[i] = l[j]) : i = j := by
  rcases Nat.lt_trichotomy i j with h1 | h1 | h1
  · exact absurd e (List.pairwise_iff_getElem.mp h i j hi hj h1)
  · exact h1
  · exact absurd e.symm (List.pairwise_iff_getElem.mp h j i hj hi h1)
theorem getD_mem {l : List Nat} {i : Nat} (h : i < l.length) : l.getD i 0 ∈ l := by
  rw [List.getD_eq_getElem?_getD, List.getElem?_eq_getElem h]; exact List.getElem_mem h

theorem VR.old {ρ ρ1 ρ' : List Addr} (k : ∀ (j : Nat) (a : Addr), ρ[j]? = some a → ρ1[j]? = some a ∧ ρ'[j]? = some a) {lv : LV} {v v0 : Value} (h : VR ρ1 lv v) (h0 : VR ρ lv v0) : VR ρ' lv v := by
  cases h0 with
  | obj j a e =>
    obtain ⟨e1, e2⟩ := k j a e
    cases h with
    | obj _ b eb => rw [e1] at eb; cases eb; exact .obj j a e2
  | none => cases h; exact .none
  | bool b => cases h; exact .bool b
  | int i => cases h; exact .int i _
  | str x => cases h; exact .str x _
  | const v => cases h; exact .const _
theorem VRs.old {ρ ρ1 ρ' : List Addr} (k : ∀ (j : Nat) (a : Addr), ρ[j]? = some a → ρ1[j]? = some a ∧ ρ'[j]? = some a) : ∀ {ls : List LV} {vs v0 : List Value}, VRs ρ1 ls vs → VRs ρ ls v0 → VRs ρ' ls vs
  | [], [], [], _, _ => trivial
  | l :: ls, v :: vs, w :: ws, ⟨a, b⟩, ⟨c, d⟩ => ⟨a.old k c, b.old k d⟩
  | [], _ :: _, _, h, _ => h.elim
  | _ :: _, [], _, h, _ => h.elim
  | [], [], _ :: _, _, h => h.elim
  | _ :: _, _ :: _, [], _, h => h.elim
theorem OR.old {ρ ρ1 ρ' : List Addr} {h h0 : Heap} {a : Addr} : ∀ {lo : LO}, OR ρ1 h a lo → OR ρ h0 a lo → (∀ (j : Nat) (a : Addr), ρ[j]? = some a → ρ1[j]? = some a ∧ ρ'[j]? = some a) → OR ρ' h a lo
  | .list _, ⟨vs, n, e, r⟩, ⟨_, _, _, r0⟩, k => ⟨vs, n, e, r.old k r0⟩
  | .tup _, ⟨vs, n, e, r⟩, ⟨_, _, _, r0⟩, k => ⟨vs, n, e, r.old k r0⟩
  | .raw _, e, _, _ => e
  | .flds _ _, ⟨vs, e, r⟩, ⟨_, _, r0⟩, k => ⟨vs, e, r.old k r0⟩
  | .ns _ _, ⟨e, h1, mm, h3, h4⟩, ⟨_, _, m0, _, h5⟩, k => ⟨e, h1, mm, h3, fun x => ⟨fun lv el => by
      obtain ⟨v, a, b⟩ := (h4 x).1 lv el
      obtain ⟨v0, _, b0⟩ := (h5 x).1 lv el
      exact ⟨v, a, b.old k b0⟩, (h4 x).2⟩⟩
  | .plc _ _, e, _, _ => e

/-- the end of an activation as its caller sees it -/
theorem Ret.post {K : Kit} {A : Around} {env : Env} {ρ ρ1 : List Addr} {s s1 : Shared} {H1 : List LO} {m1 : Loc} {Q : LV → List LO → Prop} {lf : LF} {v : Value}
    (hs : St ⟨K, A, env, ρ.length⟩ ⟨s, ρ⟩ ρ1 H1 m1 s1) (hown : ∀ a ∈ Cx.wr ⟨K, A, env, ρ.length⟩, s.heap.get? a = none) (hp : ρ <+: ρ1) (r : VR ρ1 lf.val v) {H0 : List LO} (hp0 : Hp K ρ H0 s) (x : Ret H0 Q lf H1) : PostF K ρ s Q v s1 := by
  have hkp : Kp K [] ρ s s1 := ⟨fun b o e h1 _ h3 => hs.kp.keep b o e h1 (fun hm => by rw [hown b hm] at e; cases e) h3, hs.kp.os⟩
  cases x with
  | all h => exact ⟨ρ1, H1, _, hp, hs.hp, r, hkp, hs.new, h⟩
  | pick ks H' lv nd hk hl ho hv hb h =>
    have hlen := hs.hp.len
    have h0 : H0.length = ρ.length := hp0.len.symm
    rw [h0] at hk hl ho hv hb
    have hpl := hp.length_le
    -- the kept addresses
    let ρ' := ρ ++ ks.map fun k => ρ1.getD k 0
    have hg : ∀ j, j < ρ.length + ks.length → ∀ a, ρ1[gk ρ.length ks j]? = some a → ρ'[j]? = some a := by
      intro j hj a e
      unfold gk at e
      by_cases hjn : j < ρ.length
      · rw [if_pos hjn] at e
        show (ρ ++ _)[j]? = some a
        rw [List.getElem?_append_left hjn]
        obtain ⟨l, rfl⟩ := hp
        rwa [List.getElem?_append_left hjn] at e
      · rw [if_neg hjn] at e
        show (ρ ++ _)[j]? = some a
        rw [List.getElem?_append_right (by (first | lia | omega)), List.getElem?_map]
        have hlt : j - ρ.length < ks.length := by (first | lia | omega)
        rw [List.getElem?_eq_getElem hlt]
        rw [List.getD_eq_getElem?_getD, List.getElem?_eq_getElem hlt] at e
        simp only [Option.getD_some] at e
        simp only [Option.map_some, List.getD_eq_getElem?_getD, e, Option.getD_some]
    have hmem : ∀ k ∈ ks, ρ1.getD k 0 ∈ ρ1 := fun k hk' => by
      have : k < ρ1.length := by have := (hk k hk').2; (first | lia | omega)
      exact getD_mem this
    have hsub : ∀ a ∈ ρ', a ∈ ρ1 := by
      intro a ha
      rcases List.mem_append.mp ha with ha | ha
      · exact hp.subset ha
      · obtain ⟨k, hk', rfl⟩ := List.mem_map.mp ha
        exact hmem k hk'
    have hnd : ρ'.Nodup := by
      have nd1 := hs.hp.nd
      rw [List.nodup_append]
      refine ⟨?_, ?_, ?_⟩
      · obtain ⟨l, rfl⟩ := hp
        exact (List.nodup_append.mp nd1).1
      · rw [List.nodup_iff_pairwise_ne] at nd ⊢
        rw [List.pairwise_map]
        refine nd.imp_of_mem fun {i j} hi hj hij e => hij ?_
        have hi' : i < ρ1.length := by have := (hk i hi).2; (first | lia | omega)
        have hj' : j < ρ1.length := by have := (hk j hj).2; (first | lia | omega)
        rw [List.getD_eq_getElem?_getD, List.getD_eq_getElem?_getD, List.getElem?_eq_getElem hi', List.getElem?_eq_getElem hj'] at e
        exact nodup_inj nd1 hi' hj' e
      · intro a ha b hb' e
        subst e
        obtain ⟨k, hk', rfl⟩ := List.mem_map.mp hb'
        obtain ⟨i, hi, e⟩ := List.getElem_of_mem ha
        have hk1 : k < ρ1.length := by have := (hk k hk').2; (first | lia | omega)
        have e2 : ρ1[i]'(by (first | lia | omega)) = ρ[i] := by
          obtain ⟨l, rfl⟩ := hp
          exact List.getElem_append_left hi
        rw [List.getD_eq_getElem?_getD, List.getElem?_eq_getElem hk1] at e
        simp only [Option.getD_some] at e
        have := nodup_inj nd1 (i := i) (j := k) (by (first | lia | omega)) hk1 (e2.trans e)
        have := (hk k hk').1
        (first | lia | omega)
    refine ⟨ρ', H', lv, List.prefix_append _ _, ⟨hs.hp.base, ?_, ?_, hnd, fun a ha => hs.hp.own a (hsub a ha), hs.hp.gens⟩, ?_, hkp, fun b hb => hs.new b (hsub b hb), h⟩
    · show (ρ ++ _).length = _
      rw [List.length_append, List.length_map, hl]
    · intro j a lo ea eo
      rcases ho j lo eo with ⟨hj0, eo0, eo1⟩ | ⟨e1, b1⟩
      · obtain ⟨l, el⟩ := hp
        have ea1 : ρ[j]? = some a := by
          have : ρ'[j]? = ρ[j]? := List.getElem?_append_left hj0
          rw [← this]; exact ea
        have ea2 : ρ1[j]? = some a := by rw [← el, List.getElem?_append_left hj0]; exact ea1
        exact OR.old (ρ := ρ) (ρ1 := ρ1) (hs.hp.objs j a lo ea2 eo1) (hp0.objs j a lo ea1 eo0) (fun k b e => by
          have hk : k < ρ.length := (List.getElem?_eq_some_iff.mp e).1
          refine ⟨?_, ?_⟩
          · rw [← el, List.getElem?_append_left hk]; exact e
          · show (ρ ++ _)[k]? = _
            rw [List.getElem?_append_left hk]; exact e)
      have hj : j < H'.length := (List.getElem?_eq_some_iff.mp eo).1
      have hgl : gk ρ.length ks j < ρ1.length := by
        have := (List.getElem?_eq_some_iff.mp e1).1
        (first | lia | omega)
      have ea2 := hg j (by (first | lia | omega)) _ (List.getElem?_eq_getElem hgl)
      rw [ea] at ea2
      cases ea2
      exact (hs.hp.objs _ _ _ (List.getElem?_eq_getElem hgl) e1).unren (n := ρ.length + ks.length) hg b1
    · rw [hv] at r
      exact r.unren hg hb

theorem Ret.same {H0 H : List LO} {Q : LV → List LO → Prop} {lf : LF} {l : List LO} (e : H = H0 ++ l) (hb : lf.val.below H0.length) (h : Q lf.val H0) : Ret H0 Q lf H := by
  subst e
  refine .pick [] H0 lf.val (by simp) (by simp) (by simp) (fun j o ho => ?_) (LV.ren_below (fun j hj => ?_) hb).symm hb h
  · have hj := (List.getElem?_eq_some_iff.mp ho).1
    exact .inl ⟨hj, ho, by rw [List.getElem?_append_left hj]; exact ho⟩
  · unfold gk; rw [if_pos hj]
theorem LV.ren_below' {g : Nat → Nat} {n : Nat} (hg : ∀ j, j < n → g j = j) : ∀ {xs : List LV}, (∀ x ∈ xs, x.below n) → xs.map (LV.ren g) = xs
  | [], _ => rfl
  | x :: xs, h => by
    rw [List.map_cons, LV.ren_below hg (h x (.head _)), LV.ren_below' hg fun y hy => h y (.tail _ hy)]
theorem LO.ren_below {g : Nat → Nat} {n : Nat} (hg : ∀ j, j < n → g j = j) : ∀ {lo : LO}, lo.below n → lo.ren g = lo
  | .list _, h => congrArg LO.list (LV.ren_below' hg h)
  | .tup _, h => congrArg LO.tup (LV.ren_below' hg h)
  | .raw _, _ => rfl
  | .flds c _, h => congrArg (LO.flds c) (LV.ren_below' hg h)
  | .ns d m, h => by
    show LO.ns d _ = _
    congr 1
    have : ∀ l : Loc, (∀ p ∈ l, p.2.below n) → l.map (fun p => (p.1, p.2.ren g)) = l := by
      intro l
      induction l with
      | nil => intro _; rfl
      | cons p l ih => intro h; rw [List.map_cons, ih fun q hq => h q (.tail _ hq), LV.ren_below hg (h p (.head _))]
    exact this m h
  | .plc _ _, _ => rfl
theorem LV.below_mono {n k : Nat} (h : n ≤ k) {lv : LV} (x : lv.below n) : lv.below k := by
  cases lv with
  | obj j => exact Nat.lt_of_lt_of_le x h
  | _ => trivial
theorem LO.below_mono {n k : Nat} (h : n ≤ k) : ∀ {lo : LO}, lo.below n → lo.below k
  | .list _, x => fun y hy => LV.below_mono h (x y hy)
  | .tup _, x => fun y hy => LV.below_mono h (x y hy)
  | .raw _, _ => trivial
  | .flds _ _, x => fun y hy => LV.below_mono h (x y hy)
  | .ns _ _, x => fun y hy => LV.below_mono h (x y hy)
  | .plc _ _, _ => trivial
theorem Ret.one {H0 H : List LO} {Q : LV → List LO → Prop} {lf : LF} {l : List LO} {k : Nat} {lo : LO} (e : H = H0 ++ l) (hk : H0.length ≤ k) (hlo : H[k]? = some lo) (hlf : lf.val = .obj k) (hb : lo.below H0.length) (h : Q (.obj H0.length) (H0 ++ [lo])) : Ret H0 Q lf H := by
  subst e
  have hlt := (List.getElem?_eq_some_iff.mp hlo).1
  have g0 : ∀ j, j < H0.length → gk H0.length [k] j = j := fun j hj => by unfold gk; rw [if_pos hj]
  refine .pick [k] (H0 ++ [lo]) (.obj H0.length) (by simp) (by simpa using ⟨hk, by simpa using hlt⟩) (by simp) (fun j o ho => ?_) ?_ (by show H0.length < _; simp) h
  · rcases Nat.lt_or_ge j H0.length with hj | hj
    · rw [List.getElem?_append_left hj] at ho
      exact .inl ⟨hj, ho, by rw [List.getElem?_append_left hj]; exact ho⟩
    · right
      have hj2 : j = H0.length := by
        have := (List.getElem?_eq_some_iff.mp ho).1
        simp at this; (first | lia | omega)
      subst hj2
      rw [List.getElem?_append_right (Nat.le_refl _)] at ho
      simp only [Nat.sub_self, List.getElem?_cons_zero, Option.some.injEq] at ho
      subst ho
      have : gk H0.length [k] H0.length = k := by unfold gk; simp
      rw [this, LO.ren_below g0 hb]
      exact ⟨hlo, LO.below_mono (by simp) hb⟩
  · rw [hlf]
    show LV.obj k = LV.obj (gk _ _ _)
    congr 1
    unfold gk; simp

/-! text PL3 -/
section
variable {C : Cx} {D : Dy} {ρ : List Addr} {H : List LO} {m : Loc} {s : Shared}

theorem St.grow (h : St C D ρ H m s) {h' : Heap} {t : Nat} (k : ∀ b o, s.heap.get? b = some o → h'.get? b = some o) : St C D ρ H m { s with heap := h', toks := t } :=
  h.after (pre_refl ρ) ⟨fun a o e => k a o (h.hp.base a o e), h.hp.len, fun j a lo e e' => (h.hp.objs j a lo e e').at (pre_refl ρ) fun o => k a o, h.hp.nd, h.hp.own, h.hp.gens⟩
    ⟨fun b o e _ _ _ => k b o e, rfl⟩ fun a ha => .inl ha

/-- a new object -/
theorem St.alloc (h : St C D ρ H m s) {h' : Heap} {t : Nat} {lo : LO} (k : ∀ b o, s.heap.get? b = some o → h'.get? b = some o) (ho : OR (ρ ++ [s.heap.objs.size]) h' s.heap.objs.size lo)
    : St C D (ρ ++ [s.heap.objs.size]) (H ++ [lo]) m { s with heap := h', toks := t } := by
  have hf := fresh_size s.heap
  obtain ⟨hn, hbn, htn⟩ := h.hp.fresh
  refine h.after (List.prefix_append _ _) ⟨fun a o e => k a o (h.hp.base a o e), by simp [h.hp.len], fun j a lo' e e' => ?_, ?_, fun a ha => ?_, h.hp.gens⟩ ⟨fun b o e _ _ _ => k b o e, rfl⟩ fun a ha => ?_
  · rcases Nat.lt_trichotomy j ρ.length with hj | hj | hj
    · rw [List.getElem?_append_left hj] at e
      rw [List.getElem?_append_left (h.hp.len ▸ hj)] at e'
      exact (h.hp.objs j a lo' e e').at (List.prefix_append _ _) fun o => k a o
    · subst hj
      rw [List.getElem?_append_right (Nat.le_refl _)] at e
      rw [List.getElem?_append_right (by rw [h.hp.len]; exact Nat.le_refl _)] at e'
      simp only [Nat.sub_self, List.getElem?_cons_zero, Option.some.injEq] at e
      rw [h.hp.len] at e'
      simp only [Nat.sub_self, List.getElem?_cons_zero, Option.some.injEq] at e'
      subst e e'
      exact ho
    · rw [List.getElem?_eq_none (by simp; omega)] at e; cases e
  · rw [List.nodup_append]
    exact ⟨h.hp.nd, by simp, fun a ha b hb e => hn (by simp at hb; rw [← hb, ← e]; exact ha)⟩
  · rcases List.mem_append.mp ha with ha | ha
    · exact h.hp.own a ha
    · simp at ha; subst ha; exact ⟨hbn, htn⟩
  · rcases List.mem_append.mp ha with ha | ha
    · exact .inl ha
    · simp at ha; subst ha; exact .inr hf

/-- an object changed -/
theorem St.upd (h : St C D ρ H m s) {h' : Heap} {t : Nat} {k : Nat} {a : Addr} {lo : LO} (ha : ρ[k]? = some a) (hb : Heap.SameBut a s.heap h') (ho : OR ρ h' a lo) : St C D ρ (H.set k lo) m { s with heap := h', toks := t } := by
  have hm : a ∈ ρ := List.mem_of_getElem? ha
  have keep : ∀ b o, b ≠ a → s.heap.get? b = some o → h'.get? b = some o := fun b o q e => (hb.2 b q).trans e
  refine h.after (pre_refl ρ) ⟨fun b o e => keep b o (fun q => by rw [q, (h.hp.own a hm).1] at e; cases e) (h.hp.base b o e), by simp [h.hp.len], fun j b lo' e e' => ?_, h.hp.nd, h.hp.own, h.hp.gens⟩
    ⟨fun b o e h1 _ _ => keep b o (fun q => h1 (q ▸ hm)) e, rfl⟩ fun a ha => .inl ha
  by_cases hj : k = j
  · subst hj
    rw [ha] at e
    cases e
    have hk : k < H.length := by
      have := (List.getElem?_eq_some_iff.mp e').1
      simpa using this
    rw [List.getElem?_set_self hk] at e'
    cases e'
    exact ho
  · rw [List.getElem?_set_ne hj] at e'
    have hba : b ≠ a := fun q => by
      subst q
      have h1 := (List.getElem?_eq_some_iff.mp ha)
      have h2 := (List.getElem?_eq_some_iff.mp e)
      exact hj (nodup_inj h.hp.nd h1.1 h2.1 (h1.2.trans h2.2.symm))
    exact (h.hp.objs j b lo' e e').at (pre_refl ρ) fun o => keep b o hba

theorem St.inner (h : St C D ρ H m s) {N : Nat} (hN : N ≤ H.length) : St { C with n0 := N } ⟨s, ρ⟩ ρ H m s :=
  ⟨h.hp, h.ns, h.cl, h.nd, h.nd2, h.alive, h.off, Kp.refl _ _ _ _, fun a ha => .inl ha, by show N ≤ ρ.length; rw [h.hp.len]; exact hN⟩

theorem St.outer (h : St C D ρ H m s) {N : Nat} (hN : C.n0 ≤ N) {ρ2 : List Addr} {H2 : List LO} {m2 : Loc} {s2 : Shared} (h2 : St { C with n0 := N } ⟨s, ρ⟩ ρ2 H2 m2 s2) : St C D ρ2 H2 m2 s2 := by
  refine ⟨h2.hp, h2.ns, h2.cl, h2.nd, h2.nd2, h2.alive, h2.off, ⟨fun b o e h1 h2' h3 => ?_, h2.kp.os.trans h.kp.os⟩, fun a ha => ?_, Nat.le_trans hN h2.sz⟩
  · have e1 := h.kp.keep b o e h1 h2' h3
    refine h2.kp.keep b o e1 (fun hm => ?_) h2' h3
    rcases h.new b hm with q | q
    · exact h1 q
    · rw [q] at e; cases e
  · rcases h2.new a ha with q | q
    · exact h.new a q
    · by_cases hr : a ∈ D.ρ0
      · exact .inl hr
      · right
        cases e : D.s0.heap.get? a with
        | none => rfl
        | some o =>
          have := h.kp.keep a o e hr (fun hm => (h2.off a (Cx.wr_own (C := C) hm)).1 ha) (h2.hp.own a ha).2
          have q' : s.heap.get? a = none := q
          rw [this] at q'; cases q'
end

/-! stores -/
structure Asg (C : Cx) (t : PySem.Expr) (lv : LV) (H : List LO) (m : Loc) (R : List LO → Loc → Prop) : Prop where
  go : ∀ D ρ s v, St C D ρ H m s → VR ρ lv v → wpAny C.M C.A (assign t C.env v) (fun _ s' => ∃ ρ' H' m', ρ <+: ρ' ∧ St C D ρ' H' m' s' ∧ R H' m') NoE s

section
variable {C : Cx} {H : List LO} {m : Loc}

theorem store_cell {D : Dy} {ρ : List Addr} {s : Shared} {x : Str} {lv : LV} {v : Value} {c : Addr} {P : Unit → Shared → Prop} (hs : St C D ρ H m s) (r : VR ρ lv v)
    (h : ∀ s', St C D ρ H (lset m x lv) s' → KeepsBut c s.heap s'.heap → P () s') (hk : C.env.scope.kind = .function) (hfn : C.env.func.isSome = true) (hl : C.env.kindOf x = some .cell) (hc : C.env.cells.lookup x = some c) : wpAny C.M C.A (storeName C.env x v) P NoE s := by
  obtain ⟨v0, hv, _⟩ := hs.cl x c hc
  have hcm : c ∈ C.env.cells.map (·.2) := List.mem_map.mpr ⟨(x, c), mem_of_lookup hc, rfl⟩
  have hco : c ∈ C.own := List.mem_cons_of_mem _ hcm
  have hcL : c ≠ C.env.locals := fun q => hs.nd (q ▸ hcm)
  have hcw : c ∈ C.wr := by
    unfold Cx.wr
    rw [if_pos hfn]
    exact .tail _ (List.mem_map.mpr ⟨(x, c), List.mem_filter.mpr ⟨mem_of_lookup hc, by show isCellK (C.env.kindOf x) = true; rw [hl]; rfl⟩, rfl⟩)
  refine wpAny_storeName_cell hk hl hc hv fun h' hn' hb => h _ ?_ fun b o hb' e => (hb.2 b hb').trans e
  have keep : ∀ b o, b ≠ c → s.heap.get? b = some o → h'.get? b = some o := fun b o hb' e => (hb.2 b hb').trans e
  have hB : ∀ b o, C.K.B b = some o → b ≠ c := fun b o e q => by
    have := (hs.off _ hco).2.1
    rw [q, this] at e; cases e
  have hρ : ∀ b ∈ ρ, b ≠ c := fun b hb' q => (hs.off _ hco).1 (q ▸ hb')
  obtain ⟨mm, hn, hv'⟩ := hs.ns
  refine ⟨⟨fun a o e => keep a o (hB a o e) (hs.hp.base a o e), hs.hp.len, fun k a lo e e' => (hs.hp.objs k a lo e e').at (pre_refl ρ) fun o => keep a o (hρ a (List.mem_of_getElem? e)), hs.hp.nd, hs.hp.own, hs.hp.gens⟩,
    ⟨mm, hn.sameBut hb (Ne.symm hcL), fun y lv' e e' => ?_⟩, fun y c' hc' => ?_, hs.nd, hs.nd2, fun a ha => ?_, hs.off, ⟨fun b o e h1 h2 h3 => keep b o (fun q => h2 (q ▸ hcw)) (hs.kp.keep b o e h1 h2 h3), hs.kp.os⟩, hs.new, hs.sz⟩
  · rw [lget_lset] at e
    have hxy : x ≠ y := fun q => by rw [← q, hl] at e'; cases e'
    rw [if_neg hxy] at e
    exact hv' y lv' e e'
  · by_cases hxy : x = y
    · subst hxy
      rw [hc] at hc'
      cases hc'
      exact ⟨some v, hn', fun lv' e => by rw [lget_lset, if_pos rfl] at e; cases e; exact ⟨v, rfl, r⟩⟩
    · obtain ⟨v', h1, q⟩ := hs.cl y c' hc'
      have hcc : c' ≠ c := fun q' => by
        subst q'
        have nd := hs.nd2 hfn
        have m1 := mem_of_lookup hc
        have m2 := mem_of_lookup hc'
        obtain ⟨i, hi, e1⟩ := List.getElem_of_mem m1
        obtain ⟨j, hj, e2⟩ := List.getElem_of_mem m2
        have := nodup_inj nd (i := i) (j := j) (by simpa using hi) (by simpa using hj) (by simp [e1, e2])
        subst this
        rw [e1] at e2
        exact hxy (congrArg Prod.fst e2)
      exact ⟨v', h1.sameBut hb hcc, fun lv' e => by rw [lget_lset, if_neg hxy] at e; exact q lv' e⟩
  · by_cases q : a = c
    · subst q
      obtain ⟨o, ho, _⟩ := hn'
      exact ⟨o, ho⟩
    · obtain ⟨o, ho⟩ := hs.alive a ha
      exact ⟨o, keep a o q ho⟩

theorem asg_local {x : Str} {pos : Pos} {lv : LV} {R : List LO → Loc → Prop} (h : R H (lset m x lv)) (hl : C.env.kindOf x = some .local := by kernel_rfl)
    (hp : (C.env.scope.kind == .class || (C.env.scope.kind == .module && C.env.locals != C.env.globals)) = false := by kernel_rfl)
    (hncl : C.env.cells.lookup x = none := by kernel_rfl) : Asg C (.Name x pos) lv H m R :=
  .mk fun D ρ s v hs r => wpAny_assign_Name (store_local (P := fun _ s' => ∃ ρ' H' m', ρ <+: ρ' ∧ St C D ρ' H' m' s' ∧ R H' m') hs r (fun s' hs' _ => ⟨ρ, H, _, pre_refl ρ, hs', h⟩) hl hp hncl)
theorem asg_cell {x : Str} {pos : Pos} {lv : LV} {R : List LO → Loc → Prop} (h : R H (lset m x lv)) (hk : C.env.scope.kind = .function := by kernel_rfl) (hl : C.env.kindOf x = some .cell := by kernel_rfl)
    (hc : (C.env.cells.lookup x).isSome = true := by kernel_rfl) (hfn : C.env.func.isSome = true := by kernel_rfl) : Asg C (.Name x pos) lv H m R :=
  let ⟨c, hc⟩ := Option.isSome_iff_exists.mp hc
  .mk fun D ρ s v hs r => wpAny_assign_Name (store_cell (P := fun _ s' => ∃ ρ' H' m', ρ <+: ρ' ∧ St C D ρ' H' m' s' ∧ R H' m') hs r (fun s' hs' _ => ⟨ρ, H, _, pre_refl ρ, hs', h⟩) hk hfn hl hc)

theorem x_assignCell {Q : LF → List LO → Loc → Prop} {x : Str} {pos' pos : Pos} {e : PySem.Expr} (h : Ev C e H m fun lv H1 => Q .next H1 (lset m x lv))
    (hk : C.env.scope.kind = .function := by kernel_rfl) (hl : C.env.kindOf x = some .cell := by kernel_rfl) (hc : (C.env.cells.lookup x).isSome = true := by kernel_rfl) (hfn : C.env.func.isSome = true := by kernel_rfl)
    (hs : swapsWith e (some (.Name x pos')) pos.line C.env = pure false := by kernel_rfl) : X C (.Assign [.Name x pos'] e pos) H m Q := by
  refine .mk fun D ρ s hst => ?_
  obtain ⟨c, hc⟩ := Option.isSome_iff_exists.mp hc
  refine wpAny_Assign_Name (wp_imp (h.go D ρ s hst) fun v s1 ⟨ρ1, H1, lv, p1, hs1, r1, q1⟩ => ?_) hs
  exact wp_imp (store_cell (P := fun _ s' => PostS C D ρ Q .next s') hs1 r1 (fun s' hs' _ => ⟨ρ1, H1, _, .next, take_of_pre p1, hs', .next, q1⟩) hk hfn hl hc) fun _ _ x => x
end

/-! weakening -/
section
variable {C : Cx} {H : List LO} {m : Loc}
theorem ex_sub {ss : List Stmt} {Q : LF → List LO → Loc → Prop} {m' : Loc} (hs : Sub m' m) (h : Ex C ss H m' Q) : Ex C ss H m Q := .mk fun D ρ s hst => h.go D ρ s (hst.sub hs)

theorem VR.take {ρ : List Addr} {n : Nat} {lv : LV} {v : Value} (h : VR ρ lv v) (hb : lv.below n) : VR (ρ.take n) lv v := by
  cases h with
  | obj k a e => exact .obj k a (by rw [List.getElem?_take_of_lt hb]; exact e)
  | none => exact .none
  | bool b => exact .bool b
  | int i t => exact .int i t
  | str x t => exact .str x t
  | const v => exact .const v
theorem VRs.takeρ {ρ : List Addr} {n : Nat} : ∀ {ls : List LV} {vs : List Value}, VRs ρ ls vs → (∀ x ∈ ls, x.below n) → VRs (ρ.take n) ls vs
  | [], [], _, _ => trivial
  | l :: ls, v :: vs, ⟨a, b⟩, hb => ⟨a.take (hb l (by simp)), b.takeρ fun x hx => hb x (by simp [hx])⟩
  | [], _ :: _, h, _ => h.elim
  | _ :: _, [], h, _ => h.elim
theorem OR.take {ρ : List Addr} {n : Nat} {h : Heap} {a : Addr} : ∀ {lo : LO}, OR ρ h a lo → lo.below n → OR (ρ.take n) h a lo
  | .list _, ⟨vs, k, e, r⟩, hb => ⟨vs, k, e, r.takeρ hb⟩
  | .tup _, ⟨vs, k, e, r⟩, hb => ⟨vs, k, e, r.takeρ hb⟩
  | .raw _, e, _ => e
  | .flds _ _, ⟨vs, e, r⟩, hb => ⟨vs, e, r.takeρ hb⟩
  | .ns _ _, ⟨e, h1, mm, h3, h4⟩, hb => ⟨e, h1, mm, h3, fun x => ⟨fun lv el => by
      obtain ⟨v, a, b⟩ := (h4 x).1 lv el
      exact ⟨v, a, b.take (hb _ (lget_mem el))⟩, (h4 x).2⟩⟩
  | .plc _ _, e, _ => e
/-- the objects behind the first n are let go -/
theorem St.drop {D : Dy} {ρ : List Addr} {s : Shared} (h : St C D ρ H m s) (n : Nat) (hn : C.n0 ≤ n) (hm : ∀ x lv, lget m x = some lv → lv.below n) (hH : ∀ lo ∈ H.take n, lo.below n) (hl : n ≤ H.length) : St C D (ρ.take n) (H.take n) m s := by
  have hsub : ∀ a ∈ ρ.take n, a ∈ ρ := fun a ha => List.mem_of_mem_take ha
  refine ⟨⟨h.hp.base, by rw [List.length_take, List.length_take, h.hp.len], fun k a lo e e' => ?_, h.hp.nd.sublist (List.take_sublist _ _), fun a ha => h.hp.own a (hsub a ha), h.hp.gens⟩, ?_, ?_, h.nd, h.nd2, h.alive,
    fun a ha => ⟨fun q => (h.off a ha).1 (hsub a q), (h.off a ha).2⟩, h.kp, fun a ha => h.new a (hsub a ha), ?_⟩
  · have hk : k < n := by
      have := (List.getElem?_eq_some_iff.mp e).1
      rw [List.length_take] at this
      omega
    rw [List.getElem?_take_of_lt hk] at e
    have hlo := hH lo (List.mem_of_getElem? e')
    rw [List.getElem?_take_of_lt hk] at e'
    exact (h.hp.objs k a lo e e').take hlo
  · obtain ⟨mm, a, b⟩ := h.ns
    exact ⟨mm, a, fun x lv e e' => let ⟨v, q, r⟩ := b x lv e e'; ⟨v, q, r.take (hm x lv e)⟩⟩
  · intro x c e
    obtain ⟨v, a, b⟩ := h.cl x c e
    exact ⟨v, a, fun lv e => let ⟨v', q, r⟩ := b lv e; ⟨v', q, r.take (hm x lv e)⟩⟩
  · rw [List.length_take, h.hp.len]; omega
end

/-- what may be let go at a turn's end -/
noncomputable def Shed (n0 : Nat) (H : List LO) (m : Loc) (H' : List LO) (m' : Loc) : Prop :=
  Sub m' m ∧ (H' = H ∨ ∃ n, n0 ≤ n ∧ n ≤ H.length ∧ H' = H.take n ∧ (∀ x lv, lget m' x = some lv → lv.below n) ∧ ∀ lo ∈ H', lo.below n)
theorem Shed.keep {n0 : Nat} {H : List LO} {m m' : Loc} (h : Sub m' m) : Shed n0 H m H m' := ⟨h, .inl rfl⟩
theorem Shed.st {C : Cx} {D : Dy} {ρ : List Addr} {H H' : List LO} {m m' : Loc} {s : Shared} (x : Shed C.n0 H m H' m') (h : St C D ρ H m s) : ∃ ρ', ρ.take C.n0 <+: ρ' ∧ (∀ a ∈ ρ', a ∈ ρ) ∧ St C D ρ' H' m' s := by
  obtain ⟨hs, rfl | ⟨n, h1, h2, rfl, h3, h4⟩⟩ := x
  · exact ⟨ρ, List.take_prefix _ _, fun _ h => h, h.sub hs⟩
  · refine ⟨ρ.take n, ?_, fun a ha => List.mem_of_mem_take ha, (h.sub hs).drop n h1 h3 h4 h2⟩
    rw [show ρ.take C.n0 = (ρ.take n).take C.n0 by rw [List.take_take, Nat.min_eq_left h1]]
    exact List.take_prefix _ _

section
variable {C : Cx} {H : List LO} {m : Loc} {Q : LF → List LO → Loc → Prop}
/-- a loop's turn's end -/
noncomputable def Turn (n0 : Nat) (I : Nat → List LO → Loc → Prop) (n : Nat) (Q : LF → List LO → Loc → Prop) : LF → List LO → Loc → Prop
  | .next, H, m => ∃ k m0 H0, k < n ∧ Shed n0 H m H0 m0 ∧ I k H0 m0
  | .cont, H, m => ∃ k m0 H0, k < n ∧ Shed n0 H m H0 m0 ∧ I k H0 m0
  | .brk, H, m => Q .next H m
  | .ret v, H, m => Q (.ret v) H m

theorem x_While {test : PySem.Expr} {body : List Stmt} {pos : Pos} (I : Nat → List LO → Loc → Prop) (n : Nat) (m0 : Loc) (hm0 : Sub m0 m) (h0 : I n H m0)
    (turn : ∀ n H m, I n H m → Tst C test H m fun b H1 => if b then Ex C body H1 m (Turn C.n0 I n Q) else Q .next H1 m) : X C (.While test body [] pos) H m Q := by
  refine .mk fun D ρ s hs => ?_
  refine wpAny_While (codeAny_whileLoop (fun n s' => ∃ ρ' H' m', ρ.take C.n0 <+: ρ' ∧ St C D ρ' H' m' s' ∧ I n H' m') (fun k s1 ⟨ρ1, H1, m1, p1, hs1, i1⟩ => ?_) n ⟨ρ, H, m0, List.take_prefix _ _, hs.sub hm0, h0⟩)
  refine wp_imp ((turn k H1 m1 i1).go D ρ1 s1 hs1) fun b s2 ⟨ρ2, H2, p2, hs2, q2⟩ => ?_
  have p12 : ρ.take C.n0 <+: ρ2 := take_step hs.sz p1 (take_of_pre p2)
  cases b with
  | true =>
    simp only [if_true] at q2 ⊢
    refine wp_imp (q2.go D ρ2 s2 hs2) fun f s3 ⟨ρ3, H3, m3, lf, p3, hs3, r3, q3⟩ => ?_
    have p13 : ρ.take C.n0 <+: ρ3 := take_step hs.sz p12 p3
    cases r3 with
    | next => obtain ⟨j, mj, Hj, hj, sj, ij⟩ := q3; obtain ⟨ρ4, p4, _, hs4⟩ := sj.st hs3; exact ⟨j, hj, ρ4, Hj, mj, take_step hs.sz p13 p4, hs4, ij⟩
    | cont => obtain ⟨j, mj, Hj, hj, sj, ij⟩ := q3; obtain ⟨ρ4, p4, _, hs4⟩ := sj.st hs3; exact ⟨j, hj, ρ4, Hj, mj, take_step hs.sz p13 p4, hs4, ij⟩
    | brk => exact ⟨ρ3, H3, m3, _, p13, hs3, .next, q3⟩
    | ret r => exact ⟨ρ3, H3, m3, _, p13, hs3, .ret r, q3⟩
  | false =>
    simp only [Bool.false_eq_true, if_false] at q2 ⊢
    exact wpAny_execs_nil ⟨ρ2, H2, m1, _, p12, hs2, .next, q2⟩
end

/-! for -/

/-- no iterator whose tuple may be used again -/
noncomputable def plainIt (o : Obj) : Bool := match o.cls with
  | .type n => !["enumerate", "zip", "dict_itemiterator", "dict_reverseitemiterator", "odict_iterator", "itertools.zip_longest", "itertools.pairwise"].contains n
  | _ => true
theorem let_owned {prog : Program} {w : World} {A : Around} {E : Value → Shared → Prop} {s : Shared} {target : PySem.Expr} {I : Addr} {o : Obj} {v : Value} {P : Unit → Shared → Prop} (h : s.heap.get? I = some o) (hp : plainIt o = true) (hq : P () s) :
    wpAny (model prog w) A (letOwnedTupleGo target (.ref I) v) P E s := by
  have key : wpAny (model prog w) A (do
      let (.ref r, .ref a) := (Value.ref I, v) | return
      let o ← load r
      match o.cls, o.data with
      | .type n, .fields vs =>
        if ["enumerate", "zip", "dict_itemiterator", "dict_reverseitemiterator", "odict_iterator", "itertools.zip_longest", "itertools.pairwise"].contains n && vs[0]? == some (rawInt a) then
          rule "for.unpacks-the-owned-tuple"
          updateField r 0 .none
      | _, _ => pure ()) P E s := by
    cases v with
    | ref a =>
      refine wpAny_bind (wpAny_load h ?_)
      split
      · rename_i n vs hc hd
        unfold plainIt at hp
        rw [hc] at hp
        have hp : (["enumerate", "zip", "dict_itemiterator", "dict_reverseitemiterator", "odict_iterator", "itertools.zip_longest", "itertools.pairwise"].contains n) = false := by simpa using hp
        rw [hp, Bool.false_and]
        exact wpAny_pure hq
      · exact wpAny_pure hq
    | _ => exact wpAny_pure hq
  unfold letOwnedTupleGo
  split
  · exact key
  · exact key
  · exact wpAny_pure hq

/-- an iterator at I that hands out get 0, get 1, .. as long as J holds of the objects -/
structure Iter (C : Cx) (J : List LO → List Addr → Prop) (I : Addr) (get : Nat → Option LV) (io : Nat → Heap → Prop) : Prop where
  at_ : ∀ i h h', io i h → (∀ o, h.get? I = some o → h'.get? I = some o) → io i h'
  alive : ∀ i h, io i h → ∃ o, h.get? I = some o
  plain : ∀ i h, io i h → ∃ o, h.get? I = some o ∧ plainIt o = true
  self : ∀ i (s : Shared) (P : Value → Shared → Prop), io i s.heap → P (.ref I) s → wpAny C.M C.A (pyIter (.ref I)) P NoE s
  next : ∀ i D ρ H m s (P : Option Value → Shared → Prop), St C D ρ H m s → J H ρ → I ∉ ρ → io i s.heap →
    (get i = none → ∀ h' tk, KeepsBut I s.heap h' → P none { s with heap := h', toks := tk }) →
    (∀ lv v h' tk, get i = some lv → VR ρ lv v → io (i + 1) h' → KeepsBut I s.heap h' → P (some v) { s with heap := h', toks := tk }) → wpAny C.M C.A (pyNext (.ref I)) P NoE s

theorem St.but {C : Cx} {D : Dy} {ρ : List Addr} {H : List LO} {m : Loc} {s : Shared} (h : St C D ρ H m s) {I : Addr} {h' : Heap} {t : Nat} (k : KeepsBut I s.heap h') (h1 : I ∉ ρ) (h2 : I ∉ C.own) (h3 : C.K.B I = none) (h4 : I ∈ D.ρ0 ∨ D.s0.heap.get? I = none) :
    St C D ρ H m { s with heap := h', toks := t } := by
  have k' : ∀ b o, b ≠ I → s.heap.get? b = some o → h'.get? b = some o := k
  refine ⟨⟨fun a o e => k' a o (fun q => by rw [q, h3] at e; cases e) (h.hp.base a o e), h.hp.len, fun j a lo e e' => (h.hp.objs j a lo e e').at (pre_refl ρ) fun o => k' a o (fun q => h1 (q ▸ List.mem_of_getElem? e)), h.hp.nd, h.hp.own, h.hp.gens⟩,
    ?_, ?_, h.nd, h.nd2, fun a ha => ?_, h.off, ⟨fun b o e a1 a2 a3 => k' b o (fun q => by subst q; rcases h4 with h4 | h4; exact a1 h4; rw [h4] at e; cases e) (h.kp.keep b o e a1 a2 a3), h.kp.os⟩, h.new, h.sz⟩
  · obtain ⟨mm, ⟨o, es, ep, ho, r⟩, q⟩ := h.ns
    exact ⟨mm, ⟨o, es, ep, k' _ o (fun q => h2 (by rw [← q]; simp [Cx.own])) ho, r⟩, q⟩
  · intro x c hc
    obtain ⟨v, ⟨o, ho, hd⟩, q⟩ := h.cl x c hc
    have hm : c ∈ C.own := List.mem_cons_of_mem _ (List.mem_map.mpr ⟨(x, c), mem_of_lookup hc, rfl⟩)
    exact ⟨v, ⟨o, k' c o (fun q => h2 (q ▸ hm)) ho, hd⟩, q⟩
  · obtain ⟨o, ho⟩ := h.alive a ha
    exact ⟨o, k' a o (fun q => h2 (q ▸ ha)) ho⟩

noncomputable def TurnF (N : Nat) (next : List LO → Loc → Prop) (Q : LF → List LO → Loc → Prop) : LF → List LO → Loc → Prop
  | .next, H, m => ∃ m0 H0, Shed N H m H0 m0 ∧ next H0 m0
  | .cont, H, m => ∃ m0 H0, Shed N H m H0 m0 ∧ next H0 m0
  | .brk, H, m => Q .next H m
  | .ret v, H, m => Q (.ret v) H m

theorem for_loop {C : Cx} {D : Dy} {ρ : List Addr} {H : List LO} {m : Loc} {s : Shared} {Q : LF → List LO → Loc → Prop} {target : PySem.Expr} {body : List Stmt} {N cnt : Nat} {I : Addr} {get : Nat → Option LV} {io : Nat → Heap → Prop} {J : List LO → List Addr → Prop}
    (W : Iter C J I get io) (hN : C.n0 ≤ N) (G : Nat → List LO → Loc → Prop) (hcnt : ∀ i, get i = none ↔ cnt ≤ i)
    (hG : ∀ i H m, G i H m → N ≤ H.length) (hJ : ∀ i H m (ρ' : List Addr), G i H m → ρ.take N <+: ρ' → J H ρ')
    (hs : St C D ρ H m s) (hρ : N ≤ ρ.length) (h0 : G 0 H m) (hio : io 0 s.heap) (hI1 : I ∉ ρ) (hI2 : I ∉ C.own) (hI3 : C.K.B I = none) (hI4 : I ∈ D.ρ0 ∨ D.s0.heap.get? I = none) (hI5 : C.K.tab I = false)
    (turn : ∀ i lv H m, get i = some lv → G i H m → Asg { C with n0 := N } target lv H m fun H1 m1 => Ex { C with n0 := N } body H1 m1 (TurnF N (G (i + 1)) Q))
    (done : ∀ H m, G cnt H m → Q .next H m) (ht : ∀ v, letOwnedTupleGo target (.ref I) v = pure ()) :
    codeAny C.M C.A (.forLoop target (.ref I) body [] C.env) (fun r s' => match r with | .ok f => PostS C D ρ Q f s' | .error e => cameBackBy C.M C.A C.env NoE e s') s := by
  refine codeAny_forLoop (fun n s' => ∃ i ρ' H' m', i ≤ cnt ∧ n = cnt + 1 - i ∧ ρ.take N <+: ρ' ∧ St C D ρ' H' m' s' ∧ G i H' m' ∧ io i s'.heap ∧ I ∉ ρ') (fun n s1 ⟨i, ρ1, H1, m1, hi, hn, p1, hs1, g1, io1, i1⟩ => ?_) (cnt + 1)
    ⟨0, ρ, H, m, Nat.zero_le _, rfl, List.take_prefix _ _, hs, h0, hio, hI1⟩ ht
  have hN1 : N ≤ ρ1.length := by rw [hs1.hp.len]; exact hG i H1 m1 g1
  have hJ1 : J H1 ρ1 := hJ i H1 m1 ρ1 g1 p1
  have hC0 : ∀ ρ', ρ.take N <+: ρ' → ρ.take C.n0 <+: ρ' := fun ρ' p => by
    have : ρ.take C.n0 = (ρ.take N).take C.n0 := by rw [List.take_take, Nat.min_eq_left hN]
    rw [this]
    exact (List.take_prefix _ _).trans p
  refine wp_imp (W.next i D ρ1 H1 m1 s1 (fun r s₁ => match r with
      | none => PostS C D ρ Q .next s₁
      | some v => wpAny C.M C.A (assign target C.env v) (fun _ s₂ => wpAny C.M C.A (execs body C.env) (fun f s₃ => match f with
          | .next | .cont => ∃ k, k < n ∧ ∃ i ρ' H' m', i ≤ cnt ∧ k = cnt + 1 - i ∧ ρ.take N <+: ρ' ∧ St C D ρ' H' m' s₃ ∧ G i H' m' ∧ io i s₃.heap ∧ I ∉ ρ'
          | .brk => PostS C D ρ Q .next s₃
          | .ret v => PostS C D ρ Q (.ret v) s₃) NoE s₂) NoE s₁) hs1 hJ1 i1 io1 (fun e h' tk k => ?_) (fun lv v h' tk e r io2 k => ?_)) (fun r s₁ x => ?_)
  · have hic : i = cnt := Nat.le_antisymm hi ((hcnt i).mp e)
    subst hic
    exact ⟨ρ1, H1, m1, .next, hC0 _ p1, hs1.but k i1 hI2 hI3 hI4, .next, done H1 m1 g1⟩
  · have hlt : i < cnt := by
      rcases Nat.lt_or_ge i cnt with q | q
      · exact q
      · rw [(hcnt i).mpr q] at e; cases e
    have hs2 : St C D ρ1 H1 m1 { s1 with heap := h', toks := tk } := hs1.but k i1 hI2 hI3 hI4
    have hin := hs2.inner (N := N) (by rw [← hs1.hp.len]; exact hN1)
    refine wp_imp ((turn i lv H1 m1 e g1).go _ ρ1 _ v hin r) fun _ s3 ⟨ρ3, H3, m3, p3, hs3, q3⟩ => ?_
    refine wp_imp (q3.go _ ρ3 s3 hs3) fun f s4 ⟨ρ4, H4, m4, lf, p4, hs4, r4, q4⟩ => ?_
    have hs4' : St C D ρ4 H4 m4 s4 := hs2.outer hN hs4
    have p14 : ρ1.take N <+: ρ4 := by
      have : ρ1.take N <+: ρ3 := take_of_pre p3
      exact take_step hN1 this p4
    have pN : ρ.take N <+: ρ4 := take_step hρ p1 p14
    have hI4' : I ∉ ρ4 := fun hm => by
      rcases hs4.new I hm with q | q
      · exact i1 q
      · obtain ⟨o, ho⟩ := W.alive _ _ io2
        have q' : h'.get? I = none := q
        rw [q'] at ho; cases ho
    have io4 : io (i + 1) s4.heap := W.at_ _ _ _ io2 fun o ho => hs4.kp.keep I o ho i1 (fun w => hI2 (Cx.wr_own (C := C) w)) hI5
    cases r4 with
    | next =>
      obtain ⟨m5, H5, sb, q5⟩ := q4
      obtain ⟨ρ5, p5, n5, hs5⟩ := Shed.st (C := { C with n0 := N }) sb hs4
      exact ⟨cnt + 1 - (i + 1), by omega, i + 1, ρ5, H5, m5, hlt, rfl, take_step hρ pN p5, hs2.outer hN hs5, q5, io4, fun hm => hI4' (n5 _ hm)⟩
    | cont =>
      obtain ⟨m5, H5, sb, q5⟩ := q4
      obtain ⟨ρ5, p5, n5, hs5⟩ := Shed.st (C := { C with n0 := N }) sb hs4
      exact ⟨cnt + 1 - (i + 1), by omega, i + 1, ρ5, H5, m5, hlt, rfl, take_step hρ pN p5, hs2.outer hN hs5, q5, io4, fun hm => hI4' (n5 _ hm)⟩
    | brk => exact ⟨ρ4, H4, m4, .next, hC0 _ pN, hs4', .next, q4⟩
    | ret r => exact ⟨ρ4, H4, m4, _, hC0 _ pN, hs4', .ret r, q4⟩
  · cases r with
    | none => exact wpAny_execs_nil x
    | some v => exact wp_imp x fun _ _ y => wp_imp y fun f _ z => by cases f <;> exact z

/-! text PL4 -/
inductive BR (ρ : List Addr) : Loc → List (Str × Value) → Prop
  | nil : BR ρ [] []
  | cons (x : Str) {lv : LV} {v : Value} {l : Loc} {b : List (Str × Value)} : VR ρ lv v → BR ρ l b → BR ρ ((x, lv) :: l) ((x, v) :: b)

theorem BR.keys {ρ : List Addr} {l : Loc} {b : List (Str × Value)} (h : BR ρ l b) : b.map (·.1) = l.map (·.1) := by
  induction h with
  | nil => rfl
  | cons x _ _ ih => simp [ih]
theorem lookup_none_of {b : List (Str × Value)} {x : Str} (h : x ∉ b.map (·.1)) : b.lookup x = none := by
  rw [List.lookup_eq_none_iff]
  intro p hp
  simp only [bne_iff_ne, ne_eq]
  exact fun e => h (List.mem_map.mpr ⟨p, hp, e.symm⟩)
theorem BR.get {ρ : List Addr} {l : Loc} {b : List (Str × Value)} (h : BR ρ l b) : (l.map (·.1)).Nodup → ∀ {x : Str} {lv : LV}, lget l x = some lv → ∃ v, b.reverse.lookup x = some v ∧ VR ρ lv v := by
  induction h with
  | nil => intro _ x lv e; cases e
  | cons y r t ih =>
    rename_i lv0 v0 l b
    intro hn x lv e
    rw [List.map_cons, List.nodup_cons] at hn
    rw [List.reverse_cons, List.lookup_append]
    unfold lget at e
    by_cases hxy : y = x
    · subst hxy
      rw [if_pos rfl] at e
      cases e
      have : b.reverse.lookup y = none := lookup_none_of (by rw [List.map_reverse, List.mem_reverse, t.keys]; exact hn.1)
      rw [this]
      exact ⟨v0, by simp, r⟩
    · rw [if_neg hxy] at e
      obtain ⟨v, e1, r1⟩ := ih hn.2 e
      exact ⟨v, by rw [e1]; rfl, r1⟩

structure Fn (K : Kit) (a : Addr) (fd : FuncData) (body : List Stmt) : Prop where
  obj : ∃ o, K.B a = some o ∧ o.data = .func fd
  body : fd.body = .stmts body
  code : ∀ h : Heap, K.Base h → h.CodeRec fd.code fd.qualname
  clo : fd.closure = []
  co : fd.scope.isCoroutine = false
  gen : fd.scope.isGenerator = false
  kind : fd.scope.kind = .function

noncomputable def Fits (K : Kit) (fd : FuncData) (nk : List Str) (las lks : List LV) (lb : Loc) : Prop :=
  ∀ s ρ vas vks, K.Base s.heap → VRs ρ las vas → VRs ρ lks vks → ∃ b, BindsTo s fd ⟨vas, nk.zip vks⟩ b ∧ BR ρ lb b

noncomputable def fval (f : Flow) : Value := match f with | .ret v => v | _ => .none
theorem flow_val {ρ : List Addr} {lf : LF} {f : Flow} (h : FR ρ lf f) : VR ρ lf.val (fval f) := by
  cases h with
  | ret h => exact h
  | _ => exact .none

theorem FnSpec.intro {K : Kit} {a : Addr} {fd : FuncData} {body : List Stmt} {k : Nat} {nk : List Str} {pre : Pre} (F : Fn K a fd body) (hcell : ∀ x ∈ fd.scope.names, x.2 ≠ .cell)
    (h : ∀ las lks H Q, pre las lks H Q → ∃ lb : Loc, (lb.map (·.1)).Nodup ∧ (∀ x ∈ lb, fd.scope.names.lookup x.1 = some .local) ∧ Fits K fd nk las lks lb ∧
      ∀ A L, Rm k A → Ex ⟨K, A, callEnv fd L a, H.length⟩ body H lb fun lf H' _ => Ret H Q lf H') : FnSpec K (.ref a) (k + 1) nk pre := by
  refine .mk fun A ρ H s las vas lks vks Q r hp ra rk hl p => ?_
  obtain ⟨lb, hnd, hloc, hfit, hb⟩ := h las lks H Q p
  obtain ⟨o, hB, hd⟩ := F.obj
  obtain ⟨b, hbind, hbr⟩ := hfit s ρ vas vks hp.base ra rk
  have hlim := (K.hg s.heap hp.base).2.2
  have hf := fresh_size s.heap
  refine codeAny_call_def r.depth (hp.base a o hB) hd hlim (F.code _ hp.base) F.body hbind hcell (fun x hx => ?_) (fun h₀ hns hkeep => ?_) F.co F.gen F.kind
  · have : x.1 ∈ lb.map (·.1) := hbr.keys ▸ List.mem_map.mpr ⟨x, hx, rfl⟩
    obtain ⟨y, hy, e⟩ := List.mem_map.mp this
    exact e ▸ hloc y hy
  · have hcl : (callEnv fd s.heap.objs.size a).cells = [] := F.clo
    have hown : Cx.own ⟨K, A.deeper (callEnv fd s.heap.objs.size a), callEnv fd s.heap.objs.size a, H.length⟩ = [s.heap.objs.size] := by
      show _ :: List.map _ (callEnv fd s.heap.objs.size a).cells = _
      rw [hcl]; rfl
    have hst : St ⟨K, A.deeper (callEnv fd s.heap.objs.size a), callEnv fd s.heap.objs.size a, H.length⟩ ⟨s, ρ⟩ ρ H lb { s with heap := h₀, toks := s.toks + b.length } := by
      refine ⟨⟨fun a o e => hkeep a o (hp.base a o e), hp.len, fun j a lo e e' => (hp.objs j a lo e e').at (pre_refl ρ) fun o => hkeep a o, hp.nd, hp.own, hp.gens⟩, ⟨_, hns, fun x lv e _ => hbr.get hnd e⟩, fun x c e => ?_, ?_, ?_, ?_, ?_,
        ⟨fun b o e _ _ _ => hkeep b o e, rfl⟩, fun a ha => .inl ha, ?_⟩
      · exfalso
        have e : (callEnv fd s.heap.objs.size a).cells.lookup x = some c := e
        rw [hcl] at e; cases e
      · show _ ∉ List.map _ (callEnv fd s.heap.objs.size a).cells
        rw [hcl]; simp
      · intro _
        show (List.map _ (callEnv fd s.heap.objs.size a).cells).Nodup
        rw [hcl]; simp
      · rw [hown]
        intro a ha
        simp only [List.mem_singleton] at ha
        subst ha
        obtain ⟨o, _, _, ho, _⟩ := hns
        exact ⟨o, ho⟩
      · rw [hown]
        intro a ha
        simp only [List.mem_singleton] at ha
        subst ha
        exact hp.fresh
      · show H.length ≤ ρ.length
        rw [hp.len]; exact Nat.le_refl _
    refine wp_imp ((hb _ _ (r.deeper _)).go ⟨s, ρ⟩ ρ _ hst) fun f s1 ⟨ρ1, H1, m1, lf, p1, hs1, r1, q1⟩ => ?_
    have e0 : H.length = ρ.length := hp.len.symm
    have hp1 : ρ <+: ρ1 := by
      have p1 : ρ.take H.length <+: ρ1 := p1
      rw [e0, List.take_length] at p1; exact p1
    rw [e0] at hs1 hown
    exact Ret.post (v := fval f) hs1 (fun a ha => by have ha := Cx.wr_own ha; rw [hown] at ha; simp only [List.mem_singleton] at ha; subst ha; exact hf) hp1 (flow_val r1) hp q1

/-! with cells -/
theorem bindL_get {kindOf : Str → Option NameKind} {ρ : List Addr} {l : Loc} {b : List (Str × Value)} (h : BR ρ l b) : ∀ (m : Str → Option Value), (l.map (·.1)).Nodup → ∀ {x : Str} {lv : LV}, lget l x = some lv → kindOf x = some .local → ∃ v, bindL kindOf b m x = some v ∧ VR ρ lv v := by
  induction h with
  | nil => intro m _ x lv e; cases e
  | cons y r t ih =>
    rename_i lv0 v0 l b
    intro m hn x lv e hk
    rw [List.map_cons, List.nodup_cons] at hn
    unfold lget at e
    unfold bindL
    by_cases hxy : y = x
    · subst hxy
      rw [if_pos rfl] at e
      cases e
      rw [if_pos hk]
      refine ⟨v0, ?_, r⟩
      have hy : y ∉ b.map (·.1) := by rw [t.keys]; exact hn.1
      clear ih hn t
      have : ∀ (b : List (Str × Value)) (m : Str → Option Value), y ∉ b.map (·.1) → bindL kindOf b m y = m y := by
        intro b
        induction b with
        | nil => intro m _; rfl
        | cons p b ih =>
          intro m hm
          obtain ⟨n, w⟩ := p
          simp only [List.map_cons, List.mem_cons, not_or] at hm
          unfold bindL
          rw [ih _ hm.2]
          split
          · exact if_neg hm.1
          · rfl
      rw [this b _ hy]
      exact if_pos rfl
    · rw [if_neg hxy] at e
      exact ih _ hn.2 e hk
theorem bindC_get {kindOf : Str → Option NameKind} {ρ : List Addr} {l : Loc} {b : List (Str × Value)} (h : BR ρ l b) : ∀ (m : Str → Option Value), (l.map (·.1)).Nodup → ∀ {x : Str} {lv : LV}, lget l x = some lv → kindOf x ≠ some .local → ∃ v, bindC kindOf b m x = some v ∧ VR ρ lv v := by
  induction h with
  | nil => intro m _ x lv e; cases e
  | cons y r t ih =>
    rename_i lv0 v0 l b
    intro m hn x lv e hk
    rw [List.map_cons, List.nodup_cons] at hn
    unfold lget at e
    unfold bindC
    by_cases hxy : y = x
    · subst hxy
      rw [if_pos rfl] at e
      cases e
      rw [if_neg hk]
      refine ⟨v0, ?_, r⟩
      have hy : y ∉ b.map (·.1) := by rw [t.keys]; exact hn.1
      have : ∀ (b : List (Str × Value)) (m : Str → Option Value), y ∉ b.map (·.1) → bindC kindOf b m y = m y := by
        intro b
        induction b with
        | nil => intro m _; rfl
        | cons p b ih =>
          intro m hm
          obtain ⟨n, w⟩ := p
          simp only [List.map_cons, List.mem_cons, not_or] at hm
          unfold bindC
          rw [ih _ hm.2]
          split
          · rfl
          · exact if_neg hm.1
      rw [this b _ hy]
      exact if_pos rfl
    · rw [if_neg hxy] at e
      exact ih _ hn.2 e hk

/-- a lookup's address in cells is in the range -/
theorem inCallC_nodup {s₀ s : Shared} {L : Addr} {m cm : Str → Option Value} {cs : List (Str × Addr)} (x : InCallC s₀ L m cs cm s) : (L :: cs.map (·.2)).Nodup := by
  rw [List.nodup_cons]
  constructor
  · intro hm
    obtain ⟨p, hp, e⟩ := List.mem_map.mp hm
    have := x.above p.1 p.2 hp
    rw [e] at this
    exact Nat.lt_irrefl _ this
  · rw [List.nodup_iff_pairwise_ne, List.pairwise_map]
    exact x.apart

theorem lookup_of_mem {cs : List (Str × Addr)} (hn : (cs.map (·.1)).Nodup) {n : Str} {c : Addr} (h : (n, c) ∈ cs) : cs.lookup n = some c := by
  induction cs with
  | nil => cases h
  | cons p cs ih =>
    obtain ⟨y, d⟩ := p
    rw [List.map_cons, List.nodup_cons] at hn
    rcases List.mem_cons.mp h with h | h
    · cases h; simp
    · have : n ≠ y := fun e => hn.1 (List.mem_map.mpr ⟨(n, c), h, e⟩)
      rw [List.lookup_cons]
      have : (n == y) = false := by simpa using this
      rw [this]
      exact ih hn.2 h

theorem FnSpec.introC {K : Kit} {a : Addr} {fd : FuncData} {body : List Stmt} {k : Nat} {pre : Pre} (F : Fn K a fd body)
    (hkeys : ∀ L : Addr, ((cellsFrom (L + 1) fd.scope.names []).map (·.1)).Nodup)
    (hcnl : ∀ L : Addr, ∀ x c, (cellsFrom (L + 1) fd.scope.names []).lookup x = some c → fd.scope.names.lookup x ≠ some .local)
    (h : ∀ las H Q, pre las [] H Q → ∃ lb : Loc, (lb.map (·.1)).Nodup ∧ (∀ (L : Addr), ∀ x ∈ lb, fd.scope.names.lookup x.1 = some .local ∨ (fd.scope.names.lookup x.1 = some .cell ∧ ((cellsFrom (L + 1) fd.scope.names []).lookup x.1).isSome = true)) ∧
      (∀ ρ vas, VRs ρ las vas → ∃ b, bindArgs fd ⟨vas, []⟩ = pure b ∧ BR ρ lb b) ∧
      ∀ A L, Rm k A → Ex ⟨K, A, callEnvC fd L a, H.length⟩ body H lb fun lf H' _ => Ret H Q lf H') : FnSpec K (.ref a) (k + 1) [] pre := by
  refine .mk fun A ρ H s las vas lks vks Q r hp ra rk hl p => ?_
  obtain rfl : lks = [] := List.eq_nil_of_length_eq_zero hl
  obtain ⟨lb, hnd, hloc, hfit, hb⟩ := h las H Q p
  obtain ⟨o, hB, hd⟩ := F.obj
  obtain ⟨b, hbind, hbr⟩ := hfit ρ vas ra
  have hlim := (K.hg s.heap hp.base).2.2
  have hf := fresh_size s.heap
  refine codeAny_call_cells r.depth (hp.base a o hB) hd hlim (F.code _ hp.base) F.body hbind F.clo (fun x hx => ?_) (fun s₁ x => ?_) F.co F.gen F.kind
  · have : x.1 ∈ lb.map (·.1) := hbr.keys ▸ List.mem_map.mpr ⟨x, hx, rfl⟩
    obtain ⟨y, hy, e⟩ := List.mem_map.mp this
    exact e ▸ hloc _ y hy
  · obtain ⟨⟨h', tk, rfl⟩, hns, hkeep, hfr⟩ := x.toInCall
    have hlo : ∀ c ∈ (callEnvC fd s.heap.objs.size a).cells.map (·.2), s.heap.objs.size < c := by
      intro c hc
      obtain ⟨q, hq, e⟩ := List.mem_map.mp hc
      exact e ▸ x.above q.1 q.2 hq
    have hown : ∀ c ∈ Cx.own ⟨K, A.deeper (callEnvC fd s.heap.objs.size a), callEnvC fd s.heap.objs.size a, H.length⟩, s.heap.get? c = none := by
      intro c hc
      have : s.heap.objs.size ≤ c := by
        rcases List.mem_cons.mp hc with e | hc
        · exact Nat.le_of_eq e.symm
        · exact Nat.le_of_lt (hlo c hc)
      cases e : s.heap.get? c with
      | none => rfl
      | some o => exact absurd (Heap.lt_size e) (Nat.not_lt.mpr this)
    have hst : St ⟨K, A.deeper (callEnvC fd s.heap.objs.size a), callEnvC fd s.heap.objs.size a, H.length⟩ ⟨s, ρ⟩ ρ H lb { s with heap := h', toks := tk } := by
      refine ⟨⟨fun a o e => hkeep a o (hp.base a o e), hp.len, fun j a lo e e' => (hp.objs j a lo e e').at (pre_refl ρ) fun o => hkeep a o, hp.nd, hp.own, hp.gens⟩, ⟨_, hns, fun y lv e hk => bindL_get hbr _ hnd e hk⟩, fun y c e => ?_, (List.nodup_cons.mp (inCallC_nodup x)).1, fun _ => (List.nodup_cons.mp (inCallC_nodup x)).2, ?_, ?_,
        ⟨fun b o e _ _ _ => hkeep b o e, rfl⟩, fun a ha => .inl ha, ?_⟩
      · refine ⟨_, x.cell y c e, fun lv e' => ?_⟩
        exact bindC_get hbr _ hnd e' (hcnl _ y c e)
      · intro c hc
        rcases List.mem_cons.mp hc with e | hc
        · obtain ⟨o, _, _, ho, _⟩ := hns
          exact ⟨o, e ▸ ho⟩
        · obtain ⟨q, hq, e⟩ := List.mem_map.mp hc
          obtain ⟨o, ho, _⟩ := x.cell q.1 q.2 (lookup_of_mem (hkeys _) hq)
          exact ⟨o, e ▸ ho⟩
      · intro c hc
        have hn := hown c hc
        refine ⟨fun hm => ?_, ?_, ?_⟩
        · obtain ⟨o, ho⟩ := hp.alive hm
          rw [hn] at ho; cases ho
        · cases e : K.B c with
          | none => rfl
          | some o => rw [hp.base c o e] at hn; cases hn
        · cases e : K.tab c with
          | false => rfl
          | true =>
            have h1 := K.htab _ e
            cases e2 : K.B K.top with
            | none => exact absurd e2 K.htop
            | some o2 =>
              have h2 := Heap.lt_size (hp.base _ _ e2)
              have h3 : s.heap.objs.size ≤ c := by
                rcases List.mem_cons.mp hc with e | hc
                · exact Nat.le_of_eq e.symm
                · exact Nat.le_of_lt (hlo c hc)
              exact absurd (Nat.lt_of_le_of_lt h1 (Nat.lt_of_lt_of_le h2 h3)) (Nat.lt_irrefl _)
      · show H.length ≤ ρ.length
        rw [hp.len]; exact Nat.le_refl _
    refine wp_imp ((hb _ _ (r.deeper _)).go ⟨s, ρ⟩ ρ _ hst) fun f s1 ⟨ρ1, H1, m1, lf, p1, hs1, r1, q1⟩ => ?_
    have e0 : H.length = ρ.length := hp.len.symm
    have hp1 : ρ <+: ρ1 := by
      have p1 : ρ.take H.length <+: ρ1 := p1
      rw [e0, List.take_length] at p1; exact p1
    rw [e0] at hs1 hown
    exact Ret.post (v := fval f) hs1 (fun a ha => hown a (Cx.wr_own ha)) hp1 (flow_val r1) hp q1

/-! text PL5 -/
/-- a text by its signs -/
noncomputable def S (l : List Nat) : Str := ⟨l.toArray⟩
theorem S_len (l : List Nat) : (S l).length = l.length := rfl
theorem S_inj {a b : List Nat} (h : S a = S b) : a = b := by have := congrArg (fun x => x.cps.toList) h; exact this
theorem S_of (x : Str) : x = S x.cps.toList := by cases x; rfl
theorem S_append (a b : List Nat) : S a ++ S b = S (a ++ b) := by
  show Str.mk _ = Str.mk _
  congr 1
  show a.toArray ++ b.toArray = _
  simp

noncomputable abbrev cl (n : Nat) (i : Int) : Nat := clipAt n i
noncomputable def slc {α : Type} (xs : List α) (lo hi : Option Int) : List α := (xs.drop (lo.elim 0 (cl xs.length))).take (hi.elim xs.length (cl xs.length) - lo.elim 0 (cl xs.length))

/-! a slice's subscript, whatever stands ahead of it -/
section
variable {prog : Program} {w : World} {A : Around} {E : Value → Shared → Prop} {s : Shared} {env : Env} {value : PySem.Expr} {lower upper : Option PySem.Expr} {p pos : Pos}
theorem sub_slice {T id : String} {Q : Value → Shared → Prop} (hl : typeLookup (.type T) "__getitem__" = pure (some (.builtin id)))
    (h : wpAny (model prog w) A (eval value env) (fun o s₁ => wpAny (model prog w) A (eval (.Slice lower upper none p) env) (fun i s₂ => s₂.TypeIs o T ∧ wpAny (model prog w) A (getItem o i) Q E s₂) E s₁) E s) :
    wpAny (model prog w) A (eval (.Subscript value (.Slice lower upper none p) pos) env) Q E s :=
  Subscript_ (wpAny_mono h (fun o s₁ h₁ => wpAny_mono h₁ (fun i s₂ h₂ => tail_any (ops := [i, o]) h₂.1 hl h₂.2 rfl) fun _ _ x => x) fun _ _ x => x)
theorem sub_slice_list {Q : Value → Shared → Prop}
    (h : wpAny (model prog w) A (eval value env) (fun o s₁ => wpAny (model prog w) A (evalPart lower env) (fun vl s₂ => wpAny (model prog w) A (evalPart upper env) (fun vu s₃ =>
      ∃ l items lo hi, o = .ref l ∧ s₃.heap.IsList l items ∧ items.size ≤ sizeLine ∧ IsPart vl lo ∧ IsPart vu hi ∧
        Q (.ref (s₃.heap.objs.size + 1)) { s₃ with heap := (s₃.heap.push { cls := .type "slice", data := .fields #[vl, vu, .none] }).push { cls := .type "list", data := .seq (slicePick items lo hi none) } }) E s₂) E s₁) E s) :
    wpAny (model prog w) A (eval (.Subscript value (.Slice lower upper none p) pos) env) Q E s := by
  refine sub_slice (T := "list") list_getitem_lookup (wpAny_mono h (fun o s₁ h₁ => wpAny_Slice (wpAny_mono h₁ (fun vl s₂ h₂ => wpAny_mono h₂ (fun vu s₃ h₃ => ?_) fun _ _ e => e) fun _ _ e => e)) fun _ _ e => e)
  obtain ⟨l, items, lo, hi, rfl, hl, hsz, pl, pu, hQ⟩ := h₃
  rw [evalPart_none]
  refine wpAny_pure ⟨(hl.push _).typeIs, wpAny_getItem_list_slice (hl.push _) (Heap.IsSliceOf.new ..) pl pu .none (by simp) ?_ hsz⟩
  rw [Heap.size_push]
  exact hQ
theorem sub_slice_str {Q : Value → Shared → Prop}
    (h : wpAny (model prog w) A (eval value env) (fun o s₁ => wpAny (model prog w) A (evalPart lower env) (fun vl s₂ => wpAny (model prog w) A (evalPart upper env) (fun vu s₃ =>
      ∃ x t l u, o = .str x t ∧ vl = partValue l ∧ vu = partValue u ∧
        (sliceMade x t l u none).post Q { s₃ with heap := s₃.heap.push { cls := .type "slice", data := .fields #[vl, vu, .none] } }) E s₂) E s₁) E s) :
    wpAny (model prog w) A (eval (.Subscript value (.Slice lower upper none p) pos) env) Q E s := by
  refine sub_slice (T := "str") F.slot_str_getitem.lookup (wpAny_mono h (fun o s₁ h₁ => wpAny_Slice (wpAny_mono h₁ (fun vl s₂ h₂ => wpAny_mono h₂ (fun vu s₃ h₃ => ?_) fun _ _ e => e) fun _ _ e => e)) fun _ _ e => e)
  obtain ⟨x, t, l, u, rfl, rfl, rfl, hQ⟩ := h₃
  rw [evalPart_none]
  exact wpAny_pure ⟨typeIs_str _ x t, wpAny_getItem_str_slice (l := l) (u := u) (st := none) ⟨_, Heap.get?_push_size _ rfl, rfl, rfl⟩ rfl hQ⟩
end

section
variable {C : Cx} {H : List LO} {m : Loc} {Q : LV → List LO → Prop}

theorem bin_add {a b : Int} (h : Q (.int (a + b)) H) : Bin C .Add (.int a) (.int b) H m Q := by
  refine .mk fun D ρ s va vb hs ra rb => ?_; cases ra; cases rb; exact wpAny_add_int ⟨ρ, H, _, pre_refl ρ, hs.toks _, .int _ _, h⟩
theorem bin_mod {a b : Int} (hb : b ≠ 0) (h : Q (.int (a.fmod b)) H) : Bin C .Mod (.int a) (.int b) H m Q := by
  refine .mk fun D ρ s va vb hs ra rb => ?_; cases ra; cases rb; exact mod_int' hb ⟨ρ, H, _, pre_refl ρ, hs.toks _, .int _ _, h⟩
theorem bin_floordiv {a b : Int} (hb : b ≠ 0) (hs' : b.natAbs < 1073741824) (h : Q (.int (a.fdiv b)) H) : Bin C .FloorDiv (.int a) (.int b) H m Q := by
  refine .mk fun D ρ s va vb hs ra rb => ?_; cases ra; cases rb; exact PyProof.Rows.floordiv_int hb ⟨ρ, H, _, pre_refl ρ, hs.toks _, .int _ _, h⟩ (Or.inl (PyProof.noPylong_small hs'))
theorem bin_pow {a n : Int} (hn : 0 ≤ n) (hn2 : n ≤ 1000000) (ha : a.natAbs < 2 ^ 64) (h : Q (.int (a ^ n.toNat)) H) : Bin C .Pow (.int a) (.int n) H m Q := by
  refine .mk fun D ρ s va vb hs ra rb => ?_; cases ra; cases rb; exact PyProof.Rows.pow_int_small hn hn2 ha ⟨ρ, H, _, pre_refl ρ, hs.toks _, .int _ _, h⟩
theorem cmp_lt {a b : Int} (h : Q (.bool (decide (a < b))) H) : Cmp C .Lt (.int a) (.int b) H m Q := by
  refine .mk fun D ρ s va vb hs ra rb => ?_; cases ra; cases rb; exact PyProof.Rows.lt_int ⟨ρ, H, _, pre_refl ρ, hs, .bool _, h⟩
theorem cmp_gt {a b : Int} (h : Q (.bool (decide (b < a))) H) : Cmp C .Gt (.int a) (.int b) H m Q := by
  refine .mk fun D ρ s va vb hs ra rb => ?_; cases ra; cases rb; exact PyProof.Rows.gt_int ⟨ρ, H, _, pre_refl ρ, hs, .bool _, h⟩
theorem cmp_eq {a b : Int} (h : Q (.bool (a == b)) H) : Cmp C .Eq (.int a) (.int b) H m Q := by
  refine .mk fun D ρ s va vb hs ra rb => ?_; cases ra; cases rb; exact PyProof.Rows.eq_int ⟨ρ, H, _, pre_refl ρ, hs, .bool _, h⟩
theorem cmp_lt_str {a b : List Nat} (h : Q (.bool (decide (a < b))) H) : Cmp C .Lt (.str (S a)) (.str (S b)) H m Q := by
  refine .mk fun D ρ s va vb hs ra rb => ?_; cases ra; cases rb; exact P.lt_str ⟨ρ, H, _, pre_refl ρ, hs, .bool _, h⟩
theorem cmp_eq_str {a b : List Nat} (h : Q (.bool (a == b)) H) : Cmp C .Eq (.str (S a)) (.str (S b)) H m Q := by
  refine .mk fun D ρ s va vb hs ra rb => ?_; cases ra; cases rb; exact P.eq_str ⟨ρ, H, _, pre_refl ρ, hs, .bool _, h⟩
theorem cmp_ne_str {a b : List Nat} (h : Q (.bool (a != b)) H) : Cmp C .NotEq (.str (S a)) (.str (S b)) H m Q := by
  refine .mk fun D ρ s va vb hs ra rb => ?_; cases ra; cases rb; exact P.ne_str ⟨ρ, H, _, pre_refl ρ, hs, .bool _, h⟩

noncomputable def isNone : LV → Bool
  | .none => true
  | _ => false
theorem VR.isNone {ρ : List Addr} {lv : LV} {v : Value} (h : VR ρ lv v) (hc : ∀ v, lv ≠ .const v) : (v == Value.none) = Mine.isNone lv := by
  cases h with
  | none => rfl
  | const v => exact absurd rfl (hc v)
  | _ => rfl
theorem cmp_is_none {a : LV} (hc : ∀ v, a ≠ .const v) (h : Q (.bool (isNone a)) H) : Cmp C .Is a .none H m Q := by
  refine .mk fun D ρ s va vb hs ra rb => ?_
  cases rb
  exact is_none ⟨ρ, H, _, pre_refl ρ, hs, .bool _, by rw [ra.isNone hc]; exact h⟩
theorem cmp_isnot_none {a : LV} (hc : ∀ v, a ≠ .const v) (h : Q (.bool (!isNone a)) H) : Cmp C .IsNot a .none H m Q := by
  refine .mk fun D ρ s va vb hs ra rb => ?_
  cases rb
  exact isNot_none ⟨ρ, H, _, pre_refl ρ, hs, .bool _, by rw [ra.isNone hc]; exact h⟩

/-! truth -/
/-! texts -/
theorem bin_add_str {a b : List Nat} (hl : (a ++ b).length ≤ sizeLine) (h : Q (.str (S (a ++ b))) H) : Bin C .Add (.str (S a)) (.str (S b)) H m Q := by
  refine .mk fun D ρ s va vb hs ra rb => ?_
  cases ra; cases rb
  refine P.add_str ?_
  split
  · rename_i e
    have : a = [] := by simpa [S_len] using e
    subst this
    exact ⟨ρ, H, _, pre_refl ρ, hs, .str _ _, h⟩
  · split
    · rename_i e
      have : b = [] := by simpa [S_len] using e
      subst this
      rw [List.append_nil] at h
      exact ⟨ρ, H, _, pre_refl ρ, hs, .str _ _, h⟩
    · rw [S_append]
      exact ⟨hl, ρ, H, _, pre_refl ρ, hs.toks _, .str _ _, h⟩
noncomputable abbrev Inp (C : Cx) (op : Operator) := Two C (inplaceOp op)
theorem inp_add {a b : Int} (h : Q (.int (a + b)) H) : Inp C .Add (.int a) (.int b) H m Q := by
  refine .mk fun D ρ s va vb hs ra rb => ?_; cases ra; cases rb; exact P.iadd_int ⟨ρ, H, _, pre_refl ρ, hs.toks _, .int _ _, h⟩
theorem inp_add_str {a b : List Nat} (hl : (a ++ b).length ≤ sizeLine) (h : Q (.str (S (a ++ b))) H) : Inp C .Add (.str (S a)) (.str (S b)) H m Q := by
  refine .mk fun D ρ s va vb hs ra rb => ?_
  cases ra; cases rb
  refine P.iadd_str ?_
  split
  · rename_i e
    have : a = [] := by simpa [S_len] using e
    subst this
    exact ⟨ρ, H, _, pre_refl ρ, hs, .str _ _, h⟩
  · split
    · rename_i e
      have : b = [] := by simpa [S_len] using e
      subst this
      rw [List.append_nil] at h
      exact ⟨ρ, H, _, pre_refl ρ, hs, .str _ _, h⟩
    · rw [S_append]
      exact ⟨hl, ρ, H, _, pre_refl ρ, hs.toks _, .str _ _, h⟩

/-! slices -/
theorem strSlice_eq (xs : List Nat) (lo hi : Option Int) : (Builtin.Str.strSliceIndices lo hi 1 xs.length).filterMap (xs.toArray[·]?) = slc xs lo hi := by
  have : Builtin.Str.strSliceIndices lo hi 1 xs.length = sliceRange ((lo.elim 0 (cl xs.length) : Nat) : Int) ((hi.elim xs.length (cl xs.length) : Nat) : Int) 1 := by
    unfold Builtin.Str.strSliceIndices
    congr 1 <;> cases lo <;> cases hi <;> simp [clipAt_cast]
  rw [this, sliceRange_one, pick_run]
  rfl
theorem slc_len {α : Type} (xs : List α) (l u : Option Int) : (slc xs l u).length ≤ xs.length := by
  unfold slc
  rw [List.length_take, List.length_drop]
  (first | lia | omega)
theorem sliceMade_post {xs : List Nat} (hz : xs.length ≤ sizeLine) {t : Tok} {l u : Option (Int × Tok)} {P : Value → Shared → Prop} {s : Shared} (h : ∀ t k, P (.str (S (slc xs (l.map (·.1)) (u.map (·.1)))) t) { s with toks := k }) : (sliceMade (S xs) t l u none).post P s := by
  have e := strSlice_eq xs (l.map (·.1)) (u.map (·.1))
  have e1 : (slicePicked (S xs) l u none).filterMap ((S xs).cps[·]?) = slc xs (l.map (·.1)) (u.map (·.1)) := e
  unfold sliceMade
  split
  · rename_i hc
    rw [Bool.and_eq_true] at hc
    have hl : (slicePicked (S xs) l u none).length = xs.length := by simpa [S_len] using hc.2
    have he : slc xs (l.map (·.1)) (u.map (·.1)) = xs := by
      have hlen : (slc xs (l.map (·.1)) (u.map (·.1))).length = xs.length := by
        have hp : slicePicked (S xs) l u none = (List.range ((u.map (·.1)).elim xs.length (cl xs.length) - (l.map (·.1)).elim 0 (cl xs.length))).map ((l.map (·.1)).elim 0 (cl xs.length) + ·) := by
          unfold slicePicked
          show Builtin.Str.strSliceIndices (l.map (·.1)) (u.map (·.1)) 1 xs.length = _
          have : Builtin.Str.strSliceIndices (l.map (·.1)) (u.map (·.1)) 1 xs.length = sliceRange (((l.map (·.1)).elim 0 (cl xs.length) : Nat) : Int) (((u.map (·.1)).elim xs.length (cl xs.length) : Nat) : Int) 1 := by
            unfold Builtin.Str.strSliceIndices
            congr 1 <;> cases l <;> cases u <;> simp [clipAt_cast]
          rw [this, sliceRange_one]
        rw [hp, List.length_map, List.length_range] at hl
        have hu : (u.map (·.1)).elim xs.length (cl xs.length) ≤ xs.length := by
          cases u with
          | none => exact Nat.le_refl _
          | some p =>
            show clipAt xs.length p.1 ≤ xs.length
            have := clipAt_cast xs.length p.1
            (first | lia | omega)
        have h0 : (l.map (·.1)).elim 0 (cl xs.length) = 0 ∨ xs.length = 0 := by (first | lia | omega)
        unfold slc
        rw [List.length_take, List.length_drop]
        (first | lia | omega)
      have hsub : (slc xs (l.map (·.1)) (u.map (·.1))).Sublist xs := (List.take_sublist _ _).trans (List.drop_sublist _ _)
      exact hsub.eq_of_length hlen
    have := h t s.toks
    rw [he] at this
    exact this
  · have := h s.toks (s.toks + 1)
    rw [← e1] at this
    refine ⟨?_, this⟩
    show (List.toArray _).size ≤ _
    rw [List.size_toArray, e1]
    exact Nat.le_trans (slc_len _ _ _) hz

/-- a slice's bound -/
inductive BndR : LV → Option Int → Prop
  | none : BndR .none none
  | int (i : Int) : BndR (.int i) (some i)
noncomputable def Prt (C : Cx) (e : Option PySem.Expr) (H : List LO) (m : Loc) (Q : LV → List LO → Prop) : Prop :=
  match e with
  | none => Q .none H
  | some e => Ev C e H m Q
theorem prt_sound {e : Option PySem.Expr} {Q : LV → List LO → Prop} (h : Prt C e H m Q) {D : Dy} {ρ : List Addr} {s : Shared} (hs : St C D ρ H m s) : wpAny C.M C.A (evalPart e C.env) (Post C D ρ m Q) NoE s := by
  cases e with
  | none => exact wpAny_pure ⟨ρ, H, .none, pre_refl ρ, hs, .none, h⟩
  | some e => exact h.go D ρ s hs

theorem VRs.slc {ρ : List Addr} {ls : List LV} {vs : List Value} (h : VRs ρ ls vs) (lo hi : Option Int) : VRs ρ (Mine.slc ls lo hi) (Mine.slc vs lo hi) := by
  unfold Mine.slc
  rw [h.length]
  exact (h.drop _).take _

theorem BndR.part {ρ : List Addr} {lv : LV} {l : Option Int} {v : Value} (h : BndR lv l) (r : VR ρ lv v) : ∃ p : Option (Int × Tok), v = partValue p ∧ p.map (·.1) = l := by
  cases h with
  | none => cases r; exact ⟨Option.none, rfl, rfl⟩
  | int i => cases r with | int _ t => exact ⟨some (i, t), rfl, rfl⟩
theorem BndR.isPart {ρ : List Addr} {lv : LV} {l : Option Int} {v : Value} (h : BndR lv l) (r : VR ρ lv v) : IsPart v l := by
  cases h with
  | none => cases r; exact .none
  | int i => cases r with | int _ t => exact .int i t

theorem ev_slice_str {value : PySem.Expr} {lo hi : Option PySem.Expr} {p pos : Pos} (h : Ev C value H m fun a H1 => Prt C lo H1 m fun l H2 => Prt C hi H2 m fun u H3 => ∃ xs l' u', a = .str (S xs) ∧ xs.length ≤ sizeLine ∧ BndR l l' ∧ BndR u u' ∧ Q (.str (S (slc xs l' u'))) H3) : Ev C (.Subscript value (.Slice lo hi none p) pos) H m Q := by
  refine .mk fun D ρ s hs => ?_
  refine sub_slice_str (wp_imp (h.go D ρ s hs) fun va s1 ⟨ρ1, H1, la, p1, hs1, r1, q1⟩ => wp_imp (prt_sound q1 hs1) fun vl s2 ⟨ρ2, H2, ll, p2, hs2, r2, q2⟩ => wp_imp (prt_sound q2 hs2) fun vu s3 ⟨ρ3, H3, lu, p3, hs3, r3, q3⟩ => ?_)
  obtain ⟨xs, l', u', rfl, hz, bl, bu, hq⟩ := q3
  cases r1 with
  | str _ t =>
    obtain ⟨pl, e1, e2⟩ := bl.part r2
    obtain ⟨pu, e3, e4⟩ := bu.part r3
    refine ⟨S xs, t, pl, pu, rfl, e1, e3, sliceMade_post hz fun t k => ?_⟩
    rw [e2, e4]
    exact ⟨ρ3, H3, _, pre_trans p1 (pre_trans p2 p3), hs3.grow fun b o e => Heap.get?_push_of_some _ e, .str _ _, hq⟩

theorem ev_slice_list {value : PySem.Expr} {lo hi : Option PySem.Expr} {p pos : Pos} (h : Ev C value H m fun a H1 => Prt C lo H1 m fun l H2 => Prt C hi H2 m fun u H3 => ∃ k xs l' u', a = .obj k ∧ H3[k]? = some (.list xs) ∧ xs.length ≤ sizeLine ∧ BndR l l' ∧ BndR u u' ∧ Q (.obj H3.length) (H3 ++ [.list (slc xs l' u')])) : Ev C (.Subscript value (.Slice lo hi none p) pos) H m Q := by
  refine .mk fun D ρ s hs => ?_
  refine sub_slice_list (wp_imp (h.go D ρ s hs) fun va s1 ⟨ρ1, H1, la, p1, hs1, r1, q1⟩ => wp_imp (prt_sound q1 hs1) fun vl s2 ⟨ρ2, H2, ll, p2, hs2, r2, q2⟩ => wp_imp (prt_sound q2 hs2) fun vu s3 ⟨ρ3, H3, lu, p3, hs3, r3, q3⟩ => ?_)
  obtain ⟨k, xs, l', u', rfl, hk, hsz, bl, bu, hq⟩ := q3
  cases r1 with
  | obj _ a ea =>
    have ea3 := pre_get (pre_trans p2 p3) ea
    obtain ⟨vs, n, eo, rv⟩ := hs3.hp.objs k a _ ea3 hk
    refine ⟨a, vs.toArray, l', u', rfl, ⟨_, eo, rfl, _, rfl⟩, by rw [List.size_toArray, rv.length]; exact hsz, bl.isPart r2, bu.isPart r3, ?_⟩
    have hs4 := hs3.grow (h' := s3.heap.push { cls := Value.type "slice", data := Data.fields #[vl, vu, Value.none] }) (t := s3.toks) fun b o e => Heap.get?_push_of_some _ e
    have hsz' : (s3.heap.push { cls := Value.type "slice", data := Data.fields #[vl, vu, Value.none] }).objs.size = s3.heap.objs.size + 1 := Heap.size_push ..
    have hs5 := hs4.alloc (h' := (s3.heap.push { cls := Value.type "slice", data := Data.fields #[vl, vu, Value.none] }).push { cls := Value.type "list", data := Data.seq (slicePick vs.toArray l' u' none) }) (t := s3.toks)
      (lo := .list (slc xs l' u')) (fun b o e => Heap.get?_push_of_some _ e) ⟨slc vs l' u', 0, by
        show Heap.get? _ _ = _
        rw [Heap.get?_push_size _ rfl, slicePick_plain]
        simp only [List.size_toArray]
        rfl, ((rv.slc l' u').mono (List.prefix_append _ _))⟩
    refine ⟨_, _, _, pre_trans p1 (pre_trans p2 (pre_trans p3 (List.prefix_append _ _))), hs5, ?_, hq⟩
    have := hs3.hp.len
    refine .obj _ _ ?_
    rw [List.getElem?_append_right (by (first | lia | omega)), ← this]
    simp [hsz']
end

/-! text PL6 -/
/-! calls of what is built in -/
structure Blt (C : Cx) (f : Value) (las : List LV) (H : List LO) (m : Loc) (Q : LV → List LO → Prop) : Prop where
  go : ∀ D ρ s vas, St C D ρ H m s → VRs ρ las vas → wpAny C.M C.A (call f vas []) (Post C D ρ m Q) NoE s

section
variable {C : Cx} {H : List LO} {m : Loc} {Q : LV → List LO → Prop}

theorem any_star {pos : Pos} {env : Env} : ∀ {es : List PySem.Expr}, es.any isStarred = false → (backTo pos (starEach es env)).any (·.1) = false
  | [], _ => rfl
  | e :: es, h => by
    rw [List.any_cons, Bool.or_eq_false_iff] at h
    rw [star_cons e es env h.1]
    exact any_star (es := es) h.2

theorem ev_bcall {x : Str} {p pos : Pos} {args : List PySem.Expr} {id : String} (hf : Ev C (.Name x p) H m fun v H1 => v = .const (.builtin id) ∧ H1 = H) (h : Evs C args H m fun las H1 => Blt C (.builtin id) las H1 m Q)
    (hp : args.any isStarred = false := by kernel_rfl) : Ev C (.Call (.Name x p) args [] pos) H m Q := by
  refine .mk fun D ρ s hs => ?_
  refine Call_Name rfl (wp_imp (hf.go D ρ s hs) fun v s1 ⟨ρ1, H1, lv, p1, hs1, r1, q1⟩ => ?_)
  obtain ⟨rfl, rfl⟩ := q1
  cases r1
  refine Calls.callWith_builtin (any_star hp) (wp_imp (evalArgs_of hp h hs1) fun x s2 ⟨e, ρ2, H2, ls, p2, hs2, r2, q2⟩ => ?_)
  rw [e]
  exact wp_imp (q2.go D ρ2 s2 x.pos hs2 r2) fun _ _ y => y.step (pre_trans p1 p2)
theorem ev_tcall {x : Str} {p pos : Pos} {args : List PySem.Expr} {T : String} (hf : Ev C (.Name x p) H m fun v H1 => v = .const (.type T) ∧ H1 = H) (h : Evs C args H m fun las H1 => Blt C (.type T) las H1 m Q)
    (hp : args.any isStarred = false := by kernel_rfl) : Ev C (.Call (.Name x p) args [] pos) H m Q := by
  refine .mk fun D ρ s hs => ?_
  refine Call_Name rfl (wp_imp (hf.go D ρ s hs) fun v s1 ⟨ρ1, H1, lv, p1, hs1, r1, q1⟩ => ?_)
  obtain ⟨rfl, rfl⟩ := q1
  cases r1
  refine PySem.callWith_type (any_star hp) (wp_imp (evalArgs_of hp h hs1) fun x s2 ⟨e, ρ2, H2, ls, p2, hs2, r2, q2⟩ => ?_)
  rw [e]
  exact wp_imp (q2.go D ρ2 s2 x.pos hs2 r2) fun _ _ y => y.step (pre_trans p1 p2)

/-- a value's kind -/
inductive Knd (H : List LO) : LV → String → Prop
  | str (x : Str) : Knd H (.str x) "str"
  | list (k : Nat) (xs : List LV) (h : H[k]? = some (.list xs)) : Knd H (.obj k) "list"

theorem Knd.is {D : Dy} {ρ : List Addr} {s : Shared} (hs : St C D ρ H m s) {lv : LV} {T : String} {v : Value} (k : Knd H lv T) (r : VR ρ lv v) :
    s.TypeIs v T ∧ ∀ a, v = .ref a → ∃ ob, s.heap.get? a = some ob ∧ ob.dict = none := by
  cases k with
  | str x => cases r; exact ⟨typeIs_str .., fun _ e => by cases e⟩
  | list k xs h =>
    cases r with
    | obj _ a ea =>
      obtain ⟨vs, n, eo, _⟩ := hs.hp.objs k a _ ea h
      exact ⟨⟨_, eo, rfl⟩, fun b e => by cases e; exact ⟨_, eo, rfl⟩⟩

theorem few_of {pos : Pos} {args : List PySem.Expr} {env : Env} (hp : args.any isStarred = false) (hl : args.length < 30) : ((backTo pos (starEach args env)).all (fun x => !x.1) && (backToKw pos (keywordEach [] env)).all (fun x => x.1.isSome)
      && decide (args.length + ([] : List Keyword).length + (if ([] : List Keyword).isEmpty then 0 else 1) < 30)) = true := by
  have h1 := any_star (pos := pos) (env := env) hp
  have h2 : (backTo pos (starEach args env)).all (fun x => !x.1) = true := by
    rw [List.all_eq_true]
    intro x hx
    rw [List.any_eq_false] at h1
    simpa using h1 x hx
  rw [h2]
  simp [backToKw, keywordEach, hl]

theorem ev_method {o : PySem.Expr} {name : Str} {apos pos : Pos} {args : List PySem.Expr} (T id : String) (pa : PlainAttrs T) (slot : Slot T name id) (hty : typeOf (.builtin id) = pure (.type "method_descriptor"))
    (h : Ev C o H m fun lo H1 => Knd H1 lo T ∧ Evs C args H1 m fun las H2 => Blt C (.builtin id) (lo :: las) H2 m Q)
    (hbase : attributeBase o name C.env (eval o C.env) = eval o C.env := by rfl) (hp : args.any isStarred = false := by kernel_rfl) (hl : args.length < 30 := by decide) (hline : (apos.endLine == pos.line) = true := by kernel_rfl) :
    Ev C (.Call (.Attribute o name apos) args [] pos) H m Q := by
  refine .mk fun D ρ s hs => ?_
  refine wpAny_Call_method hbase (few_of hp hl) hline pa slot hty (wp_imp (h.go D ρ s hs) fun v s1 ⟨ρ1, H1, lv, p1, hs1, r1, k1, q1⟩ => ?_)
  obtain ⟨t1, t2⟩ := k1.is hs1 r1
  refine ⟨t1, t2, Calls.callWith_builtin (any_star hp) (wp_imp (evalArgs_of hp q1 hs1) fun x s2 ⟨e, ρ2, H2, ls, p2, hs2, r2, q2⟩ => ?_)⟩
  rw [e]
  exact wp_imp (q2.go D ρ2 s2 (v :: x.pos) hs2 ⟨r1.mono p2, r2⟩) fun _ _ y => y.step (pre_trans p1 p2)

/-! single calls -/
theorem VRs.one {ρ : List Addr} {a : LV} {vs : List Value} (h : VRs ρ [a] vs) : ∃ v, vs = [v] ∧ VR ρ a v := by
  cases vs with
  | nil => exact h.elim
  | cons v vs => cases vs with
    | nil => exact ⟨v, rfl, h.1⟩
    | cons w ws => exact h.2.elim
theorem VRs.two {ρ : List Addr} {a b : LV} {vs : List Value} (h : VRs ρ [a, b] vs) : ∃ v w, vs = [v, w] ∧ VR ρ a v ∧ VR ρ b w := by
  cases vs with
  | nil => exact h.elim
  | cons v vs =>
    obtain ⟨w, rfl, r⟩ := VRs.one h.2
    exact ⟨v, w, rfl, h.1, r⟩
theorem VRs.three {ρ : List Addr} {a b c : LV} {vs : List Value} (h : VRs ρ [a, b, c] vs) : ∃ v w u, vs = [v, w, u] ∧ VR ρ a v ∧ VR ρ b w ∧ VR ρ c u := by
  cases vs with
  | nil => exact h.elim
  | cons v vs =>
    obtain ⟨w, u, rfl, r⟩ := VRs.two h.2
    exact ⟨v, w, u, rfl, h.1, r⟩

theorem blt_len_str {x : List Nat} (hl : x.length ≤ sizeLine) (h : Q (.int x.length) H) : Blt C (.builtin "len") [.str (S x)] H m Q := by
  refine .mk fun D ρ s vas hs rs => ?_
  obtain ⟨v, rfl, r⟩ := VRs.one rs
  cases r
  exact P.len_str (by rw [S_len]; have : sizeLine = 16777216 := rfl; (first | lia | omega)) ⟨ρ, H, _, pre_refl ρ, hs.toks _, .int _ _, h⟩
theorem St.seq {D : Dy} {ρ : List Addr} {s : Shared} (hs : St C D ρ H m s) {k : Nat} {xs : List LV} (hk : H[k]? = some (.list xs)) {v : Value} (r : VR ρ (.obj k) v) : ∃ (a : Addr) (vs : List Value) (n : Nat), v = .ref a ∧ ρ[k]? = some a ∧ IsL s.heap a vs.toArray n ∧ VRs ρ xs vs := by
  cases r with
  | obj _ a ea =>
    obtain ⟨vs, n, eo, rv⟩ := hs.hp.objs k a _ ea hk
    exact ⟨a, vs, n, rfl, ea, eo, rv⟩
theorem blt_len_list {k : Nat} {xs : List LV} (hk : H[k]? = some (.list xs)) (hl : xs.length ≤ sizeLine) (h : Q (.int xs.length) H) : Blt C (.builtin "len") [.obj k] H m Q := by
  refine .mk fun D ρ s vas hs rs => ?_
  obtain ⟨v, rfl, r⟩ := VRs.one rs
  obtain ⟨a, vs, n, e, ea, eo, rv⟩ := hs.seq hk r
  subst e
  refine PyProof.Rows.len_list ⟨_, eo, rfl, _, rfl⟩ (by rw [List.size_toArray, rv.length]; have : sizeLine = 16777216 := rfl; (first | lia | omega)) ⟨ρ, H, _, pre_refl ρ, hs.toks _, .int _ _, ?_⟩
  rw [List.size_toArray, rv.length]
  exact h
theorem blt_chr {i : Int} (hi : 0 ≤ i) (hi2 : i ≤ 1114111) (h : Q (.str (S [i.toNat])) H) : Blt C (.builtin "chr") [.int i] H m Q := by
  refine .mk fun D ρ s vas hs rs => ?_
  obtain ⟨v, rfl, r⟩ := VRs.one rs
  cases r
  refine P.chr_of_int ?_ ⟨ρ, H, _, pre_refl ρ, hs.toks _, .str _ _, h⟩
  simp only [Bool.or_eq_false_iff, decide_eq_false_iff_not]
  (first | lia | omega)
theorem blt_ord {c : Nat} (h : Q (.int c) H) : Blt C (.builtin "ord") [.str (S [c])] H m Q := by
  refine .mk fun D ρ s vas hs rs => ?_
  obtain ⟨v, rfl, r⟩ := VRs.one rs
  cases r with
  | str _ t => exact P.ord_of_char (c := c) (t := t) ⟨ρ, H, _, pre_refl ρ, hs.toks _, .int _ _, h⟩

theorem St.listUpd {D : Dy} {ρ : List Addr} {s : Shared} (hs : St C D ρ H m s) {k : Nat} {ys : List LV} {a : Addr} {its : Array Value} {ws : List Value} {n : Nat} (ea : ρ[k]? = some a)
    (eo : IsL s.heap a its n) (f : Array Value → Array Value) (hf : f its = ws.toArray) (hr : VRs ρ ys ws) (t : Nat) : St C D ρ (H.set k (.list ys)) m { s with heap := s.heap.update a (Obj.mapSeq f), toks := t } :=
  hs.upd ea (Heap.SameBut.update ..) ⟨ws, _, hf ▸ eo.update f, hr⟩

theorem blt_append {k : Nat} {xs : List LV} {x : LV} (hk : H[k]? = some (.list xs)) (hl : xs.length ≤ sizeLine) (h : Q .none (H.set k (.list (xs ++ [x])))) : Blt C (.builtin "list.append") [.obj k, x] H m Q := by
  refine .mk fun D ρ s vas hs rs => ?_
  obtain ⟨v, w, rfl, r, rx⟩ := VRs.two rs
  obtain ⟨a, vs, n, e, ea, eo, rv⟩ := hs.seq hk r
  subst e
  exact call_meets F.slot_list_append ⟨_, eo, rfl⟩ F.entry_list_append (F.args_list_append_2 _ _) (PySem.list_append a vs.toArray n w (by rw [List.size_toArray, rv.length]; exact hl)) ⟨eo, ρ, _, _, pre_refl ρ, hs.listUpd ea eo _ (ys := xs ++ [x]) (ws := vs ++ [w]) (by simp) (rv.append (show VRs ρ [x] [w] from ⟨rx, trivial⟩)) _, .none, h⟩

noncomputable def insAt (xs : List LV) (i : Nat) (x : LV) : List LV := xs.take i ++ x :: xs.drop i
theorem blt_insert' {k : Nat} {xs : List LV} {x : LV} {z : Int} {i : Nat} (hz : z = i) (hk : H[k]? = some (.list xs)) (hl : xs.length ≤ sizeLine) (hi : i ≤ xs.length) (h : Q .none (H.set k (.list (insAt xs i x)))) : Blt C (.builtin "list.insert") [.obj k, .int z, x] H m Q := by
  refine .mk fun D ρ s vas hs rs => ?_
  obtain ⟨v, u, w, rfl, r, ri, rx⟩ := VRs.three rs
  obtain ⟨a, vs, n, e, ea, eo, rv⟩ := hs.seq hk r
  subst e
  have hsz : sizeLine = 16777216 := rfl
  cases ri with
  | int _ t =>
    have hf : ¬ (!Builtin.List.listFitsIndex z) = true := by
      simp only [Bool.not_eq_true, Bool.not_eq_false']
      unfold Builtin.List.listFitsIndex
      simp
      (first | lia | omega)
    have h1 : ¬ (z < 0) := by (first | lia | omega)
    have h2 : min z.toNat vs.length = i := by rw [rv.length]; (first | lia | omega)
    let f : Array Value → Array Value := fun xs => (xs.extract 0 (if z < 0 then (z + xs.size).toNat else min z.toNat xs.size)).push w ++ xs.extract (if z < 0 then (z + xs.size).toNat else min z.toNat xs.size)
    have he : f vs.toArray = (vs.take i ++ w :: vs.drop i).toArray := by
      simp only [f, h1, if_false, List.size_toArray, h2]
      apply Array.toList_inj.mp
      simp
      exact List.take_of_length_le (by simp)
    have hr : VRs ρ (insAt xs i x) (vs.take i ++ w :: vs.drop i) := (rv.take i).append ⟨rx, rv.drop i⟩
    have hup := hs.listUpd ea eo f he hr s.toks
    have g := PySem.AutoSeq1.list_insert_list_int_val_1 a vs.toArray n z t w hf (by rw [List.size_toArray, rv.length]; exact hl)
    exact call_meets F.slot_list_insert ⟨_, eo, rfl⟩ F.entry_list_insert (F.args_list_insert_3 _ _ _) g ⟨eo, ρ, _, _, pre_refl ρ, hup, .none, h⟩
theorem blt_insert {k : Nat} {xs : List LV} {x : LV} {i : Nat} (hk : H[k]? = some (.list xs)) (hl : xs.length ≤ sizeLine) (hi : i ≤ xs.length) (h : Q .none (H.set k (.list (insAt xs i x)))) : Blt C (.builtin "list.insert") [.obj k, .int i, x] H m Q :=
  blt_insert' rfl hk hl hi h

theorem blt_pop0 {k : Nat} {x : LV} {xs : List LV} (hk : H[k]? = some (.list (x :: xs))) (hl : xs.length < sizeLine) (h : Q x (H.set k (.list xs))) : Blt C (.builtin "list.pop") [.obj k, .int 0] H m Q := by
  refine .mk fun D ρ s vas hs rs => ?_
  obtain ⟨v, u, rfl, r, ri⟩ := VRs.two rs
  obtain ⟨a, vs, n, e, ea, eo, rv⟩ := hs.seq hk r
  subst e
  cases vs with
  | nil => exact rv.elim
  | cons w ws =>
    cases ri with
    | int _ t =>
      exact call_meets F.slot_list_pop ⟨_, eo, rfl⟩ F.entry_list_pop (F.args_list_pop_2 _ _) (PySem.MeetsSeq.list_pop_at a (w :: ws).toArray n 0 t 0 w (by decide) (by simp [seqIndex?]) (by simp) (by
        rw [List.size_toArray, List.length_cons, rv.2.length]; exact hl))
        ⟨eo, ρ, _, _, pre_refl ρ, hs.listUpd ea eo _ (ws := ws) (by simp [Array.eraseIdxIfInBounds]) rv.2 _, rv.1, h⟩

/-! displays -/
theorem ev_list {elts : List PySem.Expr} {pos : Pos} (h : Evs C elts H m fun las H1 => las.length ≤ sizeLine ∧ Q (.obj H1.length) (H1 ++ [.list las])) (hp : elts.any isStarred = false := by kernel_rfl) : Ev C (.List elts pos) H m Q := by
  refine .mk fun D ρ s hs => ?_
  refine wpAny_List (wp_imp (evs_sound elts hp h hs) fun vs s1 ⟨ρ1, H1, las, p1, hs1, r1, hl, q1⟩ => ⟨by rw [r1.length]; exact hl, ?_⟩)
  refine ⟨_, _, _, pre_trans p1 (List.prefix_append _ _), hs1.alloc (t := s1.toks) (lo := .list las) (fun b o e => Heap.get?_push_of_some _ e) ⟨vs, 0, Heap.get?_push_size _ rfl, r1.mono (List.prefix_append _ _)⟩, .obj _ _ ?_, q1⟩
  rw [List.getElem?_append_right (by rw [hs1.hp.len]; exact Nat.le_refl _), hs1.hp.len]; simp
theorem ev_tuple {elts : List PySem.Expr} {k : Nat} {pos : Pos} (h : Evs C elts H m fun las H1 => las.length ≤ sizeLine ∧ Q (.obj H1.length) (H1 ++ [.tup las])) (hp : elts.any isStarred = false := by kernel_rfl) : Ev C (.Tuple elts k pos) H m Q := by
  refine .mk fun D ρ s hs => ?_
  refine wpAny_Tuple (wp_imp (evs_sound elts hp h hs) fun vs s1 ⟨ρ1, H1, las, p1, hs1, r1, hl, q1⟩ => ⟨by rw [r1.length]; exact hl, ?_⟩)
  refine ⟨_, _, _, pre_trans p1 (List.prefix_append _ _), hs1.alloc (t := s1.toks) (lo := .tup las) (fun b o e => Heap.get?_push_of_some _ e) ⟨vs, 0, Heap.get?_push_size _ rfl, r1.mono (List.prefix_append _ _)⟩, .obj _ _ ?_, q1⟩
  rw [List.getElem?_append_right (by rw [hs1.hp.len]; exact Nat.le_refl _), hs1.hp.len]; simp

theorem bin_add_list {j k : Nat} {xs ys : List LV} (hj : H[j]? = some (.list xs)) (hk : H[k]? = some (.list ys)) (hl : xs.length + ys.length ≤ sizeLine) (h : Q (.obj H.length) (H ++ [.list (xs ++ ys)])) : Bin C .Add (.obj j) (.obj k) H m Q := by
  refine .mk fun D ρ s va vb hs ra rb => ?_
  obtain ⟨a, vs, n, e, ea, eo, rv⟩ := hs.seq hj ra
  subst e
  obtain ⟨b, ws, n2, e, eb, eo2, rw_⟩ := hs.seq hk rb
  subst e
  refine P.add_list eo eo2 ?_ (by rw [List.size_toArray, List.size_toArray, rv.length, rw_.length]; exact hl)
  refine ⟨_, _, _, List.prefix_append ρ _, hs.alloc (t := s.toks) (lo := .list (xs ++ ys)) (fun b o e => Heap.get?_push_of_some _ e) ⟨vs ++ ws, 0, ?_, (rv.append rw_).mono (List.prefix_append _ _)⟩, .obj _ _ ?_, h⟩
  · rw [Heap.get?_push_size _ rfl]; simp
  rw [List.getElem?_append_right (by rw [hs.hp.len]; exact Nat.le_refl _), hs.hp.len]; simp

/-! subscripts -/
theorem ev_sub_list {value ix : PySem.Expr} {pos : Pos} (h : Ev C value H m fun a H1 => Ev C ix H1 m fun i H2 => ∃ k xs n x, a = .obj k ∧ H2[k]? = some (.list xs) ∧ i = .int (n : Nat) ∧ xs[n]? = some x ∧ xs.length ≤ sizeLine ∧ Q x H2)
    (hi : ∀ o i, ∃ ops, subscripted ix false o i = operate ops (getItem o i) := by exact fun _ _ => ⟨_, rfl⟩) : Ev C (.Subscript value ix pos) H m Q := by
  refine .mk fun D ρ s hs => ?_
  refine Subscript_ (wp_imp (h.go D ρ s hs) fun va s1 ⟨ρ1, H1, la, p1, hs1, r1, q1⟩ => wp_imp (q1.go D ρ1 s1 hs1) fun vi s2 ⟨ρ2, H2, li, p2, hs2, r2, q2⟩ => ?_)
  obtain ⟨k, xs, n, x, rfl, hk, rfl, hx, hl, hq⟩ := q2
  obtain ⟨a, vs, e, ev, ea, eo, rv⟩ := hs2.seq hk (r1.mono p2)
  subst ev
  cases r2 with
  | int _ t =>
    obtain ⟨v, hv, rx⟩ := rv.get hx
    obtain ⟨ops, ho⟩ := hi (.ref a) (.int n t)
    refine tail_any ⟨_, eo, rfl⟩ F.slot_list_getitem.lookup (wpAny_getItem_list ⟨_, eo, rfl, _, rfl⟩ (by (first | lia | omega)) ?_ (by simpa using hv) ⟨ρ2, H2, x, pre_trans p1 p2, hs2, rx, hq⟩) ho
    have := (List.getElem?_eq_some_iff.mp hx).1
    have : sizeLine = 16777216 := rfl
    (first | lia | omega)
end

/-! text PL7 -/
open Lean Elab Tactic Meta in
/-- runs a tactic that is written as a text -/
def tacS (s : String) : TacticM Unit := do
  match Parser.runParserCategory (← getEnv) `tactic s with
  | .ok stx => evalTactic stx
  | .error e => throwError e
open Lean Elab Tactic Meta in
/-- finds a name in a list of names -/
def lfind (fuel : Nat) (m x : Lean.Expr) : MetaM (Option Lean.Expr) := do
  let fuel + 1 := fuel | return none
  let m ← instantiateMVars m
  let m := m.consumeMData
  let same (a b : Lean.Expr) : MetaM Bool := do
    let a := (← instantiateMVars a).consumeMData
    let b := (← instantiateMVars b).consumeMData
    if a == b then return true
    if a.isAppOfArity ``Str.ofString 1 && b.isAppOfArity ``Str.ofString 1 then return a.appArg! == b.appArg!
    let a ← whnfR a
    let b ← whnfR b
    return a == b
  if m.isAppOfArity ``lset 3 then
    let a := m.getAppArgs
    if (← same a[1]! x) then return some a[2]!
    lfind fuel a[0]! x
  else if m.isAppOfArity ``List.cons 3 then
    let a := m.getAppArgs
    let p := a[1]!.consumeMData
    let p ← if p.isAppOfArity ``Prod.mk 4 then pure p else whnfR p
    let q := p.getAppArgs
    if (← same q[2]! x) then return some q[3]!
    lfind fuel a[2]! x
  else if m.isAppOfArity ``List.nil 1 then return none
  else
    match (← unfoldDefinition? m) with
    | some m' => lfind fuel m'.headBeta x
    | none => return none
open Lean Elab Tactic Meta in
def lgtT : TacticM Unit := do
  let g ← getMainGoal
  g.withContext do
    let t ← instantiateMVars (← g.getType)
    let some (_, l, r) := t.eq? | throwError "lgt: no equation"
    unless l.isAppOfArity ``lget 2 do throwError "lgt: not lget"
    let a := l.getAppArgs
    match (← lfind 200 a[0]! a[1]!) with
    | none => throwError "lgt: not found {a[1]!}"
    | some v =>
      let sv ← mkAppM ``Option.some #[v]
      unless (← isDefEq r sv) do throwError "lgt: other value"
      g.assign (← mkEqRefl l)

theorem it_true {b : Bool} {p q : Prop} (hb : b = true) (h : p) : if b then p else q := by rw [hb]; exact h
theorem it_false {b : Bool} {p q : Prop} (hb : b = false) (h : q) : if b then p else q := by rw [hb]; simpa using h
theorem it_both {b : Bool} {p q : Prop} (h1 : b = true → p) (h2 : b = false → q) : if b then p else q := by
  cases b with
  | true => exact it_true rfl (h1 rfl)
  | false => exact it_false rfl (h2 rfl)

open Lean Elab Tactic Meta in
/-- x = S ?l for a literal x -/
def strlitT : TacticM Unit := do
  let g ← getMainGoal
  g.withContext do
    let t ← instantiateMVars (← g.getType)
    let some (_, l, r) := t.eq? | throwError "strlit: no equation"
    let l' := l.consumeMData
    unless l'.isAppOfArity ``Str.ofString 1 do throwError "strlit: no literal {l'}"
    let .lit (.strVal w) := l'.appArg!.consumeMData | throwError "strlit: no literal {l'}"
    let ns := w.toList.map fun c => mkNatLit c.toNat
    let lst ← mkListLit (mkConst ``Nat) ns
    let rhs := mkApp (mkConst ``Mine.S) lst
    unless (← isDefEq r rhs) do throwError "strlit: other value"
    g.assign (← mkEqRefl l)
theorem ev_strS {C : Cx} {H : List LO} {m : Loc} {Q : LV → List LO → Prop} {x : Str} {l : List Nat} {k : Nat} {pos : Pos} (hx : x = S l) (h : Q (.str (S l)) H) : Ev C (.Constant (.str x) k pos) H m Q := ev_str (hx ▸ h)

/-! binary search -/
noncomputable def bsearch (p : Nat → Bool) : Nat → Nat → Nat → Nat
  | 0, lo, _ => lo
  | n + 1, lo, hi => if lo < hi then (if p ((lo + hi) / 2) then bsearch p n ((lo + hi) / 2 + 1) hi else bsearch p n lo ((lo + hi) / 2)) else lo
theorem bsearch_done (p : Nat → Bool) : ∀ (n lo hi : Nat), ¬ lo < hi → bsearch p n lo hi = lo
  | 0, _, _, _ => rfl
  | n + 1, lo, hi, h => by rw [bsearch, if_neg h]
theorem bsearch_fuel (p : Nat → Bool) : ∀ (n m lo hi : Nat), hi - lo ≤ n → hi - lo ≤ m → bsearch p n lo hi = bsearch p m lo hi
  | 0, m, lo, hi, h, _ => by rw [bsearch_done p m lo hi (by (first | lia | omega))]; rfl
  | n + 1, 0, lo, hi, _, h => by rw [bsearch_done p (n + 1) lo hi (by (first | lia | omega))]; rfl
  | n + 1, m + 1, lo, hi, h1, h2 => by
    rw [bsearch, bsearch]
    split
    · split
      · exact bsearch_fuel p n m _ _ (by (first | lia | omega)) (by (first | lia | omega))
      · exact bsearch_fuel p n m _ _ (by (first | lia | omega)) (by (first | lia | omega))
    · rfl

noncomputable def stOf (p : Program) (i : Nat) : Stmt := (p.main.body[i]?).getD default
noncomputable def fdOf (st : Stmt) (dV kV doc pm cd ct : Value) (an : Option Addr) : FuncData :=
  match st with
  | .FunctionDef name args body _ _ _ scope _ _ _ => { name, qualname := name, params := args, body := .stmts body, scope, globals := mainGlobals, closure := [], defaults := dV, kwdefaults := kV, doc, pyModule := pm, annotations := an, code := cd, closureTuple := ct, builtins := builtinsNs }
  | _ => default
noncomputable def bodyOf (st : Stmt) : List Stmt :=
  match st with
  | .FunctionDef _ _ body _ _ _ _ _ _ _ => body
  | _ => []


noncomputable def okLoad (env : Env) (x : Str) : Bool := (match env.scope.kind with | .function => true | _ => false) && !(x == ("__debug__" : Str)) &&
  (match env.kindOf x with
    | some .local => true
    | some .cell => (env.cells.lookup x).isSome
    | some .free => (env.cells.lookup x).isSome && !(x == ("__classdict__" : Str))
    | _ => false)
noncomputable def okStore (env : Env) (x : Str) : Bool := (match env.scope.kind with | .function => true | _ => false) &&
  (match env.kindOf x with
    | some .local => (env.cells.lookup x).isNone
    | some .cell => (env.cells.lookup x).isSome && env.func.isSome
    | _ => false)
theorem kind_of {env : Env} (h : (match env.scope.kind with | .function => true | _ => false) = true) : env.scope.kind = .function := by
  split at h
  · assumption
  · cases h
theorem ev_var {C : Cx} {H : List LO} {m : Loc} {Q : LV → List LO → Prop} {x : Str} {pos : Pos} {lv : LV} (hm : lget m x = some lv) (h : Q lv H) (ok : okLoad C.env x = true := by kernel_rfl) : Ev C (.Name x pos) H m Q := by
  unfold okLoad at ok
  rw [Bool.and_eq_true, Bool.and_eq_true] at ok
  obtain ⟨⟨o1, o2⟩, o3⟩ := ok
  have hk := kind_of o1
  have hd : (x == ("__debug__" : Str)) = false := by simpa using o2
  split at o3
  · rename_i hl; exact ev_local hm h hk hl hd
  · rename_i hl; exact ev_cell hm h hk hl o3 hd
  · rename_i hl
    rw [Bool.and_eq_true] at o3
    exact ev_free hm h hk hl o3.1 hd (by simpa using o3.2)
  · cases o3
theorem asg_set {C : Cx} {H : List LO} {m : Loc} {x : Str} {pos : Pos} {lv : LV} {R : List LO → Loc → Prop} (h : R H (lset m x lv)) (ok : okStore C.env x = true := by kernel_rfl) : Asg C (.Name x pos) lv H m R := by
  unfold okStore at ok
  rw [Bool.and_eq_true] at ok
  have hk := kind_of ok.1
  have o3 := ok.2
  split at o3
  · rename_i hl; exact asg_local h hl (by rw [hk]; rfl) (by simpa using o3)
  · rename_i hl
    rw [Bool.and_eq_true] at o3
    exact asg_cell h hk hl o3.1 o3.2
  · cases o3
theorem x_set {C : Cx} {H : List LO} {m : Loc} {Q : LF → List LO → Loc → Prop} {x : Str} {pos' pos : Pos} {e : PySem.Expr} (h : Ev C e H m fun lv H1 => Q .next H1 (lset m x lv)) (ok : okStore C.env x = true := by kernel_rfl)
    (hs : swapsWith e (some (.Name x pos')) pos.line C.env = pure false := by kernel_rfl) : X C (.Assign [.Name x pos'] e pos) H m Q := by
  unfold okStore at ok
  rw [Bool.and_eq_true] at ok
  have hk := kind_of ok.1
  have o3 := ok.2
  split at o3
  · rename_i hl; exact x_assign h hl (by rw [hk]; rfl) (by simpa using o3) hs
  · rename_i hl
    rw [Bool.and_eq_true] at o3
    exact x_assignCell h hk hl o3.1 o3.2 hs
  · cases o3
open Lean Elab Tactic Meta in
/-- no assignment of a comprehension -/
def no_compT : TacticM Unit := do
  let g ← getMainGoal
  g.withContext do
    let t ← instantiateMVars (← g.getType)
    if (t.find? fun e => e.isAppOfArity ``PySem.Stmt.Assign 3 && e.getAppArgs[1]!.isAppOf ``PySem.Expr.ListComp).isSome && t.isAppOf ``X then
      let st := t.getAppArgs[1]!
      if st.isAppOfArity ``PySem.Stmt.Assign 3 && (st.getAppArgs[1]!).isAppOf ``PySem.Expr.ListComp then throwError "no_comp: a comprehension"

open Lean Elab Tactic Meta in
/-- the goal's head in order -/
def bredT : TacticM Unit := do
  let g ← getMainGoal
  g.withContext do
    let t0 ← instantiateMVars (← g.getType)
    let rec go (n : Nat) (t : Lean.Expr) : MetaM Lean.Expr := do
      let t := t.consumeMData.headBeta
      match n with
      | 0 => return t
      | n + 1 =>
        if t.isAppOf ``Then || t.isAppOf ``Evs || t.isAppOf ``Prt || t.isAppOf ``Turn || t.isAppOf ``TurnF then
          match (← unfoldDefinition? t) with
          | some t' => go n (← whnfCore t')
          | none => return t
        else return t
    let t ← go 10 t0
    let g' ← mkFreshExprSyntheticOpaqueMVar t (← g.getTag)
    g.assign g'
    replaceMainGoal [g'.mvarId!]
open Lean Elab Tactic Meta in
def py1T : TacticM Unit := tacS "first | refine ex_cons ?_ | refine ex_nil ?_ | refine x_If ?_ | refine tst_Compare ?_ | refine tst_not ?_ | refine tst_and ?_ | refine tst_or ?_ | refine tst_and_nil ?_ | refine tst_or_nil ?_ | refine ev_var (by (run_tac Mine.lgtT)) ?_ | refine ev_int ?_ | refine ev_none ?_ | refine ev_bool ?_ | refine ev_strS (by (run_tac Mine.strlitT)) ?_ | refine ev_BinOp ?_ | refine ev_Compare ?_ | refine cmp_lt ?_ | refine cmp_le ?_ | refine cmp_gt ?_ | refine cmp_eq ?_ | refine cmp_ne ?_ | refine cmp_lt_str ?_ | refine cmp_eq_str ?_ | refine cmp_ne_str ?_ | refine bin_add ?_ | refine bin_sub ?_ | refine cmp_is_none (by intro _ h; cases h) ?_ | refine cmp_isnot_none (by intro _ h; cases h) ?_ | refine bin_mod (by decide) ?_ | refine bin_floordiv (by decide) (by decide) ?_ | refine tru_bool ?_ | refine x_Return ?_ | ((run_tac Mine.no_compT); refine x_set ?_)"
open Lean Elab Tactic Meta in
def pyT : TacticM Unit := tacS "((run_tac Mine.bredT); repeat ((run_tac Mine.py1T); (run_tac Mine.bredT)))"
open Lean Elab Tactic Meta in
def subsT : TacticM Unit := tacS "((repeat (refine Sub.cons (by (run_tac Mine.lgtT)) ?_)); exact Sub.nil _)"


/-! text PL8 -/
theorem keepsBut_same {I : Addr} {h h' : Heap} (x : Heap.SameBut I h h') : KeepsBut I h h' := fun b o hb e => (x.2 b hb).trans e

section
variable {C : Cx}
/-- over a list -/
theorem iter_list (hA : C.A.handled = none) (k : Nat) (xs : List LV) (l I : Addr) :
    Iter C (fun H ρ => H[k]? = some (.list xs) ∧ ρ[k]? = some l) I (fun i => xs[i]?) (fun i h => h.IsListIter I l i) := by
  refine ⟨fun i h h' x e => x.at e, fun i h ⟨o, ho, _⟩ => ⟨o, ho⟩, fun i h ⟨o, ho, hc, _⟩ => ⟨o, ho, by unfold plainIt; rw [hc]; rfl⟩, fun i s P x h => wpAny_pyIter_listiter x h, fun i D ρ H m s P hs hJ hI hio h1 h2 => ?_⟩
  obtain ⟨hk, hl⟩ := hJ
  obtain ⟨vs, n, eo, rv⟩ := hs.hp.objs k l _ hl hk
  have hL : s.heap.IsList l vs.toArray := ⟨_, eo, rfl, _, rfl⟩
  cases e : xs[i]? with
  | none =>
    refine wpAny_pyNext_list_end hA hio hL ?_ fun h' hb => h1 e h' _ hb
    rw [List.getElem?_eq_none_iff] at e
    simp
    rw [rv.length]; exact e
  | some x =>
    obtain ⟨v, ev, rx⟩ := rv.get e
    exact wpAny_pyNext_list_item hio hL (by simpa using ev) fun h' hi hb => h2 x v h' _ e rx hi (keepsBut_same hb)
/-- over a range -/
theorem iter_range (hA : C.A.handled = none) (a : Int) (n : Nat) (I : Addr) :
    Iter C (fun _ _ => True) I (fun i => if i < n then some (.int (a + i)) else none) (fun i h => IsRangeIter h I (a + i) ((n : Int) - i) 1) := by
  refine ⟨fun i h h' x e => e _ x, fun i h x => ⟨_, x⟩, fun i h x => ⟨_, x, rfl⟩, fun i s P x h => wpAny_pyIter_rangeiter x h, fun i D ρ H m s P hs hJ hI hio h1 h2 => ?_⟩
  by_cases hi : i < n
  · refine wpAny_pyNext_range_item hio (by (first | lia | omega)) fun h' hi' hb => h2 _ _ h' _ (if_pos hi) (.int _ _) ?_ (keepsBut_same hb)
    have e1 : a + (i : Int) + 1 = a + ((i + 1 : Nat) : Int) := by (first | lia | omega)
    have e2 : (n : Int) - i - 1 = (n : Int) - ((i + 1 : Nat) : Int) := by (first | lia | omega)
    rw [e1, e2] at hi'
    exact hi'
  · exact wpAny_pyNext_range_end hA hio (by (first | lia | omega)) fun h' hb => h1 (if_neg hi) h' _ hb
theorem iter_rangeD (hA : C.A.handled = none) (a : Int) (n : Nat) (I : Addr) :
    Iter C (fun _ _ => True) I (fun i => if i < n then some (.int (a - i)) else none) (fun i h => IsRangeIter h I (a - i) ((n : Int) - i) (-1)) := by
  refine ⟨fun i h h' x e => e _ x, fun i h x => ⟨_, x⟩, fun i h x => ⟨_, x, rfl⟩, fun i s P x h => wpAny_pyIter_rangeiter x h, fun i D ρ H m s P hs hJ hI hio h1 h2 => ?_⟩
  by_cases hi : i < n
  · refine wpAny_pyNext_range_item hio (by (first | lia | omega)) fun h' hi' hb => h2 _ _ h' _ (if_pos hi) (.int _ _) ?_ (keepsBut_same hb)
    have e1 : a - (i : Int) + -1 = a - ((i + 1 : Nat) : Int) := by (first | lia | omega)
    have e2 : (n : Int) - i - 1 = (n : Int) - ((i + 1 : Nat) : Int) := by (first | lia | omega)
    rw [e1, e2] at hi'
    exact hi'
  · exact wpAny_pyNext_range_end hA hio (by (first | lia | omega)) fun h' hb => h1 (if_neg hi) h' _ hb
/-- over a text -/
theorem iter_str (hA : C.A.handled = none) (x : List Nat) (t : Tok) (T : String) (hT : T = "str_ascii_iterator" ∨ T = "str_iterator") (I : Addr) :
    Iter C (fun _ _ => True) I (fun i => (x[i]?).map fun c => .str (S [c])) (fun i h => h.IsStrIter I T (S x) t i) := by
  refine ⟨fun i h h' x e => let ⟨o, ho, r⟩ := x; ⟨o, e _ ho, r⟩, fun i h ⟨o, ho, _⟩ => ⟨o, ho⟩, fun i h ⟨o, ho, hc, _⟩ => ⟨o, ho, by unfold plainIt; rw [hc]; rcases hT with rfl | rfl <;> rfl⟩, fun i s P x h => by rcases hT with rfl | rfl <;> first | exact wpAny_pyIter_striter_ascii x h | exact wpAny_pyIter_striter_wide x h, fun i D ρ H m s P hs hJ hI hio h1 h2 => ?_⟩
  have hg : (S x).cps[i]? = x[i]? := by show x.toArray[i]? = _; simp
  rcases hT with rfl | rfl
  · cases e : x[i]? with
    | none => exact wpAny_pyNext_ascii_end hA hio (hg.trans e) fun h' hb => h1 (by rw [e]; rfl) h' _ hb
    | some c => exact wpAny_pyNext_ascii_item hio (hg.trans e) fun h' hi hb => h2 (.str (S [c])) _ h' _ (by rw [e]; rfl) (.str _ _) hi (keepsBut_same hb)
  · cases e : x[i]? with
    | none => exact wpAny_pyNext_wide_end hA hio (hg.trans e) fun h' hb => h1 (by rw [e]; rfl) h' _ hb
    | some c => exact wpAny_pyNext_wide_item hio (hg.trans e) fun h' hi hb => h2 (.str (S [c])) _ h' _ (by rw [e]; rfl) (.str _ _) hi (keepsBut_same hb)
end

section
variable {C : Cx} {H : List LO} {m : Loc} {Q : LF → List LO → Loc → Prop}

/-- a for's turns over the values xs; the objects up to N stay -/
noncomputable def Turns (C : Cx) (target : PySem.Expr) (body : List Stmt) (N : Nat) (keep : List LO → Prop) (cnt : Nat) (get : Nat → Option LV) (H : List LO) (m : Loc) (Q : LF → List LO → Loc → Prop) : Prop :=
  ∃ (m0 : Loc) (G : Nat → List LO → Loc → Prop), C.n0 ≤ N ∧ N ≤ H.length ∧ Sub m0 m ∧ G 0 H m0 ∧ (∀ i H m, G i H m → N ≤ H.length ∧ keep H) ∧
    (∀ i x H m, get i = some x → G i H m → Asg { C with n0 := N } target x H m fun H1 m1 => Ex { C with n0 := N } body H1 m1 (TurnF N (G (i + 1)) Q)) ∧ ∀ H m, G cnt H m → Q .next H m

theorem x_for_core {target iter : PySem.Expr} {body : List Stmt} {pos : Pos} {D : Dy} {ρ0 ρ : List Addr} {s : Shared} {N cnt : Nat} {keep : List LO → Prop} {get : Nat → Option LV} {I : Addr} {J : List LO → List Addr → Prop} {io : Nat → Heap → Prop}
    (W : Iter C J I get io) (hcnt : ∀ i, get i = none ↔ cnt ≤ i) (T : Turns C target body N keep cnt get H m Q)
    (hJ : ∀ H ρ', keep H → ρ.take N <+: ρ' → J H ρ') (hs : St C D ρ H m s) (hp : ρ0.take C.n0 <+: ρ) (hsz : C.n0 ≤ ρ0.length) (hio : io 0 s.heap) (hI1 : I ∉ ρ) (hI2 : I ∉ C.own) (hI3 : C.K.B I = none) (hI4 : I ∈ D.ρ0 ∨ D.s0.heap.get? I = none) (hI5 : C.K.tab I = false)
    (ht : ∀ v, letOwnedTupleGo target (.ref I) v = pure ()) :
    codeAny C.M C.A (.forLoop target (.ref I) body [] C.env) (fun r s' => match r with | .ok f => PostS C D ρ0 Q f s' | .error e => cameBackBy C.M C.A C.env NoE e s') s := by
  obtain ⟨m0, G, h1, h2, h3, h4, h5, h6, h7⟩ := T
  refine codeAny_mono (for_loop W h1 G hcnt (fun i H m g => (h5 i H m g).1) (fun i H m ρ' g p => hJ H ρ' (h5 i H m g).2 p) (hs.sub h3) (by rw [hs.hp.len]; exact h2) h4 hio hI1 hI2 hI3 hI4 hI5 h6 h7 ht) fun r s' x => ?_
  cases r with
  | ok f => exact PostS.step hsz hp x
  | error e => exact x

theorem St.iterAt {D : Dy} {ρ : List Addr} {s : Shared} (hs : St C D ρ H m s) : s.heap.objs.size ∉ ρ ∧ s.heap.objs.size ∉ C.own ∧ C.K.B s.heap.objs.size = none ∧ (s.heap.objs.size ∈ D.ρ0 ∨ D.s0.heap.get? s.heap.objs.size = none) ∧ C.K.tab s.heap.objs.size = false :=
  ⟨hs.hp.fresh.1, hs.fresh.1, hs.hp.fresh.2.1, hs.fresh.2, hs.hp.fresh.2.2⟩

end

/-! text PL9 -/
/-! a comprehension's tests -/
noncomputable def TstAll (C : Cx) : List PySem.Expr → List LO → Loc → (Bool → List LO → Prop) → Prop
  | [], H, _, Q => Q true H
  | c :: cs, H, m, Q => Tst C c H m fun b H1 => if b then TstAll C cs H1 m Q else Q false H1

theorem tests_false (ifs : List PySem.Expr) (env : Env) : (forIn ifs false fun c r => if r = true then do let ok ← isTrue c env (eval c env); pure (ForInStep.yield ok) else pure (ForInStep.yield r) : Sem Bool) = pure false := by
  induction ifs with
  | nil => rfl
  | cons c cs ih => rw [List.forIn_cons]; exact ih
theorem tests_sound {C : Cx} {m : Loc} : ∀ (ifs : List PySem.Expr) {H : List LO} {Q : Bool → List LO → Prop} (_ : TstAll C ifs H m Q) {D : Dy} {ρ : List Addr} {s : Shared}, St C D ρ H m s →
    wpAny C.M C.A (forIn ifs true fun c r => if r = true then do let ok ← isTrue c C.env (eval c C.env); pure (ForInStep.yield ok) else pure (ForInStep.yield r)) (PostB C D ρ m Q) NoE s
  | [], H, Q, h, D, ρ, s, hs => wpAny_pure ⟨ρ, H, pre_refl ρ, hs, h⟩
  | c :: cs, H, Q, h, D, ρ, s, hs => by
    rw [List.forIn_cons]
    simp only [if_true]
    refine wpAny_bind (wpAny_bind (wp_imp (h.go D ρ s hs) fun b s1 ⟨ρ1, H1, p1, hs1, q1⟩ => wpAny_pure ?_))
    cases b with
    | true =>
      simp only [if_true] at q1
      exact wp_imp (tests_sound cs q1 hs1) fun _ _ x => x.step p1
    | false =>
      simp only [Bool.false_eq_true, if_false] at q1
      show wpAny _ _ (forIn cs false _) _ _ _
      rw [tests_false]
      exact wpAny_pure ⟨ρ1, H1, p1, hs1, q1⟩

/-! a comprehension's turns -/
noncomputable def turnTree (target : PySem.Expr) (p : Pos) (ifs : List PySem.Expr) (it : Value) (env : Env) (act : Sem PySem.Fin) (ag : Sem PySem.Fin) : Sem PySem.Fin := do
  standAt p
  match ← pyNext it with
  | none => pure (.done .next)
  | some v =>
    letOwnedTupleGo target it v
    assign target env v
    let mut ok := true
    for c in ifs do
      if ok then ok ← isTrue c env (eval c env)
    if ok then act else ag

noncomputable def TurnC (N : Nat) (next : List LO → Loc → Prop) (H : List LO) (m : Loc) : Prop := ∃ m0 H0, Shed N H m H0 m0 ∧ next H0 m0

theorem codeAny_turns {prog : Program} {w : World} {A : Around} {R : Result → Shared → Prop} {s : Shared} {e target : PySem.Expr} {p : Pos} {ifs : List PySem.Expr} {d : Nat} {it acc : Value} {env : Env} {act : Sem PySem.Fin} (I : Nat → Shared → Prop)
    (hT : compTurn e d it acc env = turnTree target p ifs it env act (again (.compLoop e d it acc env)))
    (hq : (Code.compLoop e d it acc env).quiet = true) (hf : (Code.compLoop e d it acc env).isFrame = false) (hU : A.under (Code.compLoop e d it acc env) = A)
    (turn : ∀ n s, I n s → wpAny (model prog w) A (pyNext it) (fun r s₁ => match r with
      | none => R (.ok .next) s₁
      | some v => wpAny (model prog w) A (letOwnedTupleGo target it v) (fun _ s₀ => wpAny (model prog w) A (assign target env v) (fun _ s₂ =>
          wpAny (model prog w) A (forIn ifs true fun c r => if r = true then do let ok ← isTrue c env (eval c env); pure (ForInStep.yield ok) else pure (ForInStep.yield r)) (fun ok s₃ =>
            if ok = true then wpAny (model prog w) A act (fun f s₅ => f = .again (.compLoop e d it acc env) ∧ ∃ m, m < n ∧ I m s₅) NoE s₃
            else ∃ m, m < n ∧ I m s₃) NoE s₂) NoE s₀) NoE s₁) NoE s)
    (n : Nat) (h : I n s) : codeAny (model prog w) A (.compLoop e d it acc env) R s := by
  refine codeAny_loop hq I (fun n s hI => ?_) n h
  rw [hU]
  show wpAny _ A (if (Code.compLoop e d it acc env).isFrame then (compTurn e d it acc env).onRaise (leaving env) else (compTurn e d it acc env).onRaise (fun x => do noteFrame x env; theTreesLotGoes x)) _ _ s
  rw [hf]
  simp only [Bool.false_eq_true, if_false]
  refine wpAny_noted ?_
  rw [hT]
  unfold turnTree
  refine wpAny_bind (wpAny_standAt (wpAny_bind (wp_imp (turn n s hI) (fun r s₁ h₁ => ?_))))
  cases r with
  | none => exact wpAny_pure h₁
  | some v =>
    refine wpAny_bind (wp_imp h₁ (fun _ s₀ h₀ => ?_))
    refine wpAny_bind (wp_imp h₀ (fun _ s₂ h₂ => wpAny_bind (wp_imp h₂ (fun ok s₃ h₃ => ?_))))
    cases ok with
    | false => exact wpAny_pure ⟨rfl, h₃⟩
    | true => exact wp_imp h₃ fun f s₅ h₅ => by obtain ⟨rfl, h₅⟩ := h₅; exact ⟨rfl, h₅⟩

/-- what is done for a value; the list that grows is at k -/
noncomputable def ActS (C : Cx) (N k : Nat) (fin : PySem.Fin) (act : Sem PySem.Fin) (a : Addr) (Act : List LO → Loc → (List LO → Loc → Prop) → Prop) : Prop :=
  ∀ H m R D ρ s, Act H m R → St { C with n0 := N } D ρ H m s → ρ[k]? = some a → wpAny C.M C.A act (fun f s' => f = fin ∧ ∃ ρ' H' m', ρ.take N <+: ρ' ∧ St { C with n0 := N } D ρ' H' m' s' ∧ R H' m') NoE s

theorem comp_core {C : Cx} {D : Dy} {ρ : List Addr} {H : List LO} {m : Loc} {s : Shared} {e target : PySem.Expr} {p : Pos} {ifs : List PySem.Expr} {d : Nat} {N cnt k : Nat} {I a : Addr} {act : Sem PySem.Fin} {get : Nat → Option LV} {io : Nat → Heap → Prop} {J : List LO → List Addr → Prop}
    {Act : List LO → Loc → (List LO → Loc → Prop) → Prop} {Rf : List LO → Loc → Prop}
    (W : Iter C J I get io) (hN : C.n0 ≤ N) (hkN : k < N) (hka : ρ[k]? = some a) (G : Nat → List LO → Loc → Prop) (hcnt : ∀ i, get i = none ↔ cnt ≤ i)
    (hG : ∀ i H m, G i H m → N ≤ H.length) (hJ : ∀ i H m (ρ' : List Addr), G i H m → ρ.take N <+: ρ' → J H ρ')
    (hs : St C D ρ H m s) (hρ : N ≤ ρ.length) (h0 : G 0 H m) (hio : io 0 s.heap) (hI1 : I ∉ ρ) (hI2 : I ∉ C.own) (hI3 : C.K.B I = none) (hI4 : I ∈ D.ρ0 ∨ D.s0.heap.get? I = none) (hI5 : C.K.tab I = false)
    (hT : compTurn e d (.ref I) (.ref a) C.env = turnTree target p ifs (.ref I) C.env act (again (.compLoop e d (.ref I) (.ref a) C.env)))
    (hq : (Code.compLoop e d (.ref I) (.ref a) C.env).quiet = true) (hf : (Code.compLoop e d (.ref I) (.ref a) C.env).isFrame = false) (hU : C.A.under (Code.compLoop e d (.ref I) (.ref a) C.env) = C.A)
    (hact : ActS C N k (.again (.compLoop e d (.ref I) (.ref a) C.env)) act a Act)
    (turn : ∀ i lv H m, get i = some lv → G i H m → Asg { C with n0 := N } target lv H m fun H1 m1 => TstAll { C with n0 := N } ifs H1 m1 fun b H2 => if b then Act H2 m1 (TurnC N (G (i + 1))) else TurnC N (G (i + 1)) H2 m1)
    (done : ∀ H m, G cnt H m → Rf H m) :
    codeAny C.M C.A (.compLoop e d (.ref I) (.ref a) C.env) (fun r s' => match r with | .ok _ => ∃ ρ' H' m', ρ.take N <+: ρ' ∧ St C D ρ' H' m' s' ∧ Rf H' m' | .error _ => False) s := by
  refine codeAny_turns (fun n s' => ∃ i ρ' H' m', i ≤ cnt ∧ n = cnt + 1 - i ∧ ρ.take N <+: ρ' ∧ St C D ρ' H' m' s' ∧ G i H' m' ∧ io i s'.heap ∧ I ∉ ρ') hT hq hf hU (fun n s1 ⟨i, ρ1, H1, m1, hi, hn, p1, hs1, g1, io1, i1⟩ => ?_) (cnt + 1)
    ⟨0, ρ, H, m, Nat.zero_le _, rfl, List.take_prefix _ _, hs, h0, hio, hI1⟩
  have hN1 : N ≤ ρ1.length := by rw [hs1.hp.len]; exact hG i H1 m1 g1
  have hJ1 : J H1 ρ1 := hJ i H1 m1 ρ1 g1 p1
  have hkt : (ρ.take N)[k]? = some a := by rw [List.getElem?_take_of_lt hkN]; exact hka
  refine wp_imp (W.next i D ρ1 H1 m1 s1 (fun r s₁ => match r with
      | none => ∃ ρ' H' m', ρ.take N <+: ρ' ∧ St C D ρ' H' m' s₁ ∧ Rf H' m'
      | some v => wpAny C.M C.A (letOwnedTupleGo target (.ref I) v) (fun _ s₀ => wpAny C.M C.A (assign target C.env v) (fun _ s₂ =>
          wpAny C.M C.A (forIn ifs true fun c r => if r = true then do let ok ← isTrue c C.env (eval c C.env); pure (ForInStep.yield ok) else pure (ForInStep.yield r)) (fun ok s₃ =>
            if ok = true then wpAny C.M C.A act (fun f s₅ => f = .again (.compLoop e d (.ref I) (.ref a) C.env) ∧ ∃ k, k < n ∧ ∃ i ρ' H' m', i ≤ cnt ∧ k = cnt + 1 - i ∧ ρ.take N <+: ρ' ∧ St C D ρ' H' m' s₅ ∧ G i H' m' ∧ io i s₅.heap ∧ I ∉ ρ') NoE s₃
            else ∃ k, k < n ∧ ∃ i ρ' H' m', i ≤ cnt ∧ k = cnt + 1 - i ∧ ρ.take N <+: ρ' ∧ St C D ρ' H' m' s₃ ∧ G i H' m' ∧ io i s₃.heap ∧ I ∉ ρ') NoE s₂) NoE s₀) NoE s₁) hs1 hJ1 i1 io1 (fun e h' tk kb => ?_) (fun lv v h' tk e r io2 kb => ?_)) (fun r s₁ x => ?_)
  · have hic : i = cnt := Nat.le_antisymm hi ((hcnt i).mp e)
    subst hic
    exact ⟨ρ1, H1, m1, p1, hs1.but kb i1 hI2 hI3 hI4, done H1 m1 g1⟩
  · have hlt : i < cnt := by
      rcases Nat.lt_or_ge i cnt with q | q
      · exact q
      · rw [(hcnt i).mpr q] at e; cases e
    have hs2 : St C D ρ1 H1 m1 { s1 with heap := h', toks := tk } := hs1.but kb i1 hI2 hI3 hI4
    have hin := hs2.inner (N := N) (by rw [← hs1.hp.len]; exact hN1)
    have fin : ∀ ρ4 H4 m4 s4, ρ1.take N <+: ρ4 → St { C with n0 := N } ⟨{ s1 with heap := h', toks := tk }, ρ1⟩ ρ4 H4 m4 s4 → TurnC N (G (i + 1)) H4 m4 →
        ∃ k, k < n ∧ ∃ i ρ' H' m', i ≤ cnt ∧ k = cnt + 1 - i ∧ ρ.take N <+: ρ' ∧ St C D ρ' H' m' s4 ∧ G i H' m' ∧ io i s4.heap ∧ I ∉ ρ' := by
      intro ρ4 H4 m4 s4 p14 hs4 q4
      obtain ⟨m5, H5, sb, q5⟩ := q4
      obtain ⟨ρ5, p5, n5, hs5⟩ := Shed.st (C := { C with n0 := N }) sb hs4
      have pN : ρ.take N <+: ρ4 := take_step hρ p1 p14
      have hI4' : I ∉ ρ4 := fun hm => by
        rcases hs4.new I hm with q | q
        · exact i1 q
        · obtain ⟨o, ho⟩ := W.alive _ _ io2
          have q' : h'.get? I = none := q
          rw [q'] at ho; cases ho
      have io4 : io (i + 1) s4.heap := W.at_ _ _ _ io2 fun o ho => hs4.kp.keep I o ho i1 (fun w => hI2 (Cx.wr_own (C := C) w)) hI5
      exact ⟨cnt + 1 - (i + 1), by omega, i + 1, ρ5, H5, m5, hlt, rfl, take_step hρ pN p5, hs2.outer hN hs5, q5, io4, fun hm => hI4' (n5 _ hm)⟩
    obtain ⟨oI, hoI, hpI⟩ := W.plain _ _ io2
    refine let_owned (s := { s1 with heap := h', toks := tk }) hoI hpI ?_
    refine wp_imp ((turn i lv H1 m1 e g1).go _ ρ1 _ v hin r) fun _ s3 ⟨ρ3, H3, m3, p3, hs3, q3⟩ => ?_
    refine wp_imp (tests_sound ifs q3 hs3) fun b s4 ⟨ρ4, H4, p4, hs4, q4⟩ => ?_
    have p14 : ρ1 <+: ρ4 := pre_trans p3 p4
    cases b with
    | true =>
      simp only [if_true] at q4 ⊢
      have hk4 : ρ4[k]? = some a := pre_get (pre_trans p1 p14) hkt
      exact wp_imp (hact H4 m3 _ _ ρ4 s4 q4 hs4 hk4) fun f s5 ⟨ef, ρ5, H5, m5, p5, hs5, q5⟩ => ⟨ef, fin ρ5 H5 m5 s5 (take_step hN1 (take_of_pre p14) p5) hs5 q5⟩
    | false =>
      simp only [Bool.false_eq_true, if_false] at q4 ⊢
      exact fin ρ4 H4 m3 s4 (take_of_pre p14) hs4 q4
  · cases r with
    | none => exact x
    | some v => exact wp_imp x fun _ _ x => wp_imp x fun _ _ y => wp_imp y fun f _ z => by cases f <;> exact z

/-! text PL10 -/
/-! what is iterated -/
noncomputable def Over (C : Cx) (H : List LO) (a : LV) (N : Nat) (run : Nat → (Nat → Option LV) → (List LO → Prop) → Prop) : Prop :=
  (∃ k xs, a = .obj k ∧ H[k]? = some (.list xs) ∧ k < N ∧ run xs.length (fun i => xs[i]?) (fun H => H[k]? = some (.list xs)))
  ∨ (∃ (k : Nat) (x y : Int), a = .obj k ∧ H[k]? = some (.flds (.type "range") [.int x, .int y, .int 1]) ∧ -2 ^ 62 ≤ x ∧ x < 2 ^ 62 ∧ -2 ^ 62 ≤ y ∧ y < 2 ^ 62 ∧ run (y - x).toNat (fun i => if i < (y - x).toNat then some (.int (x + i)) else none) (fun _ => True))
  ∨ (∃ (k : Nat) (n : Nat), a = .obj k ∧ H[k]? = some (.flds (.type "range") [.int ((n : Int) - 1), .int (-1), .int (-1)]) ∧ (n : Int) < 2 ^ 61 ∧ run n (fun i => if i < n then some (.int ((n : Int) - 1 - i)) else none) (fun _ => True))
  ∨ (∃ xs : List Nat, a = .str (S xs) ∧ run xs.length (fun i => (xs[i]?).map fun c => .str (S [c])) (fun _ => True))

theorem over_list {C : Cx} {H : List LO} {N k : Nat} {xs : List LV} {run : Nat → (Nat → Option LV) → (List LO → Prop) → Prop} (hk : H[k]? = some (.list xs)) (hN : k < N) (h : run xs.length (fun i => xs[i]?) (fun H => H[k]? = some (.list xs))) : Over C H (.obj k) N run :=
  .inl ⟨k, xs, rfl, hk, hN, h⟩
theorem over_str {C : Cx} {H : List LO} {N : Nat} {xs : List Nat} {run : Nat → (Nat → Option LV) → (List LO → Prop) → Prop} (h : run xs.length (fun i => (xs[i]?).map fun c => .str (S [c])) (fun _ => True)) : Over C H (.str (S xs)) N run :=
  .inr (.inr (.inr ⟨xs, rfl, h⟩))

theorem over_iter {C : Cx} {D : Dy} {ρ : List Addr} {H : List LO} {m : Loc} {s : Shared} {a : LV} {va : Value} {N : Nat} {run : Nat → (Nat → Option LV) → (List LO → Prop) → Prop} {P : Value → Shared → Prop}
    (hs : St C D ρ H m s) (r : VR ρ a va) (h : Over C H a N run)
    (k : ∀ (J : List LO → List Addr → Prop) (io : Nat → Heap → Prop) (get : Nat → Option LV) (cnt : Nat) (keep : List LO → Prop) (h' : Heap) (t : Tok), (∀ C2 : Cx, C2.A.handled = none → Iter C2 J s.heap.objs.size get io) → run cnt get keep → (∀ i, get i = none ↔ cnt ≤ i) → (∀ H ρ', keep H → ρ.take N <+: ρ' → J H ρ') →
      (∀ b o, s.heap.get? b = some o → h'.get? b = some o) → io 0 h' → P (.ref s.heap.objs.size) { s with heap := h', toks := t }) : wpAny C.M C.A (pyIter va) P NoE s := by
  rcases h with ⟨j, xs, rfl, hj, hN, h⟩ | ⟨j, x, y, rfl, hj, hx1, hx2, hy1, hy2, h⟩ | ⟨j, n, rfl, hj, hn, h⟩ | ⟨xs, rfl, h⟩
  · obtain ⟨l, vs, n, e, ea, eo, rv⟩ := hs.seq hj r
    subst e
    refine wpAny_pyIter_list (items := vs.toArray) ⟨_, eo, rfl, _, rfl⟩ ?_
    exact k _ _ _ _ _ _ s.toks (fun C2 hA => iter_list hA j xs l s.heap.objs.size) h (fun i => by rw [List.getElem?_eq_none_iff]) (fun H' ρ' hk' p => ⟨hk', pre_get p (by rw [List.getElem?_take_of_lt hN]; exact ea)⟩) (fun b o e => Heap.get?_push_of_some _ e) ⟨_, Heap.get?_push_size _ rfl, rfl, rfl⟩
  · cases r with
    | obj _ b eb =>
    obtain ⟨vs, eo, rv⟩ := hs.hp.objs j b _ eb hj
    obtain ⟨u, v, w, rfl, ra, rb, rc⟩ := VRs.three rv
    cases ra with
    | int _ t1 =>
    cases rb with
    | int _ t2 =>
    cases rc with
    | int _ t3 =>
    refine wpAny_pyIter_range (a := x) (b := y) (c := 1) eo (small_one hx1 hx2 hy1 hy2) ?_
    have e1 : Builtin.Range.rangeSize x y 1 = ((y - x).toNat : Int) := by
      unfold Builtin.Range.rangeSize
      simp only [show (1 : Int) > 0 by decide, if_true, Int.ediv_one]
      split <;> (first | lia | omega)
    refine k _ _ _ _ _ _ s.toks (fun C2 hA => iter_range hA x (y - x).toNat s.heap.objs.size) h (fun i => by by_cases hi : i < (y - x).toNat <;> simp [hi] <;> (first | lia | omega)) (fun _ _ _ _ => trivial) (fun b o e => Heap.get?_push_of_some _ e) ?_
    show IsRangeIter _ _ _ _ _
    rw [e1]
    have e2 : x + ((0 : Nat) : Int) = x := by (first | lia | omega)
    have e3 : ((y - x).toNat : Int) - ((0 : Nat) : Int) = ((y - x).toNat : Int) := by (first | lia | omega)
    rw [e2, e3]
    exact Heap.get?_push_size _ rfl
  · cases r with
    | obj _ b eb =>
    obtain ⟨vs, eo, rv⟩ := hs.hp.objs j b _ eb hj
    obtain ⟨u, v, w, rfl, ra, rb, rc⟩ := VRs.three rv
    cases ra with
    | int _ t1 =>
    cases rb with
    | int _ t2 =>
    cases rc with
    | int _ t3 =>
    have e1 : Builtin.Range.rangeSize ((n : Int) - 1) (-1) (-1) = (n : Int) := by
      unfold Builtin.Range.rangeSize
      simp only [show ¬ ((-1 : Int) > 0) by decide, if_false, show (- -1 : Int) = 1 by decide, Int.ediv_one]
      split <;> (first | lia | omega)
    have hsm : Builtin.Range.small ((n : Int) - 1) (-1) (-1) = true := by
      unfold Builtin.Range.small
      rw [e1]
      simp only [Builtin.Range.rangeFitsLong, Bool.and_eq_true, Bool.or_eq_true, decide_eq_true_eq, beq_iff_eq, show ¬ ((-1 : Int) > 0) by decide, if_false]
      (first | lia | omega)
    refine wpAny_pyIter_range (a := (n : Int) - 1) (b := -1) (c := -1) eo hsm ?_
    refine k _ _ _ _ _ _ s.toks (fun C2 hA => iter_rangeD hA ((n : Int) - 1) n s.heap.objs.size) h (fun i => by by_cases hi : i < n <;> simp [hi] <;> (first | lia | omega)) (fun _ _ _ _ => trivial) (fun b o e => Heap.get?_push_of_some _ e) ?_
    show IsRangeIter _ _ _ _ _
    rw [e1]
    have e2 : (n : Int) - 1 - ((0 : Nat) : Int) = (n : Int) - 1 := by (first | lia | omega)
    have e3 : (n : Int) - ((0 : Nat) : Int) = (n : Int) := by (first | lia | omega)
    rw [e2, e3]
    exact Heap.get?_push_size _ rfl
  · cases r with
    | str _ t =>
    refine wpAny_pyIter_strU ?_
    have hT : strIterType (S xs) = "str_ascii_iterator" ∨ strIterType (S xs) = "str_iterator" := by unfold strIterType; split <;> simp
    exact k _ _ _ _ _ _ s.toks (fun C2 hA => iter_str hA xs t _ hT s.heap.objs.size) h (fun i => by simp) (fun _ _ _ _ => trivial) (fun b o e => Heap.get?_push_of_some _ e) ⟨_, Heap.get?_push_size _ rfl, rfl, rfl⟩

theorem x_For {C : Cx} {H : List LO} {m : Loc} {Q : LF → List LO → Loc → Prop} {target iter : PySem.Expr} {body : List Stmt} {pos : Pos} (hA : C.A.handled = none)
    (h : Ev C iter H m fun a H1 => ∃ N, Over C H1 a N fun cnt get keep => Turns C target body N keep cnt get H1 m Q)
    (hf : ∀ x, foldedSetIterable iter C.env x = pure x := by intro _; rfl) (ht : ∀ o v, letOwnedTupleGo target o v = pure () := by intro _ _; rfl) : X C (.For target iter body [] pos) H m Q := by
  refine .mk fun D ρ s hs => ?_
  refine wpAny_For (wp_imp (h.go D ρ s hs) fun v s1 ⟨ρ1, H1, lv, p1, hs1, r1, N, q1⟩ => ?_) hf
  refine over_iter hs1 r1 q1 fun J io get cnt keep h' t W T hc hJ hk hio => ?_
  obtain ⟨i1, i2, i3, i4, i5⟩ := hs1.iterAt
  exact x_for_core (iter := iter) (pos := pos) (W C hA) hc T hJ (hs1.grow hk) (take_of_pre p1) hs.sz hio i1 i2 i3 i4 i5 (fun v => ht _ v)

/-! the block of a comprehension -/
noncomputable def clOf (scope : Scope) (env : Env) : List (Str × Addr) := scope.names.foldl (fun cs x => if x.2 == .free then (match env.cells.lookup x.1 with | some a => (x.1, a) :: cs | none => cs) else cs) []
theorem cl_sub {scope : Scope} {env : Env} : ∀ p ∈ clOf scope env, env.cells.lookup p.1 = some p.2 := by
  unfold clOf
  have : ∀ (ns : List (Str × NameKind)) (cs : List (Str × Addr)), (∀ p ∈ cs, env.cells.lookup p.1 = some p.2) → ∀ p ∈ ns.foldl (fun cs x => if x.2 == .free then (match env.cells.lookup x.1 with | some a => (x.1, a) :: cs | none => cs) else cs) cs, env.cells.lookup p.1 = some p.2 := by
    intro ns
    induction ns with
    | nil => intro cs h p hp; exact h p hp
    | cons x ns ih =>
      intro cs h p hp
      refine ih _ ?_ p hp
      dsimp only
      split
      · split
        · rename_i a ea
          intro q hq
          rcases List.mem_cons.mp hq with rfl | hq
          · exact ea
          · exact h q hq
        · exact h
      · exact h
  exact this _ _ (by simp)

noncomputable abbrev compC (C : Cx) (scope : Scope) (L : Addr) (N : Nat) : Cx := ⟨C.K, C.A, compEnvC scope (clOf scope C.env) L C.env, N⟩

theorem comp_start {C : Cx} {D : Dy} {ρ1 ρ : List Addr} {H : List LO} {m mf : Loc} {s1 s : Shared} {scope : Scope} {N : Nat} {h₁ : Heap} {t : Tok} (hs : St C D ρ H m s) (hns : h₁.Ns s.heap.objs.size fun _ => none)
    (hk1 : ∀ b o, s1.heap.get? b = some o → s.heap.get? b = some o) (hos : s.os = s1.os) (hnew : ∀ a ∈ ρ, a ∈ ρ1 ∨ s1.heap.get? a = none)
    (hk : ∀ b o, s.heap.get? b = some o → h₁.get? b = some o) (hsub : Sub mf m) (hmf : ∀ x lv, lget mf x = some lv → (compEnvC scope (clOf scope C.env) s.heap.objs.size C.env).kindOf x ≠ some .local) (hN : N ≤ H.length) :
    St (compC C scope s.heap.objs.size N) ⟨s1, ρ1⟩ ρ H mf { s with heap := h₁, toks := t } := by
  have hcm : ∀ c ∈ (clOf scope C.env).map (·.2), c ∈ C.env.cells.map (·.2) := by
    intro c hc
    obtain ⟨p, hp, rfl⟩ := List.mem_map.mp hc
    exact List.mem_map.mpr ⟨(p.1, p.2), mem_of_lookup (cl_sub p hp), rfl⟩
  have hL := hs.iterAt
  refine ⟨⟨fun a o e => hk a o (hs.hp.base a o e), hs.hp.len, fun j a lo e e' => (hs.hp.objs j a lo e e').at (pre_refl ρ) fun o => hk a o, hs.hp.nd, hs.hp.own, hs.hp.gens⟩, ⟨_, hns, fun x lv e e' => absurd e' (hmf x lv e)⟩, fun x c e => ?_, ?_, ?_, ?_, ?_,
    ⟨fun b o e _ _ _ => hk b o (hk1 b o e), hos⟩, hnew, ?_⟩
  · have e2 := cl_sub (x, c) (mem_of_lookup e)
    obtain ⟨v, ⟨o, ho, hd⟩, q⟩ := hs.cl x c e2
    exact ⟨v, ⟨o, hk c o ho, hd⟩, fun lv el => q lv (hsub x lv el)⟩
  · intro hm
    obtain ⟨o, ho⟩ := hs.alive _ (List.mem_cons_of_mem _ (hcm _ hm))
    exact absurd (Heap.lt_size ho) (Nat.lt_irrefl _)
  · intro h; cases h
  · intro a ha
    rcases List.mem_cons.mp ha with e | ha
    · obtain ⟨o, _, _, ho, _⟩ := hns
      exact ⟨o, e ▸ ho⟩
    · obtain ⟨o, ho⟩ := hs.alive _ (List.mem_cons_of_mem _ (hcm _ ha))
      exact ⟨o, hk a o ho⟩
  · intro a ha
    rcases List.mem_cons.mp ha with e | ha
    · exact e ▸ ⟨hL.1, hL.2.2.1, hL.2.2.2.2⟩
    · exact hs.off a (List.mem_cons_of_mem _ (hcm _ ha))
  · show N ≤ ρ.length
    rw [hs.hp.len]; exact hN

theorem comp_end {C : Cx} {D : Dy} {ρ ρ2 : List Addr} {H H2 : List LO} {m m2 : Loc} {s s2 : Shared} {scope : Scope} {L : Addr} {N : Nat} {h'' : Heap} {t2 : Tok} (hs : St C D ρ H m s)
    (hLn : s.heap.get? L = none) (hN : C.n0 ≤ N) (hp2 : ρ <+: ρ2) (h2 : St (compC C scope L N) ⟨s, ρ⟩ ρ2 H2 m2 s2) (hb : Heap.SameBut L s2.heap h'') : St C D ρ2 H2 m { s2 with heap := h'', toks := t2 } := by
  have hL : L ∉ ρ2 := (h2.off _ (.head _)).1
  have hLB : C.K.B L = none := (h2.off _ (.head _)).2.1
  have k2 : ∀ b o, b ≠ L → s2.heap.get? b = some o → h''.get? b = some o := fun b o hb' e => (hb.2 b hb').trans e
  have k3 : ∀ b o, s.heap.get? b = some o → b ∉ ρ → C.K.tab b = false → h''.get? b = some o := fun b o e h1 h3 => by
    have hbL : b ≠ L := fun q => by rw [q, hLn] at e; cases e
    refine k2 b o hbL (h2.kp.keep b o e h1 ?_ h3)
    show b ∉ _ :: _
    simp [compEnvC, hbL]
  have off2 : ∀ a ∈ C.own, a ∉ ρ2 := fun a ha hm => by
    obtain ⟨o, ho⟩ := hs.alive a ha
    rcases h2.new a hm with q | q
    · exact (hs.off a ha).1 q
    · have q : s.heap.get? a = none := q
      rw [ho] at q; cases q
  refine ⟨⟨fun a o e => k2 a o (fun q => by rw [q, hLB] at e; cases e) (h2.hp.base a o e), h2.hp.len, fun j a lo e e' => (h2.hp.objs j a lo e e').at (pre_refl ρ2) fun o => k2 a o (fun q => hL (q ▸ List.mem_of_getElem? e)), h2.hp.nd, h2.hp.own, h2.hp.gens⟩, ?_, fun x c e => ?_, hs.nd, hs.nd2, fun a ha => ?_, fun a ha => ⟨off2 a ha, (hs.off a ha).2⟩, ⟨fun b o e h1 h2' h3 => ?_, ?_⟩, fun a ha => ?_, Nat.le_trans hN h2.sz⟩
  · obtain ⟨mm, ⟨o, es, ep, ho, r⟩, q⟩ := hs.ns
    have hl := hs.off C.env.locals (.head _)
    refine ⟨mm, ⟨o, es, ep, k3 _ o ho hl.1 hl.2.2, r⟩, fun x lv e e' => ?_⟩
    obtain ⟨v, a, b⟩ := q x lv e e'
    exact ⟨v, a, b.mono hp2⟩
  · obtain ⟨v, ⟨o, ho, hd⟩, q⟩ := hs.cl x c e
    have hm : c ∈ C.own := List.mem_cons_of_mem _ (List.mem_map.mpr ⟨(x, c), mem_of_lookup e, rfl⟩)
    have hl := hs.off c hm
    exact ⟨v, ⟨o, k3 c o ho hl.1 hl.2.2, hd⟩, fun lv el => let ⟨v', a, b⟩ := q lv el; ⟨v', a, b.mono hp2⟩⟩
  · obtain ⟨o, ho⟩ := hs.alive a ha
    exact ⟨o, k3 a o ho (hs.off a ha).1 (hs.off a ha).2.2⟩
  · have e1 := hs.kp.keep b o e h1 h2' h3
    refine k3 b o e1 (fun hm => ?_) h3
    rcases hs.new b hm with q | q
    · exact h1 q
    · rw [q] at e; cases e
  · exact h2.kp.os.trans hs.kp.os
  · rcases h2.new a ha with q | q
    · exact hs.new a q
    · by_cases hr : a ∈ D.ρ0
      · exact .inl hr
      · right
        cases e : D.s0.heap.get? a with
        | none => rfl
        | some o =>
          have := hs.kp.keep a o e hr (fun hm => off2 a (Cx.wr_own hm) ha) (h2.hp.own a ha).2
          have q' : s.heap.get? a = none := q
          rw [this] at q'; cases q'

/-! the acts -/
noncomputable def emitAct (elt : PySem.Expr) (acc : Value) (env : Env) (c : Code) : Sem PySem.Fin := (do let _ ← call (.builtin "list.append") [acc, ← eval elt env]) >>= fun _ : Unit => again c
noncomputable def Emit (C : Cx) (elt : PySem.Expr) (k : Nat) (H : List LO) (m : Loc) (R : List LO → Loc → Prop) : Prop :=
  Ev C elt H m fun y H1 => ∃ ys, H1[k]? = some (.list ys) ∧ ys.length ≤ sizeLine ∧ R (H1.set k (.list (ys ++ [y]))) m
theorem emit_act {C : Cx} {N k : Nat} {a : Addr} {elt : PySem.Expr} {c : Code} (hk : k < N) : ActS C N k (.again c) (emitAct elt (.ref a) C.env c) a (fun H m R => Emit { C with n0 := N } elt k H m R) := by
  intro H m R D ρ s h hs hka
  refine wpAny_bind (wpAny_bind (wp_imp (h.go D ρ s hs) fun v s1 ⟨ρ1, H1, y, p1, hs1, r1, ys, e1, e2, e3⟩ => ?_))
  refine wpAny_bind (wp_imp ((blt_append (C := { C with n0 := N }) (m := m) (x := y) (Q := fun _ H' => R H' m) e1 e2 e3).go D ρ1 s1 [.ref a, v] hs1 ⟨.obj k a (pre_get p1 hka), r1, trivial⟩) fun _ s2 ⟨ρ2, H2, lv, p2, hs2, r2, q2⟩ => ?_)
  exact wpAny_pure (wpAny_pure ⟨rfl, ρ2, H2, m, take_of_pre (pre_trans p1 p2), hs2, q2⟩)

/-- the turns of a block -/
noncomputable def CT (C : Cx) (target : PySem.Expr) (ifs : List PySem.Expr) (N : Nat) (Act : List LO → Loc → (List LO → Loc → Prop) → Prop) (cnt : Nat) (get : Nat → Option LV) (keep : List LO → Prop) (H : List LO) (m : Loc) (Rf : List LO → Loc → Prop) : Prop :=
  ∃ G : Nat → List LO → Loc → Prop, G 0 H m ∧ (∀ i H m, G i H m → N ≤ H.length ∧ keep H) ∧
    (∀ i x H m, get i = some x → G i H m → Asg C target x H m fun H1 m1 => TstAll C ifs H1 m1 fun b H2 => if b then Act H2 m1 (TurnC N (G (i + 1))) else TurnC N (G (i + 1)) H2 m1) ∧ ∀ H m, G cnt H m → Rf H m

/-- the way into a block: what follows the first iterable -/
noncomputable def Block (C : Cx) (scope : Scope) (a : LV) (H : List LO) (m : Loc) (run : Addr → Nat → (Nat → Option LV) → (List LO → Prop) → List LO → Loc → Prop) : Prop :=
  ∃ mf, Sub mf m ∧ (∀ L x lv, lget mf x = some lv → (compEnvC scope (clOf scope C.env) L C.env).kindOf x ≠ some .local) ∧ Over C H a (H.length + 1) fun cnt get keep => ∀ L, run L cnt get keep (H ++ [.list []]) mf

theorem block_sound {C : Cx} {D : Dy} {ρ : List Addr} {H : List LO} {m : Loc} {s : Shared} {e target iter : PySem.Expr} {ifs : List PySem.Expr} {rest : List Comprehension} {elt : PySem.Expr} {scope : Scope} {pos p : Pos} {a : LV} {va : Value}
    {Act : Addr → Addr → List LO → Loc → (List LO → Loc → Prop) → Prop} {act : Addr → Addr → Addr → Sem PySem.Fin} {Rf : List LO → Prop} {P : Value → Addr → Shared → Prop}
    (hA : C.A.handled = none) (he : e = .ListComp elt (⟨target, iter, ifs, 0⟩ :: rest) scope pos) (hkind : scope.kind = .function) (hcell : ∀ x ∈ scope.names, x.2 ≠ .cell)
    (hT : ∀ L I a, compTurn e 0 (.ref I) (.ref a) (compC C scope L (H.length + 1)).env = turnTree target p ifs (.ref I) (compC C scope L (H.length + 1)).env (act L I a) (again (.compLoop e 0 (.ref I) (.ref a) (compC C scope L (H.length + 1)).env)))
    (hact : ∀ L I a, ActS (compC C scope L (H.length + 1)) (H.length + 1) H.length (.again (.compLoop e 0 (.ref I) (.ref a) (compC C scope L (H.length + 1)).env)) (act L I a) a (Act L a))
    (hs : St C D ρ H m s) (r : VR ρ a va)
    (h : Block C scope a H m fun L cnt get keep H2 m2 => ∀ ac, CT (compC C scope L (H.length + 1)) target ifs (H.length + 1) (Act L ac) cnt get keep H2 m2 fun H3 _ => Rf H3)
    (fin : ∀ (L ac : Addr) (ρ2 : List Addr) (H2 : List LO) (s2 : Shared), ρ <+: ρ2 → ρ2[H.length]? = some ac → Rf H2 → (∃ mm, s2.heap.Ns L mm) → (∀ h' t, Heap.SameBut L s2.heap h' → St C D ρ2 H2 m { s2 with heap := h', toks := t }) → s.heap.get? L = none → L ∉ ρ2 ∧ C.K.B L = none ∧ C.K.tab L = false → P (.ref ac) L s2) :
    wpAny C.M C.A (pyIter va) (fun it s₂ => wpAny C.M C.A (newList []) (fun acc s₃ => wpAny C.M C.A (newFunctionEnv scope C.env.globals (clOf scope C.env) [] C.env.qual none .none (some C.env)) (fun cenv s₄ =>
      codeAny C.M C.A (.compStart e 0 it acc { cenv with scope := relabel scope C.env }) (fun r s' => match r with | .ok _ => P acc cenv.locals s' | .error _ => False) s₄) NoE s₃) NoE s₂) NoE s := by
  obtain ⟨mf, hsub, hmf, hov⟩ := h
  subst he
  have hlen := hs.hp.len
  refine over_iter hs r hov fun J io get cnt keep h' t W run hcnt hJ hk hio => ?_
  have hs1 := hs.grow (t := t) hk
  refine wpAny_newObj_type ?_
  have hs2 := hs1.alloc (h' := h'.push { cls := .type "list", data := .seq ([] : List Value).toArray }) (t := t) (lo := .list []) (fun b o e => Heap.get?_push_of_some _ e) ⟨[], 0, Heap.get?_push_size _ rfl, trivial⟩
  refine wpAny_newFunctionEnv hcell (by intro y hy; simp at hy) (fun h₁ hns₁ hsb₁ => ?_) hkind
  dsimp only at hns₁ hsb₁ hs2 ⊢
  obtain ⟨i1, i2, i3, i4, i5⟩ := hs.iterAt
  have hIo : ∃ o, h'.get? s.heap.objs.size = some o := (W C hA).alive 0 _ hio
  obtain ⟨oI, hoI⟩ := hIo
  have hacI : h'.objs.size ≠ s.heap.objs.size := fun q => absurd (Heap.lt_size hoI) (by rw [q]; exact Nat.lt_irrefl _)
  generalize hH2 : h'.push { cls := .type "list", dict := none, data := .seq ([] : List Value).toArray } = h2 at hns₁ hsb₁ hs2 ⊢
  have hk12 : ∀ b o, h'.get? b = some o → h2.get? b = some o := fun b o e => by rw [← hH2]; exact Heap.get?_push_of_some _ e
  have hkL : ∀ b o, h2.get? b = some o → b ≠ h2.objs.size := fun b o e q => absurd (Heap.lt_size e) (by rw [q]; exact Nat.lt_irrefl _)
  have hk2 : ∀ b o, h2.get? b = some o → h₁.get? b = some o := fun b o e => hsb₁.extBut b o (hkL b o e) (Heap.get?_push_of_some _ e)
  have hin := comp_start (s1 := s) (ρ1 := ρ) (mf := mf) (N := H.length + 1) (t := t + 0) (scope := scope) hs2 hns₁ (fun b o e => hk12 b o (hk b o e)) rfl (fun a ha => by
    rcases List.mem_append.mp ha with ha | ha
    · exact .inl ha
    · simp only [List.mem_singleton] at ha
      subst ha
      right
      cases e : s.heap.get? h'.objs.size with
      | none => rfl
      | some o => exact absurd (Heap.lt_size (hk _ _ e)) (Nat.lt_irrefl _)) hk2 hsub (hmf _) (by simp)
  dsimp only at hin
  have hIρ : s.heap.objs.size ∉ ρ ++ [h'.objs.size] := fun hm => by
    rcases List.mem_append.mp hm with hm | hm
    · exact i1 hm
    · simp only [List.mem_singleton] at hm
      exact hacI hm.symm
  have hIown : s.heap.objs.size ∉ Cx.own (compC C scope h2.objs.size (H.length + 1)) := fun hm => by
    rcases List.mem_cons.mp hm with hm | hm
    · exact hkL _ _ (hk12 _ _ hoI) hm
    · obtain ⟨p, hp, e⟩ := List.mem_map.mp hm
      exact i2 (List.mem_cons_of_mem _ (List.mem_map.mpr ⟨(p.1, p.2), mem_of_lookup (cl_sub p hp), e⟩))
  have hac : (ρ ++ [h'.objs.size])[H.length]? = some h'.objs.size := by
    rw [← hlen, List.getElem?_append_right (Nat.le_refl _)]; simp
  obtain ⟨G, g0, g1, g2, g3⟩ := run h2.objs.size h'.objs.size
  have hlt : (ρ ++ [h'.objs.size]).length = H.length + 1 := by simp [hlen]
  have hLn : s.heap.get? h2.objs.size = none := by
    cases e : s.heap.get? h2.objs.size with
    | none => rfl
    | some o => exact absurd (Heap.lt_size (hk12 _ _ (hk _ _ e))) (Nat.lt_irrefl _)
  have loop : codeAny C.M C.A (.compLoop (.ListComp elt (⟨target, iter, ifs, 0⟩ :: rest) scope pos) 0 (.ref s.heap.objs.size) (.ref h'.objs.size) (compC C scope h2.objs.size (H.length + 1)).env)
      (fun r s' => match r with | .ok _ => P (.ref h'.objs.size) h2.objs.size s' | .error _ => False) { s with heap := h₁, toks := t + 0 } := by
    refine codeAny_mono (comp_core (C := compC C scope h2.objs.size (H.length + 1)) (W _ hA) (Nat.le_refl _) (Nat.lt_succ_self _) hac G hcnt (fun i H m g => (g1 i H m g).1) (fun i H' m ρ' g p => hJ H' ρ' (g1 i H' m g).2 ?_) hin
      (by rw [hlt]; exact Nat.le_refl _) g0 ((W C hA).at_ 0 h' h₁ hio fun o e => hk2 _ _ (hk12 _ _ e)) hIρ hIown i3 (.inr (fresh_size _)) i5 (hT _ _ _) rfl rfl rfl (hact _ _ _) g2 g3 ) fun r s' x => ?_
    · refine List.IsPrefix.trans ?_ p
      rw [List.take_of_length_le (by (first | lia | omega)), List.take_of_length_le (Nat.le_of_eq hlt)]
      exact List.prefix_append _ _
    · cases r with
      | error _ => exact x
      | ok f =>
        obtain ⟨ρ', H', m', p', hs', q'⟩ := x
        rw [List.take_of_length_le (Nat.le_of_eq hlt)] at p'
        have pρ : ρ <+: ρ' := (List.prefix_append _ _).trans p'
        refine fin _ _ ρ' H' s' pρ (pre_get p' hac) q' ?_ (fun h'' t hb => comp_end hs hLn ?_ pρ hs' hb) hLn (hs'.off _ (.head _))
        · obtain ⟨mm, hn, _⟩ := hs'.ns
          exact ⟨mm, hn⟩
        · have := hs.sz
          (first | lia | omega)
  refine codeAny_compStart_list loop (wp_imp ((W C hA).self 0 { s with heap := h₁, toks := t + 0 } (fun it' s' => it' = .ref s.heap.objs.size ∧ s' = { s with heap := h₁, toks := t + 0 }) ((W C hA).at_ 0 h' h₁ hio fun o e => hk2 _ _ (hk12 _ _ e)) ⟨rfl, rfl⟩) fun it' s' hh => ?_)
  obtain ⟨rfl, rfl⟩ := hh
  exact loop

/-! text PL11 -/
/-- what a block runs, over what its first iterable gives -/
noncomputable def BlockRun (C : Cx) (scope : Scope) (target : PySem.Expr) (ifs : List PySem.Expr) (Act : Nat → Addr → Addr → List LO → Loc → (List LO → Loc → Prop) → Prop) (a : LV) (H : List LO) (m : Loc) (Q : LV → List LO → Prop) : Prop :=
  Block C scope a H m fun L cnt get keep H2 m2 => ∀ ac, CT (compC C scope L (H.length + 1)) target ifs (H.length + 1) (Act H.length L ac) cnt get keep H2 m2 fun H3 _ => Q (.obj H.length) H3

section
variable {C : Cx} {H : List LO} {m : Loc} {target iter elt : PySem.Expr} {ifs : List PySem.Expr} {rest : List Comprehension} {scope : Scope} {pos p : Pos} {act : Nat → Addr → Addr → Addr → Sem PySem.Fin} {Act : Nat → Addr → Addr → List LO → Loc → (List LO → Loc → Prop) → Prop}

structure CompOk (C : Cx) (scope : Scope) (iter : PySem.Expr) : Prop where
  hA : C.A.handled = none
  kind : scope.kind = .function
  cell : ∀ x ∈ scope.names, x.2 ≠ .cell
  names : ∀ x ∈ scope.names, x.2 = .local → scope.names.lookup x.1 = some .local
  clos : closureFor scope C.env = pure (clOf scope C.env)
  fold : ∀ x, foldedSetIterable iter C.env x = pure x

theorem ev_comp {Q : LV → List LO → Prop} (ok : CompOk C scope iter) (h : Ev C iter H m fun a H1 => BlockRun C scope target ifs Act a H1 m Q)
    (hT : ∀ k L I a, compTurn (.ListComp elt (⟨target, iter, ifs, 0⟩ :: rest) scope pos) 0 (.ref I) (.ref a) (compC C scope L (k + 1)).env = turnTree target p ifs (.ref I) (compC C scope L (k + 1)).env (act k L I a) (again (.compLoop (.ListComp elt (⟨target, iter, ifs, 0⟩ :: rest) scope pos) 0 (.ref I) (.ref a) (compC C scope L (k + 1)).env)))
    (hact : ∀ k L I a, ActS (compC C scope L (k + 1)) (k + 1) k (.again (.compLoop (.ListComp elt (⟨target, iter, ifs, 0⟩ :: rest) scope pos) 0 (.ref I) (.ref a) (compC C scope L (k + 1)).env)) (act k L I a) a (Act k L a)) : Ev C (.ListComp elt (⟨target, iter, ifs, 0⟩ :: rest) scope pos) H m Q := by
  refine .mk fun D ρ s hs => ?_
  rw [eval_ListComp]
  refine wpAny_comprehension_free (use := none) rfl ok.fold ok.clos ok.kind ok.names (wp_imp (h.go D ρ s hs) fun va s1 ⟨ρ1, H1, a, p1, hs1, r1, q1⟩ => ?_)
  refine wp_imp (block_sound (P := fun acc L s' => ∃ mm, s'.heap.Ns L mm ∧ ∀ h', Heap.SameBut L s'.heap h' → Post C D ρ m Q acc { s' with heap := h' }) (Rf := fun H3 => Q (.obj H1.length) H3)
    ok.hA rfl ok.kind ok.cell (fun L I a => hT H1.length L I a) (fun L I a => hact H1.length L I a) hs1 r1 q1 fun L ac ρ2 H2 s2 pρ e q ns k hL hoff => ?_) fun it s₂ x => wp_imp x fun acc s₃ y => wp_imp y fun cenv s₄ z => codeAny_mono z fun r s' u => ?_
  · obtain ⟨mm, hn⟩ := ns
    exact ⟨mm, hn, fun h' hb => ⟨ρ2, H2, _, pre_trans p1 pρ, k h' s2.toks hb, .obj _ _ e, q⟩⟩
  · cases r with
    | error _ => exact u.elim
    | ok f => exact u

theorem fresh_old {D : Dy} {ρ : List Addr} {s : Shared} (hs : St C D ρ H m s) {L : Addr} (hL : s.heap.get? L = none) (ht : C.K.tab L = false) : L ∉ C.own ∧ (L ∈ D.ρ0 ∨ D.s0.heap.get? L = none) := by
  have h1 : L ∉ C.own := fun hm => by
    obtain ⟨o, q⟩ := hs.alive _ hm
    rw [q] at hL; cases hL
  refine ⟨h1, ?_⟩
  by_cases hr : L ∈ D.ρ0
  · exact .inl hr
  · right
    cases e : D.s0.heap.get? L with
    | none => rfl
    | some o =>
      have := hs.kp.keep _ o e hr (fun w => h1 (Cx.wr_own w)) ht
      rw [this] at hL; cases hL
theorem x_assignComp {Q : LF → List LO → Loc → Prop} {x : Str} {px spos : Pos} (ok : CompOk C scope iter) (h : Ev C iter H m fun a H1 => BlockRun C scope target ifs Act a H1 m fun lv H2 => Q .next H2 (lset m x lv))
    (hT : ∀ k L I a, compTurn (.ListComp elt (⟨target, iter, ifs, 0⟩ :: rest) scope pos) 0 (.ref I) (.ref a) (compC C scope L (k + 1)).env = turnTree target p ifs (.ref I) (compC C scope L (k + 1)).env (act k L I a) (again (.compLoop (.ListComp elt (⟨target, iter, ifs, 0⟩ :: rest) scope pos) 0 (.ref I) (.ref a) (compC C scope L (k + 1)).env)))
    (hact : ∀ k L I a, ActS (compC C scope L (k + 1)) (k + 1) k (.again (.compLoop (.ListComp elt (⟨target, iter, ifs, 0⟩ :: rest) scope pos) 0 (.ref I) (.ref a) (compC C scope L (k + 1)).env)) (act k L I a) a (Act k L a))
    (hl : C.env.kindOf x = some .local := by kernel_rfl)
    (hp : (C.env.scope.kind == .class || (C.env.scope.kind == .module && C.env.locals != C.env.globals)) = false := by kernel_rfl)
    (hncl : C.env.cells.lookup x = none := by kernel_rfl)
    (hsw : swapsWith (.ListComp elt (⟨target, iter, ifs, 0⟩ :: rest) scope pos) (some (.Name x px)) spos.line C.env = pure true := by kernel_rfl) : X C (.Assign [.Name x px] (.ListComp elt (⟨target, iter, ifs, 0⟩ :: rest) scope pos) spos) H m Q := by
  refine .mk fun D ρ s hs => ?_
  rw [exec_Assign_Name_used _ _ _ _ hsw]
  refine wpAny_bind (wpAny_standAt (wpAny_bind ?_))
  show wpAny _ C.A (do let _ ← comprehension (.ListComp elt (⟨target, iter, ifs, 0⟩ :: rest) scope pos) scope C.env _ (newList []) false (eval iter C.env) (some (assign (.Name x px) C.env))) _ _ s
  refine wpAny_bind (wpAny_mono (wpAny_comprehension_free (use := some (assign (.Name x px) C.env)) (Q := fun _ s' => PostS C D ρ Q .next s') rfl ok.fold ok.clos ok.kind ok.names (wp_imp (h.go D ρ s hs) fun va s1 ⟨ρ1, H1, a, p1, hs1, r1, q1⟩ => ?_)) (fun _ s' hq => wpAny_pure (wpAny_pure hq)) fun _ _ e => e)
  refine wp_imp (block_sound (P := fun acc L s' => wpAny C.M C.A (assign (.Name x px) C.env acc) (fun _ s'' => ∃ mm, s''.heap.Ns L mm ∧ ∀ h', Heap.SameBut L s''.heap h' → PostS C D ρ Q .next { s'' with heap := h' }) NoE s') (Rf := fun H3 => Q .next H3 (lset m x (.obj H1.length)))
    ok.hA rfl ok.kind ok.cell (fun L I a => hT H1.length L I a) (fun L I a => hact H1.length L I a) hs1 r1 q1 fun L ac ρ2 H2 s2 pρ e q ns k hL hoff => ?_) fun it s₂ x => wp_imp x fun acc s₃ y => wp_imp y fun cenv s₄ z => codeAny_mono z fun r s' u => ?_
  · obtain ⟨mm, hn⟩ := ns
    have hs2 := k s2.heap s2.toks (Heap.SameBut.refl _ _)
    obtain ⟨f1, f2⟩ := fresh_old hs1 hL hoff.2.2
    have hLL : L ≠ C.env.locals := fun e => f1 (e ▸ .head _)
    refine wpAny_assign_Name (store_local (P := fun _ s'' => ∃ mm, s''.heap.Ns L mm ∧ ∀ h', Heap.SameBut L s''.heap h' → PostS C D ρ Q .next { s'' with heap := h' }) hs2 (.obj _ _ e) (fun s' hs' kb => ⟨mm, ?_, fun h' hb => ?_⟩) hl hp hncl)
    · obtain ⟨o, es, ep, ho, r⟩ := hn
      exact ⟨o, es, ep, kb L o hLL ho, r⟩
    · exact ⟨ρ2, H2, _, .next, take_of_pre (pre_trans p1 pρ), hs'.but (I := L) (t := s'.toks) (fun b o hb' e => (hb.2 b hb').trans e) hoff.1 f1 hoff.2.1 f2, .next, q⟩
  · cases r with
    | error _ => exact u.elim
    | ok f => exact u

/-! one clause -/
noncomputable abbrev EAct (C : Cx) (scope : Scope) (elt : PySem.Expr) : Nat → Addr → Addr → List LO → Loc → (List LO → Loc → Prop) → Prop := fun k L _ H m R => Emit (compC C scope L (k + 1)) elt k H m R
theorem ev_comp1 {Q : LV → List LO → Prop} (ok : CompOk C scope iter) (h : Ev C iter H m fun a H1 => BlockRun C scope target ifs (EAct C scope elt) a H1 m Q) : Ev C (.ListComp elt [⟨target, iter, ifs, 0⟩] scope pos) H m Q :=
  ev_comp (p := iter.pos) (act := fun k L I a => emitAct elt (.ref a) (compC C scope L (k + 1)).env (.compLoop (.ListComp elt [⟨target, iter, ifs, 0⟩] scope pos) 0 (.ref I) (.ref a) (compC C scope L (k + 1)).env)) ok h (fun k L I a => rfl) (fun k L I a => emit_act (C := compC C scope L (k + 1)) (Nat.lt_succ_self _))
theorem x_assignComp1 {Q : LF → List LO → Loc → Prop} {x : Str} {px spos : Pos} (ok : CompOk C scope iter) (h : Ev C iter H m fun a H1 => BlockRun C scope target ifs (EAct C scope elt) a H1 m fun lv H2 => Q .next H2 (lset m x lv))
    (hl : C.env.kindOf x = some .local := by kernel_rfl)
    (hp : (C.env.scope.kind == .class || (C.env.scope.kind == .module && C.env.locals != C.env.globals)) = false := by kernel_rfl)
    (hncl : C.env.cells.lookup x = none := by kernel_rfl)
    (hsw : swapsWith (.ListComp elt [⟨target, iter, ifs, 0⟩] scope pos) (some (.Name x px)) spos.line C.env = pure true := by kernel_rfl) : X C (.Assign [.Name x px] (.ListComp elt [⟨target, iter, ifs, 0⟩] scope pos) spos) H m Q :=
  x_assignComp (p := iter.pos) (act := fun k L I a => emitAct elt (.ref a) (compC C scope L (k + 1)).env (.compLoop (.ListComp elt [⟨target, iter, ifs, 0⟩] scope pos) 0 (.ref I) (.ref a) (compC C scope L (k + 1)).env)) ok h (fun k L I a => rfl) (fun k L I a => emit_act (C := compC C scope L (k + 1)) (Nat.lt_succ_self _)) hl hp hncl hsw
end

/-! text PL12 -/
theorem codeAny_compStart_at {prog : Program} {w : World} {A : Around} {R : Result → Shared → Prop} {s : Shared} {elt target iter : PySem.Expr} {ifs : List PySem.Expr} {g : Comprehension} {scope : Scope} {pos : Pos} {it acc : Value} {env : Env}
    (h0 : codeAny (model prog w) A (.compLoop (.ListComp elt [g, ⟨target, iter, ifs, 0⟩] scope pos) 1 it acc env) R s)
    (h : wpAny (model prog w) A (pyIter it) (fun it' s' => codeAny (model prog w) A (.compLoop (.ListComp elt [g, ⟨target, iter, ifs, 0⟩] scope pos) 1 it' acc env) R s')
      NoE s) :
    codeAny (model prog w) A (.compStart (.ListComp elt [g, ⟨target, iter, ifs, 0⟩] scope pos) 1 it acc env) R s := by
  refine codeAny_of_tree ?_
  show wpAny _ _ ((compStart (.ListComp elt [g, ⟨target, iter, ifs, 0⟩] scope pos) 1 it acc env).onRaise (fun x => do noteFrame x env; standAt theWindowsPlace)) _ _ s
  refine wpAny_notedAt ?_
  unfold compStart
  show wpAny _ _ (ask >>= _) _ _ s
  refine wpAny_bind (wpAny_askSetting (wpAny_ite ?_))
  split
  · first
      | exact wpAny_bind (wpAny_pure (wpAny_pure (And.intro rfl h0)))
      | exact wpAny_pure (And.intro rfl h0)
  · exact wpAny_bind (wpAny_rule (wpAny_bind (wpAny_standAt (wpAny_bind (wp_imp h fun it' s' h' => wpAny_pure (And.intro rfl h'))))))

noncomputable def twoAct (i1 : PySem.Expr) (e : PySem.Expr) (acc : Value) (env : Env) (c : Code) : Sem PySem.Fin := do
  let x ← eval i1 env
  standAt i1.pos
  let x ← foldedSetIterable i1 env x
  let _ ← runOwn (.compStart e 1 (← holding [x] (pyIter x)) acc env) env
  again c
noncomputable def Two2 (C : Cx) (t1 i1 : PySem.Expr) (ifs1 : List PySem.Expr) (elt : PySem.Expr) (k : Nat) (H : List LO) (m : Loc) (R : List LO → Loc → Prop) : Prop :=
  Ev C i1 H m fun a H1 => ∃ N1, C.n0 ≤ N1 ∧ N1 ≤ H1.length ∧ Over C H1 a N1 fun cnt get keep => ∃ (m0 : Loc) (G : Nat → List LO → Loc → Prop), Sub m0 m ∧ G 0 H1 m0 ∧ (∀ i H m, G i H m → N1 ≤ H.length ∧ keep H) ∧
    (∀ i x H m, get i = some x → G i H m → Asg { C with n0 := N1 } t1 x H m fun H2 m2 => TstAll { C with n0 := N1 } ifs1 H2 m2 fun b H3 => if b then Emit { C with n0 := N1 } elt k H3 m2 (TurnC N1 (G (i + 1))) else TurnC N1 (G (i + 1)) H3 m2) ∧
    ∀ H m, G cnt H m → R H m

theorem two_act {C : Cx} {k : Nat} {a : Addr} {elt t1 i1 : PySem.Expr} {ifs1 : List PySem.Expr} {g : Comprehension} {scope : Scope} {pos : Pos} {c : Code} (hA : C.A.handled = none) (hk : k < C.n0) (hf : ∀ x, foldedSetIterable i1 C.env x = pure x) :
    ActS C C.n0 k (.again c) (twoAct i1 (.ListComp elt [g, ⟨t1, i1, ifs1, 0⟩] scope pos) (.ref a) C.env c) a (fun H m R => Two2 C t1 i1 ifs1 elt k H m R) := by
  intro H m R D ρ s h hs hka
  refine wpAny_bind (wp_imp (h.go D ρ s hs) fun va s1 ⟨ρ1, H1, x, p1, hs1, r1, N1, n1, n2, q1⟩ => ?_)
  refine wpAny_bind (wpAny_standAt (wpAny_bind (wpAny_of_eq (hf va) (wpAny_bind (wpAny_holding ?_)))))
  refine over_iter hs1 r1 q1 fun J io get cnt keep h' t W run hcnt hJ hkk hio => ?_
  obtain ⟨m0, G, g0, g1, g2, g3, g4⟩ := run
  obtain ⟨j1, j2, j3, j4, j5⟩ := hs1.iterAt
  have hs2 := (hs1.grow (t := t) hkk).sub g0
  have hlen := hs1.hp.len
  have hN1 : N1 ≤ ρ1.length := by rw [hlen]; exact n2
  have hkN : k < N1 := Nat.lt_of_lt_of_le hk n1
  have loop : codeAny C.M C.A (.compLoop (.ListComp elt [g, ⟨t1, i1, ifs1, 0⟩] scope pos) 1 (.ref s1.heap.objs.size) (.ref a) C.env)
      (fun r s' => match r with | .ok _ => ∃ ρ' H' m', ρ1.take N1 <+: ρ' ∧ St { C with n0 := C.n0 } D ρ' H' m' s' ∧ R H' m' | .error _ => False) { s1 with heap := h', toks := t } :=
    comp_core (C := C) (act := emitAct elt (.ref a) C.env (.compLoop (.ListComp elt [g, ⟨t1, i1, ifs1, 0⟩] scope pos) 1 (.ref s1.heap.objs.size) (.ref a) C.env)) (p := i1.pos) (W C hA) n1 hkN (pre_get p1 hka) G hcnt (fun i H m g => (g2 i H m g).1) (fun i H' m ρ' g p => hJ H' ρ' (g2 i H' m g).2 p) hs2 hN1 g1 hio j1 j2 j3 j4 j5 rfl rfl rfl rfl
      (emit_act hkN) g3 g4
  have conv : ∀ (r : Result) (s' : Shared), (match r with | .ok _ => ∃ ρ' H' m', ρ1.take N1 <+: ρ' ∧ St { C with n0 := C.n0 } D ρ' H' m' s' ∧ R H' m' | .error _ => False) →
      (match r with | .ok f => wpAny C.M C.A (again c) (fun f s' => f = .again c ∧ ∃ ρ' H' m', ρ.take C.n0 <+: ρ' ∧ St { C with n0 := C.n0 } D ρ' H' m' s' ∧ R H' m') NoE s' | .error e => cameBackBy C.M C.A C.env NoE e s') := by
    intro r s' x
    cases r with
    | error _ => exact x.elim
    | ok f =>
      obtain ⟨ρ', H', m', p', q', q''⟩ := x
      have h0 : ρ.take C.n0 <+: ρ1.take N1 := by
        have hz : C.n0 ≤ ρ.length := hs.sz
        obtain ⟨l, rfl⟩ := p1
        have : (ρ ++ l).take C.n0 = ρ.take C.n0 := by rw [List.take_append_of_le_length hz]
        rw [← this, show (ρ ++ l).take C.n0 = ((ρ ++ l).take N1).take C.n0 by rw [List.take_take, Nat.min_eq_left n1]]
        exact List.take_prefix _ _
      exact wpAny_pure ⟨rfl, ρ', H', m', h0.trans p', q', q''⟩
  refine wpAny_bind (wpAny_runOwn (codeAny_mono (codeAny_compStart_at loop (wp_imp ((W C hA).self 0 { s1 with heap := h', toks := t } (fun it' s' => it' = .ref s1.heap.objs.size ∧ s' = { s1 with heap := h', toks := t }) hio ⟨rfl, rfl⟩) fun it' s' hh => ?_)) conv))
  obtain ⟨rfl, rfl⟩ := hh
  exact loop

section
variable {C : Cx} {H : List LO} {m : Loc} {target iter elt t1 i1 : PySem.Expr} {ifs ifs1 : List PySem.Expr} {scope : Scope} {pos p : Pos}
noncomputable abbrev EAct2 (C : Cx) (scope : Scope) (t1 i1 : PySem.Expr) (ifs1 : List PySem.Expr) (elt : PySem.Expr) : Nat → Addr → Addr → List LO → Loc → (List LO → Loc → Prop) → Prop := fun k L _ H m R => Two2 (compC C scope L (k + 1)) t1 i1 ifs1 elt k H m R
theorem x_assignComp2 {Q : LF → List LO → Loc → Prop} {x : Str} {px spos : Pos} (ok : CompOk C scope iter) (hf : ∀ L x, foldedSetIterable i1 (compEnvC scope (clOf scope C.env) L C.env) x = pure x) (h : Ev C iter H m fun a H1 => BlockRun C scope target ifs (EAct2 C scope t1 i1 ifs1 elt) a H1 m fun lv H2 => Q .next H2 (lset m x lv))
    (hl : C.env.kindOf x = some .local := by kernel_rfl)
    (hp : (C.env.scope.kind == .class || (C.env.scope.kind == .module && C.env.locals != C.env.globals)) = false := by kernel_rfl)
    (hncl : C.env.cells.lookup x = none := by kernel_rfl)
    (hsw : swapsWith (.ListComp elt [⟨target, iter, ifs, 0⟩, ⟨t1, i1, ifs1, 0⟩] scope pos) (some (.Name x px)) spos.line C.env = pure true := by kernel_rfl) : X C (.Assign [.Name x px] (.ListComp elt [⟨target, iter, ifs, 0⟩, ⟨t1, i1, ifs1, 0⟩] scope pos) spos) H m Q :=
  x_assignComp (p := iter.pos) (act := fun k L I a => twoAct i1 (.ListComp elt [⟨target, iter, ifs, 0⟩, ⟨t1, i1, ifs1, 0⟩] scope pos) (.ref a) (compC C scope L (k + 1)).env (.compLoop (.ListComp elt [⟨target, iter, ifs, 0⟩, ⟨t1, i1, ifs1, 0⟩] scope pos) 0 (.ref I) (.ref a) (compC C scope L (k + 1)).env)) ok h (fun k L I a => rfl)
    (fun k L I a => two_act (C := compC C scope L (k + 1)) ok.hA (Nat.lt_succ_self _) (hf L)) hl hp hncl hsw
end

/-! text PL13 -/
noncomputable def sts (xs : List (List Nat)) : List LV := xs.map fun x => .str (S x)
theorem sts_get {xs : List (List Nat)} {i : Nat} (h : i < xs.length) : (sts xs)[i]? = some (.str (S (xs.getD i []))) := by
  unfold sts
  rw [List.getElem?_map, List.getElem?_eq_getElem h, List.getD_eq_getElem?_getD, List.getElem?_eq_getElem h]
  rfl
theorem sts_len (xs : List (List Nat)) : (sts xs).length = xs.length := by unfold sts; simp
theorem VRs.sts {ρ : List Addr} : ∀ {xs : List (List Nat)} {vs : List Value}, VRs ρ (Mine.sts xs) vs → ∃ l : List (Str × Tok), vs = strValues l ∧ l.map (·.1) = xs.map S
  | [], [], _ => ⟨[], rfl, rfl⟩
  | x :: xs, v :: vs, ⟨a, b⟩ => by
    obtain ⟨l, rfl, e⟩ := VRs.sts (xs := xs) b
    cases a with
    | str _ t => exact ⟨(S x, t) :: l, rfl, by simp [e]⟩
  | [], _ :: _, h => h.elim
  | _ :: _, [], h => h.elim

section
variable {C : Cx} {H : List LO} {m : Loc}

/-! statements -/
theorem x_Expr {Q : LF → List LO → Loc → Prop} {e : PySem.Expr} {pos : Pos} (h : Ev C e H m fun lv H1 => lv = .none ∧ Q .next H1 m)
    (hi : interactive C.env = false := by kernel_rfl) (hs : swapsWith e none pos.line C.env = pure false := by kernel_rfl) : X C (.Expr e pos) H m Q := by
  refine .mk fun D ρ s hst => ?_
  refine wpAny_Expr (wp_imp (h.go D ρ s hst) fun v s1 ⟨ρ1, H1, lv, p1, hs1, r1, e1, q1⟩ => ?_) hi hs
  subst e1
  cases r1
  exact ⟨ρ1, H1, m, .next, take_of_pre p1, hs1, .next, q1⟩

theorem x_aug {Q : LF → List LO → Loc → Prop} {x : Str} {pos' pos : Pos} {op : Operator} {e : PySem.Expr} {old : LV} (hm : lget m x = some old)
    (h : Ev C e H m fun v H1 => Inp C op old v H1 m fun r H2 => Q .next H2 (lset m x r))
    (hk : C.env.scope.kind = .function := by kernel_rfl) (hl : C.env.kindOf x = some .local := by kernel_rfl)
    (hp : (C.env.scope.kind == .class || (C.env.scope.kind == .module && C.env.locals != C.env.globals)) = false := by kernel_rfl)
    (hncl : C.env.cells.lookup x = none := by kernel_rfl) : X C (.AugAssign (.Name x pos') op e pos) H m Q := by
  refine .mk fun D ρ s hs => ?_
  obtain ⟨mm, hn, hv⟩ := hs.ns
  obtain ⟨v0, e0, r0⟩ := hv x old hm hl
  refine wpAny_AugAssign_Name (wpAny_loadName_local hk hl hn e0 (wp_imp (h.go D ρ s hs) fun v s1 ⟨ρ1, H1, lv, p1, hs1, r1, q1⟩ => wp_imp (q1.go D ρ1 s1 v0 v hs1 (r0.mono p1) r1) fun r s2 ⟨ρ2, H2, lr, p2, hs2, r2, q2⟩ => ?_))
  exact wp_imp (store_local (P := fun _ s' => PostS C D ρ Q .next s') hs2 r2 (fun s' hs' _ => ⟨ρ2, H2, _, .next, take_of_pre (pre_trans p1 p2), hs', .next, q2⟩) hl hp hncl) fun _ _ x => x

/-! a tuple taken apart -/
noncomputable def Asgs (C : Cx) : List PySem.Expr → List LV → List LO → Loc → (List LO → Loc → Prop) → Prop
  | e :: es, v :: vs, H, m, R => Asg C e v H m fun H1 m1 => Asgs C es vs H1 m1 R
  | [], [], H, m, R => R H m
  | _, _, _, _, _ => False
theorem each_cons (e : PySem.Expr) (rest : List PySem.Expr) (env : Env) (h : isStarred e = false) : assignEach (e :: rest) env = (false, assign e env) :: assignEach rest env := by
  cases e <;> first | rfl | (simp [isStarred] at h)
theorem asgs_sound : ∀ (es : List PySem.Expr) {ls : List LV} {vs : List Value} {H : List LO} {m : Loc} {R : List LO → Loc → Prop} (_ : es.any isStarred = false) (_ : Asgs C es ls H m R) {D : Dy} {ρ : List Addr} {s : Shared}, St C D ρ H m s → VRs ρ ls vs →
    wpAny C.M C.A (assignInOrder ((assignEach es C.env).map (·.2)) vs) (fun _ s' => ∃ ρ' H' m', ρ <+: ρ' ∧ St C D ρ' H' m' s' ∧ R H' m') NoE s
  | [], [], [], H, m, R, _, h, D, ρ, s, hs, _ => assignInOrder_nil ⟨ρ, H, m, pre_refl ρ, hs, h⟩
  | e :: es, l :: ls, v :: vs, H, m, R, hp, h, D, ρ, s, hs, r => by
    rw [List.any_cons, Bool.or_eq_false_iff] at hp
    rw [each_cons e es C.env hp.1]
    exact assignInOrder_cons (wp_imp (h.go D ρ s v hs r.1) fun _ s1 ⟨ρ1, H1, m1, p1, hs1, q1⟩ => wp_imp (asgs_sound es hp.2 q1 hs1 (r.2.mono p1)) fun _ s2 ⟨ρ2, H2, m2, p2, hs2, q2⟩ => ⟨ρ2, H2, m2, pre_trans p1 p2, hs2, q2⟩)
  | [], _ :: _, _, H, m, R, _, h, D, ρ, s, hs, _ => h.elim
  | _ :: _, [], _, H, m, R, _, h, D, ρ, s, hs, _ => h.elim
  | [], [], _ :: _, H, m, R, _, h, D, ρ, s, hs, r => r.elim
  | _ :: _, _ :: _, [], H, m, R, _, h, D, ρ, s, hs, r => r.elim
theorem each_len (env : Env) : ∀ es : List PySem.Expr, es.any isStarred = false → (assignEach es env).length = es.length ∧ (assignEach es env).findIdx? (fun x => x.1) = none
  | [], _ => ⟨rfl, rfl⟩
  | e :: es, h => by
    rw [List.any_cons, Bool.or_eq_false_iff] at h
    rw [each_cons e es env h.1]
    obtain ⟨a, b⟩ := each_len env es h.2
    exact ⟨by simp [a], by simp [List.findIdx?_cons, b]⟩
theorem asg_tuple {elts : List PySem.Expr} {k : Nat} {pos : Pos} {j : Nat} {xs : List LV} {R : List LO → Loc → Prop} (hA : C.A.handled = none) (hj : H[j]? = some (.tup xs)) (hl : elts.length = xs.length) (h : Asgs C elts xs H m R)
    (hp : elts.any isStarred = false := by kernel_rfl) : Asg C (.Tuple elts k pos) (.obj j) H m R := by
  refine .mk fun D ρ s v hs r => ?_
  cases r with
  | obj _ a ea =>
    obtain ⟨vs, n, eo, rv⟩ := hs.hp.objs j a _ ea hj
    obtain ⟨e1, e2⟩ := each_len C.env elts hp
    refine assign_Tuple_tuple hA ⟨_, eo, rfl, _, rfl⟩ (by rw [e1, hl, List.size_toArray, rv.length]) e2 fun h' hb => ?_
    have hs' := hs.grow (h' := h') (t := s.toks) fun b o e => hb b o (fun q => absurd (Heap.lt_size (q ▸ e)) (Nat.lt_irrefl _)) e
    exact asgs_sound elts hp h hs' rv
theorem x_assignTuple {Q : LF → List LO → Loc → Prop} {elts : List PySem.Expr} {k : Nat} {tp pos : Pos} {e : PySem.Expr} (hA : C.A.handled = none) (h : Ev C e H m fun lv H1 => Asg C (.Tuple elts k tp) lv H1 m fun H2 m2 => Q .next H2 m2)
    (hx : exec (.Assign [.Tuple elts k tp] e pos) C.env = (do standAt pos; let v ← eval e C.env; assign (.Tuple elts k tp) C.env v; return .next) := by rfl) : X C (.Assign [.Tuple elts k tp] e pos) H m Q := by
  refine .mk fun D ρ s hs => ?_
  rw [hx]
  refine wpAny_bind (wpAny_standAt (wpAny_bind (wp_imp (h.go D ρ s hs) fun v s1 ⟨ρ1, H1, lv, p1, hs1, r1, q1⟩ => wpAny_bind (wp_imp (q1.go D ρ1 s1 v hs1 r1) fun _ s2 ⟨ρ2, H2, m2, p2, hs2, q2⟩ => ?_))))
  exact wpAny_pure ⟨ρ2, H2, m2, .next, take_of_pre (pre_trans p1 p2), hs2, .next, q2⟩

/-! or and and for their value -/
section
variable {Q : LV → List LO → Prop}
theorem ev_or {e1 e2 : PySem.Expr} {rest : List PySem.Expr} {pos : Pos} (h : Ev C e1 H m fun v H1 => Tru C v H1 m fun b H2 => if b then Q v H2 else Ev C (.BoolOp .Or (e2 :: rest) pos) H2 m Q) : Ev C (.BoolOp .Or (e1 :: e2 :: rest) pos) H m Q := by
  refine .mk fun D ρ s hs => ?_
  refine BoolOp_or (wp_imp (h.go D ρ s hs) fun v s1 ⟨ρ1, H1, lv, p1, hs1, r1, q1⟩ => wp_imp (q1.go D ρ1 s1 v hs1 r1) fun b s2 ⟨ρ2, H2, p2, hs2, q2⟩ => ?_)
  cases b with
  | true => simp only [if_true] at q2 ⊢; exact ⟨ρ2, H2, lv, pre_trans p1 p2, hs2, r1.mono p2, q2⟩
  | false => simp only [Bool.false_eq_true, if_false] at q2 ⊢; exact wp_imp (q2.go D ρ2 s2 hs2) fun _ _ x => x.step (pre_trans p1 p2)
theorem ev_and {e1 e2 : PySem.Expr} {rest : List PySem.Expr} {pos : Pos} (h : Ev C e1 H m fun v H1 => Tru C v H1 m fun b H2 => if b then Ev C (.BoolOp .And (e2 :: rest) pos) H2 m Q else Q v H2) : Ev C (.BoolOp .And (e1 :: e2 :: rest) pos) H m Q := by
  refine .mk fun D ρ s hs => ?_
  refine BoolOp_and (wp_imp (h.go D ρ s hs) fun v s1 ⟨ρ1, H1, lv, p1, hs1, r1, q1⟩ => wp_imp (q1.go D ρ1 s1 v hs1 r1) fun b s2 ⟨ρ2, H2, p2, hs2, q2⟩ => ?_)
  cases b with
  | true => simp only [if_true] at q2 ⊢; exact wp_imp (q2.go D ρ2 s2 hs2) fun _ _ x => x.step (pre_trans p1 p2)
  | false => simp only [Bool.false_eq_true, if_false] at q2 ⊢; exact ⟨ρ2, H2, lv, pre_trans p1 p2, hs2, r1.mono p2, q2⟩
theorem ev_one {op : BoolOp} {e : PySem.Expr} {pos : Pos} (h : Ev C e H m Q) : Ev C (.BoolOp op [e] pos) H m Q := .mk fun D ρ s hs => BoolOp_one (h.go D ρ s hs)
theorem ev_neg {e : PySem.Expr} {pos : Pos} (h : Ev C e H m fun v H1 => ∃ i, v = .int i ∧ Q (.int (-i)) H1) : Ev C (.UnaryOp .USub e pos) H m Q := by
  refine .mk fun D ρ s hs => ?_
  refine wpAny_UnaryOp (wp_imp (h.go D ρ s hs) fun v s1 ⟨ρ1, H1, lv, p1, hs1, r1, i, ei, q1⟩ => ?_)
  subst ei
  cases r1
  exact P.neg_int ⟨ρ1, H1, _, p1, hs1.toks _, .int _ _, q1⟩

/-! subscripts -/
theorem ev_sub_last {value ix : PySem.Expr} {pos : Pos} (h : Ev C value H m fun a H1 => Ev C ix H1 m fun i H2 => ∃ k xs x, a = .obj k ∧ H2[k]? = some (.list (xs ++ [x])) ∧ i = .int (-1) ∧ xs.length < sizeLine ∧ Q x H2)
    (hi : ∀ o i, ∃ ops, subscripted ix false o i = operate ops (getItem o i) := by exact fun _ _ => ⟨_, rfl⟩) : Ev C (.Subscript value ix pos) H m Q := by
  refine .mk fun D ρ s hs => ?_
  refine Subscript_ (wp_imp (h.go D ρ s hs) fun va s1 ⟨ρ1, H1, la, p1, hs1, r1, q1⟩ => wp_imp (q1.go D ρ1 s1 hs1) fun vi s2 ⟨ρ2, H2, li, p2, hs2, r2, q2⟩ => ?_)
  obtain ⟨k, xs, x, rfl, hk, rfl, hl, hq⟩ := q2
  obtain ⟨a, vs, e, ev, ea, eo, rv⟩ := hs2.seq hk (r1.mono p2)
  subst ev
  cases r2 with
  | int _ t =>
    have hlen := rv.length
    rw [List.length_append, List.length_singleton] at hlen
    obtain ⟨v, hv, rx⟩ := rv.get (i := xs.length) (a := x) (by rw [List.getElem?_append_right (Nat.le_refl _)]; simp)
    obtain ⟨ops, ho⟩ := hi (.ref a) (.int (-1) t)
    refine tail_any ⟨_, eo, rfl⟩ F.slot_list_getitem.lookup (wpAny_getItem_list_neg (x := v) ⟨_, eo, rfl, _, rfl⟩ (by decide) (by rw [List.size_toArray]; (first | lia | omega)) (by decide) ?_ ⟨ρ2, H2, x, pre_trans p1 p2, hs2, rx, hq⟩) ho
    rw [List.size_toArray, show ((-1 : Int) + (vs.length : Nat)).toNat = xs.length by (first | lia | omega)]
    simpa using hv
theorem ev_sub_str {value ix : PySem.Expr} {pos : Pos} (h : Ev C value H m fun a H1 => Ev C ix H1 m fun i H2 => ∃ xs n c, a = .str (S xs) ∧ i = .int (n : Nat) ∧ xs[n]? = some c ∧ xs.length ≤ sizeLine ∧ Q (.str (S [c])) H2)
    (hi : ∀ o i, ∃ ops, subscripted ix false o i = operate ops (getItem o i) := by exact fun _ _ => ⟨_, rfl⟩) : Ev C (.Subscript value ix pos) H m Q := by
  refine .mk fun D ρ s hs => ?_
  refine Subscript_ (wp_imp (h.go D ρ s hs) fun va s1 ⟨ρ1, H1, la, p1, hs1, r1, q1⟩ => wp_imp (q1.go D ρ1 s1 hs1) fun vi s2 ⟨ρ2, H2, li, p2, hs2, r2, q2⟩ => ?_)
  obtain ⟨xs, n, c, rfl, rfl, hc, hl, hq⟩ := q2
  have hn := (List.getElem?_eq_some_iff.mp hc).1
  have hsz : sizeLine = 16777216 := rfl
  cases r1 with
  | str _ u =>
  cases r2 with
  | int _ t =>
    obtain ⟨ops, ho⟩ := hi (.str (S xs) u) (.int n t)
    refine tail_any (typeIs_str ..) F.slot_str_getitem.lookup (P.getItem_str (c := c) ?_ ?_ ⟨ρ2, H2, _, pre_trans p1 p2, hs2.toks _, .str _ _, hq⟩) ho
    · simp only [Bool.or_eq_false_iff, decide_eq_false_iff_not]
      (first | lia | omega)
    · have h1 : ¬ ((n : Int) < 0) := by (first | lia | omega)
      have h2 : (decide (0 ≤ (n : Int)) && decide ((n : Int) < (xs.length : Int))) = true := by
        simp only [Bool.and_eq_true, decide_eq_true_eq]; (first | lia | omega)
      rw [S_len]
      simp only [seqIndex?, h1, if_false, h2, if_true, Int.toNat_natCast, Option.bind_some]
      show xs.toArray[n]? = some c
      simpa using hc
end

/-! built-in calls -/
section
theorem VRs.of3 {ρ : List Addr} {a b c : LV} {u v w : Value} (x : VR ρ a u) (y : VR ρ b v) (z : VR ρ c w) : VRs ρ [a, b, c] [u, v, w] := ⟨x, y, z, trivial⟩
theorem VRs.of_get {ρ : List Addr} : ∀ {ls : List LV} {vs : List Value}, vs.length = ls.length → (∀ (i : Nat) a v, ls[i]? = some a → vs[i]? = some v → VR ρ a v) → VRs ρ ls vs
  | [], [], _, _ => trivial
  | a :: ls, v :: vs, h, k => ⟨k 0 a v rfl rfl, VRs.of_get (Nat.succ.inj h) fun i x y e e' => k (i + 1) x y e e'⟩
  | [], _ :: _, h, _ => by cases h
  | _ :: _, [], h, _ => by cases h
variable {Q : LV → List LO → Prop}
theorem St.flds {D : Dy} {ρ : List Addr} {s : Shared} (hs : St C D ρ H m s) {cls : Value} {xs : List LV} {vs : List Value} {P : Value → Shared → Prop} (r : VRs ρ xs vs) (h : P (.ref s.heap.objs.size) s = P (.ref s.heap.objs.size) s) (t : Nat) :
    St C D (ρ ++ [s.heap.objs.size]) (H ++ [.flds cls xs]) m { s with heap := s.heap.push { cls := cls, data := .fields vs.toArray }, toks := t } :=
  hs.alloc (fun b o e => Heap.get?_push_of_some _ e) ⟨vs, Heap.get?_push_size _ rfl, r.mono (List.prefix_append _ _)⟩
theorem VR.last {ρ : List Addr} {H : List LO} {a : Addr} (h : ρ.length = H.length) : VR (ρ ++ [a]) (.obj H.length) (.ref a) := .obj _ _ (by rw [← h, List.getElem?_append_right (Nat.le_refl _)]; simp)
noncomputable abbrev rng (x y z : Int) : LO := .flds (.type "range") [.int x, .int y, .int z]
theorem blt_range1 {n : Int} (h : Q (.obj H.length) (H ++ [rng 0 n 1])) : Blt C (.type "range") [.int n] H m Q := by
  refine .mk fun D ρ s vas hs rs => ?_
  obtain ⟨v, rfl, r⟩ := VRs.one rs
  cases r with
  | int _ t => exact call_range_1 ⟨_, _, _, List.prefix_append ρ _, hs.flds (P := fun _ _ => True) (vs := [.int 0 s.toks, .int n t, .int 1 (s.toks + 1)]) (VRs.of3 (.int _ _) (.int _ _) (.int _ _)) rfl _, VR.last hs.hp.len, h⟩
theorem blt_range2 {a b : Int} (h : Q (.obj H.length) (H ++ [rng a b 1])) : Blt C (.type "range") [.int a, .int b] H m Q := by
  refine .mk fun D ρ s vas hs rs => ?_
  obtain ⟨v, w, rfl, r, r'⟩ := VRs.two rs
  cases r with
  | int _ t =>
  cases r' with
  | int _ u => exact call_range_2 ⟨_, _, _, List.prefix_append ρ _, hs.flds (P := fun _ _ => True) (vs := [.int a t, .int b u, .int 1 s.toks]) (VRs.of3 (.int _ _) (.int _ _) (.int _ _)) rfl _, VR.last hs.hp.len, h⟩
noncomputable def iota (x : Int) (n : Nat) : List LV := (List.range n).map fun (i : Nat) => .int (x + i)
theorem blt_list_range {k : Nat} {x y : Int} (hA : C.A.handled = none) (hk : H[k]? = some (rng x y 1)) (hx1 : -2 ^ 62 ≤ x) (hx2 : x < 2 ^ 62) (hy1 : -2 ^ 62 ≤ y) (hy2 : y < 2 ^ 62) (hn : (y - x).toNat ≤ sizeLine) (h : Q (.obj H.length) (H ++ [.list (iota x (y - x).toNat)])) : Blt C (.type "list") [.obj k] H m Q := by
  refine .mk fun D ρ s vas hs rs => ?_
  obtain ⟨v, rfl, r⟩ := VRs.one rs
  cases r with
  | obj _ b eb =>
    obtain ⟨vs, eo, rv⟩ := hs.hp.objs k b _ eb hk
    obtain ⟨u, v, w, rfl, ra, rb, rc⟩ := VRs.three rv
    cases ra with
    | int _ t1 =>
    cases rb with
    | int _ t2 =>
    cases rc with
    | int _ t3 =>
    have e1 : Builtin.Range.rangeSize x y 1 = ((y - x).toNat : Int) := by
      unfold Builtin.Range.rangeSize
      simp only [show (1 : Int) > 0 by decide, if_true, Int.ediv_one]
      split <;> (first | lia | omega)
    refine call_list_range hA (a := x) (b := y) (c := 1) eo (small_one hx1 hx2 hy1 hy2) e1 hn fun h' tk acc c' hk hl hi => ?_
    refine ⟨_, _, _, List.prefix_append ρ _, hs.alloc (t := tk) (lo := .list (iota x (y - x).toNat)) hk ⟨acc.toList, c', by simpa using hl, ?_⟩, VR.last hs.hp.len, h⟩
    obtain ⟨z1, z2⟩ := hi
    refine VRs.of_get (by simp [iota, z1]) fun i a v ea ev => ?_
    unfold iota at ea
    rw [List.getElem?_map, List.getElem?_range (by
      have := (List.getElem?_eq_some_iff.mp ev).1
      simpa [z1] using this)] at ea
    simp only [Option.map_some, Option.some.injEq] at ea
    obtain ⟨t, rfl⟩ := z2 i v (by simpa using ev)
    subst ea
    rw [Int.mul_one]
    exact .int _ _
end
end

/-! text PL14 -/
theorem subAt_S (a b : List Nat) (i : Nat) : Builtin.Str.subAt (S a) (S b) i = ((a.drop i).take b.length == b) := by
  unfold Builtin.Str.subAt
  rw [S_len]
  show (a.toArray.extract i (i + b.length) == b.toArray) = _
  rw [Bool.eq_iff_iff, beq_iff_eq, beq_iff_eq, ← Array.toList_inj]
  simp

noncomputable def startsW (a b : List Nat) : Bool := a.take b.length == b
noncomputable def endsW (a b : List Nat) : Bool := (b.length ≤ a.length && a.drop (a.length - b.length) == b)
theorem startswith_S (a b : List Nat) : Txt.startswith (S a) (S b) = startsW a b := by
  unfold Txt.startswith startsW
  rw [subAt_S, S_len, S_len, List.drop_zero, Bool.eq_iff_iff]
  simp only [Bool.and_eq_true, decide_eq_true_eq, beq_iff_eq, Nat.zero_add, and_iff_right_iff_imp]
  intro h
  rw [← h, List.length_take]; (first | lia | omega)
theorem endswith_S (a b : List Nat) : Txt.endswith (S a) (S b) = endsW a b := by
  unfold Txt.endswith endsW
  rw [subAt_S, S_len, S_len, Nat.zero_add]
  by_cases h : b.length ≤ a.length
  · rw [List.take_of_length_le (by simp; (first | lia | omega))]
  · simp [h]

theorem occ_fold (x y : Str) (hy : y.length = 1) (hi limit : Nat) : ∀ (k lo : Nat) (found : Array Nat) (free : Nat), free ≤ lo → found.size + k ≤ limit →
    (forIn (List.range' lo k) (found, free) (StrLaws.occBody x y hi limit)).run.fst.size = found.size + (List.range' lo k).countP (fun i => decide (i + 1 ≤ hi) && Builtin.Str.subAt x y i)
  | 0, lo, found, free, _, _ => rfl
  | k + 1, lo, found, free, h1, h2 => by
    rw [List.range'_succ, List.forIn_cons]
    unfold StrLaws.occBody
    by_cases hc : lo + 1 ≤ hi ∧ Builtin.Str.subAt x y lo = true
    · rw [if_pos ⟨⟨⟨by simp; (first | lia | omega), h1⟩, by rw [hy]; exact hc.1⟩, hc.2⟩]
      show (forIn (List.range' (lo + 1) k) (found.push lo, lo + y.length) (StrLaws.occBody x y hi limit)).run.fst.size = _
      rw [occ_fold x y hy hi limit k (lo + 1) _ _ (by rw [hy]; exact Nat.le_refl _) (by rw [Array.size_push]; (first | lia | omega)), List.countP_cons, Array.size_push]
      simp [hc.1, hc.2]; (first | lia | omega)
    · rw [if_neg (fun h => hc ⟨by have := h.1.2; rw [hy] at this; exact this, h.2⟩)]
      show (forIn (List.range' (lo + 1) k) (found, free) (StrLaws.occBody x y hi limit)).run.fst.size = _
      rw [occ_fold x y hy hi limit k (lo + 1) _ _ (by (first | lia | omega)) (by (first | lia | omega)), List.countP_cons]
      have : (decide (lo + 1 ≤ hi) && Builtin.Str.subAt x y lo) = false := by
        rw [Bool.eq_false_iff]
        intro h
        simp only [Bool.and_eq_true, decide_eq_true_eq] at h
        exact hc h
      simp [this]

theorem count_range (xs : List Nat) (c : Nat) : (List.range' 0 (xs.length + 1)).countP (fun i => decide (i + 1 ≤ xs.length) && Builtin.Str.subAt (S xs) (S [c]) i) = xs.count c := by
  have e1 : xs = (List.range xs.length).map fun i => xs.getD i 0 := by
    apply List.ext_getElem
    · simp
    · intro i h1 h2; simp [List.getD_eq_getElem?_getD, h1]
  have e2 : xs.count c = ((List.range xs.length).map fun i => xs.getD i 0).count c := congrArg (List.count c) e1
  rw [e2, ← List.range_eq_range', List.range_succ, List.countP_append, List.count, List.countP_map]
  simp only [List.countP_cons, List.countP_nil]
  have e3 : (decide (xs.length + 1 ≤ xs.length) && Builtin.Str.subAt (S xs) (S [c]) xs.length) = false := by
    rw [show decide (xs.length + 1 ≤ xs.length) = false by simp, Bool.false_and]
  rw [e3]
  simp only [Bool.false_eq_true, if_false, Nat.add_zero]
  apply List.countP_congr
  intro i hi
  have hi : i < xs.length := by simpa using hi
  rw [subAt_S]
  have : (xs.drop i).take [c].length = [xs.getD i 0] := by
    rw [List.drop_eq_getElem_cons hi, List.length_singleton, List.take_succ_cons, List.take_zero, List.getD_eq_getElem?_getD, List.getElem?_eq_getElem hi]
    rfl
  rw [this]
  simp
  (first | lia | omega)

/-- how often one sign is in a text -/
theorem count_S (xs : List Nat) (c : Nat) : Txt.count (S xs) (S [c]) = ((xs.count c : Nat) : Int) := by
  unfold Txt.count
  rw [StrLaws.occ_eq, S_len, Nat.sub_zero, Array.length_toList, occ_fold (S xs) (S [c]) rfl xs.length (xs.length + 1) (xs.length + 1) 0 #[] 0 (Nat.le_refl _) (by simp), count_range]
  simp

theorem glued_S (xs : List (List Nat)) : Txt.join (S []) (xs.map S) = S xs.flatten := by
  unfold Txt.join Builtin.Str.glued
  have : ∀ (l : List (List Nat)) (acc : Array Nat), List.foldl (fun acc p => acc ++ (S []).cps ++ Str.cps p) acc (l.map S) = acc ++ l.flatten.toArray := by
    intro l
    induction l with
    | nil => intro acc; simp
    | cons x l ih =>
      intro acc
      rw [List.map_cons, List.foldl_cons, ih]
      show acc ++ #[] ++ x.toArray ++ _ = _
      simp
  cases xs with
  | nil => rfl
  | cons x xs =>
    show Str.mk (List.foldl _ (S x).cps (xs.map S)) = _
    rw [this]
    show Str.mk (x.toArray ++ _) = Str.mk _
    simp
theorem joinOk_S {xs : List (List Nat)} (h : xs.flatten.length ≤ sizeLine) : JoinOk (S []) (xs.map S) = true := by
  unfold JoinOk
  have : ∀ (l : List (List Nat)) (n : Nat), List.foldl (fun a (x : Str) => a + x.length + (S []).length) n (l.map S) = n + l.flatten.length := by
    intro l
    induction l with
    | nil => intro n; simp
    | cons x l ih =>
      intro n
      rw [List.map_cons, List.foldl_cons, ih, S_len, S_len]
      simp; (first | lia | omega)
  rw [List.foldl_toArray, this]
  unfold Builtin.Str.tooLong
  rw [Nat.zero_add, decide_eq_false (by (first | lia | omega))]
  rfl

section
variable {C : Cx} {H : List LO} {m : Loc} {Q : LV → List LO → Prop}
theorem blt_startswith {a b : List Nat} (h : Q (.bool (startsW a b)) H) : Blt C (.builtin "str.startswith") [.str (S a), .str (S b)] H m Q := by
  refine .mk fun D ρ s vas hs rs => ?_
  obtain ⟨v, w, rfl, r, r'⟩ := VRs.two rs
  cases r; cases r'
  exact SC.startswith ⟨ρ, H, _, pre_refl ρ, hs, .bool _, by rw [startswith_S]; exact h⟩
theorem blt_endswith {a b : List Nat} (h : Q (.bool (endsW a b)) H) : Blt C (.builtin "str.endswith") [.str (S a), .str (S b)] H m Q := by
  refine .mk fun D ρ s vas hs rs => ?_
  obtain ⟨v, w, rfl, r, r'⟩ := VRs.two rs
  cases r; cases r'
  exact SC.endswith ⟨ρ, H, _, pre_refl ρ, hs, .bool _, by rw [endswith_S]; exact h⟩
theorem blt_count {a : List Nat} {c : Nat} (h : Q (.int (a.count c : Nat)) H) : Blt C (.builtin "str.count") [.str (S a), .str (S [c])] H m Q := by
  refine .mk fun D ρ s vas hs rs => ?_
  obtain ⟨v, w, rfl, r, r'⟩ := VRs.two rs
  cases r; cases r'
  exact SC.count ⟨ρ, H, _, pre_refl ρ, hs.toks _, .int _ _, by rw [count_S]; exact h⟩
theorem blt_lower {a : Str} {b : List Nat} (hb : Txt.lower a = S b) (hl : b.length ≤ sizeLine) (h : Q (.str (S b)) H) : Blt C (.builtin "str.lower") [.str a] H m Q := by
  refine .mk fun D ρ s vas hs rs => ?_
  obtain ⟨v, rfl, r⟩ := VRs.one rs
  cases r
  refine SC.lower ?_ ⟨ρ, H, _, pre_refl ρ, hs.toks _, .str _ _, by rw [hb]; exact h⟩
  rw [hb, S_len]
  unfold Builtin.Str.tooLong
  simp; (first | lia | omega)
theorem blt_join {k : Nat} {xs : List (List Nat)} (hk : H[k]? = some (.list (sts xs))) (hl : xs.flatten.length ≤ sizeLine) (h : Q (.str (S xs.flatten)) H) : Blt C (.builtin "str.join") [.str (S []), .obj k] H m Q := by
  refine .mk fun D ρ s vas hs rs => ?_
  obtain ⟨v, w, rfl, r, r'⟩ := VRs.two rs
  cases r with
  | str _ t =>
  obtain ⟨a, vs, n, e, ea, eo, rv⟩ := hs.seq hk r'
  subst e
  obtain ⟨l, rfl, el⟩ := rv.sts
  refine SC.join ⟨_, eo, rfl, _, rfl⟩ el (joinOk_S hl) fun t' k => ⟨ρ, H, _, pre_refl ρ, hs.toks _, .str _ _, ?_⟩
  rw [glued_S]; exact h
theorem cmp_in_str {a : List Nat} {c : Nat} (h : Q (.bool (decide (c ∈ a))) H) : Cmp C .In (.str (S [c])) (.str (S a)) H m Q := by
  refine .mk fun D ρ s va vb hs ra rb => ?_
  cases ra; cases rb
  refine P.in_str ⟨ρ, H, _, pre_refl ρ, hs, .bool _, ?_⟩
  rw [show (S [c] : Str) = ⟨#[c]⟩ from rfl, StrLaws.found_one]
  exact h

/-! lists of texts -/
theorem eqAt_str {A : Around} {s : Shared} {a b : List Nat} {t u : Tok} : SeqAt.EqAt A s (.str (S a) t) (.str (S b) u) (a == b) := fun prog w E Q h => wpAny_eqBool_str (by
  have : decide (S a = S b) = (a == b) := by
    rw [Bool.eq_iff_iff, decide_eq_true_eq, beq_iff_eq]
    exact ⟨S_inj, fun e => by rw [e]⟩
  rw [this]; exact h)
theorem str_at {ρ : List Addr} {xs : List (List Nat)} {vs : List Value} (h : VRs ρ (sts xs) vs) {j : Nat} (hj : j < vs.length) : ∃ t, vs[j] = .str (S (xs.getD j [])) t := by
  have hl := h.length
  rw [sts_len] at hl
  obtain ⟨v, ev, r⟩ := h.get (sts_get (xs := xs) (i := j) (by (first | lia | omega)))
  cases r with
  | str _ t =>
    rw [List.getElem?_eq_getElem hj] at ev
    exact ⟨t, Option.some.inj ev⟩
theorem eq_all {xs ys : List (List Nat)} (hl : xs.length = ys.length) : ((List.range xs.length).all fun j => xs.getD j [] == ys.getD j []) = (xs == ys) := by
  rw [Bool.eq_iff_iff, List.all_eq_true, beq_iff_eq]
  constructor
  · intro h
    apply List.ext_getElem hl
    intro i h1 h2
    have := h i (by simpa using h1)
    simpa [List.getD_eq_getElem?_getD, h1, h2] using this
  · intro h j _; rw [h]; simp
theorem cmp_eq_list {j k : Nat} {xs ys : List (List Nat)} (hu : C.A.units < cLine) (hj : H[j]? = some (.list (sts xs))) (hk : H[k]? = some (.list (sts ys))) (h : Q (.bool (xs == ys)) H) : Cmp C .Eq (.obj j) (.obj k) H m Q := by
  refine .mk fun D ρ s va vb hs ra rb => ?_
  obtain ⟨a, vs, n, e, ea, eo, rv⟩ := hs.seq hj ra
  subst e
  obtain ⟨b, ws, n2, e, eb, eo2, rw_⟩ := hs.seq hk rb
  subst e
  have h1 := rv.length
  have h2 := rw_.length
  rw [sts_len] at h1 h2
  by_cases hl : xs.length = ys.length
  · refine SeqAt.eq_listAt (e := fun j => xs.getD j [] == ys.getD j []) ⟨_, eo, rfl, _, rfl⟩ ⟨_, eo2, rfl, _, rfl⟩ (by simp; (first | lia | omega)) hu (fun j g1 g2 => ?_) ⟨ρ, H, _, pre_refl ρ, hs, .bool _, ?_⟩
    · obtain ⟨t, et⟩ := str_at rv (j := j) (by simpa using g1)
      obtain ⟨u, eu⟩ := str_at rw_ (j := j) (by simpa using g2)
      simp only [List.getElem_toArray]
      rw [et, eu]
      exact eqAt_str
    · rw [List.size_toArray, h1, eq_all hl]; exact h
  · refine SeqAt.eq_list_lengthsAt ⟨_, eo, rfl, _, rfl⟩ ⟨_, eo2, rfl, _, rfl⟩ (by simp; (first | lia | omega)) hu ⟨ρ, H, _, pre_refl ρ, hs, .bool _, ?_⟩
    have : (xs == ys) = false := by
      rw [Bool.eq_false_iff]
      intro e
      exact hl (by rw [beq_iff_eq.mp e])
    rw [this] at h; exact h
theorem cmp_ne_list {j k : Nat} {xs ys : List (List Nat)} (hu : C.A.units < cLine) (hj : H[j]? = some (.list (sts xs))) (hk : H[k]? = some (.list (sts ys))) (h : Q (.bool (xs != ys)) H) : Cmp C .NotEq (.obj j) (.obj k) H m Q := by
  refine .mk fun D ρ s va vb hs ra rb => ?_
  obtain ⟨a, vs, n, e, ea, eo, rv⟩ := hs.seq hj ra
  subst e
  obtain ⟨b, ws, n2, e, eb, eo2, rw_⟩ := hs.seq hk rb
  subst e
  have h1 := rv.length
  have h2 := rw_.length
  rw [sts_len] at h1 h2
  by_cases hl : xs.length = ys.length
  · refine (show wpAny C.M C.A (compareOp .NotEq (.ref a) (.ref b)) _ _ s from SeqAt.RcNeAt.lists (e := fun j => xs.getD j [] == ys.getD j []) ⟨_, eo, rfl, _, rfl⟩ ⟨_, eo2, rfl, _, rfl⟩ (by simp; (first | lia | omega)) hu (fun j g1 g2 => ?_) _ _ _ _ ⟨ρ, H, _, pre_refl ρ, hs, .bool _, ?_⟩)
    · obtain ⟨t, et⟩ := str_at rv (j := j) (by simpa using g1)
      obtain ⟨u, eu⟩ := str_at rw_ (j := j) (by simpa using g2)
      simp only [List.getElem_toArray]
      rw [et, eu]
      exact eqAt_str
    · rw [List.size_toArray, h1, eq_all hl]; exact h
  · refine (show wpAny C.M C.A (compareOp .NotEq (.ref a) (.ref b)) _ _ s from SeqAt.RcNeAt.lists_lengths ⟨_, eo, rfl, _, rfl⟩ ⟨_, eo2, rfl, _, rfl⟩ (by simp; (first | lia | omega)) hu _ _ _ _ ⟨ρ, H, _, pre_refl ρ, hs, .bool _, ?_⟩)
    have : (xs != ys) = true := by
      rw [bne_iff_ne]
      intro e
      exact hl (by rw [e])
    rw [this] at h; exact h
theorem cmp_in_list {k : Nat} {xs : List (List Nat)} {x : List Nat} (hk : H[k]? = some (.list (sts xs))) (h : Q (.bool (decide (x ∈ xs))) H) : Cmp C .In (.str (S x)) (.obj k) H m Q := by
  refine .mk fun D ρ s va vb hs ra rb => ?_
  obtain ⟨a, vs, n, e, ea, eo, rv⟩ := hs.seq hk rb
  subst e
  cases ra with
  | str _ t =>
  let e : Value → Bool := fun v => match v with | .str y _ => y.cps.toList == x | _ => false
  refine SeqAt.in_listAt e ⟨_, eo, rfl, _, rfl⟩ (fun y hy => ?_) ⟨ρ, H, _, pre_refl ρ, hs, .bool _, ?_⟩
  · have hy : y ∈ vs := by simpa using hy
    obtain ⟨j, hj, rfl⟩ := List.getElem_of_mem hy
    obtain ⟨u, eu⟩ := str_at rv hj
    rw [eu]
    exact eqAt_str
  · have : vs.toArray.any e = decide (x ∈ xs) := by
      rw [List.any_toArray, Bool.eq_iff_iff, List.any_eq_true, decide_eq_true_eq]
      have hl := rv.length
      rw [sts_len] at hl
      constructor
      · rintro ⟨y, hy, ey⟩
        obtain ⟨j, hj, rfl⟩ := List.getElem_of_mem hy
        obtain ⟨u, eu⟩ := str_at rv hj
        rw [eu] at ey
        have ey : xs.getD j [] = x := beq_iff_eq.mp ey
        rw [← ey, List.getD_eq_getElem?_getD, List.getElem?_eq_getElem (by (first | lia | omega))]
        exact List.getElem_mem _
      · intro hx
        obtain ⟨j, hj, e2⟩ := List.getElem_of_mem hx
        have hj' : j < vs.length := by (first | lia | omega)
        obtain ⟨u, eu⟩ := str_at rv hj'
        refine ⟨vs[j], List.getElem_mem _, ?_⟩
        rw [eu]
        show (xs.getD j [] == x) = true
        rw [List.getD_eq_getElem?_getD, List.getElem?_eq_getElem hj, beq_iff_eq]
        exact e2
    rw [this]; exact h
end

/-! text PL15 -/
theorem St.allocAt {C : Cx} {D : Dy} {ρ : List Addr} {H : List LO} {m : Loc} {s : Shared} (h : St C D ρ H m s) {b : Addr} (hb : s.heap.objs.size ≤ b) {h' : Heap} {t : Nat} {lo : LO} (k : ∀ b o, s.heap.get? b = some o → h'.get? b = some o) (ho : OR (ρ ++ [b]) h' b lo)
    : St C D (ρ ++ [b]) (H ++ [lo]) m { s with heap := h', toks := t } := by
  have hf : s.heap.get? b = none := by
    cases e : s.heap.get? b with
    | none => rfl
    | some o => exact absurd (Heap.lt_size e) (Nat.not_lt.mpr hb)
  have hn : b ∉ ρ := fun hm => by
    obtain ⟨o, q⟩ := h.hp.alive hm
    rw [q] at hf; cases hf
  have hbn : C.K.B b = none := by
    cases e : C.K.B b with
    | none => rfl
    | some o => rw [h.hp.base _ _ e] at hf; cases hf
  have htn : C.K.tab b = false := by
    cases e : C.K.tab b with
    | false => rfl
    | true =>
      have h1 := C.K.htab _ e
      cases e2 : C.K.B C.K.top with
      | none => exact absurd e2 C.K.htop
      | some o => exact absurd (Nat.lt_of_le_of_lt (Nat.le_trans hb h1) (Heap.lt_size (h.hp.base _ _ e2))) (Nat.lt_irrefl _)
  refine h.after (List.prefix_append _ _) ⟨fun a o e => k a o (h.hp.base a o e), by simp [h.hp.len], fun j a lo' e e' => ?_, ?_, fun a ha => ?_, h.hp.gens⟩ ⟨fun b o e _ _ _ => k b o e, rfl⟩ fun a ha => ?_
  · rcases Nat.lt_trichotomy j ρ.length with hj | hj | hj
    · rw [List.getElem?_append_left hj] at e
      rw [List.getElem?_append_left (h.hp.len ▸ hj)] at e'
      exact (h.hp.objs j a lo' e e').at (List.prefix_append _ _) fun o => k a o
    · subst hj
      rw [List.getElem?_append_right (Nat.le_refl _)] at e
      rw [List.getElem?_append_right (by rw [h.hp.len]; exact Nat.le_refl _)] at e'
      simp only [Nat.sub_self, List.getElem?_cons_zero, Option.some.injEq] at e
      rw [h.hp.len] at e'
      simp only [Nat.sub_self, List.getElem?_cons_zero, Option.some.injEq] at e'
      subst e e'
      exact ho
    · rw [List.getElem?_eq_none (by simp; (first | lia | omega))] at e; cases e
  · rw [List.nodup_append]
    exact ⟨h.hp.nd, by simp, fun a ha c hc e => hn (by simp at hc; rw [← hc, ← e]; exact ha)⟩
  · rcases List.mem_append.mp ha with ha | ha
    · exact h.hp.own a ha
    · simp at ha; subst ha; exact ⟨hbn, htn⟩
  · rcases List.mem_append.mp ha with ha | ha
    · exact .inl ha
    · simp at ha; subst ha; exact .inr hf

theorem le_of_not {a b : List Nat} (h : (!Spec.ltCps b a) = true) : a ≤ b := by
  rw [ltCps_eq] at h
  simpa using h
theorem pairwise_of_rising : ∀ (x : Str) (r : List Str), risingS x r = true → (x :: r).Pairwise fun a b => a.cps.toList ≤ b.cps.toList
  | x, [], _ => by simp
  | x, y :: r, h => by
    have h : (!Spec.ltCps y.cps.toList x.cps.toList && risingS y r) = true := h
    rw [Bool.and_eq_true] at h
    have ih := pairwise_of_rising y r h.2
    have hxy := le_of_not h.1
    refine List.pairwise_cons.mpr ⟨fun z hz => ?_, ih⟩
    rcases List.mem_cons.mp hz with rfl | hz
    · exact hxy
    · exact List.le_trans hxy ((List.pairwise_cons.mp ih).1 z hz)
theorem sorted_is {ss : List Str} {xs : List (List Nat)} (hp : ss.Perm (xs.map S)) (h : sortedS ss = true) (hx : xs.Pairwise (· ≤ ·)) : ss = xs.map S := by
  have h1 : ss.Pairwise fun a b => a.cps.toList ≤ b.cps.toList := by
    cases ss with
    | nil => exact .nil
    | cons x r => exact pairwise_of_rising x r h
  refine List.Perm.eq_of_pairwise (le := fun a b => a.cps.toList ≤ b.cps.toList) (fun a b _ _ h1 h2 => ?_) h1 ?_ hp
  · have := List.le_antisymm h1 h2
    rw [S_of a, S_of b, this]
  · rw [List.pairwise_map]
    exact hx
theorem strsAre {ρ : List Addr} : ∀ {xs : List (List Nat)} {vs : List Value}, VRs ρ (sts xs) vs → StrsAre vs (xs.map S)
  | [], [], _ => .nil
  | x :: xs, v :: vs, ⟨a, b⟩ => by
    cases a with
    | str _ t => exact .cons _ t (strsAre (xs := xs) b)
  | [], _ :: _, h => h.elim
  | _ :: _, [], h => h.elim
theorem strsAre_back {ρ : List Addr} : ∀ {xs : List (List Nat)} {vs : List Value}, StrsAre vs (xs.map S) → VRs ρ (sts xs) vs
  | [], [], _ => trivial
  | x :: xs, v :: vs, h => by
    cases h with
    | cons _ t h => exact ⟨.str _ _, strsAre_back (xs := xs) h⟩
  | [], _ :: _, h => by cases h
  | _ :: _, [], h => by cases h

theorem blt_sorted {C : Cx} {H : List LO} {m : Loc} {Q : LV → List LO → Prop} {k : Nat} {xs : List (List Nat)} (hk : H[k]? = some (.list (sts xs))) (hl : xs.length < 64) (hx : xs.Pairwise (· ≤ ·)) (h : Q (.obj H.length) (H ++ [.list (sts xs)])) : Blt C (.builtin "sorted") [.obj k] H m Q := by
  refine .mk fun D ρ s vas hs rs => ?_
  obtain ⟨v, rfl, r⟩ := VRs.one rs
  obtain ⟨a, vs, n, e, ea, eo, rv⟩ := hs.seq hk r
  subst e
  have hlen := rv.length
  rw [sts_len] at hlen
  refine sorted_strs ⟨_, eo, rfl, _, rfl⟩ (strsAre rv) (by (first | lia | omega)) fun out ss' h1 h2 h3 => ?_
  have e := sorted_is h2 h3 hx
  subst e
  obtain ⟨ep, eg⟩ := sortedAll_at s.heap vs out
  refine ⟨_, _, _, List.prefix_append ρ _, hs.allocAt (b := s.heap.objs.size + 1) (by (first | lia | omega)) (t := s.toks) (lo := .list (sts xs)) (fun b o e => sortedAll_old e) ⟨out.toList, ep, by rw [eg], strsAre_back h1⟩, VR.last hs.hp.len, h⟩

noncomputable def rep (n : Nat) (xs : List Nat) : List Nat := (List.replicate n xs).flatten
theorem bin_mul_str {C : Cx} {H : List LO} {m : Loc} {Q : LV → List LO → Prop} {xs : List Nat} {n : Nat} (hl : xs.length * n ≤ sizeLine) (hn : n ≤ sizeLine) (h : Q (.str (S (rep n xs))) H) : Bin C .Mult (.str (S xs)) (.int n) H m Q := by
  refine .mk fun D ρ s va vb hs ra rb => ?_
  cases ra with
  | str _ t =>
  cases rb with
  | int _ u =>
  have hsz : sizeLine = 16777216 := rfl
  have hfold : ∀ (l : List (Array Nat)) (acc : Array Nat), List.foldl (fun x1 x2 => x1 ++ x2) acc l = acc ++ (l.map Array.toList).flatten.toArray := by
    intro l
    induction l with
    | nil => intro acc; simp
    | cons x l ih => intro acc; rw [List.foldl_cons, ih]; apply Array.toList_inj.mp; simp
  refine P.mul_str ?_ (fun h1 h2 => ?_) (fun h1 h2 => ?_) ?_
  · simp only [Bool.or_eq_false_iff, decide_eq_false_iff_not]; (first | lia | omega)
  · rw [S_len]
    simp only [Bool.or_eq_false_iff] at h2
    have hn1 : 1 ≤ (n : Int) := by (first | lia | omega)
    have : (xs.length : Int) ≤ (2 ^ 63 - 1) / (n : Int) := by
      rw [Int.le_ediv_iff_mul_le (by (first | lia | omega))]
      have : ((xs.length * n : Nat) : Int) ≤ 16777216 := by (first | lia | omega)
      rw [Int.natCast_mul] at this
      (first | lia | omega)
    (first | lia | omega)
  · rw [S_len]
    unfold Builtin.Str.tooLong
    simp only [Int.toNat_natCast, decide_eq_false_iff_not]
    (first | lia | omega)
  · split
    · have : n = 0 := by (first | lia | omega)
      subst this
      exact ⟨by decide, ρ, H, _, pre_refl ρ, hs.toks _, .str _ _, h⟩
    · split
      · rename_i h2
        rw [Bool.or_eq_true] at h2
        have e : rep n xs = xs := by
          rcases h2 with h2 | h2
          · have : n = 1 := by have : (n : Int) = 1 := by simpa using h2
                               (first | lia | omega)
            subst this; simp [rep]
          · have : xs = [] := by simpa [S_len] using h2
            subst this; simp [rep]
        rw [e] at h
        exact ⟨ρ, H, _, pre_refl ρ, hs, .str _ _, h⟩
      · have e : (⟨List.foldl (fun x1 x2 => x1 ++ x2) #[] (List.replicate (n : Int).toNat (S xs).cps)⟩ : Str) = S (rep n xs) := by
          rw [hfold]
          show Str.mk _ = Str.mk _
          congr 1
          simp [rep, S]
        rw [e]
        refine ⟨?_, ρ, H, _, pre_refl ρ, hs.toks _, .str _ _, h⟩
        rw [S_len]
        simp [rep]
        rw [Nat.mul_comm]; exact hl

/-! text PL16 -/
/-- a plain class of the top's -/
structure ClsK (K : Kit) (C N : Addr) (mN : Str → Option Value) : Prop where
  cls : ∃ nm q bs sn sub col dd k0 k1 k2 k3 k5 newId, K.B C = some (excClassObj nm q C N bs [.type "object"] true sn sub false col dd k0 k1 k2 k3 k5 newId)
  ns : ∀ h : Heap, K.Base h → h.Ns N mN
  nga : mN "__getattribute__" = none
  nge : mN "__getattr__" = none
  nse : mN "__setattr__" = none

/-- one of its objects: what stands fast of it -/
structure InstK (K : Kit) (x C d : Addr) : Prop where
  obj : ∃ ox, K.B x = some ox ∧ ox.cls = .ref C ∧ (∀ c, ox.data ≠ .cls c) ∧ ox.dict = some d
  ne : d ≠ x
  nC : x ≠ C

structure GetA (C : Cx) (name : Str) (lo : LV) (H : List LO) (m : Loc) (Q : LV → List LO → Prop) : Prop where
  go : ∀ D ρ s v, St C D ρ H m s → VR ρ lo v → wpAny C.M C.A (getAttr v name true) (Post C D ρ m Q) NoE s

section
variable {C : Cx} {H : List LO} {m : Loc} {Q : LV → List LO → Prop}
theorem ev_attr {value : PySem.Expr} {attr : Str} {pos : Pos} (h : Ev C value H m fun lo H1 => GetA C attr lo H1 m Q)
    (he : eval (.Attribute value attr pos) C.env = (do let o ← eval value C.env; standAt pos.atName; let r ← holding [o] (getAttr o attr true); letTemporaryGo value o r; pure r) := by rfl) : Ev C (.Attribute value attr pos) H m Q := by
  refine .mk fun D ρ s hs => ?_
  refine Attribute_any_ (wp_imp (h.go D ρ s hs) fun v s1 ⟨ρ1, H1, lv, p1, hs1, r1, q1⟩ => wp_imp (q1.go D ρ1 s1 v hs1 r1) fun _ _ x => x.step p1) he

theorem handed {ρ : List Addr} {lv : LV} {v : Value} (r : VR ρ lv v) (hc : ∀ v, lv = .const v → handedOut v = pure v) : handedOut v = pure v := by
  cases r with
  | const v => exact hc v rfl
  | _ => rfl

theorem St.inst {D : Dy} {ρ : List Addr} {s : Shared} (hs : St C D ρ H m s) {x c d : Addr} (I : InstK C.K x c d) {kd : Nat} {a : Loc} (hk : H[kd]? = some (.ns d a)) : ∃ mm, s.heap.InstFk x c mm ∧ NsR ρ a mm ∧ ρ[kd]? = some d := by
  obtain ⟨ox, e1, e2, e3, e4⟩ := I.obj
  have hlt : kd < ρ.length := by rw [hs.hp.len]; exact (List.getElem?_eq_some_iff.mp hk).1
  obtain ⟨ed, ⟨od, es, ep, h1, h2, h3, h4⟩, mm, h5, h6⟩ := hs.hp.objs kd _ _ (List.getElem?_eq_getElem hlt) hk
  rw [ed] at h1 h5
  exact ⟨mm, ⟨ox, hs.hp.base x ox e1, e2, e3, .inr ⟨d, e4, I.ne, h5, od, h1, h2, h3⟩⟩, h6, by rw [List.getElem?_eq_getElem hlt, ed]⟩

theorem ga_inst {x c N d : Addr} {mN : Str → Option Value} {name : Str} {kd : Nat} {a : Loc} {lv : LV} (CL : ClsK C.K c N mN) (I : InstK C.K x c d) (hk : H[kd]? = some (.ns d a)) (hv : lget a name = some lv)
    (hna : mN name = none) (hB : typeLookup (.type "object") name = pure none) (hc : ∀ v, lv = .const v → handedOut v = pure v) (h : Q lv H) : GetA C name (.const (.ref x)) H m Q := by
  refine .mk fun D ρ s v hs r => ?_
  cases r
  obtain ⟨mm, i1, i2, i3⟩ := hs.inst I hk
  obtain ⟨v, ev, rv⟩ := (i2 name).1 lv hv
  obtain ⟨nm, q, bs, sn, sub, col, dd, k0, k1, k2, k3, k5, nid, hC⟩ := CL.cls
  obtain ⟨hh, gg, dr, t, os⟩ := s
  exact load_attrFk (hs.hp.base _ _ hC) (CL.ns _ hs.hp.base) CL.nga hna hB i1 ev (handed rv hc) ⟨ρ, H, lv, pre_refl ρ, hs.toks _, rv, h⟩

theorem St.updK {D : Dy} {ρ : List Addr} {s : Shared} (h : St C D ρ H m s) {h' : Heap} {t : Nat} {k : Nat} {a : Addr} {lo : LO} (ha : ρ[k]? = some a) (keep : KeepsBut a s.heap h') (ho : OR ρ h' a lo) : St C D ρ (H.set k lo) m { s with heap := h', toks := t } := by
  have hm : a ∈ ρ := List.mem_of_getElem? ha
  refine h.after (pre_refl ρ) ⟨fun b o e => keep b o (fun q => by rw [q, (h.hp.own a hm).1] at e; cases e) (h.hp.base b o e), by simp [h.hp.len], fun j b lo' e e' => ?_, h.hp.nd, h.hp.own, h.hp.gens⟩
    ⟨fun b o e h1 _ _ => keep b o (fun q => h1 (q ▸ hm)) e, rfl⟩ fun a ha => .inl ha
  by_cases hj : k = j
  · subst hj
    rw [ha] at e
    cases e
    have hk : k < H.length := by
      have := (List.getElem?_eq_some_iff.mp e').1
      simpa using this
    rw [List.getElem?_set_self hk] at e'
    cases e'
    exact ho
  · rw [List.getElem?_set_ne hj] at e'
    have hba : b ≠ a := fun q => by
      subst q
      have h1 := (List.getElem?_eq_some_iff.mp ha)
      have h2 := (List.getElem?_eq_some_iff.mp e)
      exact hj (nodup_inj h.hp.nd h1.1 h2.1 (h1.2.trans h2.2.symm))
    exact (h.hp.objs j b lo' e e').at (pre_refl ρ) fun o => keep b o hba

structure SetA (C : Cx) (name : Str) (lo v : LV) (H : List LO) (m : Loc) (R : List LO → Prop) : Prop where
  go : ∀ D ρ s vo v', St C D ρ H m s → VR ρ lo vo → VR ρ v v' → wpAny C.M C.A (setAttr vo name v') (fun _ s' => ∃ ρ' H', ρ <+: ρ' ∧ St C D ρ' H' m s' ∧ R H') NoE s

theorem sa_inst {x c N d : Addr} {mN : Str → Option Value} {name : Str} {kd : Nat} {a : Loc} {lv : LV} {R : List LO → Prop} {ns : List Str} (CL : ClsK C.K c N mN) (I : InstK C.K x c d) (hk : H[kd]? = some (.ns d a))
    (hna : mN name = none) (hB : typeLookup (.type "object") name = pure none) (hw : ∀ y, lget a y ≠ none → y ∈ ns) (hsz : ns.length ≤ sizeLine) (h : R (H.set kd (.ns d (lset a name lv)))) : SetA C name (.const (.ref x)) lv H m R := by
  refine .mk fun D ρ s vo v hs ro rv => ?_
  cases ro
  obtain ⟨mm, i1, i2, i3⟩ := hs.inst I hk
  obtain ⟨nm, q, bs, sn, sub, col, dd, k0, k1, k2, k3, k5, nid, hC⟩ := CL.cls
  obtain ⟨ox, e1, e2, e3, e4⟩ := I.obj
  have hx := hs.hp.base x ox e1
  obtain ⟨hh, gg, dr, t, os⟩ := s
  refine store_attrFk (ns := ns) PySem.F.store_object (hs.hp.base _ _ hC) (CL.ns _ hs.hp.base) CL.nse hna hB I.nC i1 (fun h' tk I' hkeep hsame => ?_) ?_ hsz
  · obtain ⟨o1, g1, g2, g3, g4, g5⟩ := hsame ox hx
    have ho1 : o1 = ox := by
      obtain ⟨c1, d1, t1, l1⟩ := o1
      obtain ⟨c2, d2, t2, l2⟩ := ox
      have := g5 d e4
      simp only at g2 g3 g4 e4 this
      rw [g2, g3, g4, this, e4]
    subst ho1
    have keep : KeepsBut d hh h' := fun b o hb e => by
      by_cases hbx : b = x
      · subst hbx
        have hx : hh.get? b = some o1 := hx
        rw [hx] at e
        cases e
        exact g1
      · refine hkeep b o hbx (fun o₀ dx q1 q2 => ?_) e
        have hx : hh.get? x = some o1 := hx
        rw [hx] at q1
        cases q1
        rw [e4] at q2
        cases q2
        exact hb
    obtain ⟨o', j1, j2, j3, j4⟩ := I'
    rw [g1] at j1
    cases j1
    rcases j4 with ⟨j4, _⟩ | ⟨d', j4, j5, j6, j7⟩
    · rw [e4] at j4; cases j4
    · rw [e4] at j4
      cases j4
      obtain ⟨o2, es, ep, k1, k2, k3⟩ := j6
      obtain ⟨od, l1, l2, l3⟩ := j7
      rw [k1] at l1
      cases l1
      refine ⟨ρ, _, pre_refl ρ, hs.updK (lo := .ns d (lset a name lv)) i3 keep ⟨rfl, ⟨o2, es, ep, k1, l2, l3, k2⟩, _, ⟨o2, es, ep, k1, k2, k3⟩, fun y => ?_⟩, h⟩
      rw [lget_lset]
      by_cases hy : name = y
      · subst hy
        exact ⟨fun lv' e => by rw [if_pos rfl] at e; cases e; exact ⟨v, if_pos rfl, rv⟩, fun e => by rw [if_pos rfl] at e; cases e⟩
      · rw [if_neg hy, if_neg (Ne.symm hy)]
        exact i2 y
  · intro y hy
    refine hw y fun e => hy ((i2 y).2 e)
end

/-! text PL17 -/
section
open PySem PySem.W PyProof.Rows Builtin Builtin.ObjectAttr
set_option maxHeartbeats 1000000
theorem tl_ga : typeLookup (.type "function") "__getattribute__" = pure (some (.builtin "object.__getattribute__")) := by rw [typeLookup_type, builtinLookup_eq_fast]; kernel_rfl
theorem tl_gat : typeLookup (.type "function") "__getattr__" = pure none := by rw [typeLookup_type, builtinLookup_eq_fast]; kernel_rfl
theorem entry_oga : entryFor table "object.__getattribute__" = some Builtin.«object.__getattribute__» := entryFor_of_tree (by kernel_rfl)
theorem slot_oga : Slot "function" "__getattribute__" "object.__getattribute__" :=
  .of (owner := "object") (n := "__getattribute__") (by rw [typeLookup_type, builtinLookup_eq_fast]; kernel_rfl) (by decide +kernel) (by decide +kernel) (by decide +kernel)
    (by first | exact .inl (by decide +kernel) | exact .inr (by decide +kernel)) (by rw [isSubtype_type]; kernel_rfl)
theorem args_oga (a b : Value) : argsOk "object.__getattribute__" ⟨[a, b], []⟩ := by unfold argsOk; kernel_rfl
section
variable {prog : Program} {w : World} {A : Around} {E : Value → Shared → Prop} {h : Heap} {g : Array GenState} {d : Drawn} {t : Nat} {os : OsState} {st ds : Addr} {o : Obj} {mm : Str → Option Value} {name : Str} {v : Value}
theorem getattr_fn {expr : Bool} {Q : Value → Shared → Prop}
   (hx : h.get? st = some o) (hc : o.cls = .type "function") (hd : o.dict = some ds) (hnc : ∀ c, o.data ≠ .cls c) (hn : h.Ns ds mm) (hv : mm name = some v) (hl : typeLookup (.type "function") name = pure none) (hh : handedOut v = pure v) (hq : Q v ⟨h, g, d, t + 1, os⟩) :
   wpAny (model prog w) A (getAttr (.ref st) name expr) Q E ⟨h, g, d, t, os⟩ := by
  unfold getAttr getAttrBy
  repeat (first | (with_reducible refine wpAny_loadPart_at hx ?_; rw [hc]) | (rw [tl_ga]) | wp_step)
  rw [show (expr && onTheHeap (Value.builtin "object.__getattribute__")) = false by cases expr <;> rfl, if_neg (by decide)]
  unfold boundAndCalled
  rw [slot_oga.bind]
  refine wpAny_bind (wpAny_pure ?_)
  refine wpAny_call_entry slot_oga ⟨_, hx, hc⟩ entry_oga ?_ (args_oga _ _)
  unfold Builtin.«object.__getattribute__»
  refine wpAny_bind (wpAny_pure ?_)
  repeat (first | (with_reducible refine wpAny_loadPart_at hx ?_; rw [hc]) | (rw [hl]) | wp_step)
  split
  · rename_i c hcd
    exact absurd hcd (hnc c)
  unfold instanceDict
  repeat (first | (with_reducible refine wpAny_loadPart_at hx ?_; rw [hc]) | wp_step)
  rw [hd]
  repeat (first | (with_reducible refine wpAny_nsGet hn ?_; rw [hv]) | wp_step)
  refine ⟨v, rfl, ?_⟩
  show wpAny _ _ (handedOut v) _ _ _
  rw [hh]
  exact wpAny_pure hq
theorem getMethod_fnattr {pl : Sem Bool} {Q : Value × List Value → Shared → Prop}
   (hx : h.get? st = some o) (hc : o.cls = .type "function") (hd : o.dict = some ds) (hnc : ∀ c, o.data ≠ .cls c) (hn : h.Ns ds mm) (hv : mm name = some v) (hl : typeLookup (.type "function") name = pure none) (hh : handedOut v = pure v) (hq : Q (v, []) ⟨h, g, d, t + 1, os⟩) :
   wpAny (model prog w) A (getMethod (.ref st) name pl) Q E ⟨h, g, d, t, os⟩ := by
  have hcan := F.canon_object_ga
  have hT : Shared.TypeIs ⟨h, g, d, t, os⟩ (.ref st) "function" := ⟨_, hx, hc⟩
  unfold getMethod
  refine wpAny_bind (wpAny_specialOf hT tl_ga ?_)
  show wpAny _ A (if (Manifest.canonical "object.__getattribute__" != "object.__getattribute__") = true then _ else _) Q E _
  rw [hcan, if_neg Bool.false_ne_true]
  refine wpAny_bind (wpAny_specialOf hT tl_gat ?_)
  refine wpAny_bind (wpAny_specialOf hT hl ?_)
  exact wpAny_bind (getattr_fn hx hc hd hnc hn hv hl hh (wpAny_pure hq))
end

section
variable {C : Cx} {H : List LO} {m : Loc} {Q : LV → List LO → Prop}

/-- a method's call, its function found -/
theorem ev_methG {o : PySem.Expr} {name : Str} {apos pos : Pos} {args : List PySem.Expr} {f : Addr} {of : Obj} {fd : FuncData} {k : Nat} {pre : Pre} {lo : LV} {first : List LV} {H1 : List LO}
    (spec : FnSpec C.K (.ref f) k [] pre) (hB : C.K.B f = some of) (hd : of.data = .func fd) (hr : Rm k C.A)
    (ho : Ev C o H m fun v H2 => v = lo ∧ H2 = H1)
    (hg : ∀ D ρ s v pl (P : Value × List Value → Shared → Prop), St C D ρ H1 m s → VR ρ lo v → (∀ vs t, VRs ρ first vs → P (.ref f, vs) { s with toks := t }) → wpAny C.M C.A (getMethod v name pl) P NoE s)
    (h : Evs C args H1 m fun las H2 => pre (first ++ las) [] H2 Q)
    (hbase : attributeBase o name C.env (eval o C.env) = eval o C.env := by rfl) (hp : args.any isStarred = false := by kernel_rfl) (hl : args.length < 30 := by decide) (hline : (apos.endLine == pos.line) = true := by kernel_rfl) :
    Ev C (.Call (.Attribute o name apos) args [] pos) H m Q := by
  refine .mk fun D ρ s hs => ?_
  have hform : methodCallForm (args.length + ([] : List Keyword).length) (backTo pos (starEach args C.env)) (backToKw pos (keywordEach [] C.env)) = true := few_of hp hl
  have hpos : methodCallPos true o C.env apos pos = pure pos := by unfold methodCallPos; simp [hline]
  rw [arm_eval_Call, hbase]
  refine wpAny_bind (wp_imp (ho.go D ρ s hs) fun ov s1 ⟨ρ1, H1', lv, p1, hs1, r1, e1, e2⟩ => ?_)
  subst e1 e2
  refine wpAny_bind (wpAny_standAt ?_)
  unfold methodCall
  rw [hform]
  refine wpAny_bind (wpAny_holding (hg D ρ1 s1 ov _ (fun r s' => wpAny C.M C.A (do let callPos ← methodCallPos true o C.env apos pos; callWith callPos r.1 r.2 (backTo pos (starEach args C.env)) []) (Post C D ρ m Q) NoE s') hs1 r1 fun vs t rv => ?_))
  refine wpAny_bind (wpAny_of_eq hpos ?_)
  have hs2 := hs1.toks t
  refine Calls.callWith_function (o := of) (fd := fd) (wp_imp (evalArgs_of hp h hs2) fun x s2 ⟨e, ρ2, H2, ls, p2, hs3, r2, q2⟩ => ?_)
  refine ⟨⟨hs3.hp.base f of hB, hd⟩, ?_⟩
  rw [e]
  exact wp_imp (spec.wp C.A ρ2 H2 s2 (first ++ ls) (vs ++ x.pos) [] [] Q hr hs3.hp ((rv.mono p2).append r2) trivial rfl q2) fun _ _ y => (y.st hs3).step (pre_trans p1 p2)

/-- of such an object -/
theorem ev_methI {o : PySem.Expr} {name : Str} {apos pos : Pos} {args : List PySem.Expr} {f x c N d : Addr} {mN : Str → Option Value} {of : Obj} {fd : FuncData} {k kd : Nat} {a : Loc} {pre : Pre} {y : Option Value} {H1 : List LO}
    (spec : FnSpec C.K (.ref f) k [] pre) (hB : C.K.B f = some of) (hd : of.data = .func fd) (hr : Rm k C.A) (hcls : of.cls = .type "function")
    (CL : ClsK C.K c N mN) (I : InstK C.K x c d) (hf : mN name = some (.ref f)) (hy : typeLookup (.type "object") name = pure y)
    (ho : Ev C o H m fun v H2 => v = .const (.ref x) ∧ H2 = H1) (hk : H1[kd]? = some (.ns d a)) (hn : lget a name = none)
    (h : Evs C args H1 m fun las H2 => pre (.const (.ref x) :: las) [] H2 Q)
    (hbase : attributeBase o name C.env (eval o C.env) = eval o C.env := by rfl) (hp : args.any isStarred = false := by kernel_rfl) (hl : args.length < 30 := by decide) (hline : (apos.endLine == pos.line) = true := by kernel_rfl) :
    Ev C (.Call (.Attribute o name apos) args [] pos) H m Q :=
  ev_methG (first := [.const (.ref x)]) spec hB hd hr ho (fun D ρ s v pl P hs r hq => by
    cases r
    obtain ⟨mm, i1, i2, i3⟩ := hs.inst I hk
    obtain ⟨nm, q, bs, sn, sub, col, dd, k0, k1, k2, k3, k5, nid, hC⟩ := CL.cls
    obtain ⟨hh, gg, dr, t, os⟩ := s
    exact method_ofFk (hs.hp.base _ _ hC) (CL.ns _ hs.hp.base) CL.nga CL.nge hf (hs.hp.base _ _ hB) hcls hy i1 ((i2 name).2 hn) (hq [.ref x] t ⟨.const _, trivial⟩)) h hbase hp hl hline

/-- of a function with a dict of its own -/
structure FnAttr (K : Kit) (st : Addr) (name : Str) (v : Value) : Prop where
  obj : ∃ o ds mm, K.B st = some o ∧ o.cls = .type "function" ∧ o.dict = some ds ∧ (∀ c, o.data ≠ .cls c) ∧ (∀ h : Heap, K.Base h → h.Ns ds mm) ∧ mm name = some v
theorem ev_methF {o : PySem.Expr} {name : Str} {apos pos : Pos} {args : List PySem.Expr} {f st : Addr} {of : Obj} {fd : FuncData} {k : Nat} {pre : Pre} {H1 : List LO}
    (spec : FnSpec C.K (.ref f) k [] pre) (hB : C.K.B f = some of) (hd : of.data = .func fd) (hr : Rm k C.A)
    (FA : FnAttr C.K st name (.ref f)) (hl' : typeLookup (.type "function") name = pure none)
    (ho : Ev C o H m fun v H2 => v = .const (.ref st) ∧ H2 = H1)
    (h : Evs C args H1 m fun las H2 => pre las [] H2 Q)
    (hbase : attributeBase o name C.env (eval o C.env) = eval o C.env := by rfl) (hp : args.any isStarred = false := by kernel_rfl) (hl : args.length < 30 := by decide) (hline : (apos.endLine == pos.line) = true := by kernel_rfl) :
    Ev C (.Call (.Attribute o name apos) args [] pos) H m Q :=
  ev_methG (first := []) spec hB hd hr ho (fun D ρ s v pl P hs r hq => by
    cases r
    obtain ⟨o, ds, mm, e1, e2, e3, e4, e5, e6⟩ := FA.obj
    obtain ⟨hh, gg, dr, t, os⟩ := s
    exact getMethod_fnattr (hs.hp.base _ _ e1) e2 e3 e4 (e5 _ hs.hp.base) e6 hl' rfl (hq [] (t + 1) trivial)) h hbase hp hl hline

/-! attribute statements -/
theorem x_setAttr {Q : LF → List LO → Loc → Prop} {o e : PySem.Expr} {attr : Str} {pos' pos : Pos} (h : Ev C e H m fun v H1 => Ev C o H1 m fun lo H2 => SetA C attr lo v H2 m fun H3 => Q .next H3 m)
    (hs' : swapsWith e (some (.Attribute o attr pos')) pos.line C.env = pure false := by rfl) : X C (.Assign [.Attribute o attr pos'] e pos) H m Q := by
  refine .mk fun D ρ s hs => ?_
  refine plainObj_wpAny_Assign_Attribute (wp_imp (h.go D ρ s hs) fun v s1 ⟨ρ1, H1, lv, p1, hs1, r1, q1⟩ => wp_imp (q1.go D ρ1 s1 hs1) fun ov s2 ⟨ρ2, H2, lo, p2, hs2, r2, q2⟩ => wp_imp (q2.go D ρ2 s2 ov v hs2 r2 (r1.mono p2)) fun _ s3 ⟨ρ3, H3, p3, hs3, q3⟩ => ?_) hs'
  exact ⟨ρ3, H3, m, .next, take_of_pre (pre_trans p1 (pre_trans p2 p3)), hs3, .next, q3⟩
theorem x_augAttr {Q : LF → List LO → Loc → Prop} {o e : PySem.Expr} {attr : Str} {pos' pos : Pos} {op : Operator}
    (h : Ev C o H m fun lo H1 => GetA C attr lo H1 m fun old H2 => Ev C e H2 m fun v H3 => Inp C op old v H3 m fun r H4 => SetA C attr lo r H4 m fun H5 => Q .next H5 m) : X C (.AugAssign (.Attribute o attr pos') op e pos) H m Q := by
  refine .mk fun D ρ s hs => ?_
  refine wpAny_AugAssign_AttributeAny (wp_imp (h.go D ρ s hs) fun ov s1 ⟨ρ1, H1, lo, p1, hs1, r1, q1⟩ => wp_imp (q1.go D ρ1 s1 ov hs1 r1) fun vo s2 ⟨ρ2, H2, old, p2, hs2, r2, q2⟩ => wp_imp (q2.go D ρ2 s2 hs2) fun v s3 ⟨ρ3, H3, lv, p3, hs3, r3, q3⟩ =>
    wp_imp (q3.go D ρ3 s3 vo v hs3 (r2.mono p3) r3) fun nv s4 ⟨ρ4, H4, ln, p4, hs4, r4, q4⟩ => wp_imp (q4.go D ρ4 s4 ov nv hs4 (r1.mono (pre_trans p2 (pre_trans p3 p4))) r4) fun _ s5 ⟨ρ5, H5, p5, hs5, q5⟩ => ?_)
  exact ⟨ρ5, H5, m, .next, take_of_pre (pre_trans p1 (pre_trans p2 (pre_trans p3 (pre_trans p4 p5)))), hs5, .next, q5⟩
end
end

/-! text PL18 -/
section
open PySem PySem.W PyProof.Rows Builtin Builtin.ObjectAttr
set_option maxHeartbeats 1000000
theorem slot_cit_next : Slot "callable_iterator" "__next__" "callable_iterator.__next__" :=
  .of (owner := "callable_iterator") (n := "__next__") (by rw [typeLookup_type, builtinLookup_eq_fast]; kernel_rfl) (by decide +kernel) (by decide +kernel) (by decide +kernel)
    (by first | exact .inl (by decide +kernel) | exact .inr (by decide +kernel)) (by rw [isSubtype_type]; kernel_rfl)
theorem entry_cit_next : entryFor table "callable_iterator.__next__" = some Builtin.«callable_iterator.__next__» := entryFor_of_tree (by kernel_rfl)
theorem args_cit_next (a : Value) : argsOk "callable_iterator.__next__" ⟨[a], []⟩ := by unfold argsOk; kernel_rfl

theorem wpAny_callBorrowed {prog : Program} {w : World} {A : Around} {E : Value → Shared → Prop} {s : Shared} {f : Value} {pos : List Value} {Q : Value → Shared → Prop}
    (hc : codeAny (model prog w) A (.call f ⟨pos, []⟩) (RetOk Q) s) : wpAny (model prog w) A (callBorrowed f pos) Q E s := fun Γ p hΓ => by
  unfold callBorrowed
  show wpCode _ _ _ _ _
  refine wpCode_mono (fun r s' h => ?_) (hc _ p rfl (hΓ.enter _ none p (by intro x; cases x)))
  match r, h with
  | .ok (.ret v), h => exact h

noncomputable abbrev citO (vs : Array Value) : Obj := { cls := .type "callable_iterator", data := .fields vs }
section
variable {prog : Program} {w : World} {A : Around} {s : Shared}
theorem cit_next {I b f x : Addr} {of : Obj} {fd : FuncData} {t0 : Tok} {P : Option Value → Shared → Prop} (hA : A.handled = none)
    (hI : s.heap.get? I = some (citO #[.ref b, .str (S []) t0, .bool false])) (hb : s.heap.get? b = some { cls := .type "method", data := .fields #[.ref f, .ref x] }) (hf : s.heap.get? f = some of) (hd : of.data = .func fd)
    (hc : codeAny (model prog w) A.in1 (.call (.ref f) ⟨[.ref x], []⟩) (RetOk fun v s1 => ∃ ch t t1, v = .str (S ch) t ∧ s1.heap.get? I = some (citO #[.ref b, .str (S []) t1, .bool false]) ∧ s1.heap.get? b = some { cls := .type "method", data := .fields #[.ref f, .ref x] } ∧ s1.heap.get? f = some of ∧
      ((ch = [] ∧ ∀ h' tk, KeepsBut I s1.heap h' → h'.get? I = some (citO #[.none, .none, .bool true]) → P none { s1 with heap := h', toks := tk }) ∨ (ch ≠ [] ∧ P (some v) s1))) s) :
    wpAny (model prog w) A (pyNext (.ref I)) P NoE s := by
  have hT : s.TypeIs (.ref I) "callable_iterator" := ⟨_, hI, rfl⟩
  unfold pyNext
  refine wpAny_bind (wpAny_attempt (wpAny_callSpecial?_slot (name := Str.ofString "__next__") hT slot_cit_next (wpAny_call_entry slot_cit_next hT entry_cit_next ?_ (args_cit_next _))))
  unfold Builtin.«callable_iterator.__next__»
  refine wpAny_bind (wpAny_pure ?_)
  refine wpAny_bind (wpAny_field hI rfl (x := .bool false) rfl ?_)
  dsimp only
  rw [if_neg (by decide)]
  refine wpAny_bind (wpAny_field hI rfl (x := .ref b) rfl ?_)
  refine wpAny_bind (wpAny_attempt ?_)
  have hbe : ∀ {A : Around} {E : Value → Shared → Prop} {s : Shared} {Q : Bool → Shared → Prop}, s.heap.get? b = some { cls := .type "method", data := .fields #[.ref f, .ref x] } → s.heap.get? f = some of → Q true s → wpAny (model prog w) A (borrowsExactly (.ref b)) Q E s := by
    intro A E s Q h1 h2 hq
    unfold borrowsExactly
    refine wpAny_bind (wpAny_load h1 ?_)
    show wpAny _ _ (load f >>= _) _ _ _
    refine wpAny_bind (wpAny_load h2 ?_)
    rw [hd]
    exact wpAny_pure hq
  unfold callOutOfASlot
  refine wpAny_bind (hbe hb hf ?_)
  rw [if_pos rfl]
  refine wpAny_callBorrowed (method_call hb (codeAny_mono hc fun r s1 hr => ?_))
  match r, hr with
  | .ok (.ret v), hr =>
    obtain ⟨ch, t, t1, rfl, hI1, hb1, hf1, hr⟩ := hr
    dsimp only [RetOk]
    refine wpAny_bind (wpAny_field hI1 rfl (x := .bool false) rfl ?_)
    rw [if_neg (by decide)]
    refine wpAny_bind (wpAny_field hI1 rfl (x := .str (S []) t1) rfl ?_)
    refine wpAny_bind (wpAny_holding (wpAny_eqBool_str ?_))
    rcases hr with ⟨rfl, hp⟩ | ⟨hne, hp⟩
    · rw [show decide (S [] = S []) = true by simp]
      rw [if_neg (by decide)]
      refine wpAny_bind (wpAny_rule (wpAny_bind ?_))
      show wpAny _ _ (field (.ref I) 0 >>= _) _ _ _
      refine wpAny_bind (wpAny_field hI1 rfl (x := .ref b) rfl ?_)
      refine wpAny_bind ?_
      unfold slotLetsGo
      refine wpAny_bind (hbe hb1 hf1 ?_)
      rw [if_pos rfl]
      refine wpAny_pure ?_
      refine wpAny_bind (wpAny_setField_rec hI1 (by simp) fun h2 g2 k2 => ?_)
      refine wpAny_bind (wpAny_setField_rec g2 (by simp) fun h3 g3 k3 => ?_)
      refine wpAny_setField_rec g3 (by simp) fun h4 g4 k4 => ?_
      unfold SmallTypes.stopIteration
      show wpAny _ _ (newExc (.type "StopIteration") [] >>= _) _ _ _
      refine wpAny_bind ?_
      simp only [newExc, newTuple]
      refine wpAny_bind (wpAny_newObj_type ?_ (by size_fits))
      refine wpAny_bind (m := firstArgMember _ _) (wpAny_of_eq (a := Value.none) (by first | rfl | (simp only [firstArgMember]; rfl)) ?_)
      refine wpAny_newObj_type ?_ (by size_fits)
      simp only [raiseNew]
      refine wpAny_bind (wpAny_handled ?_)
      rw [show A.in1.handled = none from hA]
      refine wpAny_bind (wpAny_pure (wpAny_throw ?_))
      refine wpAny_bind (wpAny_isInstance (T := "StopIteration") (b := true) ⟨_, Heap.get?_push_size _ rfl, rfl⟩ isSubtype_stop ?_)
      refine wpAny_pure (hp _ _ (fun b o hb' e => ?_) ?_)
      · exact Heap.get?_push_of_some _ (Heap.get?_push_of_some _ ((k4.2 b hb').trans ((k3.2 b hb').trans ((k2.2 b hb').trans e))))
      · exact Heap.get?_push_of_some _ (Heap.get?_push_of_some _ g4)
    · rw [show decide (S [] = S ch) = false by simp; exact fun e => hne (S_inj e.symm)]
      rw [if_pos (by rfl)]
      exact wpAny_pure ⟨_, rfl, wpAny_pure hp⟩
end
end

/-! text PL19 -/
section
set_option maxHeartbeats 1000000
theorem slot_cit_iter : Slot "callable_iterator" "__iter__" "callable_iterator.__iter__" :=
  .of (owner := "callable_iterator") (n := "__iter__") (by rw [typeLookup_type, builtinLookup_eq_fast]; kernel_rfl) (by decide +kernel) (by decide +kernel) (by decide +kernel)
    (by first | exact .inl (by decide +kernel) | exact .inr (by decide +kernel)) (by rw [isSubtype_type]; kernel_rfl)
theorem args_cit_iter (a : Value) : argsOk "callable_iterator.__iter__" ⟨[a], []⟩ := by unfold argsOk; kernel_rfl
theorem entry_cit_iter : entryFor table "callable_iterator.__iter__" = some Builtin.«dict_keyiterator.__iter__» :=
  entryFor_alias (id' := "dict_keyiterator.__iter__") (by kernel_rfl) rfl (by decide +kernel) (by kernel_rfl)
theorem pyIter_cit {prog : Program} {w : World} {A : Around} {E : Value → Shared → Prop} {s : Shared} {I : Addr} {vs : Array Value} {Q : Value → Shared → Prop} (hI : s.heap.get? I = some (citO vs)) (h : Q (.ref I) s) : wpAny (model prog w) A (pyIter (.ref I)) Q E s := by
  have hT : s.TypeIs (.ref I) "callable_iterator" := ⟨_, hI, rfl⟩
  refine wpAny_pyIter_slot hT slot_cit_iter (wpAny_call_entry slot_cit_iter hT entry_cit_iter ?_ (args_cit_iter _))
  show wpAny _ _ (ret (.ref I)) _ _ s
  exact wpAny_pure ⟨_, rfl, "callable_iterator", _, hT, slot_cit_next.lookup, h⟩

noncomputable abbrev cit (kb : Nat) : LO := .flds (.type "callable_iterator") [.obj kb, .str (S []), .bool false]
noncomputable abbrev dead : LO := .flds (.type "callable_iterator") [.none, .none, .bool true]
noncomputable abbrev meth (f x : Addr) : LO := .flds (.type "method") [.const (.ref f), .const (.ref x)]

/-- what a turn's start gives -/
noncomputable def CitTurn (C : Cx) (pre : Pre) (f x : Addr) (target : PySem.Expr) (body : List Stmt) (N ki kb : Nat) (Inv : Nat → List LO → Loc → Prop) (n : Nat) (H : List LO) (m : Loc) (Q : LF → List LO → Loc → Prop) : Prop :=
  pre [.const (.ref x)] [] H fun lv H1 => ∃ ch, lv = .str (S ch) ∧ N ≤ H1.length ∧ H1[ki]? = some (cit kb) ∧ H1[kb]? = some (meth f x) ∧
    ((ch = [] ∧ Q .next (H1.set ki dead) m) ∨ (ch ≠ [] ∧ Asg { C with n0 := N } target (.str (S ch)) H1 m fun H2 m2 => Ex { C with n0 := N } body H2 m2 (Turn N Inv n Q)))

theorem x_ForCit {C : Cx} {H : List LO} {m : Loc} {Q : LF → List LO → Loc → Prop} {target iter : PySem.Expr} {body : List Stmt} {pos : Pos} {f x : Addr} {of : Obj} {fd : FuncData} {k : Nat} {pre : Pre} (hA : C.A.handled = none)
    (spec : FnSpec C.K (.ref f) k [] pre) (hB : C.K.B f = some of) (hd : of.data = .func fd) (hr : Rm (k + 1) C.A)
    (h : Ev C iter H m fun a H1 => ∃ ki kb N n m0 Inv, a = .obj ki ∧ ki < N ∧ kb < N ∧ C.n0 ≤ N ∧ Sub m0 m ∧ Inv n H1 m0 ∧ (∀ n H m, Inv n H m → N ≤ H.length ∧ H[ki]? = some (cit kb) ∧ H[kb]? = some (meth f x)) ∧
      ∀ n H m, Inv n H m → CitTurn C pre f x target body N ki kb Inv n H m Q)
    (hf : ∀ x, foldedSetIterable iter C.env x = pure x := by intro _; rfl) (ht : ∀ o v, letOwnedTupleGo target o v = pure () := by intro _ _; rfl) : X C (.For target iter body [] pos) H m Q := by
  refine .mk fun D ρ0 s0 hs0 => ?_
  refine wpAny_For (wp_imp (h.go D ρ0 s0 hs0) fun v s ⟨ρ, H, lv, p0, hs, r, ki, kb, N, n, m0, Inv, ea, hkN, hbN, hN, hsub, h0, hinv, turn⟩ => ?_) hf
  subst ea
  obtain ⟨hN0, hk0, hb0⟩ := hinv _ _ _ h0
  cases r with
  | obj _ I eI =>
  have objs : ∀ {D : Dy} {ρ1 : List Addr} {H1 : List LO} {m1 : Loc} {s1 : Shared}, St C D ρ1 H1 m1 s1 → ρ1[ki]? = some I → H1[ki]? = some (cit kb) → ∃ t b, ρ1[kb]? = some b ∧ s1.heap.get? I = some (citO #[.ref b, .str (S []) t, .bool false]) := by
    intro D ρ1 H1 m1 s1 hs1 e1 e2
    obtain ⟨vs, eo, rv⟩ := hs1.hp.objs ki I _ e1 e2
    obtain ⟨u, v, w, rfl, ra, rb, rc⟩ := VRs.three rv
    cases ra with
    | obj _ b eb =>
    cases rb with
    | str _ t =>
    cases rc
    exact ⟨t, b, eb, eo⟩
  have objm : ∀ {D : Dy} {ρ1 : List Addr} {H1 : List LO} {m1 : Loc} {s1 : Shared} {b : Addr}, St C D ρ1 H1 m1 s1 → ρ1[kb]? = some b → H1[kb]? = some (meth f x) → s1.heap.get? b = some { cls := .type "method", data := .fields #[.ref f, .ref x] } := by
    intro D ρ1 H1 m1 s1 b hs1 e1 e2
    obtain ⟨vs, eo, rv⟩ := hs1.hp.objs kb b _ e1 e2
    obtain ⟨u, v, rfl, ra, rb⟩ := VRs.two rv
    cases ra
    cases rb
    exact eo
  have hρN : N ≤ ρ.length := by rw [hs.hp.len]; exact hN0
  have kI : ∀ ρ', ρ.take N <+: ρ' → ρ'[ki]? = some I := fun ρ' p => pre_get p (by rw [List.getElem?_take_of_lt hkN]; exact eI)
  have hC0 : ∀ ρ', ρ.take N <+: ρ' → ρ0.take C.n0 <+: ρ' := fun ρ' p => by
    have h1 : ρ.take C.n0 = (ρ.take N).take C.n0 := by rw [List.take_take, Nat.min_eq_left hN]
    have h2 : ρ.take C.n0 <+: ρ' := by rw [h1]; exact (List.take_prefix _ _).trans p
    exact take_step hs0.sz (take_of_pre p0) h2
  obtain ⟨t, b, eb, eoI⟩ := objs hs eI hk0
  refine pyIter_cit eoI ?_
  refine codeAny_forLoop (fun n s' => ∃ ρ' H' m', ρ.take N <+: ρ' ∧ St C D ρ' H' m' s' ∧ Inv n H' m') (fun n s1 ⟨ρ1, H1, m1, p1, hs1, g1⟩ => ?_) n ⟨ρ, H, m0, List.take_prefix _ _, hs.sub hsub, h0⟩ (fun v => ht _ v)
  obtain ⟨hN1, hk1, hb1⟩ := hinv _ _ _ g1
  have eI1 := kI _ p1
  obtain ⟨t1, b1, eb1, eo1⟩ := objs hs1 eI1 hk1
  have em1 := objm hs1 eb1 hb1
  have hρ1 : N ≤ ρ1.length := by rw [hs1.hp.len]; exact hN1
  have hr1 : Rm k C.A.in1 := ⟨by have := hr.d; show C.A.depth + 2 * k < 600; (first | lia | omega), by have := hr.u; show C.A.units + 1 + 10 * k < 5000; (first | lia | omega), hr.h⟩
  refine wp_imp (cit_next (P := fun r s₁ => match r with
      | none => PostS C D ρ0 Q .next s₁
      | some v => wpAny C.M C.A (assign target C.env v) (fun _ s₂ => wpAny C.M C.A (execs body C.env) (fun f s₃ => match f with
          | .next | .cont => ∃ k, k < n ∧ ∃ ρ' H' m', ρ.take N <+: ρ' ∧ St C D ρ' H' m' s₃ ∧ Inv k H' m'
          | .brk => PostS C D ρ0 Q .next s₃
          | .ret v => PostS C D ρ0 Q (.ret v) s₃) NoE s₂) NoE s₁) hA eo1 em1 (hs1.hp.base _ _ hB) hd
      (codeAny_mono (spec.go C.A.in1 ρ1 H1 s1 [.const (.ref x)] [.ref x] [] [] _ hr1 hs1.hp ⟨.const _, trivial⟩ trivial rfl (turn n H1 m1 g1)) fun r s2 hr2 => ?_)) fun r s₁ y => ?_
  · match r, hr2 with
    | .ok (.ret v), hr2 =>
      obtain ⟨ρ2, H2, lv, p2, hh2, r2, k2, n2, ch, rfl, hN2, hk2, hb2, hch⟩ := hr2
      have hs2 := hs1.after p2 hh2 k2 n2
      have pN2 : ρ.take N <+: ρ2 := p1.trans p2
      cases r2 with
      | str _ t2 =>
      have eI2 := kI _ pN2
      have eb2 := pre_get p2 eb1
      have em2 := objm hs2 eb2 hb2
      obtain ⟨t3, b3, eb3, eo3⟩ := objs hs2 eI2 hk2
      rw [eb2] at eb3
      cases eb3
      refine ⟨ch, t2, t3, rfl, eo3, em2, hh2.base _ _ hB, ?_⟩
      rcases hch with ⟨rfl, hq⟩ | ⟨hne, hq⟩
      · refine .inl ⟨rfl, fun h' tk kb' eo' => ?_⟩
        exact ⟨ρ2, _, m1, .next, hC0 _ pN2, hs2.updK (lo := dead) eI2 kb' ⟨[.none, .none, .bool true], eo', .none, .none, .bool _, trivial⟩, .next, hq⟩
      · refine .inr ⟨hne, ?_⟩
        have hin := hs2.inner (N := N) hN2
        refine wp_imp (hq.go _ ρ2 _ _ hin (.str _ t2)) fun _ s3 ⟨ρ3, H3, m3, p3, hs3, q3⟩ => ?_
        refine wp_imp (q3.go _ ρ3 s3 hs3) fun f s4 ⟨ρ4, H4, m4, lf, p4, hs4, r4, q4⟩ => ?_
        have hs4' : St C D ρ4 H4 m4 s4 := hs2.outer hN hs4
        have hρ2 : N ≤ ρ2.length := by rw [hs2.hp.len]; exact hN2
        have p24 : ρ2.take N <+: ρ4 := take_step hρ2 (take_of_pre p3) p4
        have pN : ρ.take N <+: ρ4 := take_step hρN pN2 p24
        cases r4 with
        | next =>
          obtain ⟨j, m5, H5, hj, sb, q5⟩ := q4
          obtain ⟨ρ5, p5, n5, hs5⟩ := Shed.st (C := { C with n0 := N }) sb hs4
          exact ⟨j, hj, ρ5, H5, m5, take_step hρN pN p5, hs2.outer hN hs5, q5⟩
        | cont =>
          obtain ⟨j, m5, H5, hj, sb, q5⟩ := q4
          obtain ⟨ρ5, p5, n5, hs5⟩ := Shed.st (C := { C with n0 := N }) sb hs4
          exact ⟨j, hj, ρ5, H5, m5, take_step hρN pN p5, hs2.outer hN hs5, q5⟩
        | brk => exact ⟨ρ4, H4, m4, .next, hC0 _ pN, hs4', .next, q4⟩
        | ret r => exact ⟨ρ4, H4, m4, _, hC0 _ pN, hs4', .ret r, q4⟩
  · cases r with
    | none => exact wpAny_execs_nil y
    | some v => exact wp_imp y fun _ _ z => wp_imp z fun f _ u => by cases f <;> exact u
end

/-! text PL20 -/
section
open PySem PySem.W PyProof.Rows Builtin Builtin.ObjectAttr
set_option maxHeartbeats 1000000
theorem tl_get : typeLookup (.type "function") "__get__" = pure (some (.builtin "function.__get__")) := by rw [typeLookup_type, builtinLookup_eq_fast]; kernel_rfl
theorem tl_set : typeLookup (.type "function") "__set__" = pure none := by rw [typeLookup_type, builtinLookup_eq_fast]; kernel_rfl
theorem tl_delete : typeLookup (.type "function") "__delete__" = pure none := by rw [typeLookup_type, builtinLookup_eq_fast]; kernel_rfl
section
variable {prog : Program} {w : World} {A : Around} {E : Value → Shared → Prop} {h : Heap} {g : Array GenState} {d : Drawn} {t : Nat} {os : OsState}
variable {nm q : Str} {C N x : Addr} {bs : List Value} {sn : List Str} {sub : List Value} {ab : Bool} {col : Option Bool} {dd : Option Addr} {k0 k1 k2 k3 k5 : Option Value} {newId : String}
  {mN mA : Str → Option Value} {name : Str} {f : Addr} {of : Obj}
theorem bound_entry {tk : Tok} {Q : PySem.Fin → Shared → Prop} {y : Option Value}
    (hC : h.get? C = some (excClassObj nm q C N bs [.type "object"] true sn sub ab col dd k0 k1 k2 k3 k5 newId)) (hn : h.Ns N mN) (hna : mN name = some (.ref f)) (hfo : h.get? f = some of) (hfc : of.cls = .type "function")
    (hnk : mN "__getattr__" = none) (hnn : (["__module__", "__name__", "__qualname__", "__doc__", "__annotations__"] : List Str).contains name = false)
    (hB : typeLookup (.type "object") name = pure y) (I : h.InstFk x C mA) (hv : mA name = none) (hq : Q (.done (.ret (.ref h.objs.size))) ⟨h.push (methodObj (.ref f) (.ref x)), g, d, t, os⟩) :
    wpAny (model prog w) A (Builtin.«proto.getattr_hooked» ⟨[.ref x, .str name tk], []⟩) Q E ⟨h, g, d, t, os⟩ := by
  obtain ⟨o, hx, hc, hnc, hd⟩ := I
  unfold Builtin.«proto.getattr_hooked»
  repeat (first | (with_reducible refine wpAny_loadPart_at hx ?_; rw [hc]) | (with_reducible refine wpAny_loadPart_at hfo ?_; rw [hfc]) | (with_reducible refine wpAny_typeLookup_exc hC hn F.mro_object hB ?_; rw [hna]) | (rw [tl_get]) | (rw [tl_set]) | (rw [tl_delete]) | wp_step)
  split
  · rename_i c hcd
    exact absurd hcd (hnc c)
  unfold instanceDict
  repeat (first | (with_reducible refine wpAny_loadPart_at hx ?_; rw [hc]) | (with_reducible refine wpAny_loadPart_at hC ?_) | wp_step)
  have fin : wpAny (model prog w) A (byTheClass (some (.ref f)) (some (.builtin "function.__get__"))) (fun a s' =>
          wpAny (model prog w) A
            (match a with
            | Found.value v => ret v
            | Found.missing => do
              let __do_lift ← typeLookup (Value.ref C) (Str.ofString "__getattr__")
              missingOrHook (Value.ref x) (Value.str name tk) name __do_lift
            | Found.bind g a => do
              let __do_lift ← typeLookup (Value.ref C) (Str.ofString "__getattr__")
              bindWithHook g a (Value.ref x) (Value.ref C) (Value.str name tk) __do_lift)
            Q E s') E ⟨h, g, d, t, os⟩ := by
    refine wpAny_bind (wpAny_rule (wpAny_pure ?_))
    dsimp only
    refine wpAny_bind (wpAny_typeLookup_exc hC hn F.mro_object F.lk_object_getattr ?_)
    rw [hnk]
    dsimp only
    unfold bindWithHook
    dsimp only
    unfold ObjectAttr.bindTo
    dsimp only
    show wpAny _ _ (holding [.ref f] (call (.builtin "function.__get__") [.ref f, .ref x, .ref C]) >>= ret) _ _ _
    refine wpAny_bind (wpAny_holding (wpAny_call ?_))
    refine fn_get (K := [(f, of)]) (s := ⟨h, g, d, t, os⟩) (fun a o e => ?_) ?_ (wpAny_pure hq)
    · simp only [List.lookup] at e
      split at e
      · rename_i q; cases e; rw [beq_iff_eq.mp q]; exact hfo
      · cases e
    · simp [typeIn, List.lookup, hfc]
  rcases hd with ⟨hdn, _⟩ | ⟨dx, hdx, _, hns, _⟩
  · rw [hdn]
    repeat wp_step
    rw [hnn, if_neg (by decide)]
    exact wpAny_pure fin
  · rw [hdx]
    repeat (first | (with_reducible refine wpAny_nsGet hns.ns ?_; rw [hv]) | wp_step)
    rw [hnn, if_neg (by decide)]
    exact wpAny_pure fin
theorem bound_attr {expr : Bool} {Q : Value → Shared → Prop} {y : Option Value}
    (hC : h.get? C = some (excClassObj nm q C N bs [.type "object"] true sn sub ab col dd k0 k1 k2 k3 k5 newId)) (hn : h.Ns N mN) (hng : mN "__getattribute__" = none) (hna : mN name = some (.ref f)) (hfo : h.get? f = some of) (hfc : of.cls = .type "function")
    (hnk : mN "__getattr__" = none) (hnn : (["__module__", "__name__", "__qualname__", "__doc__", "__annotations__"] : List Str).contains name = false)
    (hB : typeLookup (.type "object") name = pure y) (I : h.InstFk x C mA) (hv : mA name = none) (hq : Q (.ref h.objs.size) ⟨h.push (methodObj (.ref f) (.ref x)), g, d, t + 1, os⟩) :
    wpAny (model prog w) A (getAttr (.ref x) name expr) Q E ⟨h, g, d, t, os⟩ := by
  obtain ⟨o, hx, hc, _⟩ := id I
  unfold getAttr getAttrBy
  repeat (first | (with_reducible refine wpAny_loadPart_at hx ?_; rw [hc]) | (with_reducible refine wpAny_typeLookup_exc hC hn F.mro_object F.lk_object_ga ?_; rw [hng]) | wp_step)
  show wpAny _ _ ((runValue (.builtin "proto.getattr_hooked" ⟨[.ref x, .str name t], []⟩)).onRaise (noteIf true (.ref x) (.str name t))) _ _ _
  refine wpAny_onRaise (wpAny_runValue (codeAny_builtin F.plainObj_entry_getattr_hooked (bound_entry hC hn hna hfo hfc hnk hnn hB I hv ?_)))
  show wpAny _ _ (handedOut (.ref _)) _ _ _
  exact wpAny_pure hq
end

theorem entry_iter : entryFor table "iter" = some Builtin.«iter» := entryFor_of_tree (by kernel_rfl)
theorem args_iter (a b : Value) : argsOk "iter" ⟨[a, b], []⟩ := by unfold argsOk; kernel_rfl
theorem tl_mcall : typeLookup (.type "method") "__call__" = pure (some (.builtin "method.__call__")) := by rw [typeLookup_type, builtinLookup_eq_fast]; kernel_rfl
theorem iter_two {prog : Program} {w : World} {A : Around} {E : Value → Shared → Prop} {s : Shared} {b : Addr} {o : Obj} {v : Value} {Q : Value → Shared → Prop} (hb : s.heap.get? b = some o) (hc : o.cls = .type "method")
    (h : Q (.ref s.heap.objs.size) { s with heap := s.heap.push (citO #[.ref b, v, .bool false]) }) : wpAny (model prog w) A (call (.builtin "iter") [.ref b, v]) Q E s := by
  refine wpAny_call (codeAny_call_builtin (b := Builtin.«iter») (by decide +kernel) entry_iter ?_)
  have hfin : wpAny (model prog w) A.in1 (Builtin.«iter» ⟨[.ref b, v], []⟩) (fun fin s' => match fin with | .done f => (match (Except.ok f : Result) with | .ok (.ret v) => Q v s' | .ok _ => False | .error e => E e s') | .again c' => c'.quiet = true ∧ codeAny (model prog w) A c' (fun r s' => match r with | .ok (.ret v) => Q v s' | .ok _ => False | .error e => E e s') s') E s := by
    unfold Builtin.«iter»
    refine wpAny_bind (wpAny_pure ?_)
    dsimp only
    refine wpAny_bind (wpAny_specialOf ⟨_, hb, hc⟩ tl_mcall ?_)
    rw [if_neg (by decide)]
    refine wpAny_bind (wpAny_rule (wpAny_bind (wpAny_newObj_type ?_)))
    exact wpAny_pure h
  simp only [checkBuiltinCall, show builtinKind "iter" = none by decide +kernel]
  cases hsig : Manifest.signature? "iter" with
  | none => exact wpAny_pure hfin
  | some sig =>
    have ok := args_iter (.ref b) v
    simp only [argsOk, hsig] at ok
    have h2 : Bind.checkArgs "iter" sig ⟨[.ref b, v], []⟩ = pure () := ok
    show wpAny _ _ (Bind.checkArgs "iter" sig ⟨[.ref b, v], []⟩) _ _ s
    rw [h2]; exact wpAny_pure hfin

section
variable {C : Cx} {H : List LO} {m : Loc} {Q : LV → List LO → Prop}
theorem ga_bound {x c N d f : Addr} {mN : Str → Option Value} {name : Str} {kd : Nat} {a : Loc} {of : Obj} {y : Option Value} (CL : ClsK C.K c N mN) (I : InstK C.K x c d) (hk : H[kd]? = some (.ns d a)) (hv : lget a name = none)
    (hna : mN name = some (.ref f)) (hB : C.K.B f = some of) (hfc : of.cls = .type "function") (hnn : (["__module__", "__name__", "__qualname__", "__doc__", "__annotations__"] : List Str).contains name = false) (hy : typeLookup (.type "object") name = pure y)
    (h : Q (.obj H.length) (H ++ [meth f x])) : GetA C name (.const (.ref x)) H m Q := by
  refine .mk fun D ρ s v hs r => ?_
  cases r
  obtain ⟨mm, i1, i2, i3⟩ := hs.inst I hk
  obtain ⟨nm, q, bs, sn, sub, col, dd, k0, k1, k2, k3, k5, nid, hC⟩ := CL.cls
  obtain ⟨hh, gg, dr, t, os⟩ := s
  refine bound_attr (hs.hp.base _ _ hC) (CL.ns _ hs.hp.base) CL.nga hna (hs.hp.base _ _ hB) hfc CL.nge hnn hy i1 ((i2 name).2 hv) ?_
  exact ⟨_, _, _, List.prefix_append ρ _, hs.alloc (t := t + 1) (lo := meth f x) (fun b o e => Heap.get?_push_of_some _ e) ⟨[.ref f, .ref x], Heap.get?_push_size _ rfl, .const _, .const _, trivial⟩, VR.last hs.hp.len, h⟩
theorem blt_iter {kb : Nat} {f x : Addr} (hk : H[kb]? = some (meth f x)) (h : Q (.obj H.length) (H ++ [cit kb])) : Blt C (.builtin "iter") [.obj kb, .str (S [])] H m Q := by
  refine .mk fun D ρ s vas hs rs => ?_
  obtain ⟨v, w, rfl, r, r'⟩ := VRs.two rs
  cases r with
  | obj _ b eb =>
  obtain ⟨vs, eo, rv⟩ := hs.hp.objs kb b _ eb hk
  exact iter_two eo rfl ⟨_, _, _, List.prefix_append ρ _, hs.alloc (t := s.toks) (lo := cit kb) (fun b o e => Heap.get?_push_of_some _ e) ⟨[.ref b, w, .bool false], Heap.get?_push_size _ rfl, .obj _ _ (pre_get (List.prefix_append _ _) eb), r'.mono (List.prefix_append _ _), .bool _, trivial⟩, VR.last hs.hp.len, h⟩
end
end

/-! text PL21 -/
section
variable {C : Cx} {H : List LO} {m : Loc} {Q : LV → List LO → Prop}
theorem ev_IfExp {test body orelse : PySem.Expr} {pos : Pos} (h : Tst C test H m fun b H1 => if b then Ev C body H1 m Q else Ev C orelse H1 m Q) : Ev C (.IfExp test body orelse pos) H m Q := by
  refine .mk fun D ρ s hs => ?_
  refine wpAny_IfExp (wp_imp (h.go D ρ s hs) fun b s1 ⟨ρ1, H1, p1, hs1, q1⟩ => ?_)
  cases b with
  | true => simp only [if_true] at q1 ⊢; exact wp_imp (q1.go D ρ1 s1 hs1) fun _ _ x => x.step p1
  | false => simp only [Bool.false_eq_true, if_false] at q1 ⊢; exact wp_imp (q1.go D ρ1 s1 hs1) fun _ _ x => x.step p1
end
theorem slc_from {α : Type} (xs : List α) (n : Nat) : slc xs (some (n : Int)) none = xs.drop n := by
  unfold slc
  simp only [Option.elim, cl, clipAt_nat]
  rcases Nat.le_total n xs.length with h | h
  · rw [Nat.min_eq_left h, List.take_of_length_le (by simp)]
  · rw [Nat.min_eq_right h, List.drop_of_length_le h]; simp
theorem slc_upto {α : Type} (xs : List α) (n : Nat) : slc xs none (some (n : Int)) = xs.take n := by
  unfold slc
  simp only [Option.elim, cl, clipAt_nat, List.drop_zero, Nat.sub_zero]
  rcases Nat.le_total n xs.length with h | h
  · rw [Nat.min_eq_left h]
  · rw [Nat.min_eq_right h, List.take_of_length_le (Nat.le_refl _), List.take_of_length_le h]
theorem slc_both {α : Type} (xs : List α) (a b : Nat) : slc xs (some (a : Int)) (some (b : Int)) = (xs.drop a).take (b - a) := by
  unfold slc
  simp only [Option.elim, cl, clipAt_nat]
  rcases Nat.le_total a xs.length with h | h
  · rcases Nat.le_total b xs.length with h2 | h2
    · rw [Nat.min_eq_left h, Nat.min_eq_left h2]
    · rw [Nat.min_eq_left h, Nat.min_eq_right h2, List.take_of_length_le (by simp), List.take_of_length_le (by simp; (first | lia | omega))]
  · rw [Nat.min_eq_right h, List.drop_of_length_le h]
    simp

open Lean Elab Tactic Meta in
def py2T : TacticM Unit := tacS "first | (run_tac Mine.py1T) | refine ev_IfExp ?_ | refine ev_slice_str ?_ | refine ev_list ?_ | refine ev_tuple ?_ | refine ev_or ?_ | refine ev_and ?_ | refine ev_one ?_ | refine ev_neg ?_ | refine x_Expr ?_ | refine x_aug (by (run_tac Mine.lgtT)) ?_ | refine inp_add ?_ | refine inp_sub ?_ | refine ev_method \"str\" \"str.startswith\" PySem.F.plainAttrs_str PySem.F.slot_str_startswith PySem.F.type_str_startswith ?_ | refine ev_method \"str\" \"str.endswith\" PySem.F.plainAttrs_str PySem.F.slot_str_endswith PySem.F.type_str_endswith ?_ | refine ev_method \"str\" \"str.join\" PySem.F.plainAttrs_str PySem.F.slot_str_join PySem.F.type_str_join ?_ | refine ev_method \"str\" \"str.lower\" PySem.F.plainAttrs_str PySem.F.slot_str_lower PySem.F.type_str_lower ?_ | refine ev_method \"str\" \"str.count\" PySem.F.plainAttrs_str PySem.F.slot_str_count PySem.F.type_str_count ?_ | refine ev_method \"list\" \"list.append\" PySem.F.plainAttrs_list PySem.F.slot_list_append PySem.F.type_list_append ?_ | refine ev_method \"list\" \"list.insert\" PySem.F.plainAttrs_list PySem.F.slot_list_insert PySem.F.type_list_insert ?_ | refine ev_method \"list\" \"list.pop\" PySem.F.plainAttrs_list PySem.F.slot_list_pop PySem.F.type_list_pop ?_ | refine And.intro (Knd.str _) ?_ | refine blt_startswith ?_ | refine blt_endswith ?_ | refine asg_set ?_"
open Lean Elab Tactic Meta in
def pyyT : TacticM Unit := tacS "((run_tac Mine.bredT); repeat ((run_tac Mine.py2T); (run_tac Mine.bredT)))"


/-! text PL22 -/
section
open PySem PySem.W PyProof.Rows Builtin Builtin.ObjectAttr
set_option maxHeartbeats 1000000
theorem slot_fsa : Slot "function" "__setattr__" "object.__setattr__" :=
  .of (owner := "object") (n := "__setattr__") (by rw [typeLookup_type, builtinLookup_eq_fast]; kernel_rfl) (by decide +kernel) (by decide +kernel) (by decide +kernel)
    (by first | exact .inl (by decide +kernel) | exact .inr (by decide +kernel)) (by rw [isSubtype_type]; kernel_rfl)
theorem mro_fn : mroOf (.type "function") = pure [.type "function", .type "object"] := by kernel_rfl
theorem passes_fn (self : Value) : refuseLoop self "__setattr__" [.type "function", .type "object"] = pure () := by kernel_rfl
theorem args_osa (a b c : Value) : argsOk "object.__setattr__" ⟨[a, b, c], []⟩ := PySem.F.store_object.args a b c
section
variable {prog : Program} {w : World} {A : Around} {E : Value → Shared → Prop} {h : Heap} {g : Array GenState} {d : Drawn} {t : Nat} {os : OsState} {st : Addr} {o : Obj} {name : Str} {v : Value}
/-- a function gets its dict by the first store -/
theorem setattr_fn {Q : Unit → Shared → Prop} (hx : h.get? st = some o) (hc : o.cls = .type "function") (hd : o.dict = none) (hnc : ∀ c, o.data ≠ .cls c) (hl : typeLookup (.type "function") name = pure none)
    (hq : ∀ h' tk', h'.get? st = some { cls := o.cls, dict := some h.objs.size, data := o.data, slots := o.slots } → h'.Ns h.objs.size (fun y => if y = name then some v else none) →
      (∀ b ob, b ≠ st → h.get? b = some ob → h'.get? b = some ob) → Q () ⟨h', g, d, tk', os⟩) :
    wpAny (model prog w) A (setAttr (.ref st) name v) Q E ⟨h, g, d, t, os⟩ := by
  have hT : Shared.TypeIs ⟨h, g, d, t + 1, os⟩ (.ref st) "function" := ⟨_, hx, hc⟩
  have hpass := passes_fn (.ref st)
  unfold setAttr
  refine wpAny_bind (wpAny_mkText ?_)
  refine wpAny_bind (wpAny_callSpecial?_slot (name := Str.ofString "__setattr__") hT slot_fsa (wpAny_call_entry slot_fsa hT PySem.F.store_object.entry ?_ (args_osa _ _ _)))
  unfold Builtin.«object.__setattr__»
  repeat (first | rw [refuse_eq] | (with_reducible refine wpAny_loadPart_at hx ?_; rw [hc]) | (rw [mro_fn]) | (rw [hpass]) | (rw [hl]) | wp_step)
  rw [hd, if_neg (by decide +kernel)]
  split
  · rename_i hcd; cases hcd
  split
  · rename_i c hcd
    exact absurd hcd (hnc c)
  have hx₁ : (h.push { cls := .type "dict", data := .dict #[] }).get? st = some o := Heap.get?_push_of_some _ hx
  have hxs : st ≠ h.objs.size := Nat.ne_of_lt (Heap.lt_size hx)
  refine wpAny_bind (wpAny_alloc' ?_)
  refine wpAny_bind (wpAny_update' hx₁ ?_)
  have hdm : dictMade (.type "function") st h.objs.size = pure (some h.objs.size) := by kernel_rfl
  show wpAny _ _ (dictMade (.type "function") st h.objs.size) _ _ _
  rw [hdm]
  refine wpAny_pure ?_
  have hgd : ((h.push { cls := .type "dict", data := .dict #[] }).update st fun o => { cls := o.cls, dict := some h.objs.size, data := o.data, slots := o.slots }).get? h.objs.size
      = some { cls := .type "dict", data := .dict #[] } :=
    (Heap.get?_update_ne _ _ _ _ hxs.symm).trans (Heap.get?_push_at rfl rfl)
  have hnd : ((h.push { cls := .type "dict", data := .dict #[] }).update st fun o => { cls := o.cls, dict := some h.objs.size, data := o.data, slots := o.slots }).Ns h.objs.size (fun _ => none) :=
    ⟨_, #[], _, hgd, rfl, fun e he => absurd he (by simp), fun _ => rfl⟩
  show wpAny _ _ (storeInDict h.objs.size (.str name t) name v) _ _ _
  unfold storeInDict newKeyGuard
  refine wpAny_bind (wpAny_pure (wpAny_bind (wpAny_nsSet1EFk (Heap.Ns1.of_empty hnd) fun h' hn' hs hkeepD => ?_)))
  obtain ⟨oD, esD, epD, hoD, hdD, hcD⟩ := hn'.count (Within.cons name v Within.nil)
  refine wpAny_bind (wpAny_lookBehind hoD (by rw [hdD]; exact pastItsLine_dict (Nat.le_trans hcD (by rw [List.length_cons, List.length_nil, sizeLine_eq]; (first | lia | omega)))) ?_)
  refine wpAny_pure ⟨_, rfl, wpAny_pure (hq h' _ ?_ hn'.ns fun b ob hb e => ?_)⟩
  · refine (hs.2 st hxs).trans (Heap.get?_update_self _ hx₁ ?_)
    have hfr := (Heap.get?_some_iff.mp hx).2
    obtain ⟨oc, od, odt, osl⟩ := o
    cases odt <;> first | rfl | exact hfr
  · exact (hs.2 b (Nat.ne_of_lt (Heap.lt_size e))).trans ((Heap.get?_update_ne _ _ _ _ hb).trans (Heap.get?_push_of_some _ e))
end
end

/-! text PL23 -/
section
variable {C : Cx} {H : List LO} {m : Loc}
theorem St.plc {D : Dy} {ρ : List Addr} {s : Shared} (hs : St C D ρ H m s) {k : Nat} {p : Addr} {n : Int} (hk : H[k]? = some (.plc p n)) {v : Value} (r : VR ρ (.obj k) v) : v = .ref p ∧ ρ[k]? = some p ∧ ∃ t, s.heap.IsList p #[.int n t] := by
  cases r with
  | obj _ a ea =>
    obtain ⟨rfl, t, h⟩ := hs.hp.objs k a _ ea hk
    exact ⟨rfl, ea, t, h⟩
theorem ev_sub_plc {Q : LV → List LO → Prop} {value ix : PySem.Expr} {pos : Pos} (h : Ev C value H m fun a H1 => Ev C ix H1 m fun i H2 => ∃ k p n, a = .obj k ∧ H2[k]? = some (.plc p n) ∧ i = .int 0 ∧ Q (.int n) H2)
    (hi : ∀ o i, ∃ ops, subscripted ix false o i = operate ops (getItem o i) := by exact fun _ _ => ⟨_, rfl⟩) : Ev C (.Subscript value ix pos) H m Q := by
  refine .mk fun D ρ s hs => ?_
  refine Subscript_ (wp_imp (h.go D ρ s hs) fun va s1 ⟨ρ1, H1, la, p1, hs1, r1, q1⟩ => wp_imp (q1.go D ρ1 s1 hs1) fun vi s2 ⟨ρ2, H2, li, p2, hs2, r2, q2⟩ => ?_)
  obtain ⟨k, p, n, rfl, hk, rfl, hq⟩ := q2
  obtain ⟨rfl, _, t, hl⟩ := hs2.plc hk (r1.mono p2)
  cases r2 with
  | int _ u =>
    obtain ⟨ops, ho⟩ := hi (.ref p) (.int 0 u)
    obtain ⟨o, ho1, ho2, ho3⟩ := hl
    exact tail_any ⟨_, ho1, ho2⟩ F.slot_list_getitem.lookup (wpAny_getItem_list (x := .int n t) ⟨o, ho1, ho2, ho3⟩ (by decide) (by decide) (by rfl) ⟨ρ2, H2, .int n, pre_trans p1 p2, hs2, .int _ _, hq⟩) ho
theorem x_augPlc {Q : LF → List LO → Loc → Prop} {o i value : PySem.Expr} {tpos pos : Pos}
    (h : Ev C o H m fun a H1 => Ev C i H1 m fun iv H2 => ∃ k p n, a = .obj k ∧ H2[k]? = some (.plc p n) ∧ iv = .int 0 ∧ Ev C value H2 m fun v H3 => ∃ j, v = .int j ∧ H3[k]? = some (.plc p n) ∧ Q .next (H3.set k (.plc p (n + j))) m)
    (hi : ∀ ov iv new, augStore i ov iv new = (do holding [new, ov, iv] (setItem ov iv new); release [new, ov, iv] []; pure .next) := by intros; rfl) : X C (.AugAssign (.Subscript o i tpos) .Add value pos) H m Q := by
  refine .mk fun D ρ s hs => ?_
  refine wpAny_AugAssign_SubscriptAny (wp_imp (h.go D ρ s hs) fun ov s1 ⟨ρ1, H1, la, p1, hs1, r1, q1⟩ => wp_imp (q1.go D ρ1 s1 hs1) fun iv s2 ⟨ρ2, H2, li, p2, hs2, r2, q2⟩ => ?_) hi
  obtain ⟨k, p, n, rfl, hk, rfl, q2⟩ := q2
  obtain ⟨rfl, ek, t, hl⟩ := hs2.plc hk (r1.mono p2)
  cases r2 with
  | int _ u =>
    refine wpAny_getItem_list (x := .int n t) hl (by decide) (by decide) (by rfl) (wp_imp (q2.go D ρ2 s2 hs2) fun v s3 ⟨ρ3, H3, lv, p3, hs3, r3, q3⟩ => ?_)
    obtain ⟨j, rfl, hk3, hq⟩ := q3
    cases r3 with
    | int _ tj =>
      refine P.iadd_int ?_
      have hs3' := hs3.toks (s3.toks + 1)
      have ek3 := pre_get p3 ek
      obtain ⟨_, _, t3, hl3⟩ := hs3'.plc hk3 (.obj k p ek3)
      refine wpAny_setItem_list hl3 (by decide) (by decide) (by simp) fun h' hl' hb => ?_
      exact ⟨ρ3, _, m, .next, take_of_pre (pre_trans p1 (pre_trans p2 p3)), hs3'.upd (lo := .plc p (n + j)) ek3 hb ⟨rfl, _, hl'⟩, .next, hq⟩
end

theorem lget_app {a b : Loc} {x : Str} {lv : LV} (h : lget (a ++ b) x = some lv) : lget a x = some lv ∨ lget b x = some lv := by
  induction a with
  | nil => exact .inr h
  | cons q a ih =>
    obtain ⟨y, v⟩ := q
    simp only [List.cons_append, lget] at h ⊢
    split at h
    · rename_i e; rw [if_pos e]; exact .inl h
    · rename_i e; rw [if_neg e]; exact ih h

/-- a def that was made while the law runs: its cells stand in K, not in K0 -/
theorem FnSpec.introF {K0 K : Kit} (hM : K0.M = K.M) (hsub : ∀ a o, K0.B a = some o → K.B a = some o) (ht0 : ∀ a, K0.tab a = false) (ht : ∀ a, K.tab a = false) {a : Addr} {o : Obj} {fd : FuncData} {body : List Stmt} {k : Nat} {pre : Pre}
    (hB : K.B a = some o) (hd : o.data = .func fd) (hbody : fd.body = .stmts body) (code : ∀ h : Heap, K.Base h → h.CodeRec fd.code fd.qualname) (hco : fd.scope.isCoroutine = false) (hgen : fd.scope.isGenerator = false) (hkind : fd.scope.kind = .function)
    (hcell : ∀ x ∈ fd.scope.names, x.2 ≠ .cell) (hclo : ∀ c ∈ fd.closure.map (·.2), K0.B c = none ∧ ∃ o, K.B c = some o) (hnd : (fd.closure.map (·.2)).Nodup)
    (h : ∀ las H Q, pre las [] H Q → ∃ lb mf : Loc, (lb.map (·.1)).Nodup ∧ (∀ x ∈ lb, fd.scope.names.lookup x.1 = some .local) ∧ Fits K fd [] las [] lb ∧ (∀ x ∈ mf, fd.scope.names.lookup x.1 ≠ some .local) ∧
      (∀ ρ s, Hp K ρ H s → ∀ x c, fd.closure.lookup x = some c → ∃ v, s.heap.IsCell c v ∧ ∀ lv, lget (lb ++ mf) x = some lv → ∃ v', v = some v' ∧ VR ρ lv v') ∧
      ∀ A L, Rm k A → Ex ⟨K0, A, callEnv fd L a, H.length⟩ body H (lb ++ mf) fun lf H' _ => Ret H Q lf H') : FnSpec K (.ref a) (k + 1) [] pre := by
  refine .mk fun A ρ H s las vas lks vks Q r hp ra rk hl p => ?_
  obtain rfl : lks = [] := List.eq_nil_of_length_eq_zero hl
  obtain ⟨lb, mf, hnb, hloc, hfit, hmf, hcl, hb⟩ := h las H Q p
  obtain ⟨b, hbind, hbr⟩ := hfit s ρ vas vks hp.base ra rk
  have hlim := (K.hg s.heap hp.base).2.2
  have hf := fresh_size s.heap
  rw [← hM]
  have hp0 : Hp K0 ρ H s := ⟨fun a o e => hp.base a o (hsub a o e), hp.len, hp.objs, hp.nd, fun a ha => ⟨by
    cases e : K0.B a with
    | none => rfl
    | some o => exact absurd (hsub a o e) (by rw [(hp.own a ha).1]; simp), ht0 a⟩, hp.gens⟩
  have hcells : ∀ c ∈ fd.closure.map (·.2), c ≠ s.heap.objs.size ∧ c ∉ ρ ∧ ∃ o, s.heap.get? c = some o := fun c hc => by
    obtain ⟨_, o, e⟩ := hclo c hc
    have e2 := hp.base c o e
    refine ⟨fun q => ?_, fun hm => ?_, o, e2⟩
    · rw [q, hf] at e2; cases e2
    · rw [(hp.own c hm).1] at e; cases e
  refine codeAny_call_def r.depth (hp.base a o hB) hd hlim (code _ hp.base) hbody hbind hcell (fun x hx => ?_) (fun h₀ hns hkeep => ?_) hco hgen hkind
  · have : x.1 ∈ lb.map (·.1) := hbr.keys ▸ List.mem_map.mpr ⟨x, hx, rfl⟩
    obtain ⟨y, hy, e⟩ := List.mem_map.mp this
    exact e ▸ hloc y hy
  · have hwr : ∀ b ∈ Cx.wr ⟨K0, A.deeper (callEnv fd s.heap.objs.size a), callEnv fd s.heap.objs.size a, H.length⟩, s.heap.get? b = none := by
      intro b hb
      rcases List.mem_cons.mp hb with e | hb
      · rw [e]; exact hf
      · split at hb
        · exfalso
          obtain ⟨q, hq, _⟩ := List.mem_map.mp hb
          have hk := (List.mem_filter.mp hq).2
          have hk : isCellK (fd.scope.names.lookup q.1) = true := hk
          cases e : fd.scope.names.lookup q.1 with
          | none => rw [e] at hk; cases hk
          | some kd =>
            rw [e] at hk
            cases kd <;> first | exact hcell _ (mem_of_lookup e) rfl | cases hk
        · cases hb
    have hst : St ⟨K0, A.deeper (callEnv fd s.heap.objs.size a), callEnv fd s.heap.objs.size a, H.length⟩ ⟨s, ρ⟩ ρ H (lb ++ mf) { s with heap := h₀, toks := s.toks + b.length } := by
      refine ⟨⟨fun a o e => hkeep a o (hp0.base a o e), hp.len, fun j a lo e e' => (hp.objs j a lo e e').at (pre_refl ρ) fun o => hkeep a o, hp.nd, hp0.own, hp.gens⟩, ⟨_, hns, fun x lv e e' => ?_⟩, fun x c e => ?_, ?_, fun _ => hnd, ?_, ?_,
        ⟨fun b o e _ _ _ => hkeep b o e, rfl⟩, fun a ha => .inl ha, ?_⟩
      · rcases lget_app e with e | e
        · exact hbr.get hnb e
        · exact absurd e' (hmf _ (lget_mem e))
      · obtain ⟨v, ⟨oc, ho, hdc⟩, q⟩ := hcl ρ s hp x c e
        exact ⟨v, ⟨oc, hkeep _ _ ho, hdc⟩, q⟩
      · intro hm
        exact (hcells _ hm).1 rfl
      · intro b hb
        rcases List.mem_cons.mp hb with e | hb
        · obtain ⟨o, _, _, ho, _⟩ := hns
          exact ⟨o, e ▸ ho⟩
        · obtain ⟨_, _, o, e⟩ := hcells b hb
          exact ⟨o, hkeep _ _ e⟩
      · intro b hb
        rcases List.mem_cons.mp hb with e | hb
        · exact e ▸ hp0.fresh
        · exact ⟨(hcells b hb).2.1, (hclo b hb).1, ht0 b⟩
      · show H.length ≤ ρ.length
        rw [hp.len]; exact Nat.le_refl _
    refine wp_imp ((hb _ _ (r.deeper _)).go ⟨s, ρ⟩ ρ _ hst) fun f s1 ⟨ρ1, H1, m1, lf, p1, hs1, r1, q1⟩ => ?_
    have e0 : H.length = ρ.length := hp.len.symm
    have hp1 : ρ <+: ρ1 := by
      have p1 : ρ.take H.length <+: ρ1 := p1
      rw [e0, List.take_length] at p1; exact p1
    rw [e0] at hs1 hwr
    obtain ⟨ρ', H', lv, x1, x2, x3, x4, x5, x6⟩ := Ret.post (v := fval f) hs1 hwr hp1 (flow_val r1) hp0 q1
    refine ⟨ρ', H', lv, x1, ⟨fun b o e => ?_, x2.len, x2.objs, x2.nd, fun b hb => ⟨?_, ht b⟩, x2.gens⟩, x3, ⟨fun b o e h1 h2 h3 => x4.keep b o e h1 h2 (ht0 b), x4.os⟩, x5, x6⟩
    · refine x4.keep b o (hp.base b o e) (fun hm => ?_) (by simp) (ht0 b)
      rw [(hp.own b hm).1] at e; cases e
    · cases e : K.B b with
      | none => rfl
      | some o =>
        rcases x5 b hb with q | q
        · rw [(hp.own b q).1] at e; cases e
        · rw [hp.base b o e] at q; cases q

/-! text PL24 -/
/-- more stands fast -/
noncomputable def Kit.add (K : Kit) (B' : Addr → Option Obj) (hsub : ∀ a o, K.B a = some o → B' a = some o) : Kit :=
  { K with
    B := B'
    hg := fun h hb => K.hg h fun a o e => hb a o (hsub a o e)
    low := fun e => by
      cases q : K.B sysModules with
      | none => exact K.low q
      | some o => rw [hsub _ o q] at e; cases e
    htop := fun e => by
      cases q : K.B K.top with
      | none => exact K.htop q
      | some o => rw [hsub _ o q] at e; cases e }
structure KExt (K K' : Kit) : Prop where
  M : K.M = K'.M
  sub : ∀ a o, K.B a = some o → K'.B a = some o
  t0 : ∀ a, K.tab a = false
  t1 : ∀ a, K'.tab a = false
theorem Kit.add_ext {K : Kit} {B' : Addr → Option Obj} {hsub : ∀ a o, K.B a = some o → B' a = some o} (ht : ∀ a, K.tab a = false) : KExt K (K.add B' hsub) := ⟨rfl, hsub, ht, ht⟩
theorem KExt.base {K K' : Kit} (X : KExt K K') {h : Heap} (b : K'.Base h) : K.Base h := fun a o e => b a o (X.sub a o e)
theorem KExt.hp {K K' : Kit} (X : KExt K K') {ρ : List Addr} {H : List LO} {s : Shared} (hp : Hp K' ρ H s) : Hp K ρ H s :=
  ⟨X.base hp.base, hp.len, hp.objs, hp.nd, fun a ha => ⟨by
    cases e : K.B a with
    | none => rfl
    | some o => exact absurd (X.sub a o e) (by rw [(hp.own a ha).1]; simp), X.t0 a⟩, hp.gens⟩
theorem KExt.back {K K' : Kit} (X : KExt K K') {ρ ρ' : List Addr} {H H' : List LO} {s s' : Shared} (hp : Hp K' ρ H s) (x2 : Hp K ρ' H' s') (x4 : Kp K [] ρ s s') (x5 : ∀ b ∈ ρ', b ∈ ρ ∨ s.heap.get? b = none) : Hp K' ρ' H' s' := by
  refine ⟨fun b o e => ?_, x2.len, x2.objs, x2.nd, fun b hb => ⟨?_, X.t1 b⟩, x2.gens⟩
  · refine x4.keep b o (hp.base b o e) (fun hm => ?_) (by simp) (X.t0 b)
    rw [(hp.own b hm).1] at e; cases e
  · cases e : K'.B b with
    | none => rfl
    | some o =>
      rcases x5 b hb with q | q
      · rw [(hp.own b q).1] at e; cases e
      · rw [hp.base b o e] at q; cases q
theorem FnSpec.ext {K K' : Kit} (X : KExt K K') {f : Value} {k : Nat} {nk : List Str} {pre : Pre} (h : FnSpec K f k nk pre) : FnSpec K' f k nk pre := by
  refine .mk fun A ρ H s las vas lks vks Q r hp ra rk hl p => ?_
  rw [← X.M]
  refine codeAny_mono (h.go A ρ H s las vas lks vks Q r (X.hp hp) ra rk hl p) fun r s' x => ?_
  match r, x with
  | .ok (.ret v), ⟨ρ', H', lv, x1, x2, x3, x4, x5, x6⟩ =>
    exact ⟨ρ', H', lv, x1, X.back hp x2 x4 x5, x3, ⟨fun b o e h1 h2 h3 => x4.keep b o e h1 h2 (X.t0 b), x4.os⟩, x5, x6⟩
theorem Fn.ext {K K' : Kit} (X : KExt K K') {a : Addr} {fd : FuncData} {body : List Stmt} (F : Fn K a fd body) : Fn K' a fd body :=
  ⟨let ⟨o, e, d⟩ := F.obj; ⟨o, X.sub _ _ e, d⟩, F.body, fun h b => F.code h (X.base b), F.clo, F.co, F.gen, F.kind⟩
theorem ClsK.ext {K K' : Kit} (X : KExt K K') {C N : Addr} {mN : Str → Option Value} (c : ClsK K C N mN) : ClsK K' C N mN :=
  ⟨let ⟨nm, q, bs, sn, sub, col, dd, k0, k1, k2, k3, k5, n, e⟩ := c.cls; ⟨nm, q, bs, sn, sub, col, dd, k0, k1, k2, k3, k5, n, X.sub _ _ e⟩, fun h b => c.ns h (X.base b), c.nga, c.nge, c.nse⟩

/-- the end of an activation, whatever is to be said of it -/
theorem call_rawC {K : Kit} {a : Addr} {fd : FuncData} {body : List Stmt} {k : Nat} (F : Fn K a fd body)
    (hkeys : ∀ L : Addr, ((cellsFrom (L + 1) fd.scope.names []).map (·.1)).Nodup)
    (hcnl : ∀ L : Addr, ∀ x c, (cellsFrom (L + 1) fd.scope.names []).lookup x = some c → fd.scope.names.lookup x ≠ some .local)
    {A : Around} {ρ : List Addr} {H : List LO} {s : Shared} {las : List LV} {vas : List Value} {P : Value → Shared → Prop} (r : Rm (k + 1) A) (hp : Hp K ρ H s) (ra : VRs ρ las vas)
    (lb : Loc) (hnd : (lb.map (·.1)).Nodup) (hloc : ∀ (L : Addr), ∀ x ∈ lb, fd.scope.names.lookup x.1 = some .local ∨ (fd.scope.names.lookup x.1 = some .cell ∧ ((cellsFrom (L + 1) fd.scope.names []).lookup x.1).isSome = true))
    (hfit : ∃ b, bindArgs fd ⟨vas, []⟩ = pure b ∧ BR ρ lb b)
    (hb : ∀ s₁, (∀ c ∈ Cx.own ⟨K, A.deeper (callEnvC fd s.heap.objs.size a), callEnvC fd s.heap.objs.size a, H.length⟩, s.heap.get? c = none) → Rm k (A.deeper (callEnvC fd s.heap.objs.size a)) →
      St ⟨K, A.deeper (callEnvC fd s.heap.objs.size a), callEnvC fd s.heap.objs.size a, H.length⟩ ⟨s, ρ⟩ ρ H lb s₁ →
      wpAny K.M (A.deeper (callEnvC fd s.heap.objs.size a)) (execs body (callEnvC fd s.heap.objs.size a)) (fun f s' => P (fval f) s') NoE s₁) : codeAny K.M A (.call (.ref a) ⟨vas, []⟩) (RetOk P) s := by
  obtain ⟨o, hB, hd⟩ := F.obj
  obtain ⟨b, hbind, hbr⟩ := hfit
  have hlim := (K.hg s.heap hp.base).2.2
  have hf := fresh_size s.heap
  refine codeAny_call_cells r.depth (hp.base a o hB) hd hlim (F.code _ hp.base) F.body hbind F.clo (fun x hx => ?_) (fun s₁ x => ?_) F.co F.gen F.kind
  · have : x.1 ∈ lb.map (·.1) := hbr.keys ▸ List.mem_map.mpr ⟨x, hx, rfl⟩
    obtain ⟨y, hy, e⟩ := List.mem_map.mp this
    exact e ▸ hloc _ y hy
  · obtain ⟨⟨h', tk, rfl⟩, hns, hkeep, hfr⟩ := x.toInCall
    have hlo : ∀ c ∈ (callEnvC fd s.heap.objs.size a).cells.map (·.2), s.heap.objs.size < c := by
      intro c hc
      obtain ⟨q, hq, e⟩ := List.mem_map.mp hc
      exact e ▸ x.above q.1 q.2 hq
    have hown : ∀ c ∈ Cx.own ⟨K, A.deeper (callEnvC fd s.heap.objs.size a), callEnvC fd s.heap.objs.size a, H.length⟩, s.heap.get? c = none := by
      intro c hc
      have : s.heap.objs.size ≤ c := by
        rcases List.mem_cons.mp hc with e | hc
        · exact Nat.le_of_eq e.symm
        · exact Nat.le_of_lt (hlo c hc)
      cases e : s.heap.get? c with
      | none => rfl
      | some o => exact absurd (Heap.lt_size e) (Nat.not_lt.mpr this)
    have hst : St ⟨K, A.deeper (callEnvC fd s.heap.objs.size a), callEnvC fd s.heap.objs.size a, H.length⟩ ⟨s, ρ⟩ ρ H lb { s with heap := h', toks := tk } := by
      refine ⟨⟨fun a o e => hkeep a o (hp.base a o e), hp.len, fun j a lo e e' => (hp.objs j a lo e e').at (pre_refl ρ) fun o => hkeep a o, hp.nd, hp.own, hp.gens⟩, ⟨_, hns, fun y lv e hk => bindL_get hbr _ hnd e hk⟩, fun y c e => ?_, (List.nodup_cons.mp (inCallC_nodup x)).1, fun _ => (List.nodup_cons.mp (inCallC_nodup x)).2, ?_, ?_,
        ⟨fun b o e _ _ _ => hkeep b o e, rfl⟩, fun a ha => .inl ha, ?_⟩
      · refine ⟨_, x.cell y c e, fun lv e' => ?_⟩
        exact bindC_get hbr _ hnd e' (hcnl _ y c e)
      · intro c hc
        rcases List.mem_cons.mp hc with e | hc
        · obtain ⟨o, _, _, ho, _⟩ := hns
          exact ⟨o, e ▸ ho⟩
        · obtain ⟨q, hq, e⟩ := List.mem_map.mp hc
          obtain ⟨o, ho, _⟩ := x.cell q.1 q.2 (lookup_of_mem (hkeys _) hq)
          exact ⟨o, e ▸ ho⟩
      · intro c hc
        have hn := hown c hc
        refine ⟨fun hm => ?_, ?_, ?_⟩
        · obtain ⟨o, ho⟩ := hp.alive hm
          rw [hn] at ho; cases ho
        · cases e : K.B c with
          | none => rfl
          | some o => rw [hp.base c o e] at hn; cases hn
        · cases e : K.tab c with
          | false => rfl
          | true =>
            have h1 := K.htab _ e
            cases e2 : K.B K.top with
            | none => exact absurd e2 K.htop
            | some o2 =>
              have h2 := Heap.lt_size (hp.base _ _ e2)
              have h3 : s.heap.objs.size ≤ c := by
                rcases List.mem_cons.mp hc with e | hc
                · exact Nat.le_of_eq e.symm
                · exact Nat.le_of_lt (hlo c hc)
              exact absurd (Nat.lt_of_le_of_lt h1 (Nat.lt_of_lt_of_le h2 h3)) (Nat.lt_irrefl _)
      · show H.length ≤ ρ.length
        rw [hp.len]; exact Nat.le_refl _
    exact wp_imp (hb _ hown (r.deeper _) hst) fun f s' q => q

section
variable {C : Cx} {D : Dy} {ρ : List Addr} {H : List LO} {m : Loc} {s : Shared}
/-- what may change besides -/
theorem St.moreD (h : St C D ρ H m s) (l : List Addr) : St C ⟨D.s0, l ++ D.ρ0⟩ ρ H m s :=
  ⟨h.hp, h.ns, h.cl, h.nd, h.nd2, h.alive, h.off, ⟨fun b o e h1 h2 h3 => h.kp.keep b o e (fun q => h1 (List.mem_append_right _ q)) h2 h3, h.kp.os⟩, fun a ha => (h.new a ha).imp (List.mem_append_right _) id, h.sz⟩
/-- from here on -/
theorem St.restart (h : St C D ρ H m s) : St C ⟨s, ρ⟩ ρ H m s :=
  ⟨h.hp, h.ns, h.cl, h.nd, h.nd2, h.alive, h.off, Kp.refl _ _ _ _, fun a ha => .inl ha, h.sz⟩
theorem St.old (h : St C D ρ H m s) {b : Addr} {o : Obj} (e : D.s0.heap.get? b = some o) (h1 : b ∉ D.ρ0) (h2 : b ∉ C.own) (h3 : C.K.tab b = false) : s.heap.get? b = some o := h.kp.keep b o e h1 (fun q => h2 (Cx.wr_own q)) h3
end

/-! text PL25 -/
section
variable {C : Cx} {D : Dy} {ρ : List Addr} {H : List LO} {m : Loc} {s : Shared}
theorem St.jump {K' : Kit} {ρ' : List Addr} {H' : List LO} {s' : Shared} (h : St C D ρ H m s) (X : KExt C.K K') (p : ρ <+: ρ') (hh : Hp K' ρ' H' s') (keepOwn : ∀ a ∈ C.own, ∀ o, s.heap.get? a = some o → s'.heap.get? a = some o)
    (hn : ∀ a ∈ ρ', a ∈ ρ ∨ s.heap.get? a = none) (hnew : ∀ b o, C.K.B b = none → K'.B b = some o → s.heap.get? b = none) : St { C with K := K' } ⟨s', ρ'⟩ ρ' H' m s' := by
  refine ⟨hh, ?_, ?_, h.nd, h.nd2, ?_, fun a ha => ⟨fun hm => ?_, ?_, X.t1 a⟩, Kp.refl _ _ _ _, fun a ha => .inl ha, Nat.le_trans h.sz p.length_le⟩
  · obtain ⟨mm, ⟨o, es, ep, ho, r⟩, q⟩ := h.ns
    exact ⟨mm, ⟨o, es, ep, keepOwn _ (by simp [Cx.own]) o ho, r⟩, fun x lv e e' => let ⟨v, a, b⟩ := q x lv e e'; ⟨v, a, b.mono p⟩⟩
  · intro x c hc
    obtain ⟨v, ⟨o, ho, hd⟩, q⟩ := h.cl x c hc
    have hm : c ∈ C.own := List.mem_cons_of_mem _ (List.mem_map.mpr ⟨(x, c), mem_of_lookup hc, rfl⟩)
    exact ⟨v, ⟨o, keepOwn c hm o ho, hd⟩, fun lv e => let ⟨v', a, b⟩ := q lv e; ⟨v', a, b.mono p⟩⟩
  · intro a ha
    obtain ⟨o, ho⟩ := h.alive a ha
    exact ⟨o, keepOwn a ha o ho⟩
  · obtain ⟨o, ho⟩ := h.alive a ha
    rcases hn a hm with q | q
    · exact (h.off a ha).1 q
    · rw [q] at ho; cases ho
  · cases e : K'.B a with
    | none => rfl
    | some o =>
      obtain ⟨o', ho⟩ := h.alive a ha
      rw [hnew a o (h.off a ha).2.1 e] at ho; cases ho
end
theorem Hp.allocN {K : Kit} {ρ : List Addr} {H : List LO} {s : Shared} (hp : Hp K ρ H s) {b : Addr} (hf : s.heap.get? b = none) (ht : K.tab b = false) {h' : Heap} {t : Nat} {lo : LO} (k : ∀ a o, s.heap.get? a = some o → h'.get? a = some o) (ho : OR (ρ ++ [b]) h' b lo) :
    Hp K (ρ ++ [b]) (H ++ [lo]) { s with heap := h', toks := t } := by
  have hn : b ∉ ρ := fun hm => by
    obtain ⟨o, q⟩ := hp.alive hm
    rw [q] at hf; cases hf
  have hbn : K.B b = none := by
    cases e : K.B b with
    | none => rfl
    | some o => rw [hp.base _ _ e] at hf; cases hf
  refine ⟨fun a o e => k a o (hp.base a o e), by simp [hp.len], fun j a lo' e e' => ?_, ?_, fun a ha => ?_, hp.gens⟩
  · rcases Nat.lt_trichotomy j ρ.length with hj | hj | hj
    · rw [List.getElem?_append_left hj] at e
      rw [List.getElem?_append_left (hp.len ▸ hj)] at e'
      exact (hp.objs j a lo' e e').at (List.prefix_append _ _) fun o => k a o
    · subst hj
      rw [List.getElem?_append_right (Nat.le_refl _)] at e
      rw [List.getElem?_append_right (by rw [hp.len]; exact Nat.le_refl _)] at e'
      simp only [Nat.sub_self, List.getElem?_cons_zero, Option.some.injEq] at e
      rw [hp.len] at e'
      simp only [Nat.sub_self, List.getElem?_cons_zero, Option.some.injEq] at e'
      subst e e'
      exact ho
    · rw [List.getElem?_eq_none (by simp; (first | lia | omega))] at e; cases e
  · rw [List.nodup_append]
    exact ⟨hp.nd, by simp, fun a ha c hc e => hn (by simp at hc; rw [← hc, ← e]; exact ha)⟩
  · rcases List.mem_append.mp ha with ha | ha
    · exact hp.own a ha
    · simp at ha; subst ha; exact ⟨hbn, ht⟩
theorem Hp.swap {K : Kit} {ρ : List Addr} {H : List LO} {s : Shared} (hp : Hp K ρ H s) {k : Nat} {lo lo' : LO} (hk : H[k]? = some lo) (h : ∀ a, ρ[k]? = some a → OR ρ s.heap a lo → OR ρ s.heap a lo') : Hp K ρ (H.set k lo') s := by
  refine ⟨hp.base, by simp [hp.len], fun j a l e e' => ?_, hp.nd, hp.own, hp.gens⟩
  by_cases hj : k = j
  · subst hj
    rw [List.getElem?_set_self (List.getElem?_eq_some_iff.mp hk).1] at e'
    cases e'
    exact h a e (hp.objs k a lo e hk)
  · rw [List.getElem?_set_ne hj] at e'
    exact hp.objs j a l e e'
theorem wp_def0 {M : Model} {A : Around} {E : Value → Shared → Prop} {s : Shared} {name : Str} {args : Arguments} {body : List Stmt} {scope : Scope} {pos : Pos} {env : Env} {Q : Flow → Shared → Prop} (hd : defaultsOf args env = ([], [])) (ha : annTrees args none env = [])
    (h : wpAny M A (makeFunction name (qualnameIn env name name) args (.stmts body) scope env [] [] [] pos pos.line) (fun f s1 => wpAny M A (storeName env name f) (fun _ s2 => Q .next s2) E s1) E s) :
    wpAny M A (exec (.FunctionDef name args body [] none [] scope none name pos) env) Q E s := by
  rw [exec_def, hd, ha]
  refine wpAny_bind (wpAny_standAt (wpAny_bind (wpAny_holding ?_)))
  refine wpAny_bind (wpAny_pure (wpAny_bind (wpAny_holding (wpAny_pure (wpAny_holding ?_)))))
  refine wpAny_bind (wpAny_pure (wpAny_mono h (fun f s1 h1 => wpAny_bind (wpAny_standAt (wpAny_bind (wpAny_bindName (wpAny_mono h1 (fun _ s2 q => wpAny_pure q) fun _ _ x => x))))) fun _ _ x => x))

/-! text C1 -/
noncomputable def st1 (i : Nat) : Stmt := stOf PySem.Challenge.pw_re0155_01 i
/-- where bisect_left and bisect_right come to -/
noncomputable def bisL (xs : List (List Nat)) (x : List Nat) : Nat := bsearch (fun i => decide (xs.getD i [] < x)) xs.length 0 xs.length
noncomputable def bisR (xs : List (List Nat)) (x : List Nat) : Nat := bsearch (fun i => !decide (x < xs.getD i [])) xs.length 0 xs.length
structure Blts (K : Kit) : Prop where
  len : K.mg "len" = none ∧ K.mb "len" = some (.builtin "len")
  chr : K.mg "chr" = none ∧ K.mb "chr" = some (.builtin "chr")
  ord : K.mg "ord" = none ∧ K.mb "ord" = some (.builtin "ord")
  iter : K.mg "iter" = none ∧ K.mb "iter" = some (.builtin "iter")
  sorted : K.mg "sorted" = none ∧ K.mb "sorted" = some (.builtin "sorted")
  range : K.mg "range" = none ∧ K.mb "range" = some (.type "range")
  list : K.mg "list" = none ∧ K.mb "list" = some (.type "list")
theorem bl_body {K : Kit} {A : Around} {L a : Addr} {dV kV doc pm cd ct : Value} {an : Option Addr} {H : List LO} {k : Nat} {xs : List (List Nat)} {x : List Nat} {Q : LV → List LO → Prop} (B : Blts K)
  (hk : H[k]? = some (.list (sts xs))) (hl : xs.length ≤ sizeLine) (h : Q (.int (bsearch (fun i => decide (xs.getD i [] < x)) xs.length 0 xs.length)) H) :
  Ex ⟨K, A, callEnv (fdOf (st1 3) dV kV doc pm cd ct an) L a, H.length⟩ (bodyOf (st1 3)) H [("a", .obj k), ("x", .str (S x)), ("lo", .int 0), ("hi", .none), ("key", .none)] (fun lf H' _ => Ret H Q lf H') := by
  (run_tac Mine.pyT)
  refine ev_bcall (ev_builtin B.len.1 B.len.2 ⟨rfl, rfl⟩) ?_
  (run_tac Mine.pyT)
  refine blt_len_list hk (by rw [sts_len]; exact hl) ?_
  (run_tac Mine.pyT)
  refine x_While (fun n H' m => ∃ lo hi : Nat, H' = H ∧ n = hi - lo ∧ hi ≤ xs.length ∧ m = ([("a", .obj k), ("x", .str (S x)), ("lo", .int lo), ("hi", .int hi)] : Loc) ∧
    bsearch (fun i => decide (xs.getD i [] < x)) xs.length 0 xs.length = bsearch (fun i => decide (xs.getD i [] < x)) (hi - lo) lo hi) xs.length _ ?_ ⟨0, xs.length, rfl, rfl, Nat.le_refl _, rfl, rfl⟩ ?_
  · rw [sts_len]; (run_tac Mine.subsT)
  · rintro n H1 m1 ⟨lo, hi, rfl, rfl, hhi, rfl, hb⟩
    (run_tac Mine.pyT)
    refine it_both (fun hc => ?_) (fun hc => ?_)
    · have hc : lo < hi := by simpa using hc
      (run_tac Mine.pyT)
      have e2 : (((lo : Int) + hi).fdiv 2) = (((lo + hi) / 2 : Nat) : Int) := by
        rw [Int.fdiv_eq_ediv_of_nonneg _ (by decide)]; omega
      rw [e2]
      refine ev_sub_list ?_
      (run_tac Mine.pyT)
      refine ⟨k, _, _, _, rfl, hk, rfl, sts_get (by omega), by rw [sts_len]; exact hl, ?_⟩
      (run_tac Mine.pyT)
      refine it_both (fun hd => ?_) (fun hd => ?_)
      · (run_tac Mine.pyT)
        refine ⟨hi - ((lo + hi) / 2 + 1), _, _, by omega, .keep (by (run_tac Mine.subsT)), (lo + hi) / 2 + 1, hi, rfl, rfl, hhi, rfl, ?_⟩
        · rw [hb, bsearch_fuel _ (hi - lo) ((hi - lo - 1) + 1) lo hi (Nat.le_refl _) (by omega), bsearch, if_pos hc, if_pos hd]
          exact bsearch_fuel _ _ _ _ _ (by omega) (by omega)
      · (run_tac Mine.pyT)
        refine ⟨(lo + hi) / 2 - lo, _, _, by omega, .keep (by (run_tac Mine.subsT)), lo, (lo + hi) / 2, rfl, rfl, by omega, rfl, ?_⟩
        · rw [hb, bsearch_fuel _ (hi - lo) ((hi - lo - 1) + 1) lo hi (Nat.le_refl _) (by omega), bsearch, if_pos hc, if_neg (by rw [hd]; decide)]
          exact bsearch_fuel _ _ _ _ _ (by omega) (by omega)
    · have hc : ¬ lo < hi := by simpa using hc
      (run_tac Mine.pyT)
      refine .all ?_
      rw [hb, bsearch_done _ _ _ _ hc] at h
      exact h

theorem br_body {K : Kit} {A : Around} {L a : Addr} {dV kV doc pm cd ct : Value} {an : Option Addr} {H : List LO} {k : Nat} {xs : List (List Nat)} {x : List Nat} {Q : LV → List LO → Prop} (B : Blts K)
  (hk : H[k]? = some (.list (sts xs))) (hl : xs.length ≤ sizeLine) (h : Q (.int (bsearch (fun i => !decide (x < xs.getD i [])) xs.length 0 xs.length)) H) :
  Ex ⟨K, A, callEnv (fdOf (st1 2) dV kV doc pm cd ct an) L a, H.length⟩ (bodyOf (st1 2)) H [("a", .obj k), ("x", .str (S x)), ("lo", .int 0), ("hi", .none), ("key", .none)] (fun lf H' _ => Ret H Q lf H') := by
  (run_tac Mine.pyT)
  refine ev_bcall (ev_builtin B.len.1 B.len.2 ⟨rfl, rfl⟩) ?_
  (run_tac Mine.pyT)
  refine blt_len_list hk (by rw [sts_len]; exact hl) ?_
  (run_tac Mine.pyT)
  refine x_While (fun n H' m => ∃ lo hi : Nat, H' = H ∧ n = hi - lo ∧ hi ≤ xs.length ∧ m = ([("a", .obj k), ("x", .str (S x)), ("lo", .int lo), ("hi", .int hi)] : Loc) ∧
    bsearch (fun i => !decide (x < xs.getD i [])) xs.length 0 xs.length = bsearch (fun i => !decide (x < xs.getD i [])) (hi - lo) lo hi) xs.length _ ?_ ⟨0, xs.length, rfl, rfl, Nat.le_refl _, rfl, rfl⟩ ?_
  · rw [sts_len]; (run_tac Mine.subsT)
  · rintro n H1 m1 ⟨lo, hi, rfl, rfl, hhi, rfl, hb⟩
    (run_tac Mine.pyT)
    refine it_both (fun hc => ?_) (fun hc => ?_)
    · have hc : lo < hi := by simpa using hc
      (run_tac Mine.pyT)
      have e2 : (((lo : Int) + hi).fdiv 2) = (((lo + hi) / 2 : Nat) : Int) := by
        rw [Int.fdiv_eq_ediv_of_nonneg _ (by decide)]; omega
      rw [e2]
      refine ev_sub_list ?_
      (run_tac Mine.pyT)
      refine ⟨k, _, _, _, rfl, hk, rfl, sts_get (by omega), by rw [sts_len]; exact hl, ?_⟩
      (run_tac Mine.pyT)
      refine it_both (fun hd => ?_) (fun hd => ?_)
      · (run_tac Mine.pyT)
        refine ⟨(lo + hi) / 2 - lo, _, _, by omega, .keep (by (run_tac Mine.subsT)), lo, (lo + hi) / 2, rfl, rfl, by omega, rfl, ?_⟩
        rw [hb, bsearch_fuel _ (hi - lo) ((hi - lo - 1) + 1) lo hi (Nat.le_refl _) (by omega), bsearch, if_pos hc, if_neg (by rw [hd]; decide)]
        exact bsearch_fuel _ _ _ _ _ (by omega) (by omega)
      · (run_tac Mine.pyT)
        refine ⟨hi - ((lo + hi) / 2 + 1), _, _, by omega, .keep (by (run_tac Mine.subsT)), (lo + hi) / 2 + 1, hi, rfl, rfl, hhi, rfl, ?_⟩
        rw [hb, bsearch_fuel _ (hi - lo) ((hi - lo - 1) + 1) lo hi (Nat.le_refl _) (by omega), bsearch, if_pos hc, if_pos (by rw [hd]; decide)]
        exact bsearch_fuel _ _ _ _ _ (by omega) (by omega)
    · have hc : ¬ lo < hi := by simpa using hc
      (run_tac Mine.pyT)
      refine .all ?_
      rw [hb, bsearch_done _ _ _ _ hc] at h
      exact h

/-! text C2 -/
noncomputable def more (a b : List Nat) : List (List Nat) := if startsW a b then [a.drop b.length] else []
theorem more_body {K : Kit} {A : Around} {L a : Addr} {dV kV doc pm cd ct : Value} {an : Option Addr} {H : List LO} {x y : List Nat} {Q : LV → List LO → Prop} (B : Blts K) (hx : x.length ≤ sizeLine) (hy : y.length ≤ sizeLine)
  (h : Q (.obj H.length) (H ++ [.list (sts (more x y))])) :
  Ex ⟨K, A, callEnv (fdOf (st1 15) dV kV doc pm cd ct an) L a, H.length⟩ (bodyOf (st1 15)) H [("longer", .str (S x)), ("shorter", .str (S y))] (fun lf H' _ => Ret H Q lf H') := by
  (run_tac Mine.pyyT)
  refine tst_plain ?_
  (run_tac Mine.pyyT)
  refine it_both (fun hc => ?_) (fun hc => ?_)
  · (run_tac Mine.pyyT)
    refine ev_bcall (ev_builtin B.len.1 B.len.2 ⟨rfl, rfl⟩) ?_
    (run_tac Mine.pyyT)
    refine blt_len_str hy ?_
    (run_tac Mine.pyyT)
    refine ⟨_, _, _, rfl, hx, .int _, .none, ?_⟩
    (run_tac Mine.pyyT)
    refine ⟨by simp only [List.length_cons, List.length_nil]; decide, ?_⟩
    (run_tac Mine.pyyT)
    refine .all ?_
    rw [slc_from]
    unfold more at h
    rw [if_pos hc] at h
    exact h
  · (run_tac Mine.pyyT)
    refine ⟨by simp only [List.length_cons, List.length_nil]; decide, ?_⟩
    (run_tac Mine.pyyT)
    refine .all ?_
    unfold more at h
    rw [if_neg (by rw [hc]; decide)] at h
    exact h

/-- the shortest word that laid end to end makes it -/
noncomputable def rootGo (w : List Nat) : Nat → Nat → List Nat
  | 0, _ => w
  | n + 1, size => if rep (w.length / size) (w.take size) = w then w.take size else rootGo w n (size + 1)
noncomputable def root (w : List Nat) : List Nat := rootGo w (w.length - 1) 1
theorem over_rng {C : Cx} {H : List LO} {N k : Nat} {x y : Int} {run : Nat → (Nat → Option LV) → (List LO → Prop) → Prop} (hk : H[k]? = some (rng x y 1)) (h1 : -2 ^ 62 ≤ x) (h2 : x < 2 ^ 62) (h3 : -2 ^ 62 ≤ y) (h4 : y < 2 ^ 62)
    (h : run (y - x).toNat (fun i => if i < (y - x).toNat then some (.int (x + i)) else none) (fun _ => True)) : Over C H (.obj k) N run := .inr (.inl ⟨k, x, y, rfl, hk, h1, h2, h3, h4, h⟩)
theorem at_end {H : List LO} {lo : LO} : (H ++ [lo])[H.length]? = some lo := by rw [List.getElem?_append_right (Nat.le_refl _)]; simp

theorem fdiv_nat (a b : Nat) : (a : Int).fdiv (b : Int) = ((a / b : Nat) : Int) := by rw [Int.fdiv_eq_ediv_of_nonneg _ (by omega)]; simp
theorem fmod_nat (a b : Nat) : (a : Int).fmod (b : Int) = ((a % b : Nat) : Int) := by rw [Int.fmod_eq_emod_of_nonneg _ (by omega)]; simp

theorem root_body {K : Kit} {A : Around} {L a : Addr} {dV kV doc pm cd ct : Value} {an : Option Addr} {H : List LO} {x : List Nat} {Q : LV → List LO → Prop} (B : Blts K) (hA : A.handled = none) (hx : x.length ≤ 4000)
  (h : Q (.str (S (root x))) H) :
  Ex ⟨K, A, callEnv (fdOf (st1 17) dV kV doc pm cd ct an) L a, H.length⟩ (bodyOf (st1 17)) H [("word", .str (S x))] (fun lf H' _ => Ret H Q lf H') := by
  have hsz : sizeLine = 16777216 := rfl
  (run_tac Mine.pyyT)
  refine x_For hA ?_
  (run_tac Mine.pyyT)
  refine ev_tcall (ev_builtin B.range.1 B.range.2 ⟨rfl, rfl⟩) ?_
  (run_tac Mine.pyyT)
  refine ev_bcall (ev_builtin B.len.1 B.len.2 ⟨rfl, rfl⟩) ?_
  (run_tac Mine.pyyT)
  refine blt_len_str (by omega) ?_
  (run_tac Mine.pyyT)
  refine blt_range2 ?_
  (run_tac Mine.bredT)
  refine ⟨H.length, over_rng at_end (by decide) (by decide) (by omega) (by omega) ?_⟩
  refine ⟨[("word", .str (S x))], fun i H' m => H' = H ++ [rng 1 (x.length : Int) 1] ∧ m = ([("word", .str (S x))] : Loc) ∧ i ≤ x.length - 1 ∧ rootGo x (x.length - 1 - i) (i + 1) = root x, Nat.le_refl _, by simp, by (run_tac Mine.subsT), ⟨rfl, rfl, by omega, rfl⟩, ?_, ?_, ?_⟩
  · rintro i H' m ⟨rfl, -⟩
    exact ⟨by simp, trivial⟩
  · rintro i v H' m hv ⟨rfl, rfl, hi, hr⟩
    dsimp only at hv
    by_cases hlt : i < ((x.length : Int) - 1).toNat
    · rw [if_pos hlt] at hv
      obtain rfl : v = .int ((i + 1 : Nat) : Int) := by
        cases hv
        congr 1; omega
      (run_tac Mine.pyyT)
      refine ⟨_, _, _, rfl, by omega, .none, .int _, ?_⟩
      rw [slc_upto]
      (run_tac Mine.pyyT)
      refine ev_bcall (ev_builtin B.len.1 B.len.2 ⟨rfl, rfl⟩) ?_
      (run_tac Mine.pyyT)
      refine blt_len_str (by omega) ?_
      (run_tac Mine.pyyT)
      refine bin_floordiv (by omega) (by omega) ?_
      rw [fdiv_nat]
      (run_tac Mine.bredT)
      have hdl : x.length / (i + 1) ≤ x.length := Nat.div_le_self _ _
      refine bin_mul_str ?_ (by omega) ?_
      · rw [List.length_take, hsz]
        have h1 : min (i + 1) x.length * (x.length / (i + 1)) ≤ 4000 * 4000 := Nat.mul_le_mul (by omega) (by omega)
        omega
      (run_tac Mine.pyyT)
      have e : x.length - 1 - i = (x.length - 1 - (i + 1)) + 1 := by omega
      rw [e] at hr
      unfold rootGo at hr
      refine it_both (fun hc => ?_) (fun hc => ?_)
      · rw [if_pos (by simpa using hc)] at hr
        (run_tac Mine.pyyT)
        refine ⟨_, _, _, rfl, by omega, .none, .int _, ?_⟩
        rw [slc_upto]
        (run_tac Mine.pyyT)
        refine .same rfl trivial ?_
        show Q (.str (S (x.take (i + 1)))) H
        rw [hr]; exact h
      · rw [if_neg (by simpa using hc)] at hr
        (run_tac Mine.pyyT)
        refine ⟨_, _, .keep (by (run_tac Mine.subsT)), rfl, rfl, by omega, hr⟩
    · rw [if_neg hlt] at hv; cases hv
  · rintro H' m ⟨rfl, rfl, hi, hr⟩
    (run_tac Mine.pyyT)
    refine .same rfl trivial ?_
    have : x.length - 1 - ((x.length : Int) - 1).toNat = 0 := by omega
    rw [this] at hr
    show Q (.str (S x)) H
    have hr : x = root x := hr
    rw [hr]
    exact h

/-! text C3 -/
noncomputable def powers (x y : List Nat) : List (List Nat) :=
  let longer := if y.length < x.length then x else y
  let g := Nat.gcd x.length y.length
  if g = 0 then [[]] else (List.range (longer.length / g + 1)).map fun k => rep k (longer.take g)

noncomputable def notLoc (env : Env) (x : Str) : Bool := match env.kindOf x with
  | some .local => false
  | _ => true
noncomputable def MfOk (C : Cx) (scope : Scope) (mf : Loc) : Prop := ∀ L x lv, lget mf x = some lv → (compEnvC scope (clOf scope C.env) L C.env).kindOf x ≠ some .local
theorem MfOk.nil {C : Cx} {scope : Scope} : MfOk C scope [] := fun _ _ _ e => by cases e
theorem MfOk.cons {C : Cx} {scope : Scope} {mf : Loc} {y : Str} {v : LV} (h : ∀ L, notLoc (compEnvC scope (clOf scope C.env) L C.env) y = true) (t : MfOk C scope mf) : MfOk C scope ((y, v) :: mf) := fun L x lv e => by
  unfold lget at e
  by_cases hx : y = x
  · subst hx
    intro hk
    have := h L
    unfold notLoc at this
    rw [hk] at this
    cases this
  · rw [if_neg hx] at e
    exact t L x lv e
theorem powers_body {K : Kit} {A : Around} {L a : Addr} {dV kV doc pm cd ct : Value} {an : Option Addr} {H : List LO} {x y : List Nat} {Q : LV → List LO → Prop} (B : Blts K) (hA : A.handled = none) (hx : x.length ≤ 4000) (hy : y.length ≤ 4000)
  (h : Q (.obj H.length) (H ++ [.list (sts (powers x y))])) :
  Ex ⟨K, A, callEnvC (fdOf (st1 18) dV kV doc pm cd ct an) L a, H.length⟩ (bodyOf (st1 18)) H [("one", .str (S x)), ("other", .str (S y))] (fun lf H' _ => Ret H Q lf H') := by
  have hsz : sizeLine = 16777216 := rfl
  refine ex_cons (x_set ?_)
  refine Ev.mono (Q := fun lv H1 => lv = .str (S (if y.length < x.length then x else y)) ∧ H1 = H) ?_ ?_
  · (run_tac Mine.pyyT)
    (refine ev_bcall (ev_builtin (Blts.len B).1 (Blts.len B).2 ⟨rfl, rfl⟩) ?_; (run_tac Mine.bredT))
    (run_tac Mine.pyyT)
    refine blt_len_str (by (first | lia | omega)) ?_
    (run_tac Mine.pyyT)
    (refine ev_bcall (ev_builtin (Blts.len B).1 (Blts.len B).2 ⟨rfl, rfl⟩) ?_; (run_tac Mine.bredT))
    (run_tac Mine.pyyT)
    refine blt_len_str (by (first | lia | omega)) ?_
    (run_tac Mine.pyyT)
    refine it_both (fun hc => ?_) (fun hc => ?_)
    · rw [if_pos (by simpa using hc)]
      (run_tac Mine.pyyT)
      exact ⟨rfl, rfl⟩
    · rw [if_neg (by simpa using hc)]
      (run_tac Mine.pyyT)
      exact ⟨rfl, rfl⟩
  rintro _ H ⟨rfl, rfl⟩
  generalize hlg : (if y.length < x.length then x else y) = lg
  have hlg2 : lg.length ≤ 4000 := by rw [← hlg]; split <;> (first | lia | omega)
  (run_tac Mine.pyyT)
  (refine ev_bcall (ev_builtin (Blts.len B).1 (Blts.len B).2 ⟨rfl, rfl⟩) ?_; (run_tac Mine.bredT))
  (run_tac Mine.pyyT)
  refine blt_len_str (by (first | lia | omega)) ?_
  (run_tac Mine.pyyT)
  (refine ev_bcall (ev_builtin (Blts.len B).1 (Blts.len B).2 ⟨rfl, rfl⟩) ?_; (run_tac Mine.bredT))
  (run_tac Mine.pyyT)
  refine blt_len_str (by (first | lia | omega)) ?_
  (run_tac Mine.pyyT)
  refine x_While (fun n H' m => ∃ (p q : Nat) (l : List LO), H' = H ++ l ∧ n = q ∧ m = ([("longer", .str (S lg)), ("measure", .int p), ("rest", .int q)] : Loc) ∧ Nat.gcd p q = Nat.gcd x.length y.length) y.length _ ?_ ⟨x.length, y.length, [], by simp, rfl, rfl, rfl⟩ ?_
  · (run_tac Mine.subsT)
  · rintro n H1 m1 ⟨p, q, l, rfl, rfl, rfl, hg⟩
    (run_tac Mine.pyyT)
    refine it_both (fun hc => ?_) (fun hc => ?_)
    · have hc : 0 < n := by simpa using hc
      refine ex_cons ?_
      refine x_assignTuple hA ?_
      (run_tac Mine.pyyT)
      refine bin_mod (by (first | lia | omega)) ?_
      rw [fmod_nat]
      (run_tac Mine.pyyT)
      refine ⟨by simp only [List.length_cons, List.length_nil]; decide, ?_⟩
      (run_tac Mine.bredT)
      refine asg_tuple hA at_end rfl ?_
      unfold Asgs
      (run_tac Mine.pyyT)
      refine ⟨p % n, _, _, Nat.mod_lt _ hc, .keep (by (run_tac Mine.subsT)), n, p % n, l ++ [.tup [.int n, .int ((p % n : Nat) : Int)]], by simp, rfl, rfl, ?_⟩
      rw [← hg, Nat.gcd_comm p n, Nat.gcd_rec n p, Nat.gcd_comm]
    · have hc : n = 0 := by have := hc; simp at this; (first | lia | omega)
      subst hc
      rw [Nat.gcd_zero_right] at hg
      (run_tac Mine.pyyT)
      refine it_both (fun hp => ?_) (fun hp => ?_)
      · have hp : p = 0 := by simpa using hp
        (run_tac Mine.pyyT)
        refine ⟨by simp only [List.length_cons, List.length_nil]; decide, ?_⟩
        (run_tac Mine.pyyT)
        refine .one (by rw [List.append_assoc]) (by simp) at_end rfl (by intro z hz; simp at hz; subst hz; trivial) ?_
        unfold powers at h
        dsimp only at h
        rw [if_pos (by rw [← hg]; exact hp)] at h
        exact h
      · have hp : p ≠ 0 := by simpa using hp
        (run_tac Mine.pyyT)
        have hgp : p ≤ x.length + y.length := by
          rw [hg]
          rcases Nat.eq_zero_or_pos x.length with h0 | h0
          · rw [h0, Nat.gcd_zero_left]; (first | lia | omega)
          · have := Nat.gcd_le_left y.length h0; (first | lia | omega)
        refine ev_comp1 ⟨hA, rfl, by decide, by decide, by kernel_rfl, fun _ => rfl⟩ ?_
        refine ev_tcall (ev_builtin B.range.1 B.range.2 ⟨rfl, rfl⟩) ?_
        (run_tac Mine.pyyT)
        (refine ev_bcall (ev_builtin (Blts.len B).1 (Blts.len B).2 ⟨rfl, rfl⟩) ?_; (run_tac Mine.bredT))
        (run_tac Mine.pyyT)
        refine blt_len_str (by (first | lia | omega)) ?_
        (run_tac Mine.pyyT)
        refine bin_floordiv (by (first | lia | omega)) (by (first | lia | omega)) ?_
        rw [fdiv_nat]
        have hdl : lg.length / p ≤ lg.length := Nat.div_le_self _ _
        generalize hq : lg.length / p = q at hdl ⊢
        (run_tac Mine.pyyT)
        refine blt_range1 ?_
        refine ⟨[("longer", .str (S lg)), ("measure", .int p)], by (run_tac Mine.subsT), MfOk.cons (fun L => by kernel_rfl) (MfOk.cons (fun L => by kernel_rfl) MfOk.nil), ?_⟩
        refine over_rng at_end (by decide) (by decide) (by (first | lia | omega)) (by (first | lia | omega)) ?_
        intro L ac
        have hcnt : ((q : Int) + 1 - 0).toNat = q + 1 := by (first | lia | omega)
        rw [hcnt]
        refine ⟨fun i H' m => H' = H ++ l ++ [rng 0 ((q : Int) + 1) 1] ++ [.list (sts ((List.range i).map fun k => rep k (lg.take p)))] ∧ m = ([("longer", .str (S lg)), ("measure", .int p)] : Loc), ⟨rfl, rfl⟩, ?_, ?_, ?_⟩
        · rintro i H' m ⟨rfl, rfl⟩
          exact ⟨by simp; (first | lia | omega), trivial⟩
        · rintro i v H' m hv ⟨rfl, rfl⟩
          dsimp only at hv
          by_cases hlt : i < q + 1
          · rw [if_pos hlt] at hv
            obtain rfl : v = .int (i : Nat) := by
              cases hv
              congr 1; (first | lia | omega)
            refine asg_set ?_
            unfold TstAll
            (run_tac Mine.bredT)
            refine it_true rfl ?_
            unfold EAct Emit
            (run_tac Mine.pyyT)
            refine ⟨_, _, _, rfl, by (first | lia | omega), .none, .int _, ?_⟩
            rw [slc_upto]
            (run_tac Mine.pyyT)
            refine bin_mul_str ?_ (by (first | lia | omega)) ?_
            · rw [List.length_take, hsz]
              have h1 : min p lg.length * i ≤ 4000 * 4001 := Nat.mul_le_mul (by (first | lia | omega)) (by (first | lia | omega))
              (first | lia | omega)
            refine ⟨sts ((List.range i).map fun k => rep k (lg.take p)), at_end, by rw [sts_len]; simp; (first | lia | omega), ?_⟩
            refine ⟨_, _, .keep (by (run_tac Mine.subsT)), ?_, rfl⟩
            rw [List.set_append_right _ _ (Nat.le_refl _)]
            simp [List.range_succ, sts]
          · rw [if_neg hlt] at hv; cases hv
        · rintro H' m ⟨rfl, rfl⟩
          (run_tac Mine.pyyT)
          refine .one (by rw [List.append_assoc, List.append_assoc]) (by simp) at_end rfl (by intro z hz; unfold sts at hz; simp at hz; obtain ⟨_, _, rfl⟩ := hz; trivial) ?_
          unfold powers at h
          dsimp only at h
          rw [if_neg (by rw [← hg]; exact hp), hlg, ← hg, hq] at h
          exact h

/-! text C4 -/
noncomputable def isCell : NameKind → Bool
  | .cell => true
  | _ => false
theorem nocell {names : List (Str × NameKind)} (h : (names.all fun x => !isCell x.2) = true) : ∀ x ∈ names, x.2 ≠ .cell := fun x hx e => by
  have := List.all_eq_true.mp h x hx
  rw [e] at this
  cases this
noncomputable def nodupB : List Str → Bool
  | [] => true
  | x :: xs => !(xs.contains x) && nodupB xs
theorem nodup_of : ∀ {l : List Str}, nodupB l = true → l.Nodup
  | [], _ => .nil
  | x :: xs, h => by
    unfold nodupB at h
    rw [Bool.and_eq_true] at h
    refine List.nodup_cons.mpr ⟨fun hm => ?_, nodup_of h.2⟩
    have := h.1
    simp at this
    exact this hm
noncomputable def isLocal : Option NameKind → Bool
  | some .local => true
  | _ => false
theorem loc_of {fd : FuncData} {lb : Loc} (h : (lb.all fun x => isLocal (fd.scope.names.lookup x.1)) = true) : ∀ x ∈ lb, fd.scope.names.lookup x.1 = some .local := fun x hx => by
  have := List.all_eq_true.mp h x hx
  unfold isLocal at this
  split at this
  · assumption
  · cases this
/-- a def of the top's without defaults -/
noncomputable abbrev fd0 (i : Nat) (doc pm cd ct : Value) (an : Option Addr) : FuncData := fdOf (st1 i) .none .none doc pm cd ct an

noncomputable def pre_more : Pre := fun las lks H Q => ∃ x y : List Nat, las = [.str (S x), .str (S y)] ∧ lks = [] ∧ x.length ≤ sizeLine ∧ y.length ≤ sizeLine ∧ Q (.obj H.length) (H ++ [.list (sts (more x y))])
theorem more_spec {K : Kit} {a : Addr} {doc pm cd ct : Value} {an : Option Addr} (B : Blts K) (F : Fn K a (fd0 15 doc pm cd ct an) (bodyOf (st1 15))) : FnSpec K (.ref a) 1 [] pre_more :=
  FnSpec.intro F (nocell (by kernel_rfl)) fun las lks H Q zz => by
    obtain ⟨x, y, e1, e2, hx, hy, hq⟩ := zz
    subst e1 e2
    refine ⟨[("longer", .str (S x)), ("shorter", .str (S y))], nodup_of (by kernel_rfl), loc_of (by kernel_rfl), ?_, fun A L r => more_body B hx hy hq⟩
    intro s ρ vas vks hB ra rk
    obtain ⟨v, w, rfl, r1, r2⟩ := VRs.two ra
    exact ⟨[("longer", v), ("shorter", w)], BindsTo.of_eq (by kernel_rfl), .cons _ r1 (.cons _ r2 .nil)⟩

noncomputable def pre_root : Pre := fun las lks H Q => ∃ x : List Nat, las = [.str (S x)] ∧ lks = [] ∧ x.length ≤ 4000 ∧ Q (.str (S (root x))) H
theorem root_spec {K : Kit} {a : Addr} {doc pm cd ct : Value} {an : Option Addr} (B : Blts K) (F : Fn K a (fd0 17 doc pm cd ct an) (bodyOf (st1 17))) : FnSpec K (.ref a) 1 [] pre_root :=
  FnSpec.intro F (nocell (by kernel_rfl)) fun las lks H Q zz => by
    obtain ⟨x, e1, e2, hx, hq⟩ := zz
    subst e1 e2
    refine ⟨[("word", .str (S x))], nodup_of (by kernel_rfl), loc_of (by kernel_rfl), ?_, fun A L r => root_body B r.h hx hq⟩
    intro s ρ vas vks hB ra rk
    obtain ⟨v, rfl, r1⟩ := VRs.one ra
    exact ⟨[("word", v)], BindsTo.of_eq (by kernel_rfl), .cons _ r1 .nil⟩

noncomputable def isIn (names : List (Str × NameKind)) (cells : List (Str × Addr)) (x : Str) : Bool := match names.lookup x with
  | some .local => true
  | some .cell => (cells.lookup x).isSome
  | _ => false
theorem in_of {fd : FuncData} {lb : Loc} (h : ∀ L : Addr, (lb.all fun x => isIn fd.scope.names (cellsFrom (L + 1) fd.scope.names []) x.1) = true) :
    ∀ (L : Addr), ∀ x ∈ lb, fd.scope.names.lookup x.1 = some .local ∨ (fd.scope.names.lookup x.1 = some .cell ∧ ((cellsFrom (L + 1) fd.scope.names []).lookup x.1).isSome = true) := fun L x hx => by
  have := List.all_eq_true.mp (h L) x hx
  unfold isIn at this
  split at this
  · rename_i h; exact .inl h
  · rename_i h; exact .inr ⟨h, this⟩
  · cases this
noncomputable def cellsApart (names : List (Str × NameKind)) (cells : List (Str × Addr)) : Bool := cells.all fun p => !isLocal (names.lookup p.1)
theorem cnl_of {fd : FuncData} (h : ∀ L : Addr, cellsApart fd.scope.names (cellsFrom (L + 1) fd.scope.names []) = true) : ∀ L : Addr, ∀ x c, (cellsFrom (L + 1) fd.scope.names []).lookup x = some c → fd.scope.names.lookup x ≠ some .local := fun L x c e hl => by
  have := List.all_eq_true.mp (h L) (x, c) (mem_of_lookup e)
  dsimp only at this
  rw [hl] at this
  cases this
noncomputable def pre_powers : Pre := fun las lks H Q => ∃ x y : List Nat, las = [.str (S x), .str (S y)] ∧ lks = [] ∧ x.length ≤ 4000 ∧ y.length ≤ 4000 ∧ Q (.obj H.length) (H ++ [.list (sts (powers x y))])
theorem powers_spec {K : Kit} {a : Addr} {doc pm cd ct : Value} {an : Option Addr} (B : Blts K) (F : Fn K a (fd0 18 doc pm cd ct an) (bodyOf (st1 18))) : FnSpec K (.ref a) 1 [] pre_powers :=
  FnSpec.introC F (fun L => nodup_of (by kernel_rfl)) (cnl_of fun L => by kernel_rfl) fun las H Q zz => by
    obtain ⟨x, y, e1, _, hx, hy, hq⟩ := zz
    subst e1
    refine ⟨[("one", .str (S x)), ("other", .str (S y))], nodup_of (by kernel_rfl), in_of (fun L => by kernel_rfl), ?_, fun A L r => powers_body B r.h hx hy hq⟩
    intro ρ vas ra
    obtain ⟨v, w, rfl, r1, r2⟩ := VRs.two ra
    exact ⟨[("one", v), ("other", w)], by kernel_rfl, .cons _ r1 (.cons _ r2 .nil)⟩

/-! text C5 -/
/-- where the defaults go -/
noncomputable def bisLb (k : Nat) (x : List Nat) : Loc := [("a", .obj k), ("x", .str (S x)), ("lo", .int 0), ("hi", .none), ("key", .none)]
noncomputable def pre_bisL : Pre := fun las lks H Q => ∃ k xs x, las = [.obj k, .str (S x)] ∧ lks = [] ∧ H[k]? = some (.list (sts xs)) ∧ xs.length ≤ sizeLine ∧ Q (.int (bisL xs x)) H
noncomputable def pre_bisR : Pre := fun las lks H Q => ∃ k xs x, las = [.obj k, .str (S x), .int 0, .none] ∧ lks = [] ∧ H[k]? = some (.list (sts xs)) ∧ xs.length ≤ sizeLine ∧ Q (.int (bisR xs x)) H
noncomputable def ins (xs : List (List Nat)) (x : List Nat) : List (List Nat) := xs.take (bisR xs x) ++ x :: xs.drop (bisR xs x)
noncomputable def pre_ins : Pre := fun las lks H Q => ∃ k xs x, las = [.obj k, .str (S x)] ∧ lks = [] ∧ H[k]? = some (.list (sts xs)) ∧ xs.length < sizeLine ∧ Q .none (H.set k (.list (sts (ins xs x))))
section
variable {K : Kit} {a : Addr} {dV kV doc pm cd ct : Value} {an : Option Addr}
theorem bisL_spec (B : Blts K) (F : Fn K a (fdOf (st1 3) dV kV doc pm cd ct an) (bodyOf (st1 3))) (fit : ∀ k x, Fits K (fdOf (st1 3) dV kV doc pm cd ct an) [] [.obj k, .str (S x)] [] (bisLb k x)) : FnSpec K (.ref a) 1 [] pre_bisL :=
  FnSpec.intro F (nocell (by kernel_rfl)) fun las lks H Q zz => by
    obtain ⟨k, xs, x, e1, e2, hk, hl, hq⟩ := zz
    subst e1 e2
    exact ⟨bisLb k x, nodup_of (by kernel_rfl), loc_of (by kernel_rfl), fit k x, fun A L r => bl_body B hk hl hq⟩
theorem bisR_spec (B : Blts K) (F : Fn K a (fdOf (st1 2) dV kV doc pm cd ct an) (bodyOf (st1 2))) (fit : ∀ k x, Fits K (fdOf (st1 2) dV kV doc pm cd ct an) [] [.obj k, .str (S x), .int 0, .none] [] (bisLb k x)) : FnSpec K (.ref a) 1 [] pre_bisR :=
  FnSpec.intro F (nocell (by kernel_rfl)) fun las lks H Q zz => by
    obtain ⟨k, xs, x, e1, e2, hk, hl, hq⟩ := zz
    subst e1 e2
    exact ⟨bisLb k x, nodup_of (by kernel_rfl), loc_of (by kernel_rfl), fit k x, fun A L r => br_body B hk hl hq⟩
theorem bsearch_le (p : Nat → Bool) : ∀ (n lo hi : Nat), lo ≤ hi → bsearch p n lo hi ≤ hi
  | 0, lo, hi, h => h
  | n + 1, lo, hi, h => by
    unfold bsearch
    split
    · split
      · exact bsearch_le p n _ _ (by (first | lia | omega))
      · exact Nat.le_trans (bsearch_le p n lo _ (by (first | lia | omega))) (by (first | lia | omega))
    · exact h
theorem ins_body {b : Addr} {ob : Obj} {fb : FuncData} {A : Around} {L : Addr} {H : List LO} {k : Nat} {xs : List (List Nat)} {x : List Nat} {Q : LV → List LO → Prop} (hr : Rm 1 A)
  (hbg : K.mg "bisect_right" = some (.ref b)) (hB : K.B b = some ob) (hd : ob.data = .func fb) (spec : FnSpec K (.ref b) 1 [] pre_bisR)
  (hk : H[k]? = some (.list (sts xs))) (hl : xs.length < sizeLine) (h : Q .none (H.set k (.list (sts (ins xs x))))) :
  Ex ⟨K, A, callEnv (fdOf (st1 1) dV kV doc pm cd ct an) L a, H.length⟩ (bodyOf (st1 1)) H (bisLb k x) (fun lf H' _ => Ret H Q lf H') := by
  unfold bisLb
  (run_tac Mine.pyyT)
  refine ev_call spec (ev_global hbg ⟨rfl, rfl⟩) hB hd hr (by kernel_rfl) ?_
  (run_tac Mine.pyyT)
  refine ⟨k, xs, x, rfl, rfl, hk, Nat.le_of_lt hl, ?_⟩
  (run_tac Mine.pyyT)
  refine ⟨.list k _ hk, ?_⟩
  (run_tac Mine.pyyT)
  refine blt_insert (xs := sts xs) hk (by rw [sts_len]; (first | lia | omega)) (by rw [sts_len]; exact bsearch_le _ _ _ _ (Nat.zero_le _)) ?_
  refine ⟨rfl, ?_⟩
  (run_tac Mine.pyyT)
  refine .all ?_
  have : insAt (sts xs) (bisR xs x) (.str (S x)) = sts (ins xs x) := by
    unfold insAt ins sts
    simp
  rw [this]
  exact h
theorem ins_spec {b : Addr} {ob : Obj} {fb : FuncData} (F : Fn K a (fdOf (st1 1) dV kV doc pm cd ct an) (bodyOf (st1 1))) (fit : ∀ k x, Fits K (fdOf (st1 1) dV kV doc pm cd ct an) [] [.obj k, .str (S x)] [] (bisLb k x))
    (hbg : K.mg "bisect_right" = some (.ref b)) (hB : K.B b = some ob) (hd : ob.data = .func fb) (spec : FnSpec K (.ref b) 1 [] pre_bisR) : FnSpec K (.ref a) 2 [] pre_ins :=
  FnSpec.intro F (nocell (by kernel_rfl)) fun las lks H Q zz => by
    obtain ⟨k, xs, x, e1, e2, hk, hl, hq⟩ := zz
    subst e1 e2
    exact ⟨bisLb k x, nodup_of (by kernel_rfl), loc_of (by kernel_rfl), fit k x, fun A L r => ins_body r hbg hB hd spec hk hl hq⟩
end

/-! text L1 -/
/-- one end goes in -/
noncomputable def addEnd (s : List (List Nat) × List (List Nat)) (e : List Nat) : List (List Nat) × List (List Nat) :=
  if (s.1.drop (bisL s.1 e)).take 1 = [e] then s else (ins s.1 e, s.2 ++ [46 :: e])
noncomputable def endsGo (one other : List Nat) : Nat → List (List Nat) → List (List Nat) → List (List Nat) → Option (List (List Nat))
  | 0, _, _, _ => none
  | f + 1, row, push, fresh =>
    let s := fresh.foldl addEnd (row, push)
    match s.2 with
    | [] => some s.1
    | t :: ps => endsGo one other f s.1 ps ((more one t.tail ++ more t.tail one) ++ (more other t.tail ++ more t.tail other))
noncomputable def ends (one other : List Nat) : Option (List (List Nat)) := endsGo one other 40 [] [] (more one other ++ more other one)
noncomputable def sortedB : List (List Nat) → Bool
  | a :: b :: r => !(decide (b < a)) && sortedB (b :: r)
  | _ => true
/-- what law asks of a pair -/
noncomputable def pairOk (one other : List Nat) : Bool := match ends one other with
  | none => false
  | some row => row.length < 60 && (if one = [] ∨ other = [] ∨ root one = root other then row == powers one other
      else !(row.contains []) && sortedB row && ((row == []) != (startsW one other || startsW other one)) && (row.filter fun e => !endsW one e && !endsW other e) == [])

/-! text C6 -/
set_option genSizeOf false
set_option genInjectivity false
noncomputable def clsBody (st : Stmt) : List Stmt := match st with
  | .ClassDef _ _ _ body _ _ _ _ _ _ _ => body
  | _ => []
noncomputable def mt1 (j : Nat) : Stmt := ((clsBody (st1 5))[j]?).getD default
noncomputable def fdMeth (cls : Str) (st : Stmt) (doc pm cd ct : Value) (an : Option Addr) : FuncData :=
  match st with
  | .FunctionDef name args body _ _ _ scope _ _ _ => { name, qualname := cls ++ "." ++ name, params := args, body := .stmts body, scope, globals := mainGlobals, closure := [], defaults := .none, kwdefaults := .none, doc, pyModule := pm, annotations := an, code := cd, closureTuple := ct, builtins := builtinsNs }
  | _ => default
noncomputable abbrev fdM (j : Nat) (doc pm cd ct : Value) (an : Option Addr) : FuncData := fdMeth "_netrclex" (mt1 j) doc pm cd ct an

/-- the lexer's class and the lexer -/
structure LexK (K : Kit) (x c N d : Addr) (mN : Str → Option Value) : Prop where
  CL : ClsK K c N mN
  I : InstK K x c d
  lineno : mN "lineno" = none
  instream : mN "instream" = none
  whitespace : mN "whitespace" = none
  pushback : mN "pushback" = none
noncomputable abbrev lexA (n : Int) (st : Addr) (kp : Nat) : Loc := [("lineno", .int n), ("instream", .const (.ref st)), ("whitespace", .str (S [10, 9, 13, 32])), ("pushback", .obj kp)]
theorem tlo_lineno : typeLookup (.type "object") "lineno" = pure none := by rw [typeLookup_type, builtinLookup_eq_fast]; kernel_rfl
theorem tlo_instream : typeLookup (.type "object") "instream" = pure none := by rw [typeLookup_type, builtinLookup_eq_fast]; kernel_rfl
theorem tlo_whitespace : typeLookup (.type "object") "whitespace" = pure none := by rw [typeLookup_type, builtinLookup_eq_fast]; kernel_rfl
theorem tlo_pushback : typeLookup (.type "object") "pushback" = pure none := by rw [typeLookup_type, builtinLookup_eq_fast]; kernel_rfl

section
variable {K : Kit} {a : Addr} {doc pm cd ct : Value} {an : Option Addr} {x c N d : Addr} {mN : Str → Option Value}
noncomputable def pre_push (x d st : Addr) : Pre := fun las lks H Q => ∃ (kd kp : Nat) (n : Int) (t : List Nat) (ps : List (List Nat)), las = [.const (.ref x), .str (S t)] ∧ lks = [] ∧ H[kd]? = some (.ns d (lexA n st kp)) ∧ H[kp]? = some (.list (sts ps)) ∧ ps.length ≤ sizeLine ∧
  Q .none (H.set kp (.list (sts (ps ++ [t]))))
theorem push_body {st : Addr} (LK : LexK K x c N d mN) {A : Around} {L : Addr} {H : List LO} {kd kp : Nat} {n : Int} {t : List Nat} {ps : List (List Nat)} {Q : LV → List LO → Prop}
  (hk : H[kd]? = some (.ns d (lexA n st kp))) (hp : H[kp]? = some (.list (sts ps))) (hl : ps.length ≤ sizeLine) (h : Q .none (H.set kp (.list (sts (ps ++ [t]))))) :
  Ex ⟨K, A, callEnv (fdM 3 doc pm cd ct an) L a, H.length⟩ (bodyOf (mt1 3)) H [("self", .const (.ref x)), ("token", .str (S t))] (fun lf H' _ => Ret H Q lf H') := by
  (run_tac Mine.pyyT)
  refine ev_attr ?_
  (run_tac Mine.pyyT)
  refine ga_inst LK.CL LK.I hk (by (run_tac Mine.lgtT)) LK.pushback tlo_pushback (by intro v e; cases e) ?_
  (run_tac Mine.bredT)
  refine ⟨.list kp _ hp, ?_⟩
  (run_tac Mine.pyyT)
  refine blt_append hp (by rw [sts_len]; exact hl) ?_
  refine ⟨rfl, ?_⟩
  (run_tac Mine.pyyT)
  refine .all ?_
  have : sts ps ++ [.str (S t)] = sts (ps ++ [t]) := by unfold sts; simp
  rw [this]
  exact h
theorem push_spec {st : Addr} (LK : LexK K x c N d mN) (F : Fn K a (fdM 3 doc pm cd ct an) (bodyOf (mt1 3))) : FnSpec K (.ref a) 1 [] (pre_push x d st) :=
  FnSpec.intro F (nocell (by kernel_rfl)) fun las lks H Q zz => by
    obtain ⟨kd, kp, n, t, ps, e1, e2, hk, hp, hl, hq⟩ := zz
    subst e1 e2
    refine ⟨[("self", .const (.ref x)), ("token", .str (S t))], nodup_of (by kernel_rfl), loc_of (by kernel_rfl), ?_, fun A L r => push_body LK hk hp hl hq⟩
    intro s ρ vas vks hB ra rk
    obtain ⟨v, w, rfl, r1, r2⟩ := VRs.two ra
    exact ⟨[("self", v), ("token", w)], BindsTo.of_eq (by kernel_rfl), .cons _ r1 (.cons _ r2 .nil)⟩
end

/-! text C7 -/
theorem set_same {α : Type} : ∀ {l : List α} {k : Nat} {o : α}, l[k]? = some o → l.set k o = l
  | [], _, _, h => by cases h
  | x :: l, 0, o, h => by cases h; rfl
  | x :: l, k + 1, o, h => by rw [List.set_cons_succ, set_same (by simpa using h)]
noncomputable def nl (ch : List Nat) : Int := if ch = [10] then 1 else 0
/-- the lexer's state behind one sign -/
noncomputable abbrev rcH (H : List LO) (kd kl kp : Nat) (d p st : Addr) (n : Int) (pos : Nat) (ch : List Nat) : List LO := (H.set kl (.plc p ((pos + 1 : Nat) : Int))).set kd (.ns d (lexA (n + nl ch) st kp))
noncomputable def pre_read (text : List Nat) (p : Addr) : Pre := fun las lks H Q => ∃ (kl pos : Nat), las = [.int 1] ∧ lks = [] ∧ H[kl]? = some (.plc p (pos : Nat)) ∧ Q (.str (S ((text.drop pos).take 1))) (H.set kl (.plc p ((pos + 1 : Nat) : Int)))
noncomputable def pre_rc (text : List Nat) (x d st p : Addr) : Pre := fun las lks H Q => ∃ (kd kp kl pos : Nat) (n : Int), las = [.const (.ref x)] ∧ lks = [] ∧ H[kd]? = some (.ns d (lexA n st kp)) ∧ H[kl]? = some (.plc p (pos : Nat)) ∧ kl ≠ kd ∧
  Q (.str (S ((text.drop pos).take 1))) (rcH H kd kl kp d p st n pos ((text.drop pos).take 1))
theorem tlf_read : typeLookup (.type "function") "read" = pure none := by rw [typeLookup_type, builtinLookup_eq_fast]; kernel_rfl
section
variable {K : Kit} {a : Addr} {doc pm cd ct : Value} {an : Option Addr} {x c N d : Addr} {mN : Str → Option Value}
theorem rc_body {text : List Nat} {st p rd : Addr} {ord : Obj} {frd : FuncData} (LK : LexK K x c N d mN) (FA : FnAttr K st "read" (.ref rd)) (hB : K.B rd = some ord) (hd : ord.data = .func frd) (spec : FnSpec K (.ref rd) 1 [] (pre_read text p))
  {A : Around} {L : Addr} {H : List LO} {kd kp kl pos : Nat} {n : Int} {Q : LV → List LO → Prop} (hr : Rm 1 A)
  (hk : H[kd]? = some (.ns d (lexA n st kp))) (hl : H[kl]? = some (.plc p (pos : Nat))) (hne : kl ≠ kd) (h : Q (.str (S ((text.drop pos).take 1))) (rcH H kd kl kp d p st n pos ((text.drop pos).take 1))) :
  Ex ⟨K, A, callEnv (fdM 1 doc pm cd ct an) L a, H.length⟩ (bodyOf (mt1 1)) H [("self", .const (.ref x))] (fun lf H' _ => Ret H Q lf H') := by
  refine ex_cons (x_set ?_)
  refine ev_methF (H1 := H) spec hB hd hr FA tlf_read ?_ ?_
  · refine ev_attr ?_
    (run_tac Mine.pyyT)
    refine ga_inst LK.CL LK.I hk (by (run_tac Mine.lgtT)) LK.instream tlo_instream (by intro v e; cases e; rfl) ?_
    exact ⟨rfl, rfl⟩
  (run_tac Mine.pyyT)
  refine ⟨kl, pos, rfl, rfl, hl, ?_⟩
  have hk2 : (H.set kl (.plc p ((pos + 1 : Nat) : Int)))[kd]? = some (.ns d (lexA n st kp)) := by rw [List.getElem?_set_ne hne]; exact hk
  (run_tac Mine.pyyT)
  refine it_both (fun hc => ?_) (fun hc => ?_)
  · have hc : (text.drop pos).take 1 = [10] := by simpa using hc
    refine ex_cons ?_
    refine x_augAttr ?_
    (run_tac Mine.pyyT)
    refine ga_inst LK.CL LK.I hk2 (by (run_tac Mine.lgtT)) LK.lineno tlo_lineno (by intro v e; cases e) ?_
    (run_tac Mine.pyyT)
    refine sa_inst (ns := ["lineno", "instream", "whitespace", "pushback"]) LK.CL LK.I hk2 LK.lineno tlo_lineno ?_ (by decide) ?_
    · intro y hy
      unfold lexA at hy
      simp only [lget] at hy
      simp only [List.mem_cons, List.not_mem_nil, or_false]
      by_cases h1 : (Str.ofString "lineno") = y
      · exact .inl h1.symm
      rw [if_neg h1] at hy
      by_cases h2 : (Str.ofString "instream") = y
      · exact .inr (.inl h2.symm)
      rw [if_neg h2] at hy
      by_cases h3 : (Str.ofString "whitespace") = y
      · exact .inr (.inr (.inl h3.symm))
      rw [if_neg h3] at hy
      by_cases h4 : (Str.ofString "pushback") = y
      · exact .inr (.inr (.inr h4.symm))
      rw [if_neg h4] at hy
      exact absurd rfl hy
    (run_tac Mine.pyyT)
    refine .all ?_
    have e : lset (lexA n st kp) "lineno" (.int (n + 1)) = lexA (n + nl ((text.drop pos).take 1)) st kp := by
      rw [hc]
      show _ = lexA (n + 1) st kp
      kernel_rfl
    show Q _ (List.set _ kd (.ns d (lset (lexA n st kp) "lineno" (.int (n + 1)))))
    rw [e]
    exact h
  · have hc : (text.drop pos).take 1 ≠ [10] := by simpa using hc
    (run_tac Mine.pyyT)
    refine .all ?_
    have e : n + nl ((text.drop pos).take 1) = n := by unfold nl; rw [if_neg hc]; (first | lia | omega)
    unfold rcH at h
    rw [e, set_same hk2] at h
    exact h
theorem rc_spec {text : List Nat} {st p rd : Addr} {ord : Obj} {frd : FuncData} (LK : LexK K x c N d mN) (FA : FnAttr K st "read" (.ref rd)) (hB : K.B rd = some ord) (hd : ord.data = .func frd) (spec : FnSpec K (.ref rd) 1 [] (pre_read text p))
    (F : Fn K a (fdM 1 doc pm cd ct an) (bodyOf (mt1 1))) : FnSpec K (.ref a) 2 [] (pre_rc text x d st p) :=
  FnSpec.intro F (nocell (by kernel_rfl)) fun las lks H Q zz => by
    obtain ⟨kd, kp, kl, pos, n, e1, e2, hk, hl, hne, hq⟩ := zz
    subst e1 e2
    refine ⟨[("self", .const (.ref x))], nodup_of (by kernel_rfl), loc_of (by kernel_rfl), ?_, fun A L r => rc_body LK FA hB hd spec r hk hl hne hq⟩
    intro s ρ vas vks hB ra rk
    obtain ⟨v, rfl, r1⟩ := VRs.one ra
    exact ⟨[("self", v)], BindsTo.of_eq (by kernel_rfl), .cons _ r1 .nil⟩
end

/-! text C8 -/
theorem Ret.kept {H0 H0' H : List LO} {Q : LV → List LO → Prop} {lf : LF} {l : List LO} (e : H = H0' ++ l) (hl : H0'.length = H0.length) (hk : ∀ (j : Nat) (o : LO), H0'[j]? = some o → H0[j]? = some o ∨ o.below H0.length) (hb : lf.val.below H0.length) (h : Q lf.val H0') : Ret H0 Q lf H := by
  subst e
  have g0 : ∀ j, j < H0.length → gk H0.length [] j = j := fun j hj => by unfold gk; rw [if_pos hj]
  refine .pick [] H0' lf.val (by simp) (by simp) (by simpa using hl) (fun j o ho => ?_) (LV.ren_below g0 hb).symm hb h
  have hj : j < H0.length := hl ▸ (List.getElem?_eq_some_iff.mp ho).1
  have ho2 : (H0' ++ l)[j]? = some o := by rw [List.getElem?_append_left (hl ▸ hj)]; exact ho
  rcases hk j o ho with h1 | h1
  · exact .inl ⟨hj, h1, ho2⟩
  · exact .inr ⟨by rw [g0 j hj, LO.ren_below g0 h1]; exact ho2, by simpa using h1⟩

/-! what get_token reads -/
noncomputable def ws (c : Nat) : Bool := decide (c ∈ [10, 9, 13, 32])
noncomputable def scanQ : Nat → List Nat → List Nat → Option (List Nat × Nat)
  | 0, _, _ => none
  | _, [], _ => none
  | f + 1, c :: r, tok => if c = 34 then some (tok, 1) else if c = 92 then (match r with
      | [] => none
      | s :: r' => (scanQ f r' (tok ++ [s])).map fun x => (x.1, x.2 + 2))
    else (scanQ f r (tok ++ [c])).map fun x => (x.1, x.2 + 1)
noncomputable def scanU : Nat → List Nat → List Nat → Option (List Nat × Nat)
  | 0, _, _ => none
  | _, [], _ => none
  | f + 1, c :: r, tok => if ws c then some (tok, 1) else if c = 92 then (match r with
      | [] => none
      | s :: r' => (scanU f r' (tok ++ [s])).map fun x => (x.1, x.2 + 2))
    else (scanU f r (tok ++ [c])).map fun x => (x.1, x.2 + 1)
/-- the token and how many reads it takes -/
noncomputable def scan : Nat → List Nat → Option (List Nat × Nat)
  | 0, _ => none
  | _, [] => some ([], 1)
  | f + 1, c :: r => if ws c then (scan f r).map fun x => (x.1, x.2 + 1) else if c = 34 then (scanQ f r []).map fun x => (x.1, x.2 + 1) else if c = 92 then (match r with
      | [] => none
      | s :: r' => (scanU f r' [s]).map fun x => (x.1, x.2 + 2))
    else (scanU f r [c]).map fun x => (x.1, x.2 + 1)
/-- the objects when k signs more are read -/
noncomputable abbrev atH (H : List LO) (kd kl kp : Nat) (d p st : Addr) (text : List Nat) (n0 : Int) (pos k : Nat) : List LO :=
  (H.set kl (.plc p ((pos + k : Nat) : Int))).set kd (.ns d (lexA (n0 + (((text.drop pos).take k).count 10 : Nat)) st kp))
theorem atH_zero {H : List LO} {kd kl kp : Nat} {d p st : Addr} {text : List Nat} {n0 : Int} {pos : Nat} (h1 : H[kd]? = some (.ns d (lexA n0 st kp))) (h2 : H[kl]? = some (.plc p (pos : Nat))) : atH H kd kl kp d p st text n0 pos 0 = H := by
  unfold atH
  simp only [Nat.add_zero, List.take_zero, List.count_nil]
  rw [set_same h2]
  have : n0 + ((0 : Nat) : Int) = n0 := by (first | lia | omega)
  rw [this, set_same h1]
theorem atH_succ {H l : List LO} {kd kl kp : Nat} {d p st : Addr} {text : List Nat} {n0 : Int} {pos k : Nat} (hkd : kd < H.length) (hkl : kl < H.length) (hne : kl ≠ kd) :
    rcH (atH H kd kl kp d p st text n0 pos k ++ l) kd kl kp d p st (n0 + (((text.drop pos).take k).count 10 : Nat)) (pos + k) ((text.drop (pos + k)).take 1) = atH H kd kl kp d p st text n0 pos (k + 1) ++ l := by
  unfold rcH atH
  have e1 : (text.drop pos).take (k + 1) = (text.drop pos).take k ++ (text.drop (pos + k)).take 1 := by
    rw [List.take_add, List.drop_drop]
  have e2 : n0 + (((text.drop pos).take k).count 10 : Nat) + nl ((text.drop (pos + k)).take 1) = n0 + (((text.drop pos).take (k + 1)).count 10 : Nat) := by
    rw [e1, List.count_append]
    have : (((text.drop (pos + k)).take 1).count 10 : Int) = nl ((text.drop (pos + k)).take 1) := by
      unfold nl
      cases hd : text.drop (pos + k) with
      | nil => rfl
      | cons c r =>
        by_cases hc : c = 10
        · subst hc; simp
        · simp [hc]
    (first | lia | omega)
  rw [e2]
  rw [List.set_append_left _ _ (by simp; (first | lia | omega)), List.set_append_left _ _ (by simp; (first | lia | omega))]
  congr 1
  rw [List.set_comm _ _ (Ne.symm hne), List.set_set, List.set_set]
  congr 1

/-! text C9 -/
theorem atH_len {H : List LO} {kd kl kp : Nat} {d p st : Addr} {text : List Nat} {n0 : Int} {pos k : Nat} : (atH H kd kl kp d p st text n0 pos k).length = H.length := by simp [atH]
theorem atH_kd {H l : List LO} {kd kl kp : Nat} {d p st : Addr} {text : List Nat} {n0 : Int} {pos k : Nat} (hkd : kd < H.length) :
    (atH H kd kl kp d p st text n0 pos k ++ l)[kd]? = some (.ns d (lexA (n0 + (((text.drop pos).take k).count 10 : Nat)) st kp)) := by
  rw [List.getElem?_append_left (by rw [atH_len]; exact hkd)]
  unfold atH
  rw [List.getElem?_set_self (by simp; exact hkd)]
theorem atH_kl {H l : List LO} {kd kl kp : Nat} {d p st : Addr} {text : List Nat} {n0 : Int} {pos k : Nat} (hkl : kl < H.length) (hne : kl ≠ kd) :
    (atH H kd kl kp d p st text n0 pos k ++ l)[kl]? = some (.plc p ((pos + k : Nat) : Int)) := by
  rw [List.getElem?_append_left (by rw [atH_len]; exact hkl)]
  unfold atH
  rw [List.getElem?_set_ne (Ne.symm hne), List.getElem?_set_self hkl]

theorem two0 {A : List LO} {u v : LO} {n : Nat} (h : A.length = n) : (A ++ [u, v])[n]? = some u := by subst h; rw [List.getElem?_append_right (Nat.le_refl _)]; simp
theorem two1 {A : List LO} {u v : LO} {n : Nat} (h : A.length = n) : (A ++ [u, v])[n + 1]? = some v := by subst h; rw [List.getElem?_append_right (by (first | lia | omega))]; simp
theorem drop_succ' {text : List Nat} {n c : Nat} {r : List Nat} (h : text.drop n = c :: r) : text.drop (n + 1) = r := by
  rw [← List.drop_drop, h]; rfl
theorem tlo_rc : typeLookup (.type "object") "_read_char" = pure none := by rw [typeLookup_type, builtinLookup_eq_fast]; kernel_rfl
theorem scanQ_le : ∀ (f : Nat) (l tk t : List Nat) (n : Nat), scanQ f l tk = some (t, n) → tk.length ≤ t.length
  | 0, _, _, _, _, h => by cases h
  | f + 1, [], _, _, _, h => by cases h
  | f + 1, c :: r, tk, t, n, h => by
    unfold scanQ at h
    split at h
    · cases h; exact Nat.le_refl _
    · split at h
      · split at h
        · cases h
        · obtain ⟨x, hx, e⟩ := Option.map_eq_some_iff.mp h
          have := scanQ_le f _ _ x.1 x.2 hx
          cases e
          rw [List.length_append] at this
          (first | lia | omega)
      · obtain ⟨x, hx, e⟩ := Option.map_eq_some_iff.mp h
        have := scanQ_le f _ _ x.1 x.2 hx
        cases e
        rw [List.length_append] at this
        (first | lia | omega)
/-- the for over the signs between quotes -/
noncomputable def quotFor : Stmt := match bodyOf (mt1 2) with
  | [_, _, _, .For _ _ [_, .If _ [s] _ _] _ _, _] => s
  | _ => default
section
variable {K : Kit} {a : Addr} {doc pm cd ct : Value} {an : Option Addr} {x c N d : Addr} {mN : Str → Option Value}
theorem quot_for {text : List Nat} {st p fr : Addr} {ofr : Obj} {ffr : FuncData} (LK : LexK K x c N d mN) (hfr : mN "_read_char" = some (.ref fr)) (hB : K.B fr = some ofr) (hc : ofr.cls = .type "function") (hd : ofr.data = .func ffr) (spec : FnSpec K (.ref fr) 2 [] (pre_rc text x d st p))
  {A : Around} {L : Addr} {n0 : Nat} {H : List LO} {kd kp kl pos k0 r kF : Nat} {z : Int} {tokF : List Nat} {Q : LF → List LO → Loc → Prop} (hr : Rm 3 A) (hkd : kd < H.length) (hkl : kl < H.length) (hne : kl ≠ kd) (hn0 : n0 ≤ H.length + 2)
  (f : Nat) (tok : List Nat) (hs : scanQ f (text.drop (pos + k0)) tok = some (tokF, r)) (hkF : k0 + r = kF) (htl : tokF.length ≤ 10000000)
  (h : ∀ m, Q (.ret (.str (S tokF))) (atH H kd kl kp d p st text z pos kF ++ [meth fr x, cit H.length]) m) (ch0 : LV) :
  X ⟨K, A, callEnv (fdM 2 doc pm cd ct an) L a, n0⟩ quotFor (atH H kd kl kp d p st text z pos k0 ++ [meth fr x, cit H.length]) [("self", .const (.ref x)), ("token", .str (S tok)), ("fiter", .obj (H.length + 1))] Q := by
  refine x_ForCit (x := x) hr.h spec hB hd hr ?_
  (run_tac Mine.pyyT)
  refine ⟨H.length + 1, H.length, H.length + 2, f, [("self", .const (.ref x)), ("token", .str (S tok)), ("fiter", .obj (H.length + 1))],
    fun n H' m => ∃ k tk r', H' = atH H kd kl kp d p st text z pos k ++ [meth fr x, cit H.length] ∧ m = ([("self", .const (.ref x)), ("token", .str (S tk)), ("fiter", .obj (H.length + 1))] : Loc) ∧ scanQ n (text.drop (pos + k)) tk = some (tokF, r') ∧ k + r' = kF,
    rfl, by (first | lia | omega), by (first | lia | omega), hn0, by (run_tac Mine.subsT), ⟨k0, tok, r, rfl, rfl, hs, hkF⟩, ?_, ?_⟩
  · rintro n H' m ⟨k, tk, r', rfl, rfl, _, _⟩
    exact ⟨by simp [atH], two1 atH_len, two0 atH_len⟩
  · rintro n H' m ⟨k, tk, r', rfl, rfl, hsc, hkr⟩
    refine ⟨kd, kp, kl, pos + k, _, rfl, rfl, atH_kd hkd, atH_kl hkl hne, hne, ?_⟩
    rw [atH_succ hkd hkl hne]
    cases n with
    | zero => cases hsc
    | succ n =>
      cases hdr : text.drop (pos + k) with
      | nil => rw [hdr] at hsc; cases hsc
      | cons c1 rest =>
        rw [hdr] at hsc
        unfold scanQ at hsc
        have hrest := drop_succ' hdr
        refine ⟨[c1], rfl, by simp [atH], two1 atH_len, two0 atH_len, .inr ⟨by simp, ?_⟩⟩
        refine asg_set ?_
        (run_tac Mine.pyyT)
        refine it_both (fun h1 => ?_) (fun h1 => ?_)
        · have h1 : c1 = 34 := by simpa using h1
          rw [if_pos h1] at hsc
          cases hsc
          (run_tac Mine.pyyT)
          have := h
          rw [← hkr] at this
          exact this _
        · have h1 : c1 ≠ 34 := by simpa using h1
          rw [if_neg h1] at hsc
          (run_tac Mine.pyyT)
          refine it_both (fun h2 => ?_) (fun h2 => ?_)
          · have h2 : c1 = 92 := by simpa using h2
            rw [if_pos h2] at hsc
            cases hre : rest with
            | nil => rw [hre] at hsc; cases hsc
            | cons s1 rest2 =>
              rw [hre] at hsc
              dsimp only at hsc
              obtain ⟨⟨t3, n3⟩, hx, e⟩ := Option.map_eq_some_iff.mp hsc
              cases e
              have hd2 : text.drop (pos + (k + 1)) = s1 :: rest2 := by rw [← Nat.add_assoc, hrest, hre]
              refine ex_cons (x_set ?_)
              refine ev_methI (H1 := atH H kd kl kp d p st text z pos (k + 1) ++ [meth fr x, cit H.length]) spec hB hd (hr.mono (by (first | lia | omega))) hc LK.CL LK.I hfr tlo_rc (ev_var (by (run_tac Mine.lgtT)) ⟨rfl, rfl⟩) (atH_kd hkd) (by kernel_rfl) ?_
              (run_tac Mine.bredT)
              refine ⟨kd, kp, kl, pos + (k + 1), _, rfl, rfl, atH_kd hkd, atH_kl hkl hne, hne, ?_⟩
              rw [atH_succ hkd hkl hne, hd2]
              (run_tac Mine.pyyT)
              have hle := scanQ_le _ _ _ _ _ hx
              have htl' : t3.length ≤ 10000000 := htl
              refine inp_add_str (by have : sizeLine = 16777216 := rfl; show (tk ++ [s1]).length ≤ _; (first | lia | omega)) ?_
              (run_tac Mine.pyyT)
              refine ⟨n, _, _, Nat.lt_succ_self _, .keep (by (run_tac Mine.subsT)), k + 2, tk ++ [s1], n3, rfl, rfl, ?_, by (first | lia | omega)⟩
              rw [show pos + (k + 2) = pos + (k + 1) + 1 by (first | lia | omega), drop_succ' hd2]
              exact hx
          · have h2 : c1 ≠ 92 := by simpa using h2
            rw [if_neg h2] at hsc
            obtain ⟨⟨t3, n3⟩, hx, e⟩ := Option.map_eq_some_iff.mp hsc
            cases e
            have hle := scanQ_le _ _ _ _ _ hx
            have htl' : t3.length ≤ 10000000 := htl
            (run_tac Mine.pyyT)
            refine inp_add_str (by have : sizeLine = 16777216 := rfl; show (tk ++ [c1]).length ≤ _; (first | lia | omega)) ?_
            (run_tac Mine.pyyT)
            refine ⟨n, _, _, Nat.lt_succ_self _, .keep (by (run_tac Mine.subsT)), k + 1, tk ++ [c1], n3, rfl, rfl, ?_, by (first | lia | omega)⟩
            rw [← Nat.add_assoc, hrest]
            exact hx
end

/-! text C10 -/
theorem scanU_le : ∀ (f : Nat) (l tk t : List Nat) (n : Nat), scanU f l tk = some (t, n) → tk.length ≤ t.length
  | 0, _, _, _, _, h => by cases h
  | f + 1, [], _, _, _, h => by cases h
  | f + 1, c :: r, tk, t, n, h => by
    unfold scanU at h
    split at h
    · cases h; exact Nat.le_refl _
    · split at h
      · split at h
        · cases h
        · obtain ⟨x, hx, e⟩ := Option.map_eq_some_iff.mp h
          have := scanU_le f _ _ x.1 x.2 hx
          cases e
          rw [List.length_append] at this
          (first | lia | omega)
      · obtain ⟨x, hx, e⟩ := Option.map_eq_some_iff.mp h
        have := scanU_le f _ _ x.1 x.2 hx
        cases e
        rw [List.length_append] at this
        (first | lia | omega)
/-- the for over the signs of a token without quotes -/
noncomputable def unqFor : Stmt := match bodyOf (mt1 2) with
  | [_, _, _, .For _ _ [_, .If _ _ [_, _, u] _] _ _, _] => u
  | _ => default
section
variable {K : Kit} {a : Addr} {doc pm cd ct : Value} {an : Option Addr} {x c N d : Addr} {mN : Str → Option Value}
theorem unq_for {text : List Nat} {st p fr : Addr} {ofr : Obj} {ffr : FuncData} (LK : LexK K x c N d mN) (hfr : mN "_read_char" = some (.ref fr)) (hB : K.B fr = some ofr) (hc : ofr.cls = .type "function") (hd : ofr.data = .func ffr) (spec : FnSpec K (.ref fr) 2 [] (pre_rc text x d st p))
  {A : Around} {L : Addr} {n0 : Nat} {H : List LO} {kd kp kl pos k0 r kF : Nat} {z : Int} {tokF : List Nat} {Q : LF → List LO → Loc → Prop} (hr : Rm 3 A) (hkd : kd < H.length) (hkl : kl < H.length) (hne : kl ≠ kd) (hn0 : n0 ≤ H.length + 2)
  (f : Nat) (tok : List Nat) (hs : scanU f (text.drop (pos + k0)) tok = some (tokF, r)) (hkF : k0 + r = kF) (htl : tokF.length ≤ 10000000)
  (h : ∀ m, Q (.ret (.str (S tokF))) (atH H kd kl kp d p st text z pos kF ++ [meth fr x, cit H.length]) m) (ch0 : LV) :
  X ⟨K, A, callEnv (fdM 2 doc pm cd ct an) L a, n0⟩ unqFor (atH H kd kl kp d p st text z pos k0 ++ [meth fr x, cit H.length]) [("self", .const (.ref x)), ("token", .str (S tok)), ("fiter", .obj (H.length + 1))] Q := by
  refine x_ForCit (x := x) hr.h spec hB hd hr ?_
  (run_tac Mine.pyyT)
  refine ⟨H.length + 1, H.length, H.length + 2, f, [("self", .const (.ref x)), ("token", .str (S tok)), ("fiter", .obj (H.length + 1))],
    fun n H' m => ∃ k tk r', H' = atH H kd kl kp d p st text z pos k ++ [meth fr x, cit H.length] ∧ m = ([("self", .const (.ref x)), ("token", .str (S tk)), ("fiter", .obj (H.length + 1))] : Loc) ∧ scanU n (text.drop (pos + k)) tk = some (tokF, r') ∧ k + r' = kF,
    rfl, by (first | lia | omega), by (first | lia | omega), hn0, by (run_tac Mine.subsT), ⟨k0, tok, r, rfl, rfl, hs, hkF⟩, ?_, ?_⟩
  · rintro n H' m ⟨k, tk, r', rfl, rfl, _, _⟩
    exact ⟨by simp [atH], two1 atH_len, two0 atH_len⟩
  · rintro n H' m ⟨k, tk, r', rfl, rfl, hsc, hkr⟩
    refine ⟨kd, kp, kl, pos + k, _, rfl, rfl, atH_kd hkd, atH_kl hkl hne, hne, ?_⟩
    rw [atH_succ hkd hkl hne]
    cases n with
    | zero => cases hsc
    | succ n =>
      cases hdr : text.drop (pos + k) with
      | nil => rw [hdr] at hsc; cases hsc
      | cons c1 rest =>
        rw [hdr] at hsc
        unfold scanU at hsc
        have hrest := drop_succ' hdr
        refine ⟨[c1], rfl, by simp [atH], two1 atH_len, two0 atH_len, .inr ⟨by simp, ?_⟩⟩
        refine asg_set ?_
        (run_tac Mine.pyyT)
        refine ev_attr ?_
        (run_tac Mine.pyyT)
        refine ga_inst LK.CL LK.I (atH_kd hkd) (by (run_tac Mine.lgtT)) LK.whitespace tlo_whitespace (by intro v e; cases e) ?_
        (run_tac Mine.bredT)
        refine cmp_in_str ?_
        (run_tac Mine.pyyT)
        refine it_both (fun h1 => ?_) (fun h1 => ?_)
        · have h1 : ws c1 = true := h1
          rw [if_pos h1] at hsc
          cases hsc
          (run_tac Mine.pyyT)
          have := h
          rw [← hkr] at this
          exact this _
        · have h1 : ¬ ws c1 = true := by unfold ws; rw [h1]; decide
          rw [if_neg h1] at hsc
          (run_tac Mine.pyyT)
          refine it_both (fun h2 => ?_) (fun h2 => ?_)
          · have h2 : c1 = 92 := by simpa using h2
            rw [if_pos h2] at hsc
            cases hre : rest with
            | nil => rw [hre] at hsc; cases hsc
            | cons s1 rest2 =>
              rw [hre] at hsc
              dsimp only at hsc
              obtain ⟨⟨t3, n3⟩, hx, e⟩ := Option.map_eq_some_iff.mp hsc
              cases e
              have hd2 : text.drop (pos + (k + 1)) = s1 :: rest2 := by rw [← Nat.add_assoc, hrest, hre]
              refine ex_cons (x_set ?_)
              refine ev_methI (H1 := atH H kd kl kp d p st text z pos (k + 1) ++ [meth fr x, cit H.length]) spec hB hd (hr.mono (by (first | lia | omega))) hc LK.CL LK.I hfr tlo_rc (ev_var (by (run_tac Mine.lgtT)) ⟨rfl, rfl⟩) (atH_kd hkd) (by kernel_rfl) ?_
              (run_tac Mine.bredT)
              refine ⟨kd, kp, kl, pos + (k + 1), _, rfl, rfl, atH_kd hkd, atH_kl hkl hne, hne, ?_⟩
              rw [atH_succ hkd hkl hne, hd2]
              (run_tac Mine.pyyT)
              have hle := scanU_le _ _ _ _ _ hx
              have htl' : t3.length ≤ 10000000 := htl
              refine inp_add_str (by have : sizeLine = 16777216 := rfl; show (tk ++ [s1]).length ≤ _; (first | lia | omega)) ?_
              (run_tac Mine.pyyT)
              refine ⟨n, _, _, Nat.lt_succ_self _, .keep (by (run_tac Mine.subsT)), k + 2, tk ++ [s1], n3, rfl, rfl, ?_, by (first | lia | omega)⟩
              rw [show pos + (k + 2) = pos + (k + 1) + 1 by (first | lia | omega), drop_succ' hd2]
              exact hx
          · have h2 : c1 ≠ 92 := by simpa using h2
            rw [if_neg h2] at hsc
            obtain ⟨⟨t3, n3⟩, hx, e⟩ := Option.map_eq_some_iff.mp hsc
            cases e
            have hle := scanU_le _ _ _ _ _ hx
            have htl' : t3.length ≤ 10000000 := htl
            (run_tac Mine.pyyT)
            refine inp_add_str (by have : sizeLine = 16777216 := rfl; show (tk ++ [c1]).length ≤ _; (first | lia | omega)) ?_
            (run_tac Mine.pyyT)
            refine ⟨n, _, _, Nat.lt_succ_self _, .keep (by (run_tac Mine.subsT)), k + 1, tk ++ [c1], n3, rfl, rfl, ?_, by (first | lia | omega)⟩
            rw [← Nat.add_assoc, hrest]
            exact hx
end

/-! text C11 -/
section
variable {C : Cx} {H : List LO} {m : Loc}
theorem tru_list {k : Nat} {xs : List LV} {Q : Bool → List LO → Prop} (hk : H[k]? = some (.list xs)) (hl : xs.length ≤ sizeLine) (h : Q (!xs.isEmpty) H) : Tru C (.obj k) H m Q := by
  refine .mk fun D ρ s v hs r => ?_
  obtain ⟨a, vs, n, e, ea, eo, rv⟩ := hs.seq hk r
  subst e
  have hlen := rv.length
  have hsz : sizeLine = 16777216 := rfl
  refine wpAny_truthy_list ⟨_, eo, rfl, _, rfl⟩ (by rw [List.size_toArray]; (first | lia | omega)) ⟨ρ, H, pre_refl ρ, hs.toks _, ?_⟩
  have : (!vs.toArray.isEmpty) = !xs.isEmpty := by
    cases vs <;> cases xs <;> simp_all
  rw [this]; exact h
theorem x_Continue {Q : LF → List LO → Loc → Prop} {pos : Pos} (h : Q .cont H m) : X C (.Continue pos) H m Q := .mk fun D ρ s hs =>
  (show wpAny C.M C.A (do standAt pos; pure Flow.cont) _ _ s from wpAny_bind (wpAny_standAt (wpAny_pure ⟨ρ, H, m, .cont, List.take_prefix _ _, hs, .cont, h⟩)))
theorem x_sub {st : Stmt} {Q : LF → List LO → Loc → Prop} {m' : Loc} (hs : Sub m' m) (h : X C st H m' Q) : X C st H m Q := .mk fun D ρ s hst => h.go D ρ s (hst.sub hs)
end
section
variable {K : Kit} {a : Addr} {doc pm cd ct : Value} {an : Option Addr} {x c N d : Addr} {mN : Str → Option Value}
theorem tok_body {text : List Nat} {st p fr : Addr} {ofr : Obj} {ffr : FuncData} (B : Blts K) (LK : LexK K x c N d mN) (hfr : mN "_read_char" = some (.ref fr)) (hB : K.B fr = some ofr) (hc : ofr.cls = .type "function") (hd : ofr.data = .func ffr) (spec : FnSpec K (.ref fr) 2 [] (pre_rc text x d st p))
  {A : Around} {L : Addr} {H : List LO} {kd kp kl pos kF : Nat} {z : Int} {tokF : List Nat} {Q : LV → List LO → Prop} (hr : Rm 3 A) (hne : kl ≠ kd)
  (h1 : H[kd]? = some (.ns d (lexA z st kp))) (h2 : H[kl]? = some (.plc p (pos : Nat))) (h3 : H[kp]? = some (.list []))
  (f : Nat) (hs : scan f (text.drop pos) = some (tokF, kF)) (htl : tokF.length ≤ 10000000)
  (h : Q (.str (S tokF)) (atH H kd kl kp d p st text z pos kF)) :
  Ex ⟨K, A, callEnv (fdM 2 doc pm cd ct an) L a, H.length⟩ (bodyOf (mt1 2)) H [("self", .const (.ref x))] (fun lf H' _ => Ret H Q lf H') := by
  have hkd : kd < H.length := (List.getElem?_eq_some_iff.mp h1).1
  have hkl : kl < H.length := (List.getElem?_eq_some_iff.mp h2).1
  have hkp : kp < H.length := (List.getElem?_eq_some_iff.mp h3).1
  have fin : ∀ (l : List LO), Ret H Q (.ret (.str (S tokF))) (atH H kd kl kp d p st text z pos kF ++ l) := fun l => by
    refine .kept rfl atH_len (fun j o ho => ?_) trivial h
    unfold atH at ho
    by_cases hjd : j = kd
    · subst hjd
      rw [List.getElem?_set_self (by simp; exact hkd)] at ho
      cases ho
      right
      intro q hq
      simp only [List.mem_cons, List.not_mem_nil, or_false] at hq
      rcases hq with rfl | rfl | rfl | rfl <;> first | trivial | exact hkp
    · rw [List.getElem?_set_ne (Ne.symm hjd)] at ho
      by_cases hjl : j = kl
      · subst hjl
        rw [List.getElem?_set_self hkl] at ho
        cases ho
        exact .inr trivial
      · rw [List.getElem?_set_ne (Ne.symm hjl)] at ho
        exact .inl ho
  refine ex_cons ?_
  refine x_If ?_
  refine tst_plain ?_
  refine ev_attr ?_
  (run_tac Mine.pyyT)
  refine ga_inst LK.CL LK.I h1 (by (run_tac Mine.lgtT)) LK.pushback tlo_pushback (by intro v e; cases e) ?_
  (run_tac Mine.bredT)
  refine tru_list h3 (by decide) ?_
  (run_tac Mine.pyyT)
  refine ev_bcall (ev_builtin B.iter.1 B.iter.2 ⟨rfl, rfl⟩) ?_
  (run_tac Mine.bredT)
  refine ev_attr ?_
  (run_tac Mine.pyyT)
  refine ga_bound LK.CL LK.I h1 (by kernel_rfl) hfr hB hc (by decide) tlo_rc ?_
  (run_tac Mine.pyyT)
  refine blt_iter at_end ?_
  (run_tac Mine.pyyT)
  have e0 : H ++ [meth fr x] ++ [cit H.length] = atH H kd kl kp d p st text z pos 0 ++ [meth fr x, cit H.length] := by rw [atH_zero h1 h2]; simp
  rw [e0]
  refine x_ForCit (x := x) hr.h spec hB hd hr ?_
  (run_tac Mine.pyyT)
  refine ⟨H.length + 1, H.length, H.length + 2, f, [("self", .const (.ref x)), ("token", .str (S [])), ("fiter", .obj (H.length + 1))],
    fun n H' m => ∃ k r', H' = atH H kd kl kp d p st text z pos k ++ [meth fr x, cit H.length] ∧ m = ([("self", .const (.ref x)), ("token", .str (S [])), ("fiter", .obj (H.length + 1))] : Loc) ∧ scan n (text.drop (pos + k)) = some (tokF, r') ∧ k + r' = kF,
    by simp, by (first | lia | omega), by (first | lia | omega), by show H.length ≤ _; (first | lia | omega), ?_, ⟨0, kF, rfl, rfl, hs, by (first | lia | omega)⟩, ?_, ?_⟩
  · rw [show (H ++ [meth fr x]).length = H.length + 1 by simp]
    (run_tac Mine.subsT)
  · rintro n H' m ⟨k, r', rfl, rfl, _, _⟩
    exact ⟨by simp [atH], two1 atH_len, two0 atH_len⟩
  · rintro n H' m ⟨k, r', rfl, rfl, hsc, hkr⟩
    refine ⟨kd, kp, kl, pos + k, _, rfl, rfl, atH_kd hkd, atH_kl hkl hne, hne, ?_⟩
    rw [atH_succ hkd hkl hne]
    cases n with
    | zero => cases hsc
    | succ n =>
      cases hdr : text.drop (pos + k) with
      | nil =>
        rw [hdr] at hsc
        unfold scan at hsc
        cases hsc
        refine ⟨[], rfl, by simp [atH], two1 atH_len, two0 atH_len, .inl ⟨rfl, ?_⟩⟩
        rw [List.set_append_right _ _ (by rw [atH_len]; (first | lia | omega))]
        (run_tac Mine.pyyT)
        rw [← hkr] at fin
        exact fin _
      | cons c1 rest =>
        rw [hdr] at hsc
        unfold scan at hsc
        have hrest := drop_succ' hdr
        refine ⟨[c1], rfl, by simp [atH], two1 atH_len, two0 atH_len, .inr ⟨by simp, ?_⟩⟩
        refine asg_set ?_
        (run_tac Mine.pyyT)
        refine ev_attr ?_
        (run_tac Mine.pyyT)
        refine ga_inst LK.CL LK.I (atH_kd hkd) (by (run_tac Mine.lgtT)) LK.whitespace tlo_whitespace (by intro v e; cases e) ?_
        (run_tac Mine.bredT)
        refine cmp_in_str ?_
        (run_tac Mine.pyyT)
        refine it_both (fun g1 => ?_) (fun g1 => ?_)
        · have g1 : ws c1 = true := g1
          rw [if_pos g1] at hsc
          obtain ⟨⟨t3, n3⟩, hx, e⟩ := Option.map_eq_some_iff.mp hsc
          cases e
          refine ex_cons (x_Continue ?_)
          (run_tac Mine.bredT)
          refine ⟨n, _, _, Nat.lt_succ_self _, .keep (by (run_tac Mine.subsT)), k + 1, n3, rfl, rfl, ?_, by (first | lia | omega)⟩
          rw [← Nat.add_assoc, hrest]
          exact hx
        · have g1 : ¬ ws c1 = true := by unfold ws; rw [g1]; decide
          rw [if_neg g1] at hsc
          (run_tac Mine.pyyT)
          refine it_both (fun g2 => ?_) (fun g2 => ?_)
          · have g2 : c1 = 34 := by simpa using g2
            rw [if_pos g2] at hsc
            obtain ⟨⟨t3, n3⟩, hx, e⟩ := Option.map_eq_some_iff.mp hsc
            cases e
            refine ex_cons (x_sub (by (run_tac Mine.subsT)) (quot_for (kF := kF) LK hfr hB hc hd spec hr hkd hkl hne (Nat.le_refl _) n [] (k0 := k + 1) (by rw [← Nat.add_assoc, hrest]; exact hx) (by (first | lia | omega)) htl (fun m => ?_) .none))
            exact fin _
          · have g2 : c1 ≠ 34 := by simpa using g2
            rw [if_neg g2] at hsc
            (run_tac Mine.pyyT)
            refine it_both (fun g3 => ?_) (fun g3 => ?_)
            · have g3 : c1 = 92 := by simpa using g3
              rw [if_pos g3] at hsc
              cases hre : rest with
              | nil => rw [hre] at hsc; cases hsc
              | cons s1 rest2 =>
                rw [hre] at hsc
                dsimp only at hsc
                obtain ⟨⟨t3, n3⟩, hx, e⟩ := Option.map_eq_some_iff.mp hsc
                cases e
                have hd2 : text.drop (pos + (k + 1)) = s1 :: rest2 := by rw [← Nat.add_assoc, hrest, hre]
                refine ex_cons (x_set ?_)
                refine ev_methI (H1 := atH H kd kl kp d p st text z pos (k + 1) ++ [meth fr x, cit H.length]) spec hB hd (hr.mono (by (first | lia | omega))) hc LK.CL LK.I hfr tlo_rc (ev_var (by (run_tac Mine.lgtT)) ⟨rfl, rfl⟩) (atH_kd hkd) (by kernel_rfl) ?_
                (run_tac Mine.bredT)
                refine ⟨kd, kp, kl, pos + (k + 1), _, rfl, rfl, atH_kd hkd, atH_kl hkl hne, hne, ?_⟩
                rw [atH_succ hkd hkl hne, hd2]
                (run_tac Mine.pyyT)
                refine inp_add_str (by show 1 ≤ 16777216; (first | lia | omega)) ?_
                (run_tac Mine.bredT)
                refine ex_cons (x_sub (by (run_tac Mine.subsT)) (unq_for (kF := kF) LK hfr hB hc hd spec hr hkd hkl hne (Nat.le_refl _) n [s1] (k0 := k + 2) (by rw [show pos + (k + 2) = pos + (k + 1) + 1 by (first | lia | omega), drop_succ' hd2]; exact hx) (by (first | lia | omega)) htl (fun m => ?_) .none))
                exact fin _
            · have g3 : c1 ≠ 92 := by simpa using g3
              rw [if_neg g3] at hsc
              obtain ⟨⟨t3, n3⟩, hx, e⟩ := Option.map_eq_some_iff.mp hsc
              cases e
              (run_tac Mine.pyyT)
              refine inp_add_str (by show 1 ≤ 16777216; (first | lia | omega)) ?_
              (run_tac Mine.bredT)
              refine ex_cons (x_sub (by (run_tac Mine.subsT)) (unq_for (kF := kF) LK hfr hB hc hd spec hr hkd hkl hne (Nat.le_refl _) n [c1] (k0 := k + 1) (by rw [← Nat.add_assoc, hrest]; exact hx) (by (first | lia | omega)) htl (fun m => ?_) .none))
              exact fin _
end

/-! text C12 -/
section
variable {K : Kit} {a : Addr} {doc pm cd ct : Value} {an : Option Addr} {x c N d : Addr} {mN : Str → Option Value}
theorem tok_back {st : Addr} (LK : LexK K x c N d mN) {A : Around} {L : Addr} {H : List LO} {kd kp : Nat} {z : Int} {t : List Nat} {ps : List (List Nat)} {Q : LV → List LO → Prop}
  (h1 : H[kd]? = some (.ns d (lexA z st kp))) (h3 : H[kp]? = some (.list (sts (t :: ps)))) (hl : ps.length < sizeLine) (h : Q (.str (S t)) (H.set kp (.list (sts ps)))) :
  Ex ⟨K, A, callEnv (fdM 2 doc pm cd ct an) L a, H.length⟩ (bodyOf (mt1 2)) H [("self", .const (.ref x))] (fun lf H' _ => Ret H Q lf H') := by
  refine ex_cons ?_
  refine x_If ?_
  refine tst_plain ?_
  refine ev_attr ?_
  (run_tac Mine.pyyT)
  refine ga_inst LK.CL LK.I h1 (by (run_tac Mine.lgtT)) LK.pushback tlo_pushback (by intro v e; cases e) ?_
  (run_tac Mine.bredT)
  refine tru_list h3 (by rw [sts_len]; exact hl) ?_
  refine it_true rfl ?_
  (run_tac Mine.pyyT)
  refine ev_attr ?_
  (run_tac Mine.pyyT)
  refine ga_inst LK.CL LK.I h1 (by (run_tac Mine.lgtT)) LK.pushback tlo_pushback (by intro v e; cases e) ?_
  (run_tac Mine.bredT)
  refine ⟨.list kp _ h3, ?_⟩
  (run_tac Mine.pyyT)
  refine blt_pop0 (x := .str (S t)) (xs := sts ps) h3 (by rw [sts_len]; exact hl) ?_
  (run_tac Mine.pyyT)
  exact .all h

noncomputable def pre_tok (text : List Nat) (x d st p : Addr) : Pre := fun las lks H Q => ∃ (kd kp kl pos : Nat) (z : Int) (ps : List (List Nat)), las = [.const (.ref x)] ∧ lks = [] ∧ kl ≠ kd ∧ H[kd]? = some (.ns d (lexA z st kp)) ∧ H[kl]? = some (.plc p (pos : Nat)) ∧ H[kp]? = some (.list (sts ps)) ∧ ps.length ≤ 1000 ∧
  (match ps with
    | t :: ps => Q (.str (S t)) (H.set kp (.list (sts ps)))
    | [] => ∃ f tok k, scan f (text.drop pos) = some (tok, k) ∧ tok.length ≤ 10000000 ∧ Q (.str (S tok)) (atH H kd kl kp d p st text z pos k))
theorem tok_spec {text : List Nat} {st p fr : Addr} {ofr : Obj} {ffr : FuncData} (B : Blts K) (LK : LexK K x c N d mN) (hfr : mN "_read_char" = some (.ref fr)) (hB : K.B fr = some ofr) (hc : ofr.cls = .type "function") (hd : ofr.data = .func ffr) (spec : FnSpec K (.ref fr) 2 [] (pre_rc text x d st p))
    (F : Fn K a (fdM 2 doc pm cd ct an) (bodyOf (mt1 2))) : FnSpec K (.ref a) 4 [] (pre_tok text x d st p) :=
  FnSpec.intro F (nocell (by kernel_rfl)) fun las lks H Q zz => by
    obtain ⟨kd, kp, kl, pos, z, ps, e1, e2, hne, h1, h2, h3, hl, hq⟩ := zz
    subst e1 e2
    have hsz : sizeLine = 16777216 := rfl
    refine ⟨[("self", .const (.ref x))], nodup_of (by kernel_rfl), loc_of (by kernel_rfl), ?_, fun A L r => ?_⟩
    · intro s ρ vas vks hB ra rk
      obtain ⟨v, rfl, r1⟩ := VRs.one ra
      exact ⟨[("self", v)], BindsTo.of_eq (by kernel_rfl), .cons _ r1 .nil⟩
    · cases ps with
      | nil =>
        obtain ⟨f, tok, k, hs, ht, hq⟩ := hq
        exact tok_body B LK hfr hB hc hd spec r hne h1 h2 h3 f hs ht hq
      | cons t ps =>
        simp only [List.length_cons] at hl
        exact tok_back LK h1 h3 (by (first | lia | omega)) hq
end

/-! text C13 -/
theorem cmp_in_set {C : Cx} {H : List LO} {m : Loc} {Q : LV → List LO → Prop} {b : Addr} {Sf : Int → Bool} {n : Nat} {i : Int} (hS : ∀ h : Heap, C.K.Base h → h.SetOf (intKind C.K.prog C.K.w) b Sf n) (h : Q (.bool (Sf i)) H) : Cmp C .In (.int i) (.const (.ref b)) H m Q := by
  refine .mk fun D ρ s va vb hs ra rb => ?_
  cases ra with
  | int _ t =>
  cases rb
  exact wpAny_inSet_of (knd := intKind C.K.prog C.K.w) (intKind_is _ _ i t) rfl (hS _ hs.hp.base) ⟨ρ, H, _, pre_refl ρ, hs.toks _, .bool _, h⟩
noncomputable def pre_b1 (Sf : Int → Bool) : Pre := fun las lks H Q => ∃ c : Nat, las = [.str (S [c])] ∧ lks = [] ∧ Q (.bool (Sf c)) H
theorem b1_spec {K : Kit} {a b : Addr} {doc pm cd ct : Value} {an : Option Addr} {Sf : Int → Bool} {n : Nat} (B : Blts K) (F : Fn K a (fd0 8 doc pm cd ct an) (bodyOf (st1 8))) (hb : K.mg "b1_set" = some (.ref b))
    (hS : ∀ h : Heap, K.Base h → h.SetOf (intKind K.prog K.w) b Sf n) : FnSpec K (.ref a) 1 [] (pre_b1 Sf) :=
  FnSpec.intro F (nocell (by kernel_rfl)) fun las lks H Q ⟨c, e1, e2, hq⟩ => by
    subst e1 e2
    refine ⟨[("code", .str (S [c]))], nodup_of (by kernel_rfl), loc_of (by kernel_rfl), ?_, fun A L r => ?_⟩
    · intro s ρ vas vks hB ra rk
      obtain ⟨v, rfl, r1⟩ := VRs.one ra
      exact ⟨[("code", v)], BindsTo.of_eq (by kernel_rfl), .cons _ r1 .nil⟩
    · (run_tac Mine.pyyT)
      refine ev_bcall (ev_builtin B.ord.1 B.ord.2 ⟨rfl, rfl⟩) ?_
      (run_tac Mine.pyyT)
      refine blt_ord ?_
      (run_tac Mine.pyyT)
      refine ev_global hb ?_
      (run_tac Mine.bredT)
      refine cmp_in_set hS ?_
      (run_tac Mine.pyyT)
      exact .all hq

/-! text C14 -/
theorem ev_methodB {C : Cx} {H : List LO} {m : Loc} {Q : LV → List LO → Prop} {o : PySem.Expr} {name : Str} {apos pos : Pos} {args : List PySem.Expr} {b : Addr} {ob : Obj} (T id : String) (pa : PlainAttrs T) (slot : Slot T name id) (hty : typeOf (.builtin id) = pure (.type "method_descriptor"))
    (hB : C.K.B b = some ob) (hT : ob.cls = .type T) (hD : ob.dict = none)
    (h : Ev C o H m fun lo H1 => lo = .const (.ref b) ∧ Evs C args H1 m fun las H2 => Blt C (.builtin id) (.const (.ref b) :: las) H2 m Q)
    (hbase : attributeBase o name C.env (eval o C.env) = eval o C.env := by rfl) (hp : args.any isStarred = false := by kernel_rfl) (hl : args.length < 30 := by decide) (hline : (apos.endLine == pos.line) = true := by kernel_rfl) :
    Ev C (.Call (.Attribute o name apos) args [] pos) H m Q := by
  refine .mk fun D ρ s hs => ?_
  refine wpAny_Call_method hbase (few_of hp hl) hline pa slot hty (wp_imp (h.go D ρ s hs) fun v s1 ⟨ρ1, H1, lv, p1, hs1, r1, e1, q1⟩ => ?_)
  subst e1
  cases r1
  refine ⟨⟨_, hs1.hp.base _ _ hB, hT⟩, fun a e => by cases e; exact ⟨_, hs1.hp.base _ _ hB, hD⟩, Calls.callWith_builtin (any_star hp) (wp_imp (evalArgs_of hp q1 hs1) fun x s2 ⟨e, ρ2, H2, ls, p2, hs2, r2, q2⟩ => ?_)⟩
  rw [e]
  exact wp_imp (q2.go D ρ2 s2 (.ref b :: x.pos) hs2 ⟨.const _, r2⟩) fun _ _ y => y.step (pre_trans p1 p2)
noncomputable def tabLV (x : Option (List Nat)) : LV := match x with
  | none => .none
  | some l => .str (S l)
theorem blt_get {C : Cx} {H : List LO} {m : Loc} {Q : LV → List LO → Prop} {b : Addr} {D0 : List (PyData × PyData)} {tab : Int → Option (List Nat)} {i : Int} (hT : ∀ h : Heap, C.K.Base h → IntTab C.K.prog C.K.w h b D0)
    (hl : Spec.lookup (.int i) D0 = (tab i).map fun l => PyData.str (S l)) (h : Q (tabLV (tab i)) H) : Blt C (.builtin "dict.get") [.const (.ref b), .int i] H m Q := by
  refine .mk fun D ρ s vas hs rs => ?_
  obtain ⟨v, w, rfl, r, r'⟩ := VRs.two rs
  cases r
  cases r' with
  | int _ t =>
  refine call_get1_intTab (hT _ hs.hp.base) fun v hv => ?_
  rw [hl] at hv
  cases ht : tab i with
  | none =>
    rw [ht] at hv h
    cases hv s.heap
    exact ⟨ρ, H, _, pre_refl ρ, hs.toks _, .none, h⟩
  | some l =>
    rw [ht] at hv h
    obtain ⟨u, rfl⟩ := PyProof.V.Flat.str_inv hv
    exact ⟨ρ, H, _, pre_refl ρ, hs.toks _, .str _ _, h⟩
noncomputable def pre_b3 (tab : Int → Option (List Nat)) : Pre := fun las lks H Q => ∃ c : Nat, las = [.str (S [c])] ∧ lks = [] ∧
  (match tab c with
    | some l => Q (.str (S l)) H
    | none => ∃ l, Txt.lower (S [c]) = S l ∧ l.length ≤ sizeLine ∧ Q (.str (S l)) H)
theorem b3_spec {K : Kit} {a b : Addr} {ob : Obj} {doc pm cd ct : Value} {an : Option Addr} {D0 : List (PyData × PyData)} {tab : Int → Option (List Nat)} (B : Blts K) (F : Fn K a (fd0 10 doc pm cd ct an) (bodyOf (st1 10))) (hb : K.mg "b3_exceptions" = some (.ref b))
    (hB : K.B b = some ob) (hC : ob.cls = .type "dict") (hD : ob.dict = none) (hT : ∀ h : Heap, K.Base h → IntTab K.prog K.w h b D0) (hl : ∀ i, Spec.lookup (.int i) D0 = (tab i).map fun l => PyData.str (S l)) : FnSpec K (.ref a) 1 [] (pre_b3 tab) :=
  FnSpec.intro F (nocell (by kernel_rfl)) fun las lks H Q ⟨c, e1, e2, hq⟩ => by
    subst e1 e2
    refine ⟨[("code", .str (S [c]))], nodup_of (by kernel_rfl), loc_of (by kernel_rfl), ?_, fun A L r => ?_⟩
    · intro s ρ vas vks hB ra rk
      obtain ⟨v, rfl, r1⟩ := VRs.one ra
      exact ⟨[("code", v)], BindsTo.of_eq (by kernel_rfl), .cons _ r1 .nil⟩
    · refine ex_cons (x_set ?_)
      refine ev_methodB "dict" "dict.get" PySem.F.plainAttrs_dict PySem.F.slot_dict_get PySem.F.type_dict_get hB hC hD ?_
      refine ev_global hb ?_
      refine ⟨rfl, ?_⟩
      (run_tac Mine.pyyT)
      refine ev_bcall (ev_builtin B.ord.1 B.ord.2 ⟨rfl, rfl⟩) ?_
      (run_tac Mine.pyyT)
      refine blt_ord ?_
      (run_tac Mine.pyyT)
      refine blt_get hT (hl c) ?_
      cases ht : tab c with
      | none =>
        rw [ht] at hq
        obtain ⟨l, h1, h2, h3⟩ := hq
        show Then _ _ _ _ _ _
        (run_tac Mine.pyyT)
        refine blt_lower h1 h2 ?_
        (run_tac Mine.pyyT)
        exact .all h3
      | some l =>
        rw [ht] at hq
        show Then _ _ _ _ _ _
        (run_tac Mine.pyyT)
        exact .all hq

/-! text C15 -/
noncomputable def hid : List Nat := [173, 847, 6150, 6155, 6156, 6157, 8203, 8204, 8205, 8288, 65024, 65025, 65026, 65027, 65028, 65029, 65030, 65031, 65032, 65033, 65034, 65035, 65036, 65037, 65038, 65039, 65279]
noncomputable def intL (l : List Nat) : List LV := l.map fun n => .int (n : Nat)
noncomputable def objL (l : List Nat) : List LV := l.map .obj
theorem dm (v a b : Nat) : ((v : Int).fdiv (a : Nat)).fmod (b : Nat) = ((v / a % b : Nat) : Int) := by rw [fdiv_nat, fmod_nat]
theorem intL_get {l : List Nat} {i : Nat} (h : i < l.length) : (intL l)[i]? = some (.int (l.getD i 0 : Nat)) := by
  unfold intL
  rw [List.getElem?_map, List.getElem?_eq_getElem h, List.getD_eq_getElem?_getD, List.getElem?_eq_getElem h]; rfl
theorem app_get {H l : List LO} {k : Nat} {o : LO} (h : H[k]? = some o) : (H ++ l)[k]? = some o := by
  rw [List.getElem?_append_left (List.getElem?_eq_some_iff.mp h).1]; exact h
theorem app_at {H l : List LO} {i : Nat} {o : LO} (h : l[i]? = some o) : (H ++ l)[H.length + i]? = some o := by
  rw [List.getElem?_append_right (Nat.le_add_right _ _), Nat.add_sub_cancel_left]; exact h
theorem pa {A B l : List LO} (h : A <+: B) : A <+: B ++ l := h.trans (List.prefix_append _ _)
theorem pfx_get {A B : List LO} (h : A <+: B) {k : Nat} {o : LO} (e : A[k]? = some o) : B[k]? = some o := by obtain ⟨l, rfl⟩ := h; exact app_get e
theorem pfx_len {A B : List LO} (h : A <+: B) : A.length ≤ B.length := h.length_le
open Lean Elab Tactic Meta in
def pfxT : TacticM Unit := tacS "(repeat (first | assumption | exact List.prefix_refl _ | refine pa ?_))"
noncomputable def hOf (v : Nat) : Nat := hid.getD (v / 23328 % 27) 0
noncomputable def drawnT (h : Nat) : Nat → List Nat
  | 0 => [102] | 1 => [70] | 2 => [119813] | 3 => [105] | 4 => [73] | 5 => [64256] | 6 => [64257] | 7 => [64259] | _ => [h]
noncomputable def meantT : Nat → List Nat
  | 0 => [102] | 1 => [102] | 2 => [102] | 3 => [105] | 4 => [105] | 5 => [102, 102] | 6 => [102, 105] | 7 => [102, 102, 105] | _ => []
noncomputable def ixs (v : Nat) : List Nat := [v / 4 % 9, v / 36 % 9, v / 324 % 9].take (v % 4)
noncomputable def drawn1 (v : Nat) : List (List Nat) := (ixs v).map (drawnT (hOf v))
noncomputable def meant1 (v : Nat) : List (List Nat) := (ixs v).map meantT
/-- the tuples of the signs' table -/
noncomputable def Pairs (H : List LO) (b : Nat → Nat) (h : Nat) : Prop := ∀ i, i < 9 → H[b i]? = some (.tup [.str (S (drawnT h i)), .str (S (meantT i))])
theorem lt9 {P : Nat → Prop} (h0 : P 0) (h1 : P 1) (h2 : P 2) (h3 : P 3) (h4 : P 4) (h5 : P 5) (h6 : P 6) (h7 : P 7) (h8 : P 8) : ∀ i, i < 9 → P i
  | 0, _ => h0 | 1, _ => h1 | 2, _ => h2 | 3, _ => h3 | 4, _ => h4 | 5, _ => h5 | 6, _ => h6 | 7, _ => h7 | 8, _ => h8
  | i + 9, h => absurd h (by (first | lia | omega))
theorem sts_snoc (l : List (List Nat)) (x : List Nat) : sts l ++ [.str (S x)] = sts (l ++ [x]) := by unfold sts; simp
theorem Ret.pair {H0 H : List LO} {Q : LV → List LO → Prop} {lf : LF} {xs : List (List Nat)} {y : Str} {k1 k2 : Nat} (h1 : H0.length ≤ k1) (h2 : H0.length ≤ k2) (e0 : H0 <+: H) (e1 : H[k1]? = some (.list (sts xs))) (e2 : H[k2]? = some (.tup [.obj k1, .str y])) (hlf : lf.val = .obj k2)
    (h : Q (.obj (H0.length + 1)) (H0 ++ [.list (sts xs), .tup [.obj H0.length, .str y]])) : Ret H0 Q lf H := by
  have hne : k1 ≠ k2 := fun e => by rw [e, e2] at e1; cases e1
  have l1 := (List.getElem?_eq_some_iff.mp e1).1
  have l2 := (List.getElem?_eq_some_iff.mp e2).1
  have g0 : ∀ j, j < H0.length → gk H0.length [k1, k2] j = j := fun j hj => by unfold gk; rw [if_pos hj]
  have g1 : gk H0.length [k1, k2] H0.length = k1 := by unfold gk; simp
  have g2 : gk H0.length [k1, k2] (H0.length + 1) = k2 := by unfold gk; rw [if_neg (by (first | lia | omega)), show H0.length + 1 - H0.length = 1 by (first | lia | omega)]; rfl
  have hx : ∀ x ∈ sts xs, x.below H0.length := fun x hx => by unfold sts at hx; obtain ⟨_, _, rfl⟩ := List.mem_map.mp hx; trivial
  refine .pick [k1, k2] _ (.obj (H0.length + 1)) (by simp [hne]) (by simp; exact ⟨⟨h1, l1⟩, h2, l2⟩) (by simp) (fun j o ho => ?_) ?_ (by show H0.length + 1 < _; simp) h
  · rcases Nat.lt_or_ge j H0.length with hj | hj
    · rw [List.getElem?_append_left hj] at ho
      exact .inl ⟨hj, ho, pfx_get e0 ho⟩
    · right
      rw [List.getElem?_append_right hj] at ho
      have hj2 : j = H0.length ∨ j = H0.length + 1 := by
        have := (List.getElem?_eq_some_iff.mp ho).1
        simp at this; (first | lia | omega)
      rcases hj2 with rfl | rfl
      · rw [Nat.sub_self] at ho
        cases ho
        rw [g1, LO.ren_below g0 (lo := .list (sts xs)) hx]
        exact ⟨e1, fun x hx' => LV.below_mono (by simp) (hx x hx')⟩
      · rw [show H0.length + 1 - H0.length = 1 by (first | lia | omega)] at ho
        cases ho
        rw [g2]
        refine ⟨e2.trans ?_, ?_⟩
        · show _ = some (LO.tup [.obj (gk H0.length [k1, k2] H0.length), .str y])
          rw [g1]
        · intro x hx'
          simp only [List.mem_cons, List.not_mem_nil, or_false] at hx'
          rcases hx' with rfl | rfl
          · show H0.length < _; simp
          · trivial
  · rw [hlf]
    show LV.obj k2 = LV.obj (gk _ _ _)
    rw [g2]
theorem word_body {K : Kit} {A : Around} {L a : Addr} {doc pm cd ct : Value} {an : Option Addr} {H : List LO} {v : Nat} {Q : LV → List LO → Prop} (B : Blts K) (hA : A.handled = none) (hv : v < 100000000)
  (h : Q (.obj (H.length + 1)) (H ++ [.list (sts (drawn1 v)), .tup [.obj H.length, .str (S (meant1 v).flatten)]])) :
  Ex ⟨K, A, callEnv (fd0 13 doc pm cd ct an) L a, H.length⟩ (bodyOf (st1 13)) H [("v", .int v)] (fun lf H' _ => Ret H Q lf H') := by
  have hsz : sizeLine = 16777216 := rfl
  refine ex_cons (x_set ?_)
  refine Ev.mono (Q := fun lv H1 => ∃ k, H <+: H1 ∧ lv = .obj k ∧ H1[k]? = some (.list (intL hid))) ?_ ?_
  · (run_tac Mine.pyyT)
    refine ⟨Nat.le_of_ble_eq_true rfl, ?_⟩
    (run_tac Mine.bredT)
    refine ev_tcall (ev_builtin B.list.1 B.list.2 ⟨rfl, rfl⟩) ?_
    (run_tac Mine.pyyT)
    refine ev_tcall (ev_builtin B.range.1 B.range.2 ⟨rfl, rfl⟩) ?_
    (run_tac Mine.pyyT)
    refine blt_range2 ?_
    (run_tac Mine.pyyT)
    refine blt_list_range hA at_end (by decide) (by decide) (by decide) (by decide) (by decide) ?_
    (run_tac Mine.bredT)
    refine bin_add_list (xs := [.int 173, .int 847, .int 6150, .int 6155, .int 6156, .int 6157, .int 8203, .int 8204, .int 8205, .int 8288]) (by simp) at_end (by simp [iota]; decide) ?_
    (run_tac Mine.pyyT)
    refine ⟨Nat.le_of_ble_eq_true rfl, ?_⟩
    (run_tac Mine.bredT)
    refine bin_add_list (xs := [.int 173, .int 847, .int 6150, .int 6155, .int 6156, .int 6157, .int 8203, .int 8204, .int 8205, .int 8288] ++ iota 65024 16) (by simp) at_end (by simp [iota]; decide) ?_
    refine ⟨_, by (run_tac Mine.pfxT), rfl, ?_⟩
    rw [at_end]; kernel_rfl
  rintro _ H2 ⟨kh, hp2, rfl, hh⟩
  refine ex_cons (x_set ?_)
  refine Ev.mono (Q := fun lv H1 => ∃ b k, H2 <+: H1 ∧ lv = .obj k ∧ H1[k]? = some (.list (objL ((List.range 9).map b))) ∧ Pairs H1 b (hOf v)) ?_ ?_
  · (run_tac Mine.pyyT)
    refine ⟨Nat.le_of_ble_eq_true rfl, ?_⟩
    (run_tac Mine.pyyT)
    refine ⟨Nat.le_of_ble_eq_true rfl, ?_⟩
    (run_tac Mine.pyyT)
    refine ev_bcall (ev_builtin B.chr.1 B.chr.2 ⟨rfl, rfl⟩) ?_
    (run_tac Mine.pyyT)
    refine blt_chr (by decide) (by decide) ?_
    (run_tac Mine.pyyT)
    refine ⟨Nat.le_of_ble_eq_true rfl, ?_⟩
    (run_tac Mine.pyyT)
    refine ⟨Nat.le_of_ble_eq_true rfl, ?_⟩
    (run_tac Mine.pyyT)
    refine ⟨Nat.le_of_ble_eq_true rfl, ?_⟩
    (run_tac Mine.pyyT)
    refine ⟨Nat.le_of_ble_eq_true rfl, ?_⟩
    (run_tac Mine.pyyT)
    refine ⟨Nat.le_of_ble_eq_true rfl, ?_⟩
    (run_tac Mine.pyyT)
    refine ⟨Nat.le_of_ble_eq_true rfl, ?_⟩
    (run_tac Mine.pyyT)
    refine ev_bcall (ev_builtin B.chr.1 B.chr.2 ⟨rfl, rfl⟩) ?_
    (run_tac Mine.bredT)
    refine ev_sub_list ?_
    (run_tac Mine.pyyT)
    have hlt : v / 23328 % 27 < 27 := Nat.mod_lt _ (by decide)
    refine ⟨kh, intL hid, v / 23328 % 27, _, rfl, pfx_get (by (run_tac Mine.pfxT)) hh, congrArg LV.int (dm v 23328 27), intL_get hlt, by decide, ?_⟩
    (run_tac Mine.pyyT)
    have hc : hid.getD (v / 23328 % 27) 0 ≤ 65279 := by
      have : ∀ i, i < 27 → hid.getD i 0 ≤ 65279 := by decide
      exact this _ hlt
    refine blt_chr (by (first | lia | omega)) (by (first | lia | omega)) ?_
    rw [Int.toNat_natCast]
    (run_tac Mine.pyyT)
    refine ⟨Nat.le_of_ble_eq_true rfl, ?_⟩
    (run_tac Mine.pyyT)
    refine ⟨Nat.le_of_ble_eq_true rfl, ?_⟩
    refine ⟨fun i => H2.length + i, _, by (run_tac Mine.pfxT), rfl, ?_, ?_⟩
    · rw [at_end]
      simp [objL, List.range_succ]
    · simp only [List.append_assoc, List.cons_append, List.nil_append]
      exact lt9 (app_at rfl) (app_at rfl) (app_at rfl) (app_at rfl) (app_at rfl) (app_at rfl) (app_at rfl) (app_at rfl) (app_at rfl)
  rintro _ H3 ⟨b, ks, hp3, rfl, hs, hP⟩
  have hp13 : H <+: H3 := hp2.trans hp3
  have d9 : ∀ n, v / n % 9 < 9 := fun n => Nat.mod_lt _ (by decide)
  have hsub : ∀ n, n < 9 → (objL ((List.range 9).map b))[n]? = some (.obj (b n)) := fun n h => by simp [objL, h]
  refine ex_cons (x_set ?_)
  refine Ev.mono (Q := fun lv H1 => ∃ k, H3 <+: H1 ∧ lv = .obj k ∧ H1[k]? = some (.list (objL ((ixs v).map b)))) ?_ ?_
  · refine ev_slice_list ?_
    refine ev_list ?_
    (run_tac Mine.bredT)
    refine ev_sub_list ?_
    (run_tac Mine.pyyT)
    refine ⟨ks, _, v / 4 % 9, _, rfl, hs, congrArg LV.int (dm v 4 9), hsub _ (d9 _), by simp only [objL, List.length_map, List.length_range]; decide, ?_⟩
    (run_tac Mine.bredT)
    refine ev_sub_list ?_
    (run_tac Mine.pyyT)
    refine ⟨ks, _, v / 36 % 9, _, rfl, hs, congrArg LV.int (dm v 36 9), hsub _ (d9 _), by simp only [objL, List.length_map, List.length_range]; decide, ?_⟩
    (run_tac Mine.bredT)
    refine ev_sub_list ?_
    (run_tac Mine.pyyT)
    refine ⟨ks, _, v / 324 % 9, _, rfl, hs, congrArg LV.int (dm v 324 9), hsub _ (d9 _), by simp only [objL, List.length_map, List.length_range]; decide, ?_⟩
    (run_tac Mine.bredT)
    refine ⟨Nat.le_of_ble_eq_true rfl, ?_⟩
    (run_tac Mine.pyyT)
    rw [show (v : Int).fmod 4 = ((v % 4 : Nat) : Int) from fmod_nat v 4]
    refine ⟨_, _, _, _, rfl, at_end, Nat.le_of_ble_eq_true rfl, .none, .int _, ?_⟩
    rw [slc_upto]
    refine ⟨_, by (run_tac Mine.pfxT), rfl, ?_⟩
    rw [at_end]
    simp [objL, ixs]
  rintro _ H4 ⟨kp, hp4, rfl, hp⟩
  have hP4 : Pairs H4 b (hOf v) := fun i hi => pfx_get hp4 (hP i hi)
  have hix : ∀ i ∈ ixs v, i < 9 := fun i hi => by
    have := List.mem_of_mem_take hi
    simp only [List.mem_cons, List.not_mem_nil, or_false] at this
    rcases this with rfl | rfl | rfl <;> exact d9 _
  have hixl : (ixs v).length ≤ 3 := by unfold ixs; rw [List.length_take]; simp; (first | lia | omega)
  clear hs hP hh hsub
  (run_tac Mine.pyyT)
  refine ev_comp1 ⟨hA, rfl, by decide, by decide, by kernel_rfl, fun _ => rfl⟩ ?_
  (run_tac Mine.pyyT)
  refine ⟨[], Sub.nil _, MfOk.nil, ?_⟩
  refine over_list hp (by have := (List.getElem?_eq_some_iff.mp hp).1; (first | lia | omega)) ?_
  have hget : ∀ (i : Nat) (x : LV), (objL ((ixs v).map b))[i]? = some x → ∃ j, (ixs v)[i]? = some j ∧ x = .obj (b j) := fun i x hx => by
    unfold objL at hx
    rw [List.map_map, List.getElem?_map] at hx
    obtain ⟨j, hj, e⟩ := Option.map_eq_some_iff.mp hx
    exact ⟨j, hj, e.symm⟩
  intro L ac
  refine ⟨fun i H' m => H' = H4 ++ [.list (sts (((ixs v).take i).map (drawnT (hOf v))))] ∧ m = ([] : Loc), ⟨by simp [sts], rfl⟩, ?_, ?_, ?_⟩
  · rintro i H' m ⟨rfl, rfl⟩
    exact ⟨by simp, app_get hp⟩
  · rintro i x H' m hx ⟨rfl, rfl⟩
    obtain ⟨j, hj, rfl⟩ := hget i x hx
    refine asg_tuple hA (app_get (hP4 j (hix j (List.mem_of_getElem? hj)))) rfl ?_
    unfold Asgs
    (run_tac Mine.pyyT)
    refine ⟨_, at_end, by rw [sts_len]; simp; (first | lia | omega), ?_⟩
    refine ⟨_, _, .keep (Sub.nil _), ?_, rfl⟩
    rw [List.set_append_right _ _ (Nat.le_refl _), Nat.sub_self, List.set_cons_zero, sts_snoc, List.take_succ, hj]
    simp
  rintro H5 m5 ⟨rfl, rfl⟩
  (run_tac Mine.pyyT)
  refine ev_comp1 ⟨hA, rfl, by decide, by decide, by kernel_rfl, fun _ => rfl⟩ ?_
  (run_tac Mine.pyyT)
  refine ⟨[], Sub.nil _, MfOk.nil, ?_⟩
  have hp5 : (H4 ++ [LO.list (sts (((ixs v).take (objL ((ixs v).map b)).length).map (drawnT (hOf v))))])[kp]? = some (.list (objL ((ixs v).map b))) := app_get hp
  have hP5 : Pairs (H4 ++ [LO.list (sts (((ixs v).take (objL ((ixs v).map b)).length).map (drawnT (hOf v))))]) b (hOf v) := fun i hi => app_get (hP4 i hi)
  have hlast : (H4 ++ [LO.list (sts (((ixs v).take (objL ((ixs v).map b)).length).map (drawnT (hOf v))))])[H4.length]? = some (.list (sts (drawn1 v))) := by
    rw [at_end]
    congr 3
    unfold objL drawn1
    rw [List.length_map, List.length_map, List.take_length]
  have hpp : H <+: (H4 ++ [LO.list (sts (((ixs v).take (objL ((ixs v).map b)).length).map (drawnT (hOf v))))]) := pa (hp13.trans hp4)
  have hlen4 := pfx_len (hp13.trans hp4)
  generalize H4 ++ [LO.list (sts (((ixs v).take (objL ((ixs v).map b)).length).map (drawnT (hOf v))))] = H5 at hp5 hP5 hlast hpp ⊢
  refine over_list hp5 (by have := (List.getElem?_eq_some_iff.mp hp5).1; (first | lia | omega)) ?_
  intro L ac
  refine ⟨fun i H' m => H' = H5 ++ [.list (sts (((ixs v).take i).map meantT))] ∧ m = ([] : Loc), ⟨by simp [sts], rfl⟩, ?_, ?_, ?_⟩
  · rintro i H' m ⟨rfl, rfl⟩
    exact ⟨by simp, app_get hp5⟩
  · rintro i x H' m hx ⟨rfl, rfl⟩
    obtain ⟨j, hj, rfl⟩ := hget i x hx
    refine asg_tuple hA (app_get (hP5 j (hix j (List.mem_of_getElem? hj)))) rfl ?_
    unfold Asgs
    (run_tac Mine.pyyT)
    refine ⟨_, at_end, by rw [sts_len]; simp; (first | lia | omega), ?_⟩
    refine ⟨_, _, .keep (Sub.nil _), ?_, rfl⟩
    rw [List.set_append_right _ _ (Nat.le_refl _), Nat.sub_self, List.set_cons_zero, sts_snoc, List.take_succ, hj]
    simp
  rintro H6 m6 ⟨rfl, rfl⟩
  have hm : ((ixs v).take (objL ((ixs v).map b)).length).map meantT = meant1 v := by
    unfold objL meant1
    rw [List.length_map, List.length_map, List.take_length]
  rw [hm]
  have hml : (meant1 v).flatten.length ≤ 9 := by
    have hi : ∀ i, (meantT i).length ≤ 3 := fun i => by unfold meantT; split <;> decide
    unfold meant1
    generalize ixs v = l at hixl
    match l, hixl with
    | [], _ => decide
    | [a], _ => simp; have := hi a; (first | lia | omega)
    | [a, b], _ => simp; have := hi a; have := hi b; (first | lia | omega)
    | [a, b, c], _ => simp; have := hi a; have := hi b; have := hi c; (first | lia | omega)
    | a :: b :: c :: d :: l, h => exact absurd h (by simp)
  (run_tac Mine.bredT)
  refine blt_join at_end (by (first | lia | omega)) ?_
  (run_tac Mine.pyyT)
  refine ⟨Nat.le_of_ble_eq_true rfl, ?_⟩
  (run_tac Mine.pyyT)
  exact .pair hlen4 (by have := pfx_len hpp; simp; (first | lia | omega)) (pa (pa hpp)) (app_get (app_get hlast)) at_end rfl h

/-! text C16 -/
theorem Tst.mono {C : Cx} {e : PySem.Expr} {H : List LO} {m : Loc} {Q Q' : Bool → List LO → Prop} (h : Tst C e H m Q) (k : ∀ b H, Q b H → Q' b H) : Tst C e H m Q' :=
  .mk fun D ρ s hs => wp_imp (h.go D ρ s hs) fun _ _ ⟨r, H', p, a, b⟩ => ⟨r, H', p, a, k _ _ b⟩
theorem X.mono {C : Cx} {st : Stmt} {H : List LO} {m : Loc} {Q Q' : LF → List LO → Loc → Prop} (h : X C st H m Q) (k : ∀ f H m, Q f H m → Q' f H m) : X C st H m Q' :=
  .mk fun D ρ s hs => wp_imp (h.go D ρ s hs) fun _ _ ⟨r, H', m', lf, p, a, b, c⟩ => ⟨r, H', m', lf, p, a, b, k _ _ _ c⟩
noncomputable def pre_word : Pre := fun las lks H Q => ∃ v : Nat, las = [.int v] ∧ lks = [] ∧ v < 100000000 ∧ Q (.obj (H.length + 1)) (H ++ [.list (sts (drawn1 v)), .tup [.obj H.length, .str (S (meant1 v).flatten)]])
theorem word_spec {K : Kit} {a : Addr} {doc pm cd ct : Value} {an : Option Addr} (B : Blts K) (F : Fn K a (fd0 13 doc pm cd ct an) (bodyOf (st1 13))) : FnSpec K (.ref a) 1 [] pre_word :=
  FnSpec.intro F (nocell (by kernel_rfl)) fun las lks H Q zz => by
    obtain ⟨v, e1, e2, hv, hq⟩ := zz
    subst e1 e2
    refine ⟨[("v", .int v)], nodup_of (by kernel_rfl), loc_of (by kernel_rfl), ?_, fun A L r => word_body B r.h hv hq⟩
    intro s ρ vas vks hB ra rk
    obtain ⟨w, rfl, r1⟩ := VRs.one ra
    exact ⟨[("v", w)], BindsTo.of_eq (by kernel_rfl), .cons _ r1 .nil⟩
noncomputable def sepAt (n : Nat) : Nat := [32, 10, 9, 13].getD n 0
noncomputable def slashed (l : List (List Nat)) : List (List Nat) := l.map fun x => 92 :: x
noncomputable def quotB (v : Nat) : Bool := drawn1 v == [] || v / 2916 % 2 == 1
noncomputable def piece (v : Nat) : List Nat := (if quotB v then 34 :: (drawn1 v).flatten ++ [34] else (slashed (drawn1 v)).flatten) ++ [sepAt (v / 5832 % 4)]
noncomputable def page1 (vs : List Nat) : List Nat := (vs.map piece).flatten
theorem page1_snoc (vs : List Nat) (v : Nat) : page1 (vs ++ [v]) = page1 vs ++ piece v := by unfold page1; simp
theorem drawn1_len (v : Nat) : (drawn1 v).length ≤ 3 := by unfold drawn1 ixs; rw [List.length_map, List.length_take]; simp; (first | lia | omega)
theorem flat_len {l : List (List Nat)} {n k : Nat} (h : ∀ x ∈ l, x.length ≤ n) (hl : l.length ≤ k) : l.flatten.length ≤ k * n := by
  induction l generalizing k with
  | nil => simp
  | cons x l ih =>
    rw [List.flatten_cons, List.length_append]
    simp only [List.length_cons] at hl
    have h1 := ih (k := k - 1) (fun y hy => h y (.tail _ hy)) (by (first | lia | omega))
    have h2 := h x (.head _)
    obtain ⟨j, rfl⟩ : ∃ j, k = j + 1 := ⟨k - 1, by (first | lia | omega)⟩
    rw [Nat.succ_mul]
    simp only [Nat.add_sub_cancel] at h1
    (first | lia | omega)
theorem drawnT_len (h i : Nat) : (drawnT h i).length = 1 := by unfold drawnT; split <;> rfl
theorem drawn1_flat (v : Nat) : (drawn1 v).flatten.length ≤ 3 := by
  refine flat_len (n := 1) (k := 3) (fun x hx => ?_) (drawn1_len v)
  unfold drawn1 at hx
  obtain ⟨i, _, rfl⟩ := List.mem_map.mp hx
  exact Nat.le_of_eq (drawnT_len _ _)
theorem slashed_flat (v : Nat) : (slashed (drawn1 v)).flatten.length ≤ 6 := by
  refine flat_len (n := 2) (k := 3) (fun x hx => ?_) (by unfold slashed; rw [List.length_map]; exact drawn1_len v)
  unfold slashed drawn1 at hx
  rw [List.map_map] at hx
  obtain ⟨i, _, rfl⟩ := List.mem_map.mp hx
  show (drawnT _ _).length + 1 ≤ 2
  rw [drawnT_len]; (first | lia | omega)
noncomputable def core (v : Nat) : List Nat := if quotB v then 34 :: (drawn1 v).flatten ++ [34] else (slashed (drawn1 v)).flatten
theorem core_len (v : Nat) : (core v).length ≤ 6 := by
  have h1 := drawn1_flat v
  have h2 := slashed_flat v
  unfold core
  split
  · rw [List.length_append, List.length_cons]; simp only [List.length_singleton]; (first | lia | omega)
  · exact h2
theorem piece_len (v : Nat) : (piece v).length ≤ 7 := by
  have h1 := drawn1_flat v
  have h2 := slashed_flat v
  unfold piece
  rw [List.length_append]
  split
  · rw [List.length_append, List.length_cons]; simp only [List.length_singleton]; (first | lia | omega)
  · simp only [List.length_singleton]; (first | lia | omega)
theorem page1_len (vs : List Nat) : (page1 vs).length ≤ vs.length * 7 := by
  unfold page1
  refine flat_len (fun x hx => ?_) (by simp)
  obtain ⟨v, _, rfl⟩ := List.mem_map.mp hx
  exact piece_len v
noncomputable def pre_page : Pre := fun las lks H Q => ∃ k vs, las = [.obj k] ∧ lks = [] ∧ H[k]? = some (.list (intL vs)) ∧ vs.length ≤ 1000 ∧ (∀ v ∈ vs, v < 100000000) ∧ Q (.str (S (page1 vs))) H
theorem page_body {K : Kit} {A : Around} {L a : Addr} {doc pm cd ct : Value} {an : Option Addr} {H : List LO} {Q : LV → List LO → Prop} {w : Addr} {ow : Obj} {fw : FuncData} (B : Blts K) (hr : Rm 1 A)
  (hwg : K.mg "_law_word" = some (.ref w)) (hB : K.B w = some ow) (hd : ow.data = .func fw) (spec : FnSpec K (.ref w) 1 [] pre_word) {k : Nat} {vs : List Nat} (hk : H[k]? = some (.list (intL vs))) (hl : vs.length ≤ 1000) (hv : ∀ v ∈ vs, v < 100000000)
  (hq : Q (.str (S (page1 vs))) H) :
  Ex ⟨K, A, callEnv (fd0 14 doc pm cd ct an) L a, H.length⟩ (bodyOf (st1 14)) H [("items", .obj k)] (fun lf H' _ => Ret H Q lf H') := by
  have hsz : sizeLine = 16777216 := rfl
  have hA := hr.h
  have hkl := (List.getElem?_eq_some_iff.mp hk).1
  (run_tac Mine.pyyT)
  refine x_For hA ?_
  (run_tac Mine.pyyT)
  refine ⟨H.length, over_list hk hkl ?_⟩
  refine ⟨[("text", .str (S []))], fun i H' m => H <+: H' ∧ m = ([("text", .str (S (page1 (vs.take i))))] : Loc), Nat.le_refl _, Nat.le_refl _, by (run_tac Mine.subsT), ⟨List.prefix_refl _, rfl⟩, ?_, ?_, ?_⟩
  · rintro i H' m ⟨hp, rfl⟩
    exact ⟨pfx_len hp, pfx_get hp hk⟩
  · rintro i x H' m hx ⟨hp, rfl⟩
    have hi : i < vs.length := by
      have := (List.getElem?_eq_some_iff.mp hx).1
      simpa [intL] using this
    obtain rfl : x = .int (vs[i] : Nat) := by
      dsimp only at hx
      rw [intL_get hi] at hx
      cases hx
      rw [List.getD_eq_getElem?_getD, List.getElem?_eq_getElem hi]; rfl
    have hvi := hv vs[i] (List.getElem_mem hi)
    have htake : vs.take (i + 1) = vs.take i ++ [vs[i]] := by rw [List.take_add_one, List.getElem?_eq_getElem hi]; rfl
    have htl : (page1 (vs.take i)).length ≤ 7000 := by
      have h1 := page1_len (vs.take i)
      rw [List.length_take] at h1
      (first | lia | omega)
    generalize hvg : vs[i] = v at hvi htake ⊢
    generalize hT : page1 (vs.take i) = T at htl ⊢
    refine asg_set ?_
    refine ex_cons ?_
    refine x_assignTuple hA ?_
    refine ev_call spec (ev_global hwg ⟨rfl, rfl⟩) hB hd hr (by kernel_rfl) ?_
    (run_tac Mine.pyyT)
    refine ⟨v, rfl, rfl, hvi, ?_⟩
    have hpT : (H' ++ [.list (sts (drawn1 v)), .tup [.obj H'.length, .str (S (meant1 v).flatten)]])[H'.length + 1]? = some (.tup [.obj H'.length, .str (S (meant1 v).flatten)]) := two1 rfl
    have hpL : (H' ++ [.list (sts (drawn1 v)), .tup [.obj H'.length, .str (S (meant1 v).flatten)]])[H'.length]? = some (.list (sts (drawn1 v))) := two0 rfl
    have hpp : H <+: H' ++ [.list (sts (drawn1 v)), .tup [.obj H'.length, .str (S (meant1 v).flatten)]] := pa hp
    generalize H' ++ [.list (sts (drawn1 v)), .tup [.obj H'.length, .str (S (meant1 v).flatten)]] = H2 at hpT hpL hpp ⊢
    refine asg_tuple hA hpT rfl ?_
    unfold Asgs
    refine asg_set ?_
    refine asg_set ?_
    (run_tac Mine.bredT)
    have hal : ∀ {H3 : List LO}, H2 <+: H3 → H3[H'.length]? = some (.list (sts (drawn1 v))) := fun hp => pfx_get hp hpL
    refine ex_cons (X.mono (Q := fun lf H1 m1 => lf = .next ∧ H2 <+: H1 ∧ Sub [("v", .int v), ("text", .str (S (T ++ core v)))] m1) (x_If (Tst.mono (Q := fun b H3 => b = quotB v ∧ H2 <+: H3) ?_ ?_)) ?_)
    · (run_tac Mine.pyyT)
      refine ⟨by simp only [List.length_nil]; decide, ?_⟩
      (run_tac Mine.bredT)
      refine cmp_eq_list (xs := drawn1 v) (ys := []) hr.units (hal (by (run_tac Mine.pfxT))) at_end ?_
      (run_tac Mine.pyyT)
      refine it_both (fun hc => ?_) (fun hc => ?_)
      · refine ⟨?_, by (run_tac Mine.pfxT)⟩
        unfold quotB; rw [hc]; rfl
      · (run_tac Mine.pyyT)
        rw [show ((v : Int).fdiv 2916).fmod 2 = ((v / 2916 % 2 : Nat) : Int) from dm v 2916 2]
        have e1 : quotB v = (((v / 2916 % 2 : Nat) : Int) == 1) := by
          unfold quotB; rw [hc, Bool.false_or, Bool.eq_iff_iff, beq_iff_eq, beq_iff_eq]; (first | lia | omega)
        refine it_both (fun hd => ?_) (fun hd => ?_)
        · exact ⟨by rw [e1, hd], by (run_tac Mine.pfxT)⟩
        · (run_tac Mine.pyyT)
          exact ⟨by rw [e1, hd], by (run_tac Mine.pfxT)⟩
    · rintro _ H3 ⟨rfl, hp3⟩
      have hd1 := drawn1_flat v
      have hd2 := slashed_flat v
      refine it_both (fun hc => ?_) (fun hc => ?_)
      · (run_tac Mine.pyyT)
        refine blt_join (pfx_get hp3 hpL) (by (first | lia | omega)) ?_
        (run_tac Mine.pyyT)
        refine bin_add_str (by simp only [List.length_append, List.length_cons, List.length_nil]; (first | lia | omega)) ?_
        (run_tac Mine.pyyT)
        refine bin_add_str (by simp only [List.length_append, List.length_cons, List.length_nil]; (first | lia | omega)) ?_
        (run_tac Mine.bredT)
        refine inp_add_str (by simp only [List.length_append, List.length_cons, List.length_nil]; (first | lia | omega)) ?_
        (run_tac Mine.pyyT)
        refine ⟨rfl, by (run_tac Mine.pfxT), ?_⟩
        have : T ++ core v = T ++ ([34] ++ (drawn1 v).flatten ++ [34]) := by unfold core; rw [hc]; rfl
        rw [this]
        (run_tac Mine.subsT)
      · (run_tac Mine.pyyT)
        refine ev_comp1 ⟨hA, rfl, by decide, by decide, by kernel_rfl, fun _ => rfl⟩ ?_
        (run_tac Mine.pyyT)
        refine ⟨[], Sub.nil _, MfOk.nil, ?_⟩
        have hal3 := pfx_get hp3 hpL
        refine over_list hal3 (by have := (List.getElem?_eq_some_iff.mp hal3).1; (first | lia | omega)) ?_
        intro L ac
        refine ⟨fun i H' m => H' = H3 ++ [.list (sts (slashed ((drawn1 v).take i)))] ∧ m = ([] : Loc), ⟨by simp [sts, slashed], rfl⟩, ?_, ?_, ?_⟩
        · rintro i H' m ⟨rfl, rfl⟩
          exact ⟨by simp, app_get hal3⟩
        · rintro j x H' m hx ⟨rfl, rfl⟩
          dsimp only at hx
          have hj : j < (drawn1 v).length := by
            have := (List.getElem?_eq_some_iff.mp hx).1
            rwa [sts_len] at this
          have hdl := drawn1_len v
          have hj1 : (drawn1 v)[j].length = 1 := by
            simp only [drawn1, List.getElem_map]
            exact drawnT_len _ _
          rw [sts_get hj, List.getD_eq_getElem?_getD, List.getElem?_eq_getElem hj, Option.getD_some] at hx
          cases hx
          refine asg_set ?_
          (run_tac Mine.pyyT)
          refine bin_add_str (by simp only [List.length_append, List.length_cons, List.length_nil]; (first | lia | omega)) ?_
          refine ⟨_, at_end, by rw [sts_len]; unfold slashed; rw [List.length_map, List.length_take]; (first | lia | omega), ?_⟩
          refine ⟨_, _, .keep (Sub.nil _), ?_, rfl⟩
          rw [List.set_append_right _ _ (Nat.le_refl _), Nat.sub_self, List.set_cons_zero, sts_snoc, List.take_add_one, List.getElem?_eq_getElem hj]
          unfold slashed
          rw [List.map_append]
          rfl
        rintro H6 m6 ⟨rfl, rfl⟩
        rw [show (drawn1 v).take (sts (drawn1 v)).length = drawn1 v by rw [sts_len, List.take_length]]
        (run_tac Mine.bredT)
        refine blt_join at_end (by (first | lia | omega)) ?_
        (run_tac Mine.bredT)
        refine inp_add_str (by simp only [List.length_append]; (first | lia | omega)) ?_
        (run_tac Mine.pyyT)
        refine ⟨rfl, by (run_tac Mine.pfxT), ?_⟩
        have : T ++ core v = T ++ (slashed (drawn1 v)).flatten := by unfold core; rw [hc]; rfl
        rw [this]
        (run_tac Mine.subsT)
    rintro _ H3 m3 ⟨rfl, hp3, hsub⟩
    refine ex_sub hsub ?_
    have hcl := core_len v
    (run_tac Mine.pyyT)
    refine ev_sub_str ?_
    (run_tac Mine.pyyT)
    have h4 : v / 5832 % 4 < 4 := Nat.mod_lt _ (by decide)
    refine ⟨_, v / 5832 % 4, sepAt (v / 5832 % 4), rfl, congrArg LV.int (dm v 5832 4), ?_, by decide, ?_⟩
    · have : ∀ i, i < 4 → ([32, 10, 9, 13] : List Nat)[i]? = some (sepAt i) := by decide
      exact this _ h4
    (run_tac Mine.bredT)
    refine inp_add_str (by simp only [List.length_append, List.length_cons, List.length_nil]; (first | lia | omega)) ?_
    (run_tac Mine.pyyT)
    refine ⟨_, _, .keep (show Sub [("text", .str (S (T ++ core v ++ [sepAt (v / 5832 % 4)])))] _ by (run_tac Mine.subsT)), hpp.trans hp3, ?_⟩
    rw [htake, page1_snoc, hT, List.append_assoc]
    rfl
  · rintro H' m ⟨hp, rfl⟩
    (run_tac Mine.pyyT)
    obtain ⟨l, rfl⟩ := hp
    refine .same rfl trivial ?_
    have : vs.take (intL vs).length = vs := by unfold intL; rw [List.length_map, List.take_length]
    rw [this]
    exact hq
theorem page_spec {K : Kit} {a : Addr} {doc pm cd ct : Value} {an : Option Addr} {w : Addr} {ow : Obj} {fw : FuncData} (B : Blts K) (F : Fn K a (fd0 14 doc pm cd ct an) (bodyOf (st1 14)))
  (hwg : K.mg "_law_word" = some (.ref w)) (hB : K.B w = some ow) (hd : ow.data = .func fw) (spec : FnSpec K (.ref w) 1 [] pre_word) : FnSpec K (.ref a) 2 [] pre_page :=
  FnSpec.intro F (nocell (by kernel_rfl)) fun las lks H Q zz => by
    obtain ⟨k, vs, e1, e2, hk, hl, hv, hq⟩ := zz
    subst e1 e2
    refine ⟨[("items", .obj k)], nodup_of (by kernel_rfl), loc_of (by kernel_rfl), ?_, fun A L r => page_body B r hwg hB hd spec hk hl hv hq⟩
    intro s ρ vas vks hB ra rk
    obtain ⟨w, rfl, r1⟩ := VRs.one ra
    exact ⟨[("items", w)], BindsTo.of_eq (by kernel_rfl), .cons _ r1 .nil⟩

/-! text C17 -/
theorem Ret.keptOne {H0 H : List LO} {Q : LV → List LO → Prop} {lf : LF} {k : Nat} {lo : LO} (hlen : H0.length ≤ H.length) (hold : ∀ (j : Nat) (o : LO), j < H0.length → H[j]? = some o → H0[j]? = some o ∨ o.below H0.length) (hk : H0.length ≤ k) (hlo : H[k]? = some lo) (hlf : lf.val = .obj k)
    (hb : lo.below H0.length) (h : Q (.obj H0.length) (H.take H0.length ++ [lo])) : Ret H0 Q lf H := by
  have hlt := (List.getElem?_eq_some_iff.mp hlo).1
  have g0 : ∀ j, j < H0.length → gk H0.length [k] j = j := fun j hj => by unfold gk; rw [if_pos hj]
  have g1 : gk H0.length [k] H0.length = k := by unfold gk; simp
  have htl : (H.take H0.length).length = H0.length := by rw [List.length_take]; (first | lia | omega)
  refine .pick [k] (H.take H0.length ++ [lo]) (.obj H0.length) (by simp) (by simpa using ⟨hk, hlt⟩) (by simp [htl]) (fun j o ho => ?_) ?_ (by show H0.length < _; simp) h
  · rcases Nat.lt_or_ge j H0.length with hj | hj
    · rw [List.getElem?_append_left (by (first | lia | omega)), List.getElem?_take_of_lt hj] at ho
      rcases hold j o hj ho with h1 | h1
      · exact .inl ⟨hj, h1, ho⟩
      · exact .inr ⟨by rw [g0 j hj, LO.ren_below g0 h1]; exact ho, LO.below_mono (by simp) h1⟩
    · right
      have hj2 : j = H0.length := by
        have := (List.getElem?_eq_some_iff.mp ho).1
        rw [List.length_append, htl, List.length_singleton] at this; (first | lia | omega)
      subst hj2
      rw [List.getElem?_append_right (by (first | lia | omega)), htl, Nat.sub_self] at ho
      cases ho
      rw [g1, LO.ren_below g0 hb]
      exact ⟨hlo, LO.below_mono (by simp) hb⟩
  · rw [hlf]
    show LV.obj k = LV.obj (gk _ _ _)
    rw [g1]
theorem sts_below {xs : List (List Nat)} {n : Nat} : (LO.list (sts xs)).below n := fun x hx => by unfold sts at hx; obtain ⟨_, _, rfl⟩ := List.mem_map.mp hx; trivial
theorem tlo_push : typeLookup (.type "object") "push_token" = pure none := by rw [typeLookup_type, builtinLookup_eq_fast]; kernel_rfl
theorem tlo_tok : typeLookup (.type "object") "get_token" = pure none := by rw [typeLookup_type, builtinLookup_eq_fast]; kernel_rfl
theorem more_len {a b : List Nat} {n : Nat} (h : a.length ≤ n) : ∀ e ∈ more a b, e.length ≤ n := fun e he => by
  unfold more at he
  split at he
  · simp only [List.mem_cons, List.not_mem_nil, or_false] at he
    subst he
    rw [List.length_drop]; (first | lia | omega)
  · cases he
theorem more_one (a b : List Nat) : (more a b).length ≤ 1 := by unfold more; split <;> simp
/-- what an end leads to -/
noncomputable def nextOf (t w : List Nat) : List (List Nat) := more w t ++ more t w
theorem nextOf_two (t w : List Nat) : (nextOf t w).length ≤ 2 := by
  unfold nextOf; rw [List.length_append]; have := more_one w t; have := more_one t w; (first | lia | omega)
theorem nextOf_len {t w : List Nat} {n : Nat} (h1 : t.length ≤ n) (h2 : w.length ≤ n) : ∀ e ∈ nextOf t w, e.length ≤ n := fun e he => by
  rcases List.mem_append.mp he with he | he
  · exact more_len h2 e he
  · exact more_len h1 e he

/-- the objects between the statements of _law_ends: the caller's are H's but for the pushback -/
structure EInv (H : List LO) (kp kr : Nat) (push row : List (List Nat)) (H' : List LO) : Prop where
  old : ∀ j, j < H.length → j ≠ kp → H'[j]? = H[j]?
  push : H'[kp]? = some (.list (sts push))
  row : H'[kr]? = some (.list (sts row))
  kr : H.length ≤ kr
  kp : kp < H.length
  len : H.length ≤ H'.length
theorem EInv.app {H : List LO} {kp kr : Nat} {push row : List (List Nat)} {H' l : List LO} (h : EInv H kp kr push row H') : EInv H kp kr push row (H' ++ l) :=
  ⟨fun j hj hne => by rw [List.getElem?_append_left (Nat.lt_of_lt_of_le hj h.len)]; exact h.old j hj hne, app_get h.push, app_get h.row, h.kr, h.kp, by rw [List.length_append]; have := h.len; (first | lia | omega)⟩
theorem EInv.pfx {H : List LO} {kp kr : Nat} {push row : List (List Nat)} {H' H2 : List LO} (h : EInv H kp kr push row H') (p : H' <+: H2) : EInv H kp kr push row H2 := by obtain ⟨l, rfl⟩ := p; exact h.app
theorem EInv.setRow {H : List LO} {kp kr : Nat} {push row row' : List (List Nat)} {H' : List LO} (h : EInv H kp kr push row H') : EInv H kp kr push row' (H'.set kr (.list (sts row'))) := by
  have h1 := h.kr
  have h2 := h.kp
  refine ⟨fun j hj hne => ?_, ?_, ?_, h1, h2, by rw [List.length_set]; exact h.len⟩
  · rw [List.getElem?_set_ne (by (first | lia | omega))]; exact h.old j hj hne
  · rw [List.getElem?_set_ne (by (first | lia | omega))]; exact h.push
  · rw [List.getElem?_set_self (List.getElem?_eq_some_iff.mp h.row).1]
theorem EInv.setPush {H : List LO} {kp kr : Nat} {push push' row : List (List Nat)} {H' : List LO} (h : EInv H kp kr push row H') : EInv H kp kr push' row (H'.set kp (.list (sts push'))) := by
  have h1 := h.kr
  have h2 := h.kp
  refine ⟨fun j hj hne => ?_, ?_, ?_, h1, h2, by rw [List.length_set]; exact h.len⟩
  · rw [List.getElem?_set_ne (Ne.symm hne)]; exact h.old j hj hne
  · rw [List.getElem?_set_self (List.getElem?_eq_some_iff.mp h.push).1]
  · rw [List.getElem?_set_ne (by (first | lia | omega))]; exact h.row
theorem set_get_ne {H : List LO} {k j : Nat} {o o' : LO} (h : H[j]? = some o) (hne : k ≠ j) : (H.set k o')[j]? = some o := by rw [List.getElem?_set_ne hne]; exact h

noncomputable abbrev eL (x : Addr) (kr : Nat) (one other : List Nat) : Loc := [("lexer", .const (.ref x)), ("row", .obj kr), ("one", .str (S one)), ("other", .str (S other))]
/-- the for over the ends that are fresh -/
noncomputable def endsInner : Stmt := match bodyOf (st1 16) with
  | [_, _, .For _ _ (s :: _) _ _, _] => s
  | _ => default
section
variable {K : Kit} {a : Addr} {doc pm cd ct : Value} {an : Option Addr} {x c N d : Addr} {mN : Str → Option Value}
/-- what _law_ends reaches -/
structure EndsK (K : Kit) (x c N d st : Addr) (mN : Str → Option Value) where
  LK : LexK K x c N d mN
  mr : Addr
  omr : Obj
  fmr : FuncData
  more : FnSpec K (.ref mr) 1 [] pre_more
  mrG : K.mg "_law_more" = some (.ref mr)
  mrB : K.B mr = some omr
  mrD : omr.data = .func fmr
  bl : Addr
  obl : Obj
  fbl : FuncData
  bisl : FnSpec K (.ref bl) 1 [] pre_bisL
  blG : K.mg "bisect_left" = some (.ref bl)
  blB : K.B bl = some obl
  blD : obl.data = .func fbl
  ir : Addr
  oir : Obj
  fir : FuncData
  insr : FnSpec K (.ref ir) 2 [] pre_ins
  irG : K.mg "insort_right" = some (.ref ir)
  irB : K.B ir = some oir
  irD : oir.data = .func fir
  pu : Addr
  opu : Obj
  fpu : FuncData
  push : FnSpec K (.ref pu) 1 [] (pre_push x d st)
  puN : mN "push_token" = some (.ref pu)
  puB : K.B pu = some opu
  puC : opu.cls = .type "function"
  puD : opu.data = .func fpu
theorem inner_for {st : Addr} (E : EndsK K x c N d st mN) {A : Around} {L : Addr} {n0 : Nat} {H H1 : List LO} {kd kp kr kf : Nat} {z : Int} {push row fresh : List (List Nat)} {m : Loc} {Q : LF → List LO → Loc → Prop} (hr : Rm 4 A) (hn0 : n0 ≤ kf + 1)
    (hkd : kd < H.length) (hne : kd ≠ kp) (h1 : H[kd]? = some (.ns d (lexA z st kp))) (I0 : EInv H kp kr push row H1) (hf : H1[kf]? = some (.list (sts fresh))) (hkf : H.length ≤ kf) (hkf2 : kf ≠ kr) (hb1 : row.length + fresh.length ≤ 1000) (hb2 : push.length + fresh.length ≤ 1000)
    (hl : ∀ e ∈ fresh, e.length ≤ 4000) (one other : List Nat) (hmb : Sub (("fresh", .obj kf) :: eL x kr one other) m)
    (h : ∀ H2 m2, EInv H kp kr (fresh.foldl addEnd (row, push)).2 (fresh.foldl addEnd (row, push)).1 H2 → m2 = eL x kr one other → Q .next H2 m2) :
    X ⟨K, A, callEnvC (fd0 16 doc pm cd ct an) L a, n0⟩ endsInner H1 m Q := by
  have hA := hr.h
  have hsz : sizeLine = 16777216 := rfl
  refine x_sub hmb ?_
  refine x_For hA ?_
  (run_tac Mine.pyyT)
  refine ⟨kf + 1, over_list hf (Nat.lt_succ_self _) ?_⟩
  refine ⟨eL x kr one other,
    fun i H' m => EInv H kp kr ((fresh.take i).foldl addEnd (row, push)).2 ((fresh.take i).foldl addEnd (row, push)).1 H' ∧ H'[kf]? = some (.list (sts fresh)) ∧ m = eL x kr one other ∧
      ((fresh.take i).foldl addEnd (row, push)).1.length ≤ row.length + i ∧ ((fresh.take i).foldl addEnd (row, push)).2.length ≤ push.length + i, hn0, (List.getElem?_eq_some_iff.mp hf).1, by (run_tac Mine.subsT), ⟨I0, hf, rfl, Nat.le_refl _, Nat.le_refl _⟩, ?_, ?_, ?_⟩
  · rintro i H' m ⟨_, hf', _⟩
    exact ⟨(List.getElem?_eq_some_iff.mp hf').1, hf'⟩
  · rintro i v H' m hv ⟨I, hf', rfl, hb1', hb2'⟩
    dsimp only at hv
    have hi : i < fresh.length := by
      have := (List.getElem?_eq_some_iff.mp hv).1
      rwa [sts_len] at this
    rw [sts_get hi, List.getD_eq_getElem?_getD, List.getElem?_eq_getElem hi, Option.getD_some] at hv
    cases hv
    have hel := hl fresh[i] (List.getElem_mem hi)
    have hstep : (fresh.take (i + 1)).foldl addEnd (row, push) = addEnd ((fresh.take i).foldl addEnd (row, push)) fresh[i] := by
      rw [List.take_add_one, List.getElem?_eq_getElem hi, List.foldl_append]; rfl
    generalize (fresh.take i).foldl addEnd (row, push) = s0 at I hb1' hb2' hstep
    obtain ⟨row0, push0⟩ := s0
    dsimp only at I hb1' hb2'
    generalize fresh[i] = e at hel hstep ⊢
    refine asg_set ?_
    refine ex_cons (x_set ?_)
    refine ev_call E.bisl (ev_global E.blG ⟨rfl, rfl⟩) E.blB E.blD (hr.mono (by (first | lia | omega))) (by kernel_rfl) ?_
    (run_tac Mine.pyyT)
    refine ⟨kr, row0, e, rfl, rfl, I.row, by (first | lia | omega), ?_⟩
    refine ex_cons (X.mono (Q := fun lf H2 m2 => lf = .next ∧ EInv H kp kr (addEnd (row0, push0) e).2 (addEnd (row0, push0) e).1 H2 ∧ H2[kf]? = some (.list (sts fresh)) ∧ Sub (eL x kr one other) m2) ?_ ?_)
    · have hbl : bisL row0 e ≤ row0.length := bsearch_le _ _ _ _ (Nat.zero_le _)
      refine x_If (Tst.mono (Q := fun b H2 => b = ((row0.drop (bisL row0 e)).take 1 != [e]) ∧ H' <+: H2) ?_ ?_)
      · refine tst_Compare ?_
        refine ev_slice_list ?_
        (run_tac Mine.pyyT)
        refine ⟨kr, _, some ((bisL row0 e : Nat) : Int), some ((bisL row0 e + 1 : Nat) : Int), rfl, I.row, by rw [sts_len]; (first | lia | omega), .int _, .int _, ?_⟩
        rw [slc_both]
        have hsl : ((sts row0).drop (bisL row0 e)).take (bisL row0 e + 1 - bisL row0 e) = sts ((row0.drop (bisL row0 e)).take 1) := by
          unfold sts; rw [List.map_take, List.map_drop, show bisL row0 e + 1 - bisL row0 e = 1 by (first | lia | omega)]
        rw [hsl]
        (run_tac Mine.pyyT)
        refine ⟨by simp only [List.length_cons, List.length_nil]; decide, ?_⟩
        (run_tac Mine.bredT)
        refine cmp_ne_list (xs := (row0.drop (bisL row0 e)).take 1) (ys := [e]) hr.units (app_get at_end) at_end ?_
        (run_tac Mine.pyyT)
        exact ⟨rfl, by (run_tac Mine.pfxT)⟩
      rintro _ H2 ⟨rfl, hp2⟩
      have I2 := I.pfx hp2
      have hf2 := pfx_get hp2 hf'
      refine it_both (fun hc => ?_) (fun hc => ?_)
      · have hc : ¬ (row0.drop (bisL row0 e)).take 1 = [e] := by simpa using hc
        have ha : addEnd (row0, push0) e = (ins row0 e, push0 ++ [46 :: e]) := by unfold addEnd; rw [if_neg hc]
        rw [ha]
        refine ex_cons (x_Expr ?_)
        refine ev_call E.insr (ev_global E.irG ⟨rfl, rfl⟩) E.irB E.irD (hr.mono (by (first | lia | omega))) (by kernel_rfl) ?_
        (run_tac Mine.pyyT)
        refine ⟨kr, row0, e, rfl, rfl, I2.row, by (first | lia | omega), rfl, ?_⟩
        have I3 := I2.setRow (row' := ins row0 e)
        have hf3 : (H2.set kr (.list (sts (ins row0 e))))[kf]? = some (.list (sts fresh)) := set_get_ne hf2 (Ne.symm hkf2)
        generalize H2.set kr (.list (sts (ins row0 e))) = H3 at I3 hf3 ⊢
        have hkd3 : H3[kd]? = some (.ns d (lexA z st kp)) := (I3.old kd hkd hne).trans h1
        refine ex_cons (x_Expr ?_)
        refine ev_methI (H1 := H3) E.push E.puB E.puD (hr.mono (by (first | lia | omega))) E.puC E.LK.CL E.LK.I E.puN tlo_push (ev_var (by (run_tac Mine.lgtT)) ⟨rfl, rfl⟩) hkd3 (by kernel_rfl) ?_
        (run_tac Mine.pyyT)
        refine bin_add_str (by simp only [List.length_append, List.length_cons, List.length_nil]; (first | lia | omega)) ?_
        (run_tac Mine.bredT)
        refine ⟨kd, kp, z, _, push0, rfl, rfl, hkd3, I3.push, by (first | lia | omega), rfl, ?_⟩
        have I4 := I3.setPush (push' := push0 ++ [46 :: e])
        have hf4 : (H3.set kp (.list (sts (push0 ++ [46 :: e]))))[kf]? = some (.list (sts fresh)) := set_get_ne hf3 (by have := I3.kp; (first | lia | omega))
        (run_tac Mine.pyyT)
        exact ⟨rfl, I4, hf4, by (run_tac Mine.subsT)⟩
      · have hc : (row0.drop (bisL row0 e)).take 1 = [e] := by simpa using hc
        have ha : addEnd (row0, push0) e = (row0, push0) := by unfold addEnd; rw [if_pos hc]
        rw [ha]
        (run_tac Mine.pyyT)
        exact ⟨rfl, I2, hf2, by (run_tac Mine.subsT)⟩
    rintro _ H2 m2 ⟨rfl, I2, hf2, hs2⟩
    refine ex_sub hs2 ?_
    (run_tac Mine.pyyT)
    refine ⟨_, _, .keep (Sub.refl _), ?_⟩
    dsimp only
    rw [hstep]
    have hlen : (addEnd (row0, push0) e).1.length ≤ row0.length + 1 ∧ (addEnd (row0, push0) e).2.length ≤ push0.length + 1 := by
      unfold addEnd
      split
      · exact ⟨Nat.le_succ _, Nat.le_succ _⟩
      · refine ⟨?_, ?_⟩
        · dsimp only
          unfold ins
          rw [List.length_append, List.length_cons, List.length_take, List.length_drop]
          (first | lia | omega)
        · rw [List.length_append]; exact Nat.le_refl _
    exact ⟨I2, hf2, rfl, by (first | lia | omega), by (first | lia | omega)⟩
  · rintro H' m ⟨I, _, rfl, _, _⟩
    rw [sts_len, List.take_length] at I
    exact h _ _ I rfl
end

/-! text C18 -/
noncomputable def Pushed (t : List Nat) : Prop := ∃ e, t = 46 :: e ∧ e.length ≤ 4000
theorem addEnd_ok {s : List (List Nat) × List (List Nat)} {e : List Nat} (hp : ∀ t ∈ s.2, Pushed t) (he : e.length ≤ 4000) : (∀ t ∈ (addEnd s e).2, Pushed t) ∧ (addEnd s e).1.length ≤ s.1.length + 1 ∧ (addEnd s e).2.length ≤ s.2.length + 1 := by
  unfold addEnd
  split
  · exact ⟨hp, Nat.le_succ _, Nat.le_succ _⟩
  · refine ⟨fun t ht => ?_, ?_, ?_⟩
    · rcases List.mem_append.mp ht with ht | ht
      · exact hp t ht
      · simp only [List.mem_cons, List.not_mem_nil, or_false] at ht
        exact ⟨e, ht, he⟩
    · dsimp only
      unfold ins
      rw [List.length_append, List.length_cons, List.length_take, List.length_drop]
      (first | lia | omega)
    · rw [List.length_append]; exact Nat.le_refl _
theorem fold_ok : ∀ {fresh : List (List Nat)} {s : List (List Nat) × List (List Nat)}, (∀ t ∈ s.2, Pushed t) → (∀ e ∈ fresh, e.length ≤ 4000) →
    (∀ t ∈ (fresh.foldl addEnd s).2, Pushed t) ∧ (fresh.foldl addEnd s).1.length ≤ s.1.length + fresh.length ∧ (fresh.foldl addEnd s).2.length ≤ s.2.length + fresh.length
  | [], s, hp, _ => ⟨hp, Nat.le_refl _, Nat.le_refl _⟩
  | e :: fresh, s, hp, he => by
    obtain ⟨a, b, c⟩ := addEnd_ok hp (he e (.head _))
    obtain ⟨a', b', c'⟩ := fold_ok a (fun x hx => he x (.tail _ hx)) (fresh := fresh)
    rw [List.foldl_cons, List.length_cons]
    exact ⟨a', by (first | lia | omega), by (first | lia | omega)⟩
theorem EInv.split {H : List LO} {kp kr : Nat} {row : List (List Nat)} {H' : List LO} (h : EInv H kp kr [] row H') (h0 : H[kp]? = some (.list (sts []))) : ∃ l, H' = H ++ l := by
  refine ⟨H'.drop H.length, ?_⟩
  have : H'.take H.length = H := by
    apply List.ext_getElem?
    intro j
    rcases Nat.lt_or_ge j H.length with hj | hj
    · rw [List.getElem?_take_of_lt hj]
      by_cases hk : j = kp
      · subst hk; rw [h.push, h0]
      · exact h.old j hj hk
    · rw [List.getElem?_eq_none (by rw [List.length_take]; (first | lia | omega)), List.getElem?_eq_none hj]
  conv => lhs; rw [← List.take_append_drop H.length H', this]
theorem atH_app {H l : List LO} {kd kl kp : Nat} {d p st : Addr} {text : List Nat} {n0 : Int} {pos k : Nat} (hkd : kd < H.length) (hkl : kl < H.length) :
    atH (H ++ l) kd kl kp d p st text n0 pos k = atH H kd kl kp d p st text n0 pos k ++ l := by
  unfold atH
  rw [List.set_append_left _ _ hkl, List.set_append_left _ _ (by rw [List.length_set]; exact hkd)]
section
variable {K : Kit} {a : Addr} {doc pm cd ct : Value} {an : Option Addr} {x c N d : Addr} {mN : Str → Option Value}
structure TokK (K : Kit) (text : List Nat) (x d st p : Addr) (mN : Str → Option Value) where
  tk : Addr
  otk : Obj
  ftk : FuncData
  tok : FnSpec K (.ref tk) 4 [] (pre_tok text x d st p)
  tkN : mN "get_token" = some (.ref tk)
  tkB : K.B tk = some otk
  tkC : otk.cls = .type "function"
  tkD : otk.data = .func ftk
theorem endsGo_zero {one other : List Nat} {r p f R : List (List Nat)} : endsGo one other 0 r p f ≠ some R := by unfold endsGo; intro h; cases h
theorem ends_body {st p : Addr} {text : List Nat} (B : Blts K) (E : EndsK K x c N d st mN) (T : TokK K text x d st p mN) {A : Around} {L : Addr} {H : List LO} {kd kp kl pos k f : Nat} {z : Int} {one other : List Nat} {R : List (List Nat)} {Q : LV → List LO → Prop} (hr : Rm 4 A)
    (hld : kl ≠ kd) (hlp : kl ≠ kp) (hdp : kd ≠ kp) (h1 : H[kd]? = some (.ns d (lexA z st kp))) (h2 : H[kl]? = some (.plc p (pos : Nat))) (h3 : H[kp]? = some (.list (sts []))) (ho : one.length ≤ 4000) (hot : other.length ≤ 4000)
    (hsc : scan f (text.drop pos) = some ([], k)) (he : ends one other = some R) (h : Q (.obj H.length) (atH H kd kl kp d p st text z pos k ++ [.list (sts R)])) :
    Ex ⟨K, A, callEnvC (fd0 16 doc pm cd ct an) L a, H.length⟩ (bodyOf (st1 16)) H [("lexer", .const (.ref x)), ("one", .str (S one)), ("other", .str (S other))] (fun lf H' _ => Ret H Q lf H') := by
  have hA := hr.h
  have hsz : sizeLine = 16777216 := rfl
  have hkd := (List.getElem?_eq_some_iff.mp h1).1
  have hkl := (List.getElem?_eq_some_iff.mp h2).1
  have hkp := (List.getElem?_eq_some_iff.mp h3).1
  refine ex_cons (x_set ?_)
  refine ev_list ?_
  (run_tac Mine.bredT)
  refine ⟨by simp only [List.length_nil]; decide, ?_⟩
  have I1 : EInv H kp H.length [] [] (H ++ [.list []]) := ⟨fun j hj _ => by rw [List.getElem?_append_left hj], app_get h3, at_end, Nat.le_refl _, hkp, by simp⟩
  generalize H ++ [LO.list []] = H1 at I1 ⊢
  refine ex_cons (x_set ?_)
  refine Ev.mono (Q := fun lv H2 => ∃ kf, lv = .obj kf ∧ EInv H kp H.length [] [] H2 ∧ H2[kf]? = some (.list (sts (more one other ++ more other one))) ∧ H.length ≤ kf ∧ kf ≠ H.length) ?_ ?_
  · have hlt : H.length < H1.length := (List.getElem?_eq_some_iff.mp I1.row).1
    refine ev_BinOp ?_
    refine ev_call E.more (ev_global E.mrG ⟨rfl, rfl⟩) E.mrB E.mrD (hr.mono (by (first | lia | omega))) (by kernel_rfl) ?_
    (run_tac Mine.pyyT)
    refine ⟨one, other, rfl, rfl, by (first | lia | omega), by (first | lia | omega), ?_⟩
    refine ev_call E.more (ev_global E.mrG ⟨rfl, rfl⟩) E.mrB E.mrD (hr.mono (by (first | lia | omega))) (by kernel_rfl) ?_
    (run_tac Mine.pyyT)
    refine ⟨other, one, rfl, rfl, by (first | lia | omega), by (first | lia | omega), ?_⟩
    refine bin_add_list (xs := sts (more one other)) (ys := sts (more other one)) (app_get at_end) at_end ?_ ?_
    · rw [sts_len, sts_len]; have := more_one one other; have := more_one other one; (first | lia | omega)
    refine ⟨_, rfl, I1.pfx (by (run_tac Mine.pfxT)), ?_, by simp; (first | lia | omega), by simp; (first | lia | omega)⟩
    rw [at_end]
    unfold sts; rw [List.map_append]
  rintro _ H2 ⟨kf0, rfl, I2, hf2, hkf, hkf2⟩
  have hfl : ∀ e ∈ more one other ++ more other one, e.length ≤ 4000 := fun e he => by
    rcases List.mem_append.mp he with he | he
    · exact more_len ho e he
    · exact more_len hot e he
  have hf4 : (more one other ++ more other one).length ≤ 4 := by
    rw [List.length_append]; have := more_one one other; have := more_one other one; (first | lia | omega)
  unfold ends at he
  generalize more one other ++ more other one = fresh0 at hf2 hfl hf4 he
  (run_tac Mine.pyyT)
  refine x_For hA ?_
  (run_tac Mine.pyyT)
  refine ev_tcall (ev_builtin B.range.1 B.range.2 ⟨rfl, rfl⟩) ?_
  (run_tac Mine.pyyT)
  refine blt_range1 ?_
  refine ⟨H.length, over_rng at_end (by decide) (by decide) (by decide) (by decide) ?_⟩
  refine ⟨("fresh", .obj kf0) :: eL x H.length one other, fun i H' m => ∃ push row fresh kf, EInv H kp H.length push row H' ∧ H'[kf]? = some (.list (sts fresh)) ∧ H.length ≤ kf ∧ kf ≠ H.length ∧ endsGo one other (40 - i) row push fresh = some R ∧
      row.length ≤ 4 * i ∧ push.length ≤ 4 * i ∧ fresh.length ≤ 4 ∧ (∀ e ∈ fresh, e.length ≤ 4000) ∧ (∀ t ∈ push, Pushed t) ∧ m = (("fresh", .obj kf) :: eL x H.length one other : Loc), Nat.le_refl _, ?_, ?_, ?_, ?_, ?_, ?_⟩
  · rw [List.length_append]; have := I2.len; (first | lia | omega)
  · (run_tac Mine.subsT)
  · exact ⟨[], [], fresh0, kf0, I2.app, app_get hf2, hkf, hkf2, he, Nat.le_refl _, Nat.le_refl _, hf4, hfl, (fun t ht => by cases ht), rfl⟩
  · rintro i H' m ⟨push, row, fresh, kf, I, _⟩
    exact ⟨I.len, trivial⟩
  · rintro i v H' m hv ⟨push, row, fresh, kf, I, hf, hkf, hkf2, hg, hrl, hpl, hfl4, hel, hpu, rfl⟩
    dsimp only at hv
    have hi : i < 40 := by
      rcases Nat.lt_or_ge i 40 with h | h
      · exact h
      · rw [if_neg (by (first | lia | omega))] at hv; cases hv
    rw [if_pos (by (first | lia | omega))] at hv
    cases hv
    obtain ⟨n, hn⟩ : ∃ n, 40 - i = n + 1 := ⟨39 - i, by (first | lia | omega)⟩
    rw [hn] at hg
    obtain ⟨f1, f2, f3⟩ := fold_ok (s := (row, push)) hpu hel
    refine asg_set ?_
    refine ex_cons (inner_for (kd := kd) (z := z) (fresh := fresh) (row := row) (push := push) (one := one) (other := other) E hr (by show H.length ≤ _; (first | lia | omega)) hkd hdp h1 I hf hkf hkf2 (by (first | lia | omega)) (by (first | lia | omega)) hel (by (run_tac Mine.subsT)) ?_)
    rintro H3 m3 I3 rfl
    (run_tac Mine.bredT)
    unfold endsGo at hg
    dsimp only at hg f2 f3
    generalize fresh.foldl addEnd (row, push) = s0 at I3 f1 f2 f3 hg
    obtain ⟨row3, push3⟩ := s0
    dsimp only at I3 f1 f2 f3 hg
    have h13 : H3[kd]? = some (.ns d (lexA z st kp)) := (I3.old kd hkd hdp).trans h1
    have h23 : H3[kl]? = some (.plc p (pos : Nat)) := (I3.old kl hkl hlp).trans h2
    refine ex_cons (x_set ?_)
    refine ev_methI (H1 := H3) T.tok T.tkB T.tkD hr T.tkC E.LK.CL E.LK.I T.tkN tlo_tok (ev_var (by (run_tac Mine.lgtT)) ⟨rfl, rfl⟩) h13 (by kernel_rfl) ?_
    (run_tac Mine.bredT)
    refine ⟨kd, kp, kl, pos, z, push3, rfl, rfl, hld, h13, h23, I3.push, by (first | lia | omega), ?_⟩
    cases push3 with
    | nil =>
      cases hg
      refine ⟨f, [], k, hsc, Nat.zero_le _, ?_⟩
      obtain ⟨l, rfl⟩ := I3.split h3
      have hrow := I3.row
      rw [atH_app hkd hkl]
      (run_tac Mine.pyyT)
      refine .keptOne (k := H.length) (lo := .list (sts R)) (by rw [List.length_append, atH_len]; (first | lia | omega)) (fun j o hj ho => ?_) (Nat.le_refl _) ?_ rfl sts_below ?_
      · rw [List.getElem?_append_left (by rw [atH_len]; exact hj)] at ho
        unfold atH at ho
        by_cases hjd : j = kd
        · subst hjd
          rw [List.getElem?_set_self (by simp; exact hkd)] at ho
          cases ho
          right
          intro q hq
          simp only [List.mem_cons, List.not_mem_nil, or_false] at hq
          rcases hq with rfl | rfl | rfl | rfl <;> first | trivial | exact hkp
        · rw [List.getElem?_set_ne (Ne.symm hjd)] at ho
          by_cases hjl : j = kl
          · subst hjl
            rw [List.getElem?_set_self hkl] at ho
            cases ho
            exact .inr trivial
          · rw [List.getElem?_set_ne (Ne.symm hjl)] at ho
            exact .inl ho
      · rw [List.getElem?_append_right (by rw [atH_len]; exact Nat.le_refl _), atH_len]
        rw [List.getElem?_append_right (Nat.le_refl _)] at hrow
        exact hrow
      · rw [List.take_append_of_le_length (by rw [atH_len]; exact Nat.le_refl _), List.take_of_length_le (by rw [atH_len]; exact Nat.le_refl _)]
        exact h
    | cons t ps =>
      obtain ⟨e, rfl, hel3⟩ := f1 t (.head _)
      dsimp only at hg
      simp only [List.length_cons] at f3
      have I4 := I3.setPush (push' := ps)
      show Then _ _ _ _ _ _
      (run_tac Mine.pyyT)
      generalize H3.set kp (.list (sts ps)) = H4 at I4 ⊢
      refine x_assignComp2 ⟨hA, rfl, by decide, by decide, by kernel_rfl, fun _ => rfl⟩ (fun _ _ => rfl) ?_
      (run_tac Mine.pyyT)
      refine ⟨by simp only [List.length_cons, List.length_nil]; decide, ?_⟩
      have hL5 : (H4 ++ [LO.list [.str (S one), .str (S other)]])[H4.length]? = some (.list (sts [one, other])) := at_end
      have I5 : EInv H kp H.length ps row3 (H4 ++ [LO.list [.str (S one), .str (S other)]]) := I4.app
      have hlt5 : H4.length < (H4 ++ [LO.list [.str (S one), .str (S other)]]).length := by simp
      generalize H4 ++ [LO.list [.str (S one), .str (S other)]] = H5 at hL5 I5 hlt5 ⊢
      refine ⟨[("token", .str (S (46 :: e)))], by (run_tac Mine.subsT), MfOk.cons (fun L => by kernel_rfl) MfOk.nil, ?_⟩
      refine over_list hL5 (by (first | lia | omega)) ?_
      intro L ac
      refine ⟨fun i H' m => (∃ l, H' = H5 ++ [.list (sts (([one, other].take i).flatMap (nextOf e)))] ++ l) ∧ m = ([("token", .str (S (46 :: e)))] : Loc), ⟨⟨[], by simp [sts]⟩, rfl⟩, ?_, ?_, ?_⟩
      · rintro i H' m ⟨⟨l, rfl⟩, rfl⟩
        exact ⟨by simp, app_get (app_get hL5)⟩
      · rintro j v H' m hv ⟨⟨l, rfl⟩, rfl⟩
        dsimp only at hv
        have hj : j < [one, other].length := by
          have := (List.getElem?_eq_some_iff.mp hv).1
          rwa [sts_len] at this
        rw [sts_get hj, List.getD_eq_getElem?_getD, List.getElem?_eq_getElem hj, Option.getD_some] at hv
        cases hv
        have hwl : [one, other][j].length ≤ 4000 := by
          have := List.getElem_mem hj
          simp only [List.mem_cons, List.not_mem_nil, or_false] at this
          rcases this with h | h <;> rw [h] <;> assumption
        have hstep : ([one, other].take (j + 1)).flatMap (nextOf e) = ([one, other].take j).flatMap (nextOf e) ++ nextOf e [one, other][j] := by
          rw [List.take_add_one, List.getElem?_eq_getElem hj, List.flatMap_append]; simp
        have hal : (([one, other].take j).flatMap (nextOf e)).length ≤ 2 := by
          have := nextOf_two e one
          match j, hj with
          | 0, _ => simp
          | 1, _ => simpa using this
        generalize [one, other][j] = w at hwl hstep ⊢
        generalize ([one, other].take j).flatMap (nextOf e) = acc at hstep hal ⊢
        refine asg_set ?_
        (run_tac Mine.pyyT)
        refine ev_call E.more (ev_global E.mrG ⟨rfl, rfl⟩) E.mrB E.mrD (hr.mono (by (first | lia | omega))) (by kernel_rfl) ?_
        (run_tac Mine.pyyT)
        have hsl : slc (46 :: e) (some 1) none = e := slc_from (46 :: e) 1
        refine ⟨46 :: e, some 1, none, rfl, by simp only [List.length_cons]; (first | lia | omega), .int _, .none, ?_⟩
        rw [hsl]
        (run_tac Mine.bredT)
        refine ⟨w, e, rfl, rfl, by (first | lia | omega), by (first | lia | omega), ?_⟩
        refine ev_call E.more (ev_global E.mrG ⟨rfl, rfl⟩) E.mrB E.mrD (hr.mono (by (first | lia | omega))) (by kernel_rfl) ?_
        (run_tac Mine.pyyT)
        refine ⟨46 :: e, some 1, none, rfl, by simp only [List.length_cons]; (first | lia | omega), .int _, .none, ?_⟩
        rw [hsl]
        (run_tac Mine.pyyT)
        refine ⟨e, w, rfl, rfl, by (first | lia | omega), by (first | lia | omega), ?_⟩
        refine bin_add_list (xs := sts (more w e)) (ys := sts (more e w)) (app_get at_end) at_end ?_ ?_
        · rw [sts_len, sts_len]; have := more_one w e; have := more_one e w; (first | lia | omega)
        have hno : sts (more w e) ++ sts (more e w) = sts (nextOf e w) := by unfold sts nextOf; rw [List.map_append]
        rw [hno]
        have e7 : ∃ l7, H5 ++ [LO.list (sts acc)] ++ l ++ [LO.list (sts (more w e))] ++ [LO.list (sts (more e w))] = H5 ++ [LO.list (sts acc)] ++ l7 := ⟨l ++ [LO.list (sts (more w e))] ++ [LO.list (sts (more e w))], by simp⟩
        obtain ⟨l7, e7⟩ := e7
        rw [e7]
        refine ⟨(H5 ++ [LO.list (sts acc)] ++ l7).length + 1, ?_, ?_, over_list at_end (Nat.lt_succ_self _) ?_⟩
        · show H5.length + 1 ≤ _
          simp
        · simp; (first | lia | omega)
        refine ⟨[("token", .str (S (46 :: e)))], fun i H' m => (∃ l, H' = H5 ++ [.list (sts (acc ++ (nextOf e w).take i))] ++ l7 ++ [.list (sts (nextOf e w))] ++ l) ∧ m = ([("token", .str (S (46 :: e)))] : Loc), by (run_tac Mine.subsT), ⟨⟨[], by simp⟩, rfl⟩, ?_, ?_, ?_⟩
        · rintro i H' m ⟨⟨l8, rfl⟩, rfl⟩
          refine ⟨by simp; (first | lia | omega), ?_⟩
          have e9 : (H5 ++ [LO.list (sts acc)] ++ l7).length = (H5 ++ [LO.list (sts (acc ++ (nextOf e w).take i))] ++ l7).length := by simp
          rw [e9]
          exact app_get at_end
        · rintro i v H' m hv ⟨⟨l8, rfl⟩, rfl⟩
          dsimp only at hv
          have hi2 : i < (nextOf e w).length := by
            have := (List.getElem?_eq_some_iff.mp hv).1
            rwa [sts_len] at this
          rw [sts_get hi2, List.getD_eq_getElem?_getD, List.getElem?_eq_getElem hi2, Option.getD_some] at hv
          cases hv
          have h2w := nextOf_two e w
          refine asg_set ?_
          (run_tac Mine.pyyT)
          refine ⟨sts (acc ++ (nextOf e w).take i), app_get (app_get (app_get at_end)), by rw [sts_len, List.length_append, List.length_take]; (first | lia | omega), ?_⟩
          refine ⟨_, _, .keep (show Sub [("token", .str (S (46 :: e)))] _ by (run_tac Mine.subsT)), ⟨l8, ?_⟩, rfl⟩
          rw [sts_snoc, List.append_assoc acc, List.take_add_one, List.getElem?_eq_getElem hi2]
          simp only [List.append_assoc]
          rw [List.set_append_right _ _ (Nat.le_refl _), Nat.sub_self]
          rfl
        · rintro H' m ⟨⟨l8, rfl⟩, rfl⟩
          refine ⟨_, _, .keep (Sub.refl _), ⟨l7 ++ [.list (sts (nextOf e w))] ++ l8, ?_⟩, rfl⟩
          rw [hstep, sts_len, List.take_length]
          simp only [List.append_assoc]
      rintro H8 m8 ⟨⟨l8, rfl⟩, rfl⟩
      (run_tac Mine.pyyT)
      have e10 : ([one, other].take (sts [one, other]).length).flatMap (nextOf e) = nextOf e one ++ nextOf e other := by
        rw [sts_len, List.take_length]; simp
      rw [e10]
      have h2a := nextOf_two e one
      have h2b := nextOf_two e other
      refine ⟨_, _, .keep (show Sub (("fresh", .obj H5.length) :: eL x H.length one other) _ by (run_tac Mine.subsT)), ps, row3, nextOf e one ++ nextOf e other, H5.length, I5.app.app, app_get at_end, ?_, ?_, ?_, by (first | lia | omega), by (first | lia | omega), ?_, ?_, fun t ht => f1 t (.tail _ ht), rfl⟩
      · have := (List.getElem?_eq_some_iff.mp I5.row).1; (first | lia | omega)
      · have := (List.getElem?_eq_some_iff.mp I5.row).1; (first | lia | omega)
      · rw [show 40 - (i + 1) = n by (first | lia | omega)]; exact hg
      · rw [List.length_append]; (first | lia | omega)
      · intro q hq
        rcases List.mem_append.mp hq with hq | hq
        · exact nextOf_len hel3 ho q hq
        · exact nextOf_len hel3 hot q hq
  · rintro H' m ⟨push, row, fresh, kf, I, hf, hkf, hkf2, hg, _⟩
    exact absurd hg endsGo_zero
noncomputable def pre_ends (text : List Nat) (x d st p : Addr) : Pre := fun las lks H Q => ∃ (kd kp kl pos k f : Nat) (z : Int) (one other : List Nat) (R : List (List Nat)), las = [.const (.ref x), .str (S one), .str (S other)] ∧ lks = [] ∧ kl ≠ kd ∧ kl ≠ kp ∧ kd ≠ kp ∧
  H[kd]? = some (.ns d (lexA z st kp)) ∧ H[kl]? = some (.plc p (pos : Nat)) ∧ H[kp]? = some (.list (sts [])) ∧ one.length ≤ 4000 ∧ other.length ≤ 4000 ∧ scan f (text.drop pos) = some ([], k) ∧ ends one other = some R ∧
  Q (.obj H.length) (atH H kd kl kp d p st text z pos k ++ [.list (sts R)])
theorem ends_spec {st p : Addr} {text : List Nat} (B : Blts K) (E : EndsK K x c N d st mN) (T : TokK K text x d st p mN) (F : Fn K a (fd0 16 doc pm cd ct an) (bodyOf (st1 16))) : FnSpec K (.ref a) 5 [] (pre_ends text x d st p) :=
  FnSpec.introC F (fun L => nodup_of (by kernel_rfl)) (cnl_of fun L => by kernel_rfl) fun las H Q zz => by
    obtain ⟨kd, kp, kl, pos, k, f, z, one, other, R, e1, _, h1, h2, h3, h4, h5, h6, h7, h8, h9, h10, hq⟩ := zz
    subst e1
    refine ⟨[("lexer", .const (.ref x)), ("one", .str (S one)), ("other", .str (S other))], nodup_of (by kernel_rfl), in_of (fun L => by kernel_rfl), ?_, fun A L r => ends_body B E T r h1 h2 h3 h4 h5 h6 h7 h8 h9 h10 hq⟩
    intro ρ vas ra
    obtain ⟨v, w, u, rfl, r1, r2, r3⟩ := VRs.three ra
    exact ⟨[("lexer", v), ("one", w), ("other", u)], by kernel_rfl, .cons _ r1 (.cons _ r2 (.cons _ r3 .nil))⟩
end

/-! text L2 -/
theorem hOf_mem (v : Nat) : hOf v ∈ hid := by
  unfold hOf
  have h : v / 23328 % 27 < hid.length := Nat.mod_lt _ (by decide)
  rw [List.getD_eq_getElem?_getD, List.getElem?_eq_getElem h]
  exact List.getElem_mem h
noncomputable def plainCh (c : Nat) : Bool := c != 34 && c != 92 && !ws c
theorem drawnT_ch {h : Nat} (hh : h ∈ hid) (i : Nat) : ∃ c, drawnT h i = [c] ∧ plainCh c = true := by
  have hid_ok : ∀ h ∈ hid, plainCh h = true := by decide
  unfold drawnT
  split <;> first | exact ⟨_, rfl, by decide⟩ | exact ⟨_, rfl, hid_ok h hh⟩
/-- the token's signs -/
noncomputable def tokOf (v : Nat) : List Nat := (drawn1 v).flatten
theorem drawn1_ch (v : Nat) : ∃ l : List Nat, drawn1 v = l.map (fun c => [c]) ∧ (∀ c ∈ l, plainCh c = true) := by
  unfold drawn1
  generalize ixs v = l
  induction l with
  | nil => exact ⟨[], rfl, by simp⟩
  | cons i l ih =>
    obtain ⟨r, e, hr⟩ := ih
    obtain ⟨c, ec, hc⟩ := drawnT_ch (hOf_mem v) i
    refine ⟨c :: r, by simp [ec, e], fun x hx => ?_⟩
    rcases List.mem_cons.mp hx with rfl | hx
    · exact hc
    · exact hr x hx
theorem flat_single (l : List Nat) : (l.map fun c => [c]).flatten = l := by induction l with
  | nil => rfl
  | cons c l ih => simp [ih]
theorem slashed_single (l : List Nat) : (slashed (l.map fun c => [c])).flatten = l.flatMap fun c => [92, c] := by
  unfold slashed
  induction l with
  | nil => rfl
  | cons c l ih =>
    rw [List.map_cons, List.map_cons, List.flatten_cons, List.flatMap_cons, ih]
theorem flat2_len (l : List Nat) : (l.flatMap fun c => [92, c]).length = 2 * l.length := by
  induction l with
  | nil => rfl
  | cons c l ih => rw [List.flatMap_cons, List.length_append, ih]; simp; (first | lia | omega)
theorem plain_ne {c : Nat} (h : plainCh c = true) : c ≠ 34 ∧ c ≠ 92 ∧ ws c = false := by
  unfold plainCh at h
  simp only [Bool.and_eq_true, bne_iff_ne, Bool.not_eq_true'] at h
  exact ⟨h.1.1, h.1.2, h.2⟩
theorem scanQ_plain : ∀ (l r tok : List Nat), (∀ c ∈ l, plainCh c = true) → scanQ (l.length + 1) (l ++ 34 :: r) tok = some (tok ++ l, l.length + 1)
  | [], r, tok, _ => by simp [scanQ]
  | c :: l, r, tok, h => by
    obtain ⟨h1, h2, h3⟩ := plain_ne (h c (.head _))
    have ih := scanQ_plain l r (tok ++ [c]) fun x hx => h x (.tail _ hx)
    show scanQ (l.length + 1 + 1) (c :: (l ++ 34 :: r)) tok = _
    unfold scanQ
    rw [if_neg h1, if_neg h2, ih]
    simp
theorem scanU_plain (w : Nat) (hw : ws w = true) : ∀ (l r tok : List Nat), (∀ c ∈ l, plainCh c = true) → scanU (l.length + 1) (l.flatMap (fun c => [92, c]) ++ w :: r) tok = some (tok ++ l, 2 * l.length + 1)
  | [], r, tok, _ => by simp [scanU, hw]
  | c :: l, r, tok, h => by
    have ih := scanU_plain w hw l r (tok ++ [c]) fun x hx => h x (.tail _ hx)
    show scanU (l.length + 1 + 1) (92 :: c :: (l.flatMap (fun c => [92, c]) ++ w :: r)) tok = _
    unfold scanU
    rw [if_neg (by decide), if_pos rfl]
    show Option.map _ (scanU (l.length + 1) _ _) = _
    rw [ih]
    simp; (first | lia | omega)
theorem sep_ws (v : Nat) : ws (sepAt (v / 5832 % 4)) = true := by
  have : ∀ i, i < 4 → ws (sepAt i) = true := by decide
  exact this _ (Nat.mod_lt _ (by decide))
/-- what is left of the blank ahead of the next token -/
noncomputable def leftB (v : Nat) : List Nat := if quotB v then [sepAt (v / 5832 % 4)] else []
theorem leftB_ws (v : Nat) : (leftB v).length ≤ 1 ∧ ∀ c ∈ leftB v, ws c = true := by
  unfold leftB
  split
  · exact ⟨Nat.le_refl _, fun c hc => by simp only [List.mem_cons, List.not_mem_nil, or_false] at hc; rw [hc]; exact sep_ws v⟩
  · exact ⟨Nat.zero_le _, fun c hc => by cases hc⟩
theorem scan_core (v : Nat) (r : List Nat) : ∃ f k, scan f (piece v ++ r) = some (tokOf v, k) ∧ (piece v ++ r).drop k = leftB v ++ r ∧ k ≤ (piece v).length := by
  obtain ⟨l, e, hl⟩ := drawn1_ch v
  unfold piece tokOf leftB
  rw [e, flat_single, slashed_single]
  cases hq : quotB v with
  | true =>
    simp only [if_true]
    refine ⟨l.length + 2, l.length + 2, ?_, ?_, by simp⟩
    · show scan (l.length + 1 + 1) (34 :: l ++ [34] ++ [sepAt (v / 5832 % 4)] ++ r) = _
      have h1 : 34 :: l ++ [34] ++ [sepAt (v / 5832 % 4)] ++ r = 34 :: (l ++ 34 :: (sepAt (v / 5832 % 4) :: r)) := by simp
      rw [h1]
      unfold scan
      rw [if_neg (by decide), if_pos rfl, scanQ_plain l _ [] hl]
      simp
    · have h1 : 34 :: l ++ [34] ++ [sepAt (v / 5832 % 4)] ++ r = (34 :: l ++ [34]) ++ ([sepAt (v / 5832 % 4)] ++ r) := by simp
      rw [h1, List.drop_left' (by simp)]
  | false =>
    simp only [Bool.false_eq_true, if_false]
    have hne : l ≠ [] := fun h => by
      unfold quotB at hq
      rw [e, h] at hq
      simp at hq
    obtain ⟨c, l', rfl⟩ := List.exists_cons_of_ne_nil hne
    have hfl := flat2_len l'
    refine ⟨l'.length + 2, 2 * l'.length + 3, ?_, ?_, by rw [List.flatMap_cons, List.length_append, List.length_append, hfl]; simp; (first | lia | omega)⟩
    · have h1 : (c :: l').flatMap (fun c => [92, c]) ++ [sepAt (v / 5832 % 4)] ++ r = 92 :: c :: (l'.flatMap (fun c => [92, c]) ++ sepAt (v / 5832 % 4) :: r) := by simp
      show scan (l'.length + 1 + 1) _ = _
      rw [h1]
      unfold scan
      rw [if_neg (by decide), if_neg (by decide), if_pos rfl]
      show Option.map _ (scanU (l'.length + 1) _ _) = _
      rw [scanU_plain _ (sep_ws v) l' _ [c] fun x hx => hl x (.tail _ hx)]
      simp
    · rw [List.drop_left' (by rw [List.flatMap_cons, List.length_append, List.length_append, hfl]; simp; (first | lia | omega))]
      simp
theorem scan_skip {pre r : List Nat} (hp : pre.length ≤ 1) (hw : ∀ c ∈ pre, ws c = true) {f k : Nat} {tok : List Nat} (h : scan f r = some (tok, k)) : ∃ f', scan f' (pre ++ r) = some (tok, pre.length + k) := by
  match pre, hp with
  | [], _ => exact ⟨f, by simpa using h⟩
  | [c], _ =>
    refine ⟨f + 1, ?_⟩
    show scan (f + 1) (c :: r) = _
    unfold scan
    rw [if_pos (hw c (.head _)), h]
    simp; (first | lia | omega)
theorem scan_end {pre : List Nat} (hp : pre.length ≤ 1) (hw : ∀ c ∈ pre, ws c = true) : ∃ f, scan f pre = some ([], pre.length + 1) := by
  obtain ⟨f, h⟩ := scan_skip (r := []) hp hw (f := 1) (k := 1) (tok := []) rfl
  exact ⟨f, by simpa using h⟩
theorem tokOf_len (v : Nat) : (tokOf v).length ≤ 3 := drawn1_flat v

/-! text C19 -/
theorem RetOk.inv {Q : Value → Shared → Prop} {r : Result} {s : Shared} (h : RetOk Q r s) : ∃ v, r = .ok (.ret v) ∧ Q v s := by
  obtain _ | f := r
  · exact h.elim
  · cases f <;> first | exact ⟨_, rfl, h⟩ | exact h.elim
theorem lget_in {a : Loc} {y : Str} (h : lget a y ≠ none) : y ∈ a.map (·.1) := by
  cases e : lget a y with
  | none => exact absurd e h
  | some v => exact List.mem_map.mpr ⟨(y, v), lget_mem e, rfl⟩
theorem lk_le {m : Loc} {x : Str} {v : LV} {n : Nat} (h : (m.map (·.1)).length ≤ n) : ((lset m x v).map (·.1)).length ≤ n + 1 := by
  rw [List.length_map] at h ⊢
  induction m generalizing n with
  | nil => simp [lset]
  | cons q m ih =>
    obtain ⟨y, u⟩ := q
    unfold lset
    split
    · simp only [List.length_cons] at h ⊢; (first | lia | omega)
    · obtain ⟨k, rfl⟩ : ∃ k, n = k + 1 := ⟨n - 1, by simp only [List.length_cons] at h; (first | lia | omega)⟩
      have := ih (n := k) (by simp only [List.length_cons] at h; (first | lia | omega))
      simp only [List.length_cons]; (first | lia | omega)
section
variable {K : Kit} {a : Addr} {doc pm cd ct : Value} {an : Option Addr} {x c N d : Addr} {mN : Str → Option Value}
noncomputable def pre_init (x d : Addr) : Pre := fun las lks H Q => ∃ (st : Addr) (kd : Nat), las = [.const (.ref x), .const (.ref st)] ∧ lks = [] ∧ H[kd]? = some (.ns d []) ∧ Q .none ((H ++ [LO.list []]).set kd (.ns d (lexA 1 st H.length)))
theorem init_spec (LK : LexK K x c N d mN) (F : Fn K a (fdM 0 doc pm cd ct an) (bodyOf (mt1 0))) : FnSpec K (.ref a) 1 [] (pre_init x d) :=
  FnSpec.intro F (nocell (by kernel_rfl)) fun las lks H Q zz => by
    obtain ⟨st, kd, e1, e2, hk, hq⟩ := zz
    subst e1 e2
    have hkd := (List.getElem?_eq_some_iff.mp hk).1
    refine ⟨[("self", .const (.ref x)), ("fp", .const (.ref st))], nodup_of (by kernel_rfl), loc_of (by kernel_rfl), ?_, fun A L r => ?_⟩
    · intro s ρ vas vks hB ra rk
      obtain ⟨v, w, rfl, r1, r2⟩ := VRs.two ra
      exact ⟨[("self", v), ("fp", w)], BindsTo.of_eq (by kernel_rfl), .cons _ r1 (.cons _ r2 .nil)⟩
    · refine ex_cons (x_setAttr ?_)
      (run_tac Mine.pyyT)
      refine sa_inst LK.CL LK.I hk LK.lineno tlo_lineno (fun y hy => lget_in hy) (Nat.le_trans (Nat.le_refl 0) (by decide)) ?_
      have hk1 : (H.set kd (.ns d (lset [] "lineno" (.int 1))))[kd]? = some (.ns d (lset [] "lineno" (.int 1))) := List.getElem?_set_self hkd
      refine ex_cons (x_setAttr ?_)
      (run_tac Mine.pyyT)
      refine sa_inst LK.CL LK.I hk1 LK.instream tlo_instream (fun y hy => lget_in hy) (Nat.le_trans (lk_le (Nat.le_refl 0)) (by decide)) ?_
      rw [List.set_set]
      have hk2 : (H.set kd (.ns d (lset (lset [] "lineno" (.int 1)) "instream" (.const (.ref st)))))[kd]? = some (.ns d (lset (lset [] "lineno" (.int 1)) "instream" (.const (.ref st)))) := List.getElem?_set_self hkd
      refine ex_cons (x_setAttr ?_)
      (run_tac Mine.pyyT)
      refine sa_inst LK.CL LK.I hk2 LK.whitespace tlo_whitespace (fun y hy => lget_in hy) (Nat.le_trans (lk_le (lk_le (Nat.le_refl 0))) (by decide)) ?_
      rw [List.set_set]
      have hk3 : (H.set kd (.ns d (lset (lset (lset [] "lineno" (.int 1)) "instream" (.const (.ref st))) "whitespace" (.str (S [10, 9, 13, 32])))) ++ [LO.list []])[kd]? = some (.ns d (lset (lset (lset [] "lineno" (.int 1)) "instream" (.const (.ref st))) "whitespace" (.str (S [10, 9, 13, 32])))) :=
        app_get (List.getElem?_set_self hkd)
      refine ex_cons (x_setAttr ?_)
      (run_tac Mine.pyyT)
      refine ⟨by decide, ?_⟩
      (run_tac Mine.pyyT)
      refine sa_inst LK.CL LK.I hk3 LK.pushback tlo_pushback (fun y hy => lget_in hy) (Nat.le_trans (lk_le (lk_le (lk_le (Nat.le_refl 0)))) (by decide)) ?_
      (run_tac Mine.pyyT)
      refine .all ?_
      have e : (H.set kd (.ns d (lset (lset (lset [] "lineno" (.int 1)) "instream" (.const (.ref st))) "whitespace" (.str (S [10, 9, 13, 32])))) ++ [LO.list []]).set kd (.ns d (lset (lset (lset (lset [] "lineno" (.int 1)) "instream" (.const (.ref st))) "whitespace" (.str (S [10, 9, 13, 32]))) "pushback" (.obj H.length)))
          = (H ++ [LO.list []]).set kd (.ns d (lexA 1 st H.length)) := by
        rw [List.set_append_left _ _ (by rw [List.length_set]; exact hkd), List.set_append_left _ _ hkd, List.set_set]
        congr 3
      rw [List.length_set]
      rw [e]
      exact hq
end
/-- the def in _law_lexer -/
noncomputable def rdSt : Stmt := ((bodyOf (st1 12))[1]?).getD default
noncomputable def prmOf (st : Stmt) : Arguments := match st with
  | .FunctionDef _ args _ _ _ _ _ _ _ _ => args
  | _ => default
noncomputable def scpOf (st : Stmt) : Scope := match st with
  | .FunctionDef _ _ _ _ _ _ scope _ _ _ => scope
  | _ => default
noncomputable abbrev rdFd (qual : Str) (cT cP : Addr) (doc pm cdv ct : Value) : FuncData := fnX "read" qual (prmOf rdSt) (bodyOf rdSt) (scpOf rdSt) [("text", cT), ("place", cP)] .none .none doc pm none cdv ct
theorem read_spec {K0 K : Kit} (X : KExt K0 K) {a p cT cP : Addr} {o oT oP : Obj} {qual : Str} {doc pm cdv ct : Value} {text : List Nat} {tt : Tok}
    (hB : K.B a = some o) (hd : o.data = .func (rdFd qual cT cP doc pm cdv ct)) (code : ∀ h : Heap, K.Base h → h.CodeRec cdv qual) (hl : text.length ≤ 10000000)
    (hT0 : K0.B cT = none) (hT : K.B cT = some oT) (hTd : oT.data = .cell (some (.str (S text) tt))) (hP0 : K0.B cP = none) (hP : K.B cP = some oP) (hPd : oP.data = .cell (some (.ref p))) (hne : cT ≠ cP) : FnSpec K (.ref a) 1 [] (pre_read text p) :=
  FnSpec.introF (body := bodyOf rdSt) X.M X.sub X.t0 X.t1 hB hd rfl code (by kernel_rfl) (by kernel_rfl) (by kernel_rfl) (nocell (by kernel_rfl)) (fun c hc => by
      simp only [List.map_cons, List.map_nil, List.mem_cons, List.not_mem_nil, or_false] at hc
      rcases hc with rfl | rfl
      · exact ⟨hT0, _, hT⟩
      · exact ⟨hP0, _, hP⟩) (by simp [hne]) fun las H Q zz => by
    obtain ⟨kl, pos, e1, _, hk, hq⟩ := zz
    subst e1
    have hsz : sizeLine = 16777216 := rfl
    refine ⟨[("size", .int 1)], [("text", .str (S text)), ("place", .obj kl)], nodup_of (by kernel_rfl), loc_of (by kernel_rfl), ?_, ?_, ?_, fun A L r => ?_⟩
    · intro s ρ vas vks hB ra rk
      obtain ⟨v, rfl, r1⟩ := VRs.one ra
      exact ⟨[("size", v)], BindsTo.of_eq (by kernel_rfl), .cons _ r1 .nil⟩
    · have : ([("text", .str (S text)), ("place", .obj kl)] : Loc).all (fun x => !isLocal ((scpOf rdSt).names.lookup x.1)) = true := by kernel_rfl
      intro x hx e
      have h1 := List.all_eq_true.mp this x hx
      have e : (scpOf rdSt).names.lookup x.1 = some .local := e
      rw [e] at h1; cases h1
    · intro ρ s hp x c hc
      have hc : ([("text", cT), ("place", cP)] : List (Str × Addr)).lookup x = some c := hc
      rw [List.lookup_cons] at hc
      cases hx : (x == (Str.ofString "text")) with
      | true =>
        rw [hx] at hc
        cases hc
        obtain rfl := beq_iff_eq.mp hx
        refine ⟨_, ⟨oT, hp.base _ _ hT, hTd⟩, fun lv e => ?_⟩
        obtain rfl : lv = .str (S text) := by
          have : lget (([("size", .int 1)] : Loc) ++ ([("text", .str (S text)), ("place", .obj kl)] : Loc)) "text" = some (.str (S text)) := by kernel_rfl
          rw [this] at e; cases e; rfl
        exact ⟨_, rfl, .str _ _⟩
      | false =>
        rw [hx] at hc
        dsimp only at hc
        rw [List.lookup_cons] at hc
        cases hx2 : (x == (Str.ofString "place")) with
        | true =>
          rw [hx2] at hc
          cases hc
          obtain rfl := beq_iff_eq.mp hx2
          refine ⟨_, ⟨oP, hp.base _ _ hP, hPd⟩, fun lv e => ?_⟩
          obtain rfl : lv = .obj kl := by
            have : lget (([("size", .int 1)] : Loc) ++ ([("text", .str (S text)), ("place", .obj kl)] : Loc)) "place" = some (.obj kl) := by kernel_rfl
            rw [this] at e; cases e; rfl
          have hlt : kl < ρ.length := by rw [hp.len]; exact (List.getElem?_eq_some_iff.mp hk).1
          obtain ⟨rfl, _⟩ := hp.objs kl _ _ (List.getElem?_eq_getElem hlt) hk
          exact ⟨_, rfl, .obj _ _ (List.getElem?_eq_getElem hlt)⟩
        | false => rw [hx2] at hc; cases hc
    · show Ex _ _ _ [("size", .int 1), ("text", .str (S text)), ("place", .obj kl)] _
      (run_tac Mine.pyyT)
      refine ev_sub_plc ?_
      (run_tac Mine.pyyT)
      refine ⟨kl, p, pos, rfl, hk, rfl, ?_⟩
      (run_tac Mine.pyyT)
      refine ev_sub_plc ?_
      (run_tac Mine.pyyT)
      refine ⟨kl, p, pos, rfl, hk, rfl, ?_⟩
      (run_tac Mine.pyyT)
      refine ⟨text, some ((pos : Nat) : Int), some ((pos + 1 : Nat) : Int), rfl, by (first | lia | omega), .int _, .int _, ?_⟩
      rw [slc_both, show pos + 1 - pos = 1 by (first | lia | omega)]
      refine ex_cons (x_augPlc ?_)
      (run_tac Mine.pyyT)
      refine ⟨kl, p, pos, rfl, hk, rfl, ?_⟩
      (run_tac Mine.pyyT)
      refine ⟨1, rfl, hk, ?_⟩
      (run_tac Mine.pyyT)
      exact .all hq

/-! text C20 -/
theorem Rm.make {k : Nat} {A : Around} (r : Rm (k + 1) A) (C : Addr) (vals : List Value) : Rm k (A.under (.builtin "type.__call__" ⟨.ref C :: vals, []⟩)) :=
  ⟨by rw [depth_under_make]; have := r.d; (first | lia | omega), by rw [units_under_make]; have := r.u; (first | lia | omega), r.h⟩
/-- what stands for _law_lexer -/
structure LexTop (K : Kit) (c N : Addr) (mN : Str → Option Value) (cc P : Addr) where
  t0 : ∀ a, K.tab a = false
  CL : ClsK K c N mN
  at_ : ∀ h : Heap, K.Base h → ClsAt h c N mN
  lineno : mN "lineno" = none
  instream : mN "instream" = none
  whitespace : mN "whitespace" = none
  pushback : mN "pushback" = none
  cG : K.mg "_netrclex" = some (.ref c)
  fi : Addr
  oi : Obj
  iN : mN "__init__" = some (.ref fi)
  iB : K.B fi = some oi
  iC : oi.cls = .type "function"
  doc : Value
  pm : Value
  cd : Value
  ct : Value
  an : Option Addr
  iF : Fn K fi (fdM 0 doc pm cd ct an) (bodyOf (mt1 0))
  code : ∀ h : Heap, K.Base h → CodeHd h cc P
  bAt : ∀ h : Heap, K.Base h → h.BuiltinsAt K.mg P
  PB : K.B P = none
  PG : mainGlobals ≠ P
/-- what is there when _law_lexer has come back -/
inductive LexOut (K : Kit) (c N : Addr) (mN : Str → Option Value) (P : Addr) (text : List Nat) (ρ : List Addr) (H : List LO) (s : Shared) (v : Value) (s' : Shared) : Prop
  | mk (K' : Kit) (x d st p rd : Addr) (ord : Obj) (frd : FuncData) (ρ' : List Addr) (ev : v = .ref x) (X : KExt K K') (eg : K'.mg = K.mg) (eb : K'.mb = K.mb) (ep : K'.prog = K.prog) (ew : K'.w = K.w) (I : InstK K' x c d) (FA : FnAttr K' st "read" (.ref rd)) (Brd : K'.B rd = some ord) (Drd : ord.data = .func frd) (Srd : FnSpec K' (.ref rd) 1 [] (pre_read text p))
      (pr : ρ <+: ρ') (hp : Hp K' ρ' (H ++ [.plc p 0, .ns d (lexA 1 st (H.length + 2)), .list []]) s') (n1 : ∀ b ∈ ρ', b ∈ ρ ∨ s.heap.get? b = none) (n2 : ∀ b o, K.B b = none → K'.B b = some o → s.heap.get? b = none)
      (keep : ∀ b o, s.heap.get? b = some o → b ≠ P → b ∉ ρ → s'.heap.get? b = some o) (tab : ∃ ps, s'.heap.get? P = some (tabObj ps)) (os : s'.os = s.os)
section
variable {K : Kit} {a c N cc P : Addr} {doc pm ct : Value} {an : Option Addr} {mN : Str → Option Value}
noncomputable abbrev lxC (K : Kit) (A : Around) (doc pm : Value) (cc : Addr) (ct : Value) (an : Option Addr) (L a : Addr) (n : Nat) : Cx := ⟨K, A, callEnvC (fd0 12 doc pm (.ref cc) ct an) L a, n⟩
noncomputable abbrev rq (doc pm : Value) (cc : Addr) (ct : Value) (an : Option Addr) (L a : Addr) : Str := qualnameIn (callEnvC (fd0 12 doc pm (.ref cc) ct an) L a) "read" "read"
inductive RdOut (K : Kit) (A : Around) (doc pm : Value) (cc : Addr) (ct : Value) (an : Option Addr) (L a : Addr) (n : Nat) (P : Addr) (ρ : List Addr) (H : List LO) (m : Loc) (s s4 : Shared) : Prop
  | mk (rd : Addr) (ord : Obj) (c1 : Addr) (oc : Obj) (vs : Array Value) (tq : Tok) (doc1 pm1 ctv : Value) (st : St (lxC K A doc pm cc ct an L a n) ⟨s4, ρ⟩ ρ H (lset m "read" (.const (.ref rd))) s4)
      (h1 : s4.heap.get? rd = some ord) (h2 : ord.data = .func (rdFd (rq doc pm cc ct an L a) (L + 1) (L + 2) doc1 pm1 (.ref c1) ctv)) (h3 : s4.heap.get? c1 = some oc) (h4 : oc.data = .fields vs) (h5 : vs[1]? = some (.str (rq doc pm cc ct an L a) tq)) (h6 : s.heap.get? rd = none) (h7 : s.heap.get? c1 = none) (h8 : rd ≠ c1)
      (h9 : ∀ b o, b ≠ P → b ≠ L → s.heap.get? b = some o → s4.heap.get? b = some o) (h10 : s4.heap.get? P = some (tabObj (#[] ++ #[rawInt 106, rawInt 4, .ref c1]))) (h11 : s4.os = s.os)
theorem rd_step {A : Around} {L : Addr} {n : Nat} {D : Dy} {ρ : List Addr} {H : List LO} {m : Loc} {s : Shared} (T : LexTop K c N mN cc P) (hs : St (lxC K A doc pm cc ct an L a n) D ρ H m s) (hP : s.heap.get? P = some (tabObj #[])) (hPρ : P ∉ ρ) (hPo : P ∉ (lxC K A doc pm cc ct an L a n).own) :
    wpAny K.M A (exec rdSt (callEnvC (fd0 12 doc pm (.ref cc) ct an) L a)) (fun f s4 => f = .next ∧ RdOut K A doc pm cc ct an L a n P ρ H m s s4) NoE s := by
  have hb := hs.hp.base
  obtain ⟨hgl, _, _⟩ := K.hg s.heap hb
  have hLs : L < s.heap.objs.size := by
    obtain ⟨o, ho⟩ := hs.alive L (.head _)
    exact Heap.lt_size ho
  refine wp_def0 rfl rfl (makeFunction_K (P := P) (ps := #[]) (clos := [("text", L + 1), ("place", L + 2)]) (by kernel_rfl) rfl hgl rfl (T.code _ hb) hP trivial rfl T.PG (T.bAt _ hb) fun c1 ctv doc1 h3 tk3 hx3 hge3 hlt3 hrec3 htb3 => ?_)
  obtain ⟨c1', oc, vs, tq, e1, hoc, hocd, hoq⟩ := hrec3
  cases e1
  have k3 : KeepsBut P s.heap (h3.push (fnMade "read" (rq doc pm cc ct an L a) (prmOf rdSt) (bodyOf rdSt) (scpOf rdSt) [("text", L + 1), ("place", L + 2)] doc1 ((K.mg "__name__").getD .none) c1 ctv)) := fun b o hb e => Heap.get?_push_of_some _ (hx3 b o hb e)
  have hs3 := ((hs.moreD [P]).but (I := P) (t := tk3) k3 hPρ hPo T.PB (.inl (by simp))).restart
  have hfr : h3.get? h3.objs.size = none := fresh_size h3
  have hLc : c1 ≠ L := Nat.ne_of_gt (Nat.lt_of_lt_of_le hLs hge3)
  have hcr : h3.objs.size ≠ c1 := Nat.ne_of_gt hlt3
  have hLh : h3.objs.size ≠ L := Nat.ne_of_gt (Nat.lt_trans (Nat.lt_of_lt_of_le hLs hge3) hlt3)
  have hLP : L ≠ P := fun q => hPo (q ▸ .head _)
  refine store_local (P := fun _ s4 => Flow.next = Flow.next ∧ RdOut K A doc pm cc ct an L a n P ρ H m s s4) hs3 (.const (.ref h3.objs.size)) (fun s4 hs4 kL => ?_) (by kernel_rfl) (by kernel_rfl) (by kernel_rfl)
  have hrd : (h3.push (fnMade "read" (rq doc pm cc ct an L a) (prmOf rdSt) (bodyOf rdSt) (scpOf rdSt) [("text", L + 1), ("place", L + 2)] doc1 ((K.mg "__name__").getD .none) c1 ctv)).get? h3.objs.size = some _ := Heap.get?_push_size _ rfl
  refine ⟨rfl, h3.objs.size, _, c1, oc, vs, tq, doc1, _, ctv, hs4.restart, kL _ _ hLh hrd, rfl, kL _ _ hLc (Heap.get?_push_of_some _ hoc), hocd, hoq, ?_, ?_, hcr, fun b o h1 h2 e => kL b o h2 (k3 b o h1 e), kL _ _ (Ne.symm hLP) (Heap.get?_push_of_some _ htb3), hs4.kp.os⟩
  · exact Heap.get?_none_of_le (Nat.le_trans hge3 (Nat.le_of_lt hlt3))
  · exact Heap.get?_none_of_le hge3
noncomputable def lmSt : Stmt := ((bodyOf (st1 12))[2]?).getD default
noncomputable def atSt : Stmt := ((bodyOf (st1 12))[3]?).getD default
inductive LmOut (K : Kit) (A : Around) (doc pm : Value) (cc : Addr) (ct : Value) (an : Option Addr) (L a : Addr) (n : Nat) (P : Addr) (ρ : List Addr) (H : List LO) (m : Loc) (s s4 : Shared) : Prop
  | mk (st : Addr) (so : Obj) (fd : FuncData) (hs : St (lxC K A doc pm cc ct an L a n) ⟨s4, ρ⟩ ρ H (lset m "stream" (.const (.ref st))) s4) (h1 : s4.heap.get? st = some so) (h2 : so.cls = .type "function") (h3 : so.dict = none) (h4 : so.data = .func fd) (h5 : s.heap.get? st = none)
      (h6 : ∀ b o, b ≠ P → b ≠ L → s.heap.get? b = some o → s4.heap.get? b = some o) (h7 : ∃ ps, s4.heap.get? P = some (tabObj ps)) (h8 : s4.os = s.os)
theorem lm_step {A : Around} {L c1 : Addr} {n : Nat} {D : Dy} {ρ : List Addr} {H : List LO} {m : Loc} {s : Shared} (T : LexTop K c N mN cc P) (hs : St (lxC K A doc pm cc ct an L a n) D ρ H m s) (hP : s.heap.get? P = some (tabObj (#[] ++ #[rawInt 106, rawInt 4, .ref c1]))) (hPρ : P ∉ ρ) (hPo : P ∉ (lxC K A doc pm cc ct an L a n).own) :
    wpAny K.M A (exec lmSt (callEnvC (fd0 12 doc pm (.ref cc) ct an) L a)) (fun f s4 => f = .next ∧ LmOut K A doc pm cc ct an L a n P ρ H m s s4) NoE s := by
  have hb := hs.hp.base
  obtain ⟨hgl, _, _⟩ := K.hg s.heap hb
  have hLs : L < s.heap.objs.size := by
    obtain ⟨o, ho⟩ := hs.alive L (.head _)
    exact Heap.lt_size ho
  have hLP : L ≠ P := fun q => hPo (q ▸ .head _)
  refine wpAny_Assign_Name (kla_eval rfl (kla_makeFunction (P := P) (ps := #[] ++ #[rawInt 106, rawInt 4, .ref c1]) (clos := []) (by kernel_rfl) rfl hgl rfl (T.code _ hb) hP trivial (by kernel_rfl) T.PG (T.bAt _ hb) fun c2 ctv h3 tk3 hx3 hge3 hlt3 hrec3 htb3 => ?_)) (by kernel_rfl)
  generalize hso : kla_obj _ _ _ _ _ _ _ c2 ctv = so
  have hso1 : so.cls = .type "function" := by rw [← hso]
  have hso2 : so.dict = none := by rw [← hso]
  obtain ⟨fd, hso3⟩ : ∃ fd, so.data = .func fd := ⟨_, by rw [← hso]⟩
  have k3 : KeepsBut P s.heap (h3.push so) := fun b o hb e => Heap.get?_push_of_some _ (hx3 b o hb e)
  have hs3 := ((hs.moreD [P]).but (I := P) (t := tk3) k3 hPρ hPo T.PB (.inl (by simp))).restart
  have hLc : c2 ≠ L := Nat.ne_of_gt (Nat.lt_of_lt_of_le hLs hge3)
  have hLh : h3.objs.size ≠ L := Nat.ne_of_gt (Nat.lt_trans (Nat.lt_of_lt_of_le hLs hge3) hlt3)
  refine store_local (P := fun _ s4 => Flow.next = Flow.next ∧ LmOut K A doc pm cc ct an L a n P ρ H m s s4) hs3 (.const (.ref h3.objs.size)) (fun s4 hs4 kL => ?_) (by kernel_rfl) (by kernel_rfl) (by kernel_rfl)
  have hst : (h3.push so).get? h3.objs.size = some so := Heap.get?_push_size _ (by
    obtain ⟨oc, od, odt, osl⟩ := so
    simp only at hso3
    rw [hso3]; rfl)
  exact ⟨rfl, h3.objs.size, so, fd, hs4.restart, kL _ _ hLh hst, hso1, hso2, hso3, Heap.get?_none_of_le (Nat.le_trans hge3 (Nat.le_of_lt hlt3)), fun b o h1 h2 e => kL b o h2 (k3 b o h1 e), ⟨_, kL _ _ (Ne.symm hLP) (Heap.get?_push_of_some _ htb3)⟩, hs4.kp.os⟩
inductive AtOut (K : Kit) (A : Around) (doc pm : Value) (cc : Addr) (ct : Value) (an : Option Addr) (L a : Addr) (n : Nat) (ρ : List Addr) (H : List LO) (m : Loc) (st rd : Addr) (fd : FuncData) (s s4 : Shared) : Prop
  | mk (ds : Addr) (ods so' : Obj) (hs : St (lxC K A doc pm cc ct an L a n) ⟨s4, ρ⟩ ρ H m s4) (h1 : s4.heap.get? st = some so') (h2 : so'.cls = .type "function") (h3 : so'.dict = some ds) (h4 : so'.data = .func fd) (h5 : s4.heap.get? ds = some ods)
      (h6 : ∀ h : Heap, h.get? ds = some ods → h.Ns ds (fun y => if y = "read" then some (.ref rd) else none)) (h7 : s.heap.get? ds = none) (h8 : ∀ b o, b ≠ st → s.heap.get? b = some o → s4.heap.get? b = some o) (h9 : s4.os = s.os)
theorem at_step {A : Around} {L st rd : Addr} {n : Nat} {D : Dy} {ρ : List Addr} {H : List LO} {m : Loc} {s : Shared} {so : Obj} {fd : FuncData} (hs : St (lxC K A doc pm cc ct an L a n) D ρ H m s) (hm1 : lget m "stream" = some (.const (.ref st))) (hm2 : lget m "read" = some (.const (.ref rd)))
    (ho : s.heap.get? st = some so) (hc : so.cls = .type "function") (hd : so.dict = none) (hf : so.data = .func fd) (hsρ : st ∉ ρ) (hso : st ∉ (lxC K A doc pm cc ct an L a n).own) (hsB : K.B st = none) :
    wpAny K.M A (exec atSt (callEnvC (fd0 12 doc pm (.ref cc) ct an) L a)) (fun f s4 => f = .next ∧ AtOut K A doc pm cc ct an L a n ρ H m st rd fd s s4) NoE s := by
  obtain ⟨mm, hn, hv⟩ := hs.ns
  obtain ⟨v1, e1, r1⟩ := hv "stream" _ hm1 (by kernel_rfl)
  obtain ⟨v2, e2, r2⟩ := hv "read" _ hm2 (by kernel_rfl)
  cases r1
  cases r2
  refine plainObj_wpAny_Assign_Attribute (wpAny_Name (wpAny_loadName_local (by kernel_rfl) (by kernel_rfl) hn e2 (wpAny_Name (wpAny_loadName_local (by kernel_rfl) (by kernel_rfl) hn e1 ?_) (by kernel_rfl))) (by kernel_rfl)) (by kernel_rfl)
  obtain ⟨h, g, d, t, os⟩ := s
  refine setattr_fn ho hc hd (by rw [hf]; intro c e; cases e) tlf_read fun h' tk' g1 g2 g3 => ?_
  obtain ⟨ods, es, ep, q1, q2⟩ := g2
  exact ⟨rfl, h.objs.size, ods, _, ((hs.moreD [st]).but (I := st) (t := tk') g3 hsρ hso hsB (.inl (by simp))).restart, g1, hc, rfl, hf, q1, fun h2 e => ⟨ods, es, ep, e, q2⟩, fresh_size h, g3, rfl⟩
end

/-! text C21 -/
noncomputable def rtSt : Stmt := ((bodyOf (st1 12))[4]?).getD default
section
variable {K : Kit} {a c N cc P : Addr} {doc pm ct : Value} {an : Option Addr} {mN : Str → Option Value}
inductive RtOut (K : Kit) (c : Addr) (ρ : List Addr) (H : List LO) (st : Addr) (f : Flow) (s s6 : Shared) : Prop
  | mk (x d : Addr) (ox : Obj) (ρ6 : List Addr) (H6 : List LO) (e0 : f = .ret (.ref x)) (h1 : s.heap.get? x = none) (h2 : s.heap.get? d = none) (h3 : d ≠ x) (h4 : s6.heap.get? x = some ox) (h5 : ox.cls = .ref c) (h6 : ∀ k, ox.data ≠ .cls k) (h7 : ox.dict = some d)
      (h8 : ρ ++ [d] <+: ρ6) (h9 : Hp K ρ6 H6 s6) (h10 : x ∉ ρ6) (h11 : H6 = (H ++ [LO.ns d []] ++ [LO.list []]).set H.length (.ns d (lexA 1 st (H.length + 1)))) (h12 : ∀ b ∈ ρ6, b ∈ ρ ∨ s.heap.get? b = none) (h13 : ∀ b o, s.heap.get? b = some o → b ∉ ρ → s6.heap.get? b = some o) (h14 : s6.os = s.os)
theorem rt_step {A : Around} {L st : Addr} {n : Nat} {D : Dy} {ρ : List Addr} {H : List LO} {m : Loc} {s : Shared} (T : LexTop K c N mN cc P) (r : Rm 2 A) (hs : St (lxC K A doc pm cc ct an L a n) D ρ H m s) (hm1 : lget m "stream" = some (.const (.ref st))) :
    wpAny K.M A (exec rtSt (callEnvC (fd0 12 doc pm (.ref cc) ct an) L a)) (fun f s6 => RtOut K c ρ H st f s s6) NoE s := by
  have hb := hs.hp.base
  obtain ⟨hgl, _, _⟩ := K.hg s.heap hb
  obtain ⟨mm, hn, hv⟩ := hs.ns
  obtain ⟨v1, e1, r1⟩ := hv "stream" _ hm1 (by kernel_rfl)
  cases r1
  have CA := T.at_ s.heap hb
  refine wpAny_Return_some (Call_Name rfl (Calls.Name_function_global (by kernel_rfl) (by kernel_rfl) (Calls.loadGlobal_global hgl T.cG ?_) (by kernel_rfl)))
  refine callWith_cls CA ?_ (by rfl) (by rfl)
  refine Calls.spliced_cons (wpAny_Name (wpAny_loadName_local (by kernel_rfl) (by kernel_rfl) hn e1 ?_) (by kernel_rfl))
  refine Calls.spliced_nil ⟨fun _ _ e => e, ?_⟩
  obtain ⟨nm, q, bs, sn, sub, col, dd, k0, k1, k2, k3, k5, hC⟩ := CA.obj
  obtain ⟨h, g, d, t, os⟩ := s
  refine wpAny_call_obj_initFk PySem.F.objNew hC CA.ns T.iN (hb _ _ T.iB) T.iC fun h' x dx hm => ?_
  obtain ⟨ox, hx, hxc, hxn, hxd⟩ := hm.inst
  have hdx := hm.dict ox hx
  have hBx : K.B x = none := by
    cases e : K.B x with
    | none => rfl
    | some o => have := hb _ _ e; rw [show h.get? x = none from hm.newX] at this; cases this
  obtain ⟨hne, hns1, hex⟩ : dx ≠ x ∧ h'.Ns1 dx (fun _ => none) ∧ h'.ExactDictFk dx := by
    rcases hxd with ⟨q, _⟩ | ⟨d', q1, q2, q3, q4⟩
    · rw [hdx] at q; cases q
    · rw [hdx] at q1; cases q1; exact ⟨q2, q3, q4⟩
  let B1 : Addr → Option Obj := fun b => if b = x then some ox else K.B b
  have hsub : ∀ b o, K.B b = some o → B1 b = some o := fun b o e => by
    show (if b = x then _ else _) = _
    rw [if_neg (fun q => by rw [q, hBx] at e; cases e)]; exact e
  have X : KExt K (K.add B1 hsub) := Kit.add_ext T.t0
  have LK : LexK (K.add B1 hsub) x c N dx mN := ⟨T.CL.ext X, ⟨⟨ox, if_pos rfl, hxc, hxn, hdx⟩, hne, fun q => by
    have h1 := hC
    rw [← q, show h.get? x = none from hm.newX] at h1; cases h1⟩, T.lineno, T.instream, T.whitespace, T.pushback⟩
  have hxρ : x ∉ ρ := fun q => by
    obtain ⟨o, e⟩ := hs.hp.alive q
    rw [show h.get? x = none from hm.newX] at e; cases e
  have hp5 : Hp K (ρ ++ [dx]) (H ++ [.ns dx []]) ⟨h', g, d, t, os⟩ := hs.hp.allocN (s := ⟨h, g, d, t, os⟩) (h' := h') (t := t) hm.newD (T.t0 _) hm.keeps (by
    obtain ⟨od, o1, o2, o3⟩ := hex
    obtain ⟨od', es, ep, p1, p2, p3⟩ := id hns1
    rw [o1] at p1; cases p1
    exact ⟨rfl, ⟨od, es, ep, o1, o2, o3, p2⟩, _, hns1, fun y => ⟨(fun lv e => by cases e), fun _ => rfl⟩⟩)
  have hp6 : Hp (K.add B1 hsub) (ρ ++ [dx]) (H ++ [.ns dx []]) ⟨h', g, d, t, os⟩ := ⟨fun b o e => by
    have e : (if b = x then some ox else K.B b) = some o := e
    split at e
    · rename_i q; cases e; rw [q]; exact hx
    · exact hp5.base b o e, hp5.len, hp5.objs, hp5.nd, fun b hb' => ⟨by
      show (if b = x then some ox else K.B b) = none
      rw [if_neg]
      · exact (hp5.own b hb').1
      · rintro rfl
        rcases List.mem_append.mp hb' with q | q
        · exact hxρ q
        · simp only [List.mem_singleton] at q; exact hne q.symm, T.t0 b⟩, hp5.gens⟩
  have hkd : (H ++ [LO.ns dx []])[H.length]? = some (.ns dx []) := at_end
  refine wp_imp ((init_spec LK (T.iF.ext X)).wp (A.under (.builtin "type.__call__" ⟨.ref c :: [.ref st], []⟩)) (ρ ++ [dx]) (H ++ [.ns dx []]) ⟨h', g, d, t, os⟩ [.const (.ref x), .const (.ref st)] [.ref x, .ref st] [] []
    (fun lv H6 => lv = .none ∧ H6 = (H ++ [LO.ns dx []] ++ [LO.list []]).set H.length (.ns dx (lexA 1 st (H.length + 1)))) (r.make c _) hp6 ⟨.const _, .const _, trivial⟩ trivial rfl ⟨st, H.length, rfl, rfl, hkd, rfl, by simp⟩) fun v s6 ⟨ρ6, H6, lv, q1, q2, q3, q4, q5, q6, q7⟩ => ?_
  subst q6 q7
  cases q3
  have hgone : ∀ b, h'.get? b = none → h.get? b = none := fun b e => by
    cases e2 : h.get? b with
    | none => rfl
    | some o => rw [hm.keeps b o e2] at e; cases e
  refine ⟨rfl, x, dx, ox, ρ6, _, rfl, hm.newX, hm.newD, hne, q2.base x ox (if_pos rfl), hxc, hxn, hdx, q1, X.hp q2, fun q => ?_, rfl, fun b hb' => ?_, fun b o e hbρ => ?_, q4.os⟩
  · have := (q2.own x q).1
    rw [show (K.add B1 hsub).B x = some ox from if_pos rfl] at this; cases this
  · rcases q5 b hb' with q | q
    · rcases List.mem_append.mp q with q | q
      · exact .inl q
      · simp only [List.mem_singleton] at q; subst q; exact .inr hm.newD
    · exact .inr (hgone b q)
  · refine q4.keep b o (hm.keeps b o e) (fun q => ?_) (by simp) (T.t0 b)
    rcases List.mem_append.mp q with q | q
    · exact hbρ q
    · simp only [List.mem_singleton] at q; subst q
      rw [show h.get? b = none from hm.newD] at e; cases e
end

/-! text C22 -/
theorem all7 {Q : Addr → Prop} {a b c d e f g : Addr} (ha : Q a) (hb : Q b) (hc : Q c) (hd : Q d) (he : Q e) (hf : Q f) (hg : Q g) : ∀ x ∈ [a, b, c, d, e, f, g], Q x := fun x hx => by
  simp only [List.mem_cons, List.not_mem_nil, or_false] at hx
  rcases hx with rfl | rfl | rfl | rfl | rfl | rfl | rfl <;> assumption
section
variable {K : Kit} {a c N cc P : Addr} {doc pm ct : Value} {an : Option Addr} {mN : Str → Option Value}
theorem lexer_call (T : LexTop K c N mN cc P) (F : Fn K a (fd0 12 doc pm (.ref cc) ct an) (bodyOf (st1 12))) {A : Around} {ρ : List Addr} {H : List LO} {s : Shared} {text : List Nat} {tk : Tok} (hl : text.length ≤ 10000000) (r : Rm 6 A) (hp : Hp K ρ H s) (hP : s.heap.get? P = some (tabObj #[])) (hPρ : P ∉ ρ) :
    codeAny K.M A (.call (.ref a) ⟨[.str (S text) tk], []⟩) (RetOk (LexOut K c N mN P text ρ H s)) s := by
  refine call_rawC F (fun L => nodup_of (by kernel_rfl)) (cnl_of fun L => by kernel_rfl) (las := [.str (S text)]) r hp ⟨.str _ _, trivial⟩ [("text", .str (S text))] (nodup_of (by kernel_rfl)) (in_of (fun L => by kernel_rfl)) ⟨[("text", .str (S text) tk)], by kernel_rfl, .cons _ (.str _ _) .nil⟩ ?_
  intro s1 hown r1 hs1
  generalize hL : s.heap.objs.size = L at hown r1 hs1 ⊢
  have hLn : s.heap.get? L = none := hL ▸ fresh_size s.heap
  have henvC : (callEnvC (fd0 12 doc pm (.ref cc) ct an) L a).cells = ([("place", L + 2), ("text", L + 1)] : List (Str × Addr)) := by kernel_rfl
  have hPo : P ∉ Cx.own ⟨K, A.deeper (callEnvC (fd0 12 doc pm (.ref cc) ct an) L a), callEnvC (fd0 12 doc pm (.ref cc) ct an) L a, H.length⟩ := fun hm => by rw [hown P hm] at hP; cases hP
  have hLo : L ∈ Cx.own ⟨K, A.deeper (callEnvC (fd0 12 doc pm (.ref cc) ct an) L a), callEnvC (fd0 12 doc pm (.ref cc) ct an) L a, H.length⟩ := .head _
  -- place = [0]
  have hx1 : X ⟨K, A.deeper (callEnvC (fd0 12 doc pm (.ref cc) ct an) L a), callEnvC (fd0 12 doc pm (.ref cc) ct an) L a, H.length⟩ (((bodyOf (st1 12))[0]?).getD default) H [("text", .str (S text))]
      (fun lf H1 m1 => lf = .next ∧ H1 = H ++ [.list [.int 0]] ∧ m1 = ([("text", .str (S text)), ("place", .obj H.length)] : Loc)) := by
    refine x_set ?_
    (run_tac Mine.pyyT)
    refine ⟨by decide, ?_⟩
    exact ⟨rfl, rfl, by kernel_rfl⟩
  refine wpAny_execs_cons (wp_imp (hx1.go _ _ _ hs1) fun f s2 zz => ?_)
  obtain ⟨ρ2, H2, m2, lf, p2, hs2, r2, e1, e2, e3⟩ := zz
  subst e1 e2 e3
  cases r2
  dsimp only
  have hρ2 : ρ <+: ρ2 := by
    have p2 : ρ.take H.length <+: ρ2 := p2
    rwa [← hp.len, List.take_length] at p2
  have hP2 : s2.heap.get? P = some (tabObj #[]) := hs2.old hP hPρ hPo (T.t0 P)
  have hPρ2 : P ∉ ρ2 := fun hm => by
    rcases hs2.new P hm with q | q
    · exact hPρ q
    · have q : s.heap.get? P = none := q
      rw [hP] at q; cases q
  obtain ⟨pp, vsp, np, evp, ep, eop, rvp⟩ := hs2.seq (v := .ref (ρ2.getD H.length 0)) (k := H.length) at_end (.obj _ _ (by
    have : H.length < ρ2.length := by rw [hs2.hp.len]; simp
    rw [List.getElem?_eq_getElem this, List.getD_eq_getElem?_getD, List.getElem?_eq_getElem this]; rfl))
  clear evp
  -- the cells
  obtain ⟨vT, ⟨oT, hoT, hoTd⟩, hvT⟩ := hs2.cl "text" (L + 1) (by show List.lookup _ (callEnvC _ L a).cells = _; rw [henvC]; rfl)
  obtain ⟨vT', rfl, hvT2⟩ := hvT (.str (S text)) (by (run_tac Mine.lgtT))
  obtain ⟨vP, ⟨oP, hoP, hoPd⟩, hvP⟩ := hs2.cl "place" (L + 2) (by show List.lookup _ (callEnvC _ L a).cells = _; rw [henvC]; rfl)
  obtain ⟨vP', rfl, hvP2⟩ := hvP (.obj H.length) (by (run_tac Mine.lgtT))
  cases hvT2 with
  | str _ tt =>
  cases hvP2 with
  | obj _ p2' ep' =>
  rw [ep] at ep'
  cases ep'
  obtain ⟨v0, rfl, r0⟩ := VRs.one rvp
  cases r0 with
  | int _ t0 =>
  obtain ⟨Own, eOwn⟩ : ∃ l, l = Cx.own ⟨K, A.deeper (callEnvC (fd0 12 doc pm (.ref cc) ct an) L a), callEnvC (fd0 12 doc pm (.ref cc) ct an) L a, H.length⟩ := ⟨_, rfl⟩
  have qL : L ∈ Own := eOwn ▸ hLo
  have qT : (L + 1) ∈ Own := eOwn ▸ .tail _ (by rw [henvC]; exact .tail _ (.head _))
  have qP : (L + 2) ∈ Own := eOwn ▸ .tail _ (by rw [henvC]; exact .head _)
  have qPo : P ∉ Own := eOwn ▸ hPo
  have qnone : ∀ b ∈ Own, s.heap.get? b = none := eOwn ▸ hown
  have qown : ∀ b ∈ Own, ∃ o, s2.heap.get? b = some o := eOwn ▸ hs2.alive
  have qoff : ∀ b ∈ Own, b ∉ ρ2 ∧ K.B b = none := eOwn ▸ fun b hb => ⟨(hs2.off b hb).1, (hs2.off b hb).2.1⟩
  have qold : ∀ b o, s.heap.get? b = some o → b ∉ ρ → b ∉ Own → s2.heap.get? b = some o := eOwn ▸ fun b o e h1 h2 => hs2.old e h1 h2 (T.t0 b)
  have qnew : ∀ b ∈ ρ2, b ∈ ρ ∨ s.heap.get? b = none := hs2.new
  have qal : ∀ b ∈ ρ2, ∃ o, s2.heap.get? b = some o := fun b hb => hs2.hp.alive hb
  have qos : s2.os = s.os := hs2.kp.os
  clear eOwn
  refine wpAny_execs_cons (wp_imp (rd_step T hs2 hP2 hPρ2 hPo) fun f s4 zz => ?_)
  obtain ⟨ef, rd, ord, c1, oc, vs, tq, doc1, pm1, ctv, hs4, rd4, rdd, c14, ocd, ocq, rd2, c12, hrc, k4, hP4, os4⟩ := zz
  subst ef
  dsimp only
  refine wpAny_execs_cons (wp_imp (lm_step T hs4 hP4 hPρ2 hPo) fun f s5 zz => ?_)
  obtain ⟨ef, st, so, fds, hs5, st5, so1, so2, so3, st4, k5, hP5, os5⟩ := zz
  subst ef
  dsimp only
  have qL4 := hs4.alive L hLo
  have qL5 := hs5.alive L hLo
  have nρ : ∀ b, s2.heap.get? b = none → b ∉ ρ2 := fun b e hm => by
    obtain ⟨o, e2⟩ := qal b hm
    rw [e] at e2; cases e2
  have no : ∀ b, s2.heap.get? b = none → b ∉ Own := fun b e hm => by
    obtain ⟨o, e2⟩ := qown b hm
    rw [e] at e2; cases e2
  -- what is alive stays so
  have a24 : ∀ b, (∃ o, s2.heap.get? b = some o) → ∃ o, s4.heap.get? b = some o := fun b ⟨o, e⟩ => by
    by_cases h1 : b = P
    · exact ⟨_, h1 ▸ hP4⟩
    · by_cases h2 : b = L
      · exact h2 ▸ qL4
      · exact ⟨o, k4 b o h1 h2 e⟩
  have a45 : ∀ b, (∃ o, s4.heap.get? b = some o) → ∃ o, s5.heap.get? b = some o := fun b ⟨o, e⟩ => by
    by_cases h1 : b = P
    · obtain ⟨ps, e⟩ := hP5; exact ⟨_, h1 ▸ e⟩
    · by_cases h2 : b = L
      · exact h2 ▸ qL5
      · exact ⟨o, k5 b o h1 h2 e⟩
  have none_of : ∀ {h1 h2 : Heap} {b : Addr}, (∀ b, (∃ o, h1.get? b = some o) → ∃ o, h2.get? b = some o) → h2.get? b = none → h1.get? b = none := fun {h1 h2 b} k e => by
    cases q : h1.get? b with
    | none => rfl
    | some o =>
      obtain ⟨o', e2⟩ := k b ⟨o, q⟩
      rw [e] at e2; cases e2
  have a02 : ∀ b, (∃ o, s.heap.get? b = some o) → ∃ o, s2.heap.get? b = some o := fun b ⟨o, e⟩ => by
    by_cases h1 : b ∈ ρ
    · exact qal b (hρ2.subset h1)
    · by_cases h2 : b ∈ Own
      · exact qown b h2
      · exact ⟨o, qold b o e h1 h2⟩
  have st2 : s2.heap.get? st = none := none_of a24 st4
  refine wpAny_execs_cons (wp_imp (at_step (rd := rd) hs5 (by (run_tac Mine.lgtT)) (by (run_tac Mine.lgtT)) st5 so1 so2 so3 (nρ st st2) (fun hm => by
      obtain ⟨o, e⟩ := hs2.alive st hm
      rw [st2] at e; cases e) (by
      cases e : K.B st with
      | none => rfl
      | some o => rw [hs4.hp.base _ _ e] at st4; cases st4)) fun f s6 ⟨ef, ds, ods, so', hs6, st6, sc1, sc2, sc3, ds6, dsN, ds5, k6, os6⟩ => ?_)
  subst ef
  dsimp only
  have a56 : ∀ b, (∃ o, s5.heap.get? b = some o) → ∃ o, s6.heap.get? b = some o := fun b ⟨o, e⟩ => by
    by_cases h1 : b = st
    · exact ⟨_, h1 ▸ st6⟩
    · exact ⟨o, k6 b o h1 e⟩
  have a06 : ∀ b, (∃ o, s.heap.get? b = some o) → ∃ o, s6.heap.get? b = some o := fun b h => a56 b (a45 b (a24 b (a02 b h)))
  refine wpAny_execs_cons (wp_imp (rt_step (st := st) T (r1.mono (by (first | lia | omega))) hs6 (by (run_tac Mine.lgtT))) fun f s7 zz => ?_)
  obtain ⟨x, d, ox, ρ6, H6, ef, x6, d6, hdx, x7, xc, xn, xd, p6, hp7, hxρ, eH, n7, k7, os7⟩ := zz
  subst ef
  dsimp only
  show LexOut K c N mN P text ρ H s (.ref x) s7
  -- from s2 to s7, from s4, from s5, from s6
  have f67 : ∀ b o, b ∉ ρ2 → s6.heap.get? b = some o → s7.heap.get? b = some o := fun b o h e => k7 b o e h
  have f47 : ∀ b o, b ∉ ρ2 → b ≠ P → b ≠ L → s4.heap.get? b = some o → s7.heap.get? b = some o := fun b o h1 h2 h3 e => f67 b o h1 (k6 b o (fun q => by rw [q, st4] at e; cases e) (k5 b o h2 h3 e))
  have f27 : ∀ b o, b ∉ ρ2 → b ≠ P → b ≠ L → s2.heap.get? b = some o → s7.heap.get? b = some o := fun b o h1 h2 h3 e => f47 b o h1 h2 h3 (k4 b o h2 h3 e)
  have neP : ∀ b, s2.heap.get? b = none → b ≠ P := fun b e q => by rw [q, hP2] at e; cases e
  have neL : ∀ b, s2.heap.get? b = none → b ≠ L := fun b e q => by
    obtain ⟨o, e2⟩ := qown L qL
    rw [q, e2] at e; cases e
  have rd7 : s7.heap.get? rd = some ord := f47 rd _ (nρ rd rd2) (neP rd rd2) (neL rd rd2) rd4
  have c17 : s7.heap.get? c1 = some oc := f47 c1 _ (nρ c1 c12) (neP c1 c12) (neL c1 c12) c14
  have hLL : ∀ k, k ≠ 0 → L + k ≠ L := fun k hk q => hk (by (first | lia | omega))
  have oT7 : s7.heap.get? (L + 1) = some oT := f27 _ _ (qoff _ qT).1 (fun q => qPo (q ▸ qT)) (Nat.succ_ne_self L) hoT
  have oP7 : s7.heap.get? (L + 2) = some oP := f27 _ _ (qoff _ qP).1 (fun q => qPo (q ▸ qP)) (Nat.ne_of_gt (Nat.lt_add_of_pos_right (by decide))) hoP
  have st7 : s7.heap.get? st = some so' := f67 st _ (nρ st st2) st6
  have ds2 : s2.heap.get? ds = none := none_of a24 (none_of a45 ds5)
  have ds7 : s7.heap.get? ds = some ods := f67 ds _ (nρ ds ds2) ds6
  let adr : List Addr := [x, rd, c1, L + 1, L + 2, st, ds]
  let B1 : Addr → Option Obj := fun b => if b ∈ adr then s7.heap.get? b else K.B b
  have hB1 : ∀ b o, b ∈ adr → s7.heap.get? b = some o → B1 b = some o := fun b o hb e => by
    show (if b ∈ adr then _ else _) = _
    rw [if_pos hb]; exact e
  have hsub : ∀ b o, K.B b = some o → B1 b = some o := fun b o e => by
    show (if b ∈ adr then _ else _) = _
    split
    · exact hp7.base b o e
    · exact e
  have X : KExt K (K.add B1 hsub) := Kit.add_ext T.t0
  have base7 : (K.add B1 hsub).Base s7.heap := fun b o e => by
    have e : (if b ∈ adr then s7.heap.get? b else K.B b) = some o := e
    split at e
    · exact e
    · exact hp7.base b o e
  have al6 : ∀ b ∈ adr, b ≠ x → (∃ o, s6.heap.get? b = some o) ∧ b ∉ ρ2 :=
    all7 (fun q => absurd rfl q) (fun _ => ⟨a56 _ (a45 _ ⟨_, rd4⟩), nρ _ rd2⟩) (fun _ => ⟨a56 _ (a45 _ ⟨_, c14⟩), nρ _ c12⟩) (fun _ => ⟨a56 _ (a45 _ (a24 _ ⟨_, hoT⟩)), (qoff _ qT).1⟩) (fun _ => ⟨a56 _ (a45 _ (a24 _ ⟨_, hoP⟩)), (qoff _ qP).1⟩) (fun _ => ⟨⟨_, st6⟩, nρ _ st2⟩) (fun _ => ⟨⟨_, ds6⟩, nρ _ ds2⟩)
  have notin : ∀ b ∈ ρ6, b ∉ adr := fun b hb ha => by
    by_cases hne : b = x
    · exact hxρ (hne ▸ hb)
    · obtain ⟨⟨o, e⟩, h2⟩ := al6 b ha hne
      rcases n7 b hb with q | q
      · exact h2 q
      · rw [e] at q; cases q
  have hs0 : ∀ b ∈ adr, s.heap.get? b = none :=
    all7 (none_of a06 x6) (none_of a02 rd2) (none_of a02 c12) (qnone _ qT) (qnone _ qP) (none_of a02 st2) (none_of a02 ds2)
  have ep6 : ρ6[H.length]? = some pp := pre_get p6 (pre_get (List.prefix_append _ _) ep)
  have hp8 : Hp (K.add B1 hsub) ρ6 H6 s7 := ⟨base7, hp7.len, hp7.objs, hp7.nd, fun b hb => ⟨by
    show (if b ∈ adr then _ else K.B b) = none
    rw [if_neg (notin b hb)]; exact (hp7.own b hb).1, T.t0 b⟩, hp7.gens⟩
  have hlist : H6[H.length]? = some (.list [.int 0]) := by
    rw [eH, List.getElem?_set_ne (by simp), List.append_assoc, List.append_assoc, List.getElem?_append_right (Nat.le_refl _)]
    simp
  have hp9 := hp8.swap (lo' := .plc pp 0) hlist (fun b eb ho => by
    rw [ep6] at eb
    cases eb
    obtain ⟨vs9, n9, g1, g2⟩ := ho
    obtain ⟨v9, rfl, g3⟩ := VRs.one g2
    cases g3 with
    | int _ t9 => exact ⟨rfl, t9, _, g1, rfl, _, rfl⟩)
  have eH9 : H6.set H.length (.plc pp 0) = H ++ [.plc pp 0, .ns d (lexA 1 st (H.length + 2)), .list []] := by
    rw [eH]
    simp only [List.append_assoc, List.length_append, List.length_cons, List.length_nil]
    rw [List.set_append_right _ _ (by (first | lia | omega)), List.set_append_right _ _ (Nat.le_refl _)]
    simp
  rw [eH9] at hp9
  refine ⟨K.add B1 hsub, x, d, st, pp, rd, ord, _, ρ6, rfl, X, rfl, rfl, rfl, rfl, ⟨⟨ox, hB1 x ox (.head _) x7, xc, xn, xd⟩, hdx, fun q => ?_⟩, ⟨so', ds, _, hB1 st so' (by simp [adr]) st7, sc1, sc2, (by rw [sc3]; intro k e; cases e), fun h hb => dsN h (hb ds ods (hB1 ds ods (.tail _ (.tail _ (.tail _ (.tail _ (.tail _ (.tail _ (.head _))))))) ds7)), by kernel_rfl⟩,
    hB1 rd ord (.tail _ (.head _)) rd7, rdd, ?_, (hρ2.trans (List.prefix_append _ _)).trans p6, hp9, fun b hb => ?_, fun b o e1 e2 => ?_, fun b o e hbP hbρ => ?_, (let ⟨ps, e⟩ := hP5; ⟨ps, f67 P _ hPρ2 (k6 P _ (fun q => by rw [← q, hP2] at st2; cases st2) e)⟩), os7.trans (os6.trans (os5.trans (os4.trans qos)))⟩
  · obtain ⟨nm, q1, bs, sn, sub, col, dd, k0, k1, k2, k3, k5', hC⟩ := (T.at_ s6.heap hs6.hp.base).obj
    rw [← q, x6] at hC; cases hC
  · exact read_spec X (tt := tt) (o := ord) (oT := oT) (oP := oP) (p := pp) (hB1 rd ord (.tail _ (.head _)) rd7) rdd (fun h hb => ⟨c1, oc, vs, tq, rfl, hb c1 oc (hB1 c1 oc (.tail _ (.tail _ (.head _))) c17), ocd, ocq⟩) hl (qoff _ qT).2 (hB1 _ oT (.tail _ (.tail _ (.tail _ (.head _)))) oT7) hoTd (qoff _ qP).2 (hB1 _ oP (.tail _ (.tail _ (.tail _ (.tail _ (.head _))))) oP7) hoPd (Nat.ne_of_lt (Nat.lt_succ_self _))
  · rcases n7 b hb with q | q
    · exact qnew b q
    · exact .inr (none_of a06 q)
  · have e2 : (if b ∈ adr then s7.heap.get? b else K.B b) = some o := e2
    split at e2
    · rename_i hb; exact hs0 b hb
    · rw [e1] at e2; cases e2
  · have h1 : b ∉ Own := fun hm => by rw [qnone b hm] at e; cases e
    have h2 : b ∉ ρ2 := fun hm => by
      rcases qnew b hm with q | q
      · exact hbρ q
      · have q : s.heap.get? b = none := q
        rw [q] at e; cases e
    exact f27 b o h2 hbP (fun q => h1 (q ▸ qL)) (qold b o e hbρ h1)
end

/-! text C24 -/
/-- a def of the top's with its contract -/
structure Gl (K : Kit) (nm : Str) (k : Nat) (pre : Pre) where
  a : Addr
  o : Obj
  fd : FuncData
  g : K.mg nm = some (.ref a)
  B : K.B a = some o
  D : o.data = .func fd
  S : FnSpec K (.ref a) k [] pre
theorem ev_gl {C : Cx} {H : List LO} {m : Loc} {Q : LV → List LO → Prop} {x : Str} {p pos : Pos} {args : List PySem.Expr} {k : Nat} {pre : Pre} (G : Gl C.K x k pre) (hr : Rm k C.A) (h : Evs C args H m fun las H1 => pre las [] H1 Q)
    (hp : args.any isStarred = false := by kernel_rfl) (hk : C.env.scope.kind = .function := by kernel_rfl) (hl : C.env.kindOf x = some .globalImplicit := by kernel_rfl) (hgl : C.env.globals = mainGlobals := by kernel_rfl)
    (hd : (x == ("__debug__" : Str)) = false := by kernel_rfl) : Ev C (.Call (.Name x p) args [] pos) H m Q :=
  ev_call G.S (ev_global G.g ⟨rfl, rfl⟩ hk hl hgl hd) G.B G.D hr hp h
theorem cmp_is_bool {C : Cx} {H : List LO} {m : Loc} {Q : LV → List LO → Prop} {b c : Bool} (h : Q (.bool (b == c)) H) : Cmp C .Is (.bool b) (.bool c) H m Q := by
  refine .mk fun D ρ s va vb hs ra rb => ?_
  cases ra; cases rb
  exact is_bool ⟨ρ, H, _, pre_refl ρ, hs, .bool _, h⟩
/-- what a sign comes to -/
noncomputable def mtC (c : Nat) : List Nat := if c = 102 ∨ c = 70 ∨ c = 119813 then [102] else if c = 105 ∨ c = 73 then [105] else if c = 64256 then [102, 102] else if c = 64257 then [102, 105] else if c = 64259 then [102, 102, 105] else []
noncomputable def letters : List Nat := [102, 70, 119813, 105, 73, 64256, 64257, 64259]
structure PrepOk (Sf : Int → Bool) (tab : Int → Option (List Nat)) : Prop where
  hidden : ∀ c ∈ hid, Sf (c : Nat) = true
  shown : ∀ c ∈ letters, Sf (c : Nat) = false
  fold : ∀ c ∈ letters, tab (c : Nat) = some (mtC c) ∨ (tab (c : Nat) = none ∧ Txt.lower (S [c]) = S (mtC c))
noncomputable def prepL (Sf : Int → Bool) (l : List Nat) : List (List Nat) := l.flatMap fun c => if Sf (c : Nat) then [] else [mtC c]
theorem prepL_snoc (Sf : Int → Bool) (l : List Nat) (c : Nat) : prepL Sf (l ++ [c]) = prepL Sf l ++ (if Sf (c : Nat) then [] else [mtC c]) := by unfold prepL; simp
noncomputable def wOf (v : Nat) : List Nat := (meant1 v).flatten
theorem drawnT_in {h : Nat} (hh : h ∈ hid) (i : Nat) : ∃ c, drawnT h i = [c] ∧ ((c ∈ letters ∧ mtC c = meantT i) ∨ (c ∈ hid ∧ meantT i = [])) := by
  unfold drawnT
  split <;> first | exact ⟨_, rfl, .inl (by decide)⟩ | (refine ⟨h, rfl, .inr ⟨hh, ?_⟩⟩; unfold meantT; split <;> first | contradiction | rfl)
theorem prep_word {Sf : Int → Bool} {tab : Int → Option (List Nat)} (P : PrepOk Sf tab) (v : Nat) : (∀ c ∈ tokOf v, c ∈ letters ∨ c ∈ hid) ∧ (prepL Sf (tokOf v)).flatten = wOf v := by
  unfold tokOf wOf drawn1 meant1
  generalize ixs v = l
  induction l with
  | nil => exact ⟨by simp, rfl⟩
  | cons i l ih =>
    obtain ⟨c, ec, hc⟩ := drawnT_in (hOf_mem v) i
    rw [List.map_cons, List.flatten_cons, ec, List.map_cons, List.flatten_cons]
    refine ⟨fun x hx => ?_, ?_⟩
    · rcases List.mem_append.mp hx with hx | hx
      · simp only [List.mem_cons, List.not_mem_nil, or_false] at hx
        subst hx
        exact hc.imp (·.1) (·.1)
      · exact ih.1 x hx
    · have e : prepL Sf ([c] ++ (l.map (drawnT (hOf v))).flatten) = (if Sf (c : Nat) then [] else [mtC c]) ++ prepL Sf (l.map (drawnT (hOf v))).flatten := by unfold prepL; simp
      rw [e, List.flatten_append, ih.2]
      congr 1
      rcases hc with ⟨h1, h2⟩ | ⟨h1, h2⟩
      · rw [P.shown c h1, ← h2]; simp
      · rw [P.hidden c h1, h2]; rfl
theorem mtC_len (c : Nat) : (mtC c).length ≤ 3 := by
  unfold mtC
  repeat' split
  all_goals decide

/-- where the law's objects are -/
structure Idx (ki kl kd kp kw : Nat) : Prop where
  i : ki < kl
  d : kd = kl + 1
  p : kp = kl + 2
  w : kw = kl + 3
structure LInv (ki kl kd kp kw : Nat) (d p st : Addr) (text : List Nat) (vs : List Nat) (pos : Nat) (wds : List (List Nat)) (H : List LO) : Prop where
  items : H[ki]? = some (.list (intL vs))
  lex : H[kd]? = some (.ns d (lexA (1 + ((text.take pos).count 10 : Nat)) st kp))
  plc : H[kl]? = some (.plc p (pos : Nat))
  push : H[kp]? = some (.list (sts []))
  words : H[kw]? = some (.list (sts wds))
section
variable {ki kl kd kp kw : Nat} {d p st : Addr} {text vs : List Nat} {pos : Nat} {wds : List (List Nat)} {H : List LO}
theorem LInv.pfx {H' : List LO} (h : LInv ki kl kd kp kw d p st text vs pos wds H) (q : H <+: H') : LInv ki kl kd kp kw d p st text vs pos wds H' :=
  ⟨pfx_get q h.items, pfx_get q h.lex, pfx_get q h.plc, pfx_get q h.push, pfx_get q h.words⟩
theorem LInv.word (I : Idx ki kl kd kp kw) {wds' : List (List Nat)} (h : LInv ki kl kd kp kw d p st text vs pos wds H) : LInv ki kl kd kp kw d p st text vs pos wds' (H.set kw (.list (sts wds'))) := by
  obtain ⟨i1, i2, i3, i4⟩ := I
  exact ⟨set_get_ne h.items (by (first | lia | omega)), set_get_ne h.lex (by (first | lia | omega)), set_get_ne h.plc (by (first | lia | omega)), set_get_ne h.push (by (first | lia | omega)), List.getElem?_set_self (List.getElem?_eq_some_iff.mp h.words).1⟩
theorem LInv.tok (I : Idx ki kl kd kp kw) {k : Nat} (h : LInv ki kl kd kp kw d p st text vs pos wds H) : LInv ki kl kd kp kw d p st text vs (pos + k) wds (atH H kd kl kp d p st text (1 + ((text.take pos).count 10 : Nat)) pos k) := by
  obtain ⟨i1, i2, i3, i4⟩ := I
  have hkd := (List.getElem?_eq_some_iff.mp h.lex).1
  have hkl := (List.getElem?_eq_some_iff.mp h.plc).1
  have ez : (1 : Int) + ((text.take pos).count 10 : Nat) + (((text.drop pos).take k).count 10 : Nat) = 1 + ((text.take (pos + k)).count 10 : Nat) := by
    rw [List.take_add, List.count_append]; (first | lia | omega)
  unfold atH
  refine ⟨?_, ?_, ?_, ?_, ?_⟩
  · exact set_get_ne (set_get_ne h.items (by (first | lia | omega))) (by (first | lia | omega))
  · rw [ez, List.getElem?_set_self (by simp; exact hkd)]
  · refine set_get_ne ?_ (by (first | lia | omega))
    rw [List.getElem?_set_self hkl]
  · exact set_get_ne (set_get_ne h.push (by (first | lia | omega))) (by (first | lia | omega))
  · exact set_get_ne (set_get_ne h.words (by (first | lia | omega))) (by (first | lia | omega))
end
noncomputable abbrev lawL (x : Addr) (ki kw : Nat) (text : List Nat) : Loc := [("items", .obj ki), ("text", .str (S text)), ("lexer", .const (.ref x)), ("words", .obj kw)]
noncomputable def wordsFor : Stmt := ((bodyOf (st1 19))[4]?).getD default

/-! text C25 -/
theorem prepL_flat (Sf : Int → Bool) : ∀ l : List Nat, (prepL Sf l).flatten.length ≤ l.length * 3
  | [] => Nat.le_refl _
  | c :: l => by
    have ih := prepL_flat Sf l
    have e : prepL Sf (c :: l) = (if Sf (c : Nat) then [] else [mtC c]) ++ prepL Sf l := by unfold prepL; simp
    rw [e, List.flatten_append, List.length_append, List.length_cons]
    have := mtC_len c
    split
    · simp only [List.flatten_nil, List.length_nil]; (first | lia | omega)
    · simp only [List.flatten_cons, List.flatten_nil, List.append_nil]; (first | lia | omega)
section
variable {K : Kit} {a : Addr} {doc pm cd ct : Value} {an : Option Addr} {x c N d : Addr} {mN : Str → Option Value}
theorem words_for {st p : Addr} {text : List Nat} {Sf : Int → Bool} {tab : Int → Option (List Nat)} (B : Blts K) (LK : LexK K x c N d mN) (T : TokK K text x d st p mN) (W : Gl K "_law_word" 1 pre_word) (B1 : Gl K "in_table_b1" 1 (pre_b1 Sf)) (B3 : Gl K "map_table_b3" 1 (pre_b3 tab)) (PO : PrepOk Sf tab)
    {A : Around} {L : Addr} {n0 ki kl kd kp kw : Nat} {vs : List Nat} {H : List LO} {Q : LF → List LO → Loc → Prop} (hr : Rm 4 A) (hn0 : n0 ≤ ki + 1) (I : Idx ki kl kd kp kw) (hI : LInv ki kl kd kp kw d p st text vs 0 [] H) (ht : text = page1 vs) (hvl : vs.length ≤ 1000) (hv : ∀ v ∈ vs, v < 100000000)
    (h : ∀ H' pos pre, LInv ki kl kd kp kw d p st text vs pos (vs.map wOf) H' → text.drop pos = pre → pre.length ≤ 1 → (∀ c ∈ pre, ws c = true) → Q .next H' (lawL x ki kw text)) :
    X ⟨K, A, callEnvC (fd0 19 doc pm cd ct an) L a, n0⟩ wordsFor H (lawL x ki kw text) Q := by
  have hA := hr.h
  have hsz : sizeLine = 16777216 := rfl
  have hki := (List.getElem?_eq_some_iff.mp hI.items).1
  refine x_For hA ?_
  (run_tac Mine.pyyT)
  refine ⟨ki + 1, over_list hI.items (Nat.lt_succ_self _) ?_⟩
  refine ⟨lawL x ki kw text, fun i H' m => (∃ pos pre, LInv ki kl kd kp kw d p st text vs pos ((vs.take i).map wOf) H' ∧ text.drop pos = pre ++ page1 (vs.drop i) ∧ pre.length ≤ 1 ∧ ∀ c ∈ pre, ws c = true) ∧ m = lawL x ki kw text, hn0, hki, Sub.refl _, ⟨⟨0, [], by simpa using hI, by simp [ht], Nat.zero_le _, fun c hc => by cases hc⟩, rfl⟩, ?_, ?_, ?_⟩
  · rintro i H' m ⟨⟨pos, pre, hL, _⟩, rfl⟩
    exact ⟨(List.getElem?_eq_some_iff.mp hL.items).1, hL.items⟩
  · rintro i y H' m hy ⟨⟨pos, pre, hL, hdr, hpl, hpw⟩, rfl⟩
    dsimp only at hy
    have hi : i < vs.length := by
      have := (List.getElem?_eq_some_iff.mp hy).1
      simpa [intL] using this
    rw [intL_get hi, List.getD_eq_getElem?_getD, List.getElem?_eq_getElem hi, Option.getD_some] at hy
    cases hy
    have hvi := hv vs[i] (List.getElem_mem hi)
    have e1 : (vs.take (i + 1)).map wOf = (vs.take i).map wOf ++ [wOf vs[i]] := by rw [List.take_add_one, List.getElem?_eq_getElem hi, List.map_append]; rfl
    have e2 : page1 (vs.drop i) = piece vs[i] ++ page1 (vs.drop (i + 1)) := by
      rw [List.drop_eq_getElem_cons hi]; rfl
    obtain ⟨f, k, hs1, hs2, hs3⟩ := scan_core vs[i] (page1 (vs.drop (i + 1)))
    obtain ⟨f', hs4⟩ := scan_skip hpl hpw hs1
    rw [e2] at hdr
    rw [← hdr] at hs4
    have hdr2 : text.drop (pos + (pre.length + k)) = leftB vs[i] ++ page1 (vs.drop (i + 1)) := by
      rw [← List.drop_drop, hdr, ← List.drop_drop, List.drop_left, hs2]
    obtain ⟨pw1, pw2⟩ := prep_word PO vs[i]
    have htl := tokOf_len vs[i]
    have hwl : (((vs.take i).map wOf)).length ≤ 1000 := by rw [List.length_map, List.length_take]; (first | lia | omega)
    obtain ⟨lb1, lb2⟩ := leftB_ws vs[i]
    have hd1 := drawn1_flat vs[i]
    have htok : tokOf vs[i] = (drawn1 vs[i]).flatten := rfl
    have hwof : wOf vs[i] = (meant1 vs[i]).flatten := rfl
    generalize vs[i] = v at hvi e1 hs4 hdr2 pw1 pw2 htl lb1 lb2 hd1 htok hwof ⊢
    generalize (vs.take i).map wOf = wds at hL e1 hwl
    refine asg_set ?_
    refine ex_cons ?_
    refine x_assignTuple hA ?_
    refine ev_gl W (hr.mono (by (first | lia | omega))) ?_
    (run_tac Mine.pyyT)
    refine ⟨v, rfl, rfl, hvi, ?_⟩
    have hL2 := hL.pfx (H' := H' ++ [.list (sts (drawn1 v)), .tup [.obj H'.length, .str (S (meant1 v).flatten)]]) (List.prefix_append _ _)
    have hT2 : (H' ++ [.list (sts (drawn1 v)), .tup [.obj H'.length, .str (S (meant1 v).flatten)]])[H'.length + 1]? = some (.tup [.obj H'.length, .str (S (meant1 v).flatten)]) := two1 rfl
    have hD2 : (H' ++ [.list (sts (drawn1 v)), .tup [.obj H'.length, .str (S (meant1 v).flatten)]])[H'.length]? = some (.list (sts (drawn1 v))) := two0 rfl
    have hkw := (List.getElem?_eq_some_iff.mp hL.words).1
    have hkd := (List.getElem?_eq_some_iff.mp hL.lex).1
    have hkl := (List.getElem?_eq_some_iff.mp hL.plc).1
    generalize H' ++ [.list (sts (drawn1 v)), .tup [.obj H'.length, .str (S (meant1 v).flatten)]] = H2 at hL2 hT2 hD2 ⊢
    refine asg_tuple hA hT2 rfl ?_
    unfold Asgs
    refine asg_set ?_
    refine asg_set ?_
    (run_tac Mine.bredT)
    refine ex_cons (x_set ?_)
    refine ev_methI (H1 := H2) T.tok T.tkB T.tkD hr T.tkC LK.CL LK.I T.tkN tlo_tok (ev_var (by (run_tac Mine.lgtT)) ⟨rfl, rfl⟩) hL2.lex (by kernel_rfl) ?_
    (run_tac Mine.bredT)
    refine ⟨kd, kp, kl, pos, _, [], rfl, rfl, by have := I.d; (first | lia | omega), hL2.lex, hL2.plc, hL2.push, Nat.zero_le _, f', tokOf v, pre.length + k, hs4, by (first | lia | omega), ?_⟩
    have hL3 := hL2.tok I (k := pre.length + k)
    have hD3 : (atH H2 kd kl kp d p st text (1 + ((text.take pos).count 10 : Nat)) pos (pre.length + k))[H'.length]? = some (.list (sts (drawn1 v))) := set_get_ne (set_get_ne hD2 (by (first | lia | omega))) (by (first | lia | omega))
    generalize atH H2 kd kl kp d p st text (1 + ((text.take pos).count 10 : Nat)) pos (pre.length + k) = H3 at hL3 hD3 ⊢
    (run_tac Mine.pyyT)
    refine blt_join hD3 (by (first | lia | omega)) ?_
    rw [← htok]
    refine cmp_ne_str ?_
    (run_tac Mine.pyyT)
    refine it_false (by simp) ?_
    (run_tac Mine.pyyT)
    refine ⟨.list kw _ hL3.words, ?_⟩
    (run_tac Mine.pyyT)
    refine ev_comp1 ⟨hA, rfl, by decide, by decide, by kernel_rfl, fun _ => rfl⟩ ?_
    (run_tac Mine.pyyT)
    refine ⟨[], Sub.nil _, MfOk.nil, ?_⟩
    refine over_str ?_
    intro L2 ac
    refine ⟨fun i H' m => H' = H3 ++ [.list (sts (prepL Sf ((tokOf v).take i)))] ∧ m = ([] : Loc), ⟨by simp [sts, prepL], rfl⟩, ?_, ?_, ?_⟩
    · rintro i H' m ⟨rfl, rfl⟩
      exact ⟨by simp, trivial⟩
    · rintro j y H' m hy ⟨rfl, rfl⟩
      dsimp only at hy
      obtain ⟨cc, hj, rfl⟩ := Option.map_eq_some_iff.mp hy
      have hstep : prepL Sf ((tokOf v).take (j + 1)) = prepL Sf ((tokOf v).take j) ++ (if Sf (cc : Nat) then [] else [mtC cc]) := by
        rw [List.take_add_one, hj]; exact prepL_snoc _ _ _
      have hcc := pw1 cc (List.mem_of_getElem? hj)
      have hpll : (prepL Sf ((tokOf v).take j)).length ≤ 3 := by
        have h1 : ∀ l : List Nat, (prepL Sf l).length ≤ l.length := fun l => by
          induction l with
          | nil => exact Nat.le_refl _
          | cons c l ih =>
            have e : prepL Sf (c :: l) = (if Sf (c : Nat) then [] else [mtC c]) ++ prepL Sf l := by unfold prepL; simp
            rw [e, List.length_append, List.length_cons]
            split <;> simp <;> (first | lia | omega)
        have := h1 ((tokOf v).take j)
        rw [List.length_take] at this
        (first | lia | omega)
      refine asg_set ?_
      unfold TstAll
      refine tst_Compare ?_
      refine ev_gl B1 (hr.mono (by (first | lia | omega))) ?_
      (run_tac Mine.pyyT)
      refine ⟨cc, rfl, rfl, ?_⟩
      (run_tac Mine.pyyT)
      refine cmp_is_bool ?_
      (run_tac Mine.pyyT)
      refine it_both (fun hc => ?_) (fun hc => ?_)
      · have hc : Sf (cc : Nat) = false := by simpa using hc
        have hin : cc ∈ letters := by
          rcases hcc with h | h
          · exact h
          · rw [PO.hidden cc h] at hc; cases hc
        unfold TstAll
        (run_tac Mine.bredT)
        refine it_true rfl ?_
        unfold EAct Emit
        refine ev_gl B3 (hr.mono (by (first | lia | omega))) ?_
        (run_tac Mine.pyyT)
        refine ⟨cc, rfl, rfl, ?_⟩
        have fin : ∃ ys, (H3 ++ [LO.list (sts (prepL Sf ((tokOf v).take j)))])[H3.length]? = some (.list ys) ∧ ys.length ≤ sizeLine ∧ TurnC (H3.length + 1) ((fun i H' m => H' = H3 ++ [.list (sts (prepL Sf ((tokOf v).take i)))] ∧ m = ([] : Loc)) (j + 1)) ((H3 ++ [LO.list (sts (prepL Sf ((tokOf v).take j)))]).set H3.length (.list (ys ++ [.str (S (mtC cc))]))) (lset [] "sign" (.str (S [cc]))) := by
          refine ⟨_, at_end, by rw [sts_len]; (first | lia | omega), ?_⟩
          refine ⟨_, _, .keep (Sub.nil _), ?_, rfl⟩
          rw [List.set_append_right _ _ (Nat.le_refl _), Nat.sub_self, List.set_cons_zero, sts_snoc, hstep, if_neg (by rw [hc]; decide)]
        rcases PO.fold cc hin with e | ⟨e, e3⟩
        · rw [e]
          exact fin
        · rw [e]
          exact ⟨mtC cc, e3, by have := mtC_len cc; (first | lia | omega), fin⟩
      · have hc : Sf (cc : Nat) = true := by
          cases e : Sf (cc : Nat) with
          | true => rfl
          | false => rw [e] at hc; cases hc
        refine ⟨_, _, .keep (Sub.nil _), ?_, rfl⟩
        rw [hstep, if_pos hc, List.append_nil]
    rintro H6 m6 ⟨rfl, rfl⟩
    rw [List.take_length]
    (run_tac Mine.bredT)
    have hwl9 : (wOf v).length ≤ 9 := by
      rw [← pw2]
      have := prepL_flat Sf (tokOf v)
      (first | lia | omega)
    have hL6 := hL3.pfx (H' := H3 ++ [.list (sts (prepL Sf (tokOf v)))]) (List.prefix_append _ _)
    refine blt_join at_end (by rw [pw2]; (first | lia | omega)) ?_
    rw [pw2]
    generalize H3 ++ [LO.list (sts (prepL Sf (tokOf v)))] = H6 at hL6 ⊢
    (run_tac Mine.bredT)
    refine blt_append hL6.words (by rw [sts_len]; (first | lia | omega)) ?_
    rw [sts_snoc]
    refine ⟨rfl, ?_⟩
    have hL7 := hL6.word I (wds' := wds ++ [wOf v])
    generalize H6.set kw (.list (sts (wds ++ [wOf v]))) = H7 at hL7 ⊢
    (run_tac Mine.pyyT)
    refine ev_sub_last ?_
    (run_tac Mine.pyyT)
    refine ⟨1, rfl, ?_⟩
    refine ⟨kw, sts wds, .str (S (wOf v)), rfl, by rw [sts_snoc]; exact hL7.words, rfl, by rw [sts_len]; (first | lia | omega), ?_⟩
    (run_tac Mine.pyyT)
    rw [← hwof]
    refine it_false (by simp) ?_
    (run_tac Mine.pyyT)
    refine ⟨_, _, .keep (by (run_tac Mine.subsT)), ⟨pos + (pre.length + k), leftB v, by rw [e1]; exact hL7, hdr2, lb1, lb2⟩, rfl⟩
  · rintro H' m ⟨⟨pos, pre, hL, hdr, hpl, hpw⟩, rfl⟩
    have el : (intL vs).length = vs.length := by unfold intL; rw [List.length_map]
    rw [el, List.take_length] at hL
    rw [el, List.drop_length] at hdr
    exact h H' pos pre hL (by rw [hdr]; unfold page1; simp) hpl hpw
end

/-! text C26 -/
theorem cmp_eq_bool {C : Cx} {H : List LO} {m : Loc} {Q : LV → List LO → Prop} {b c : Bool} (h : Q (.bool (b == c)) H) : Cmp C .Eq (.bool b) (.bool c) H m Q := by
  refine .mk fun D ρ s va vb hs ra rb => ?_
  cases ra; cases rb
  exact PyProof.Rows.eq_bool ⟨ρ, H, _, pre_refl ρ, hs, .bool _, h⟩
/-- what the law asks of two words -/
noncomputable def PairP (one other : List Nat) : Prop := one.length ≤ 4000 ∧ other.length ≤ 4000 ∧ ∃ R, ends one other = some R ∧ R.length < 60 ∧
  (if one = [] ∨ other = [] ∨ root one = root other then R = powers one other else [] ∉ R ∧ R.Pairwise (· ≤ ·) ∧ (R == []) ≠ (startsW one other || startsW other one) ∧ R.filter (fun e => !endsW one e && !endsW other e) = [])
noncomputable abbrev pairL (x : Addr) (ki kw j kr : Nat) (text one other : List Nat) : Loc := ("row", .obj kr) :: ("one", .str (S one)) :: ("other", .str (S other)) :: ("j", .int (j : Nat)) :: lawL x ki kw text
noncomputable def pairsFor : Stmt := ((bodyOf (st1 19))[5]?).getD default
noncomputable def pairBody : List Stmt := match pairsFor with
  | .For _ _ [.For _ _ b _ _] _ _ => b
  | _ => []
section
variable {K : Kit} {a : Addr} {doc pm cd ct : Value} {an : Option Addr} {x c N d : Addr} {mN : Str → Option Value}
theorem pair_body {st p : Addr} {text : List Nat} (B : Blts K) (E : Gl K "_law_ends" 5 (pre_ends text x d st p)) (R : Gl K "_law_root" 1 pre_root) (PW : Gl K "_law_powers" 1 pre_powers)
    {A : Around} {L : Addr} {n0 ki kl kd kp kw j k pos : Nat} {vs : List Nat} {wds : List (List Nat)} {pre : List Nat} {H : List LO} {Q : LF → List LO → Loc → Prop} (hr : Rm 5 A) (I : Idx ki kl kd kp kw) (hI : LInv ki kl kd kp kw d p st text vs pos wds H)
    (hdr : text.drop pos = pre) (hpl : pre.length ≤ 1) (hpw : ∀ c ∈ pre, ws c = true) (hj : j < wds.length) (hk : k < wds.length) (hwl : wds.length ≤ 1000) (hP : PairP wds[k] wds[j])
    (h : ∀ H' m', LInv ki kl kd kp kw d p st text vs (pos + (pre.length + 1)) wds H' → text.drop (pos + (pre.length + 1)) = [] → Sub (("j", .int (j : Nat)) :: lawL x ki kw text) m' → Q .next H' m') :
    Ex ⟨K, A, callEnvC (fd0 19 doc pm cd ct an) L a, n0⟩ pairBody H (("k", .int (k : Nat)) :: ("j", .int (j : Nat)) :: lawL x ki kw text) Q := by
  have hA := hr.h
  have hsz : sizeLine = 16777216 := rfl
  refine ex_cons (x_set ?_)
  refine ev_sub_list ?_
  (run_tac Mine.pyyT)
  refine ⟨kw, sts wds, k, .str (S wds[k]), rfl, hI.words, rfl, by rw [sts_get hk, List.getD_eq_getElem?_getD, List.getElem?_eq_getElem hk]; rfl, by rw [sts_len]; (first | lia | omega), ?_⟩
  refine ex_cons (x_set ?_)
  refine ev_sub_list ?_
  (run_tac Mine.pyyT)
  refine ⟨kw, sts wds, j, .str (S wds[j]), rfl, hI.words, rfl, by rw [sts_get hj, List.getD_eq_getElem?_getD, List.getElem?_eq_getElem hj]; rfl, by rw [sts_len]; (first | lia | omega), ?_⟩
  generalize wds[k] = one at hP ⊢
  generalize wds[j] = other at hP ⊢
  obtain ⟨ho, hot, rw1, he, hrl, hcond⟩ := hP
  obtain ⟨f, hsc⟩ := scan_end hpl hpw
  rw [← hdr] at hsc
  have hend : text.drop (pos + (pre.length + 1)) = [] := by rw [← List.drop_drop, hdr, List.drop_eq_nil_iff]; (first | lia | omega)
  refine ex_cons (x_set ?_)
  refine ev_gl E hr ?_
  (run_tac Mine.pyyT)
  rw [hdr] at hsc
  refine ⟨kd, kp, kl, pos, pre.length + 1, f, _, one, other, rw1, rfl, rfl, by have := I.d; (first | lia | omega), by have := I.p; (first | lia | omega), by have := I.d; have := I.p; (first | lia | omega), hI.lex, hI.plc, hI.push, ho, hot, by rw [hdr]; exact hsc, he, ?_⟩
  have hL2 := (hI.tok I (k := pre.length + 1)).pfx (List.prefix_append _ [.list (sts rw1)])
  have hrow : (atH H kd kl kp d p st text (1 + ((text.take pos).count 10 : Nat)) pos (pre.length + 1) ++ [.list (sts rw1)])[H.length]? = some (.list (sts rw1)) := by
    rw [List.getElem?_append_right (by rw [atH_len]; exact Nat.le_refl _), atH_len]; simp
  generalize atH H kd kl kp d p st text (1 + ((text.take pos).count 10 : Nat)) pos (pre.length + 1) ++ [.list (sts rw1)] = H2 at hL2 hrow ⊢
  (run_tac Mine.bredT)
  refine ex_cons (X.mono (Q := fun lf H3 m3 => lf = .next ∧ H3 = H2 ∧ Sub (pairL x ki kw j H.length text one other) m3) (x_If ?_) ?_)
  · (run_tac Mine.pyyT)
    exact ⟨rfl, rfl, by (run_tac Mine.subsT)⟩
  rintro _ H2 m3 ⟨rfl, rfl, hs3⟩
  (run_tac Mine.bredT)
  refine ex_sub hs3 ?_
  generalize H.length = kr at hrow
  refine ex_cons (x_If (Tst.mono (Q := fun b H3 => b = decide (one = [] ∨ other = [] ∨ root one = root other) ∧ H3 = H2) ?_ ?_))
  · (run_tac Mine.pyyT)
    refine it_both (fun h1 => ?_) (fun h1 => ?_)
    · have h1 : one = [] := by simpa using h1
      exact ⟨by simp [h1], rfl⟩
    · have h1 : one ≠ [] := by simpa using h1
      (run_tac Mine.pyyT)
      refine it_both (fun h2 => ?_) (fun h2 => ?_)
      · have h2 : other = [] := by simpa using h2
        exact ⟨by simp [h2], rfl⟩
      · have h2 : other ≠ [] := by simpa using h2
        (run_tac Mine.pyyT)
        refine ev_gl R (hr.mono (by (first | lia | omega))) ?_
        (run_tac Mine.pyyT)
        refine ⟨one, rfl, rfl, ho, ?_⟩
        refine ev_gl R (hr.mono (by (first | lia | omega))) ?_
        (run_tac Mine.pyyT)
        refine ⟨other, rfl, rfl, hot, ?_⟩
        (run_tac Mine.pyyT)
        refine it_both (fun h3 => ?_) (fun h3 => ?_)
        · have h3 : root one = root other := by simpa using h3
          exact ⟨by simp [h3], rfl⟩
        · have h3 : root one ≠ root other := by simpa using h3
          (run_tac Mine.pyyT)
          exact ⟨by simp [h1, h2, h3], rfl⟩
  rintro _ H2 ⟨rfl, rfl⟩
  refine it_both (fun hc => ?_) (fun hc => ?_)
  · have hc : one = [] ∨ other = [] ∨ root one = root other := of_decide_eq_true hc
    rw [if_pos hc] at hcond
    refine ex_cons (x_If (Tst.mono (Q := fun b H3 => b = false ∧ H2 <+: H3) ?_ ?_))
    · (run_tac Mine.pyyT)
      refine ev_gl PW (hr.mono (by (first | lia | omega))) ?_
      (run_tac Mine.pyyT)
      refine ⟨one, other, rfl, rfl, ho, hot, ?_⟩
      refine cmp_ne_list (xs := rw1) (ys := powers one other) hr.units (app_get hrow) at_end ?_
      (run_tac Mine.pyyT)
      exact ⟨by rw [hcond]; simp, by (run_tac Mine.pfxT)⟩
    · rintro _ H3 ⟨rfl, hp3⟩
      (run_tac Mine.pyyT)
      exact h _ _ (hL2.pfx hp3) hend (by (run_tac Mine.subsT))
  · have hc : ¬ (one = [] ∨ other = [] ∨ root one = root other) := of_decide_eq_false hc
    rw [if_neg hc] at hcond
    obtain ⟨c1, c2, c3, c4⟩ := hcond
    refine ex_cons (x_If (Tst.mono (Q := fun b H3 => b = false ∧ H2 <+: H3) ?_ ?_))
    · refine tst_or ?_
      refine tst_Compare ?_
      (run_tac Mine.pyyT)
      refine cmp_in_list (xs := rw1) hrow ?_
      (run_tac Mine.pyyT)
      refine it_false (by simpa using c1) ?_
      refine tst_or ?_
      refine tst_Compare ?_
      (run_tac Mine.pyyT)
      refine ev_bcall (ev_builtin B.sorted.1 B.sorted.2 ⟨rfl, rfl⟩) ?_
      (run_tac Mine.pyyT)
      refine blt_sorted hrow (by (first | lia | omega)) c2 ?_
      refine cmp_ne_list (xs := rw1) (ys := rw1) hr.units (app_get hrow) at_end ?_
      (run_tac Mine.pyyT)
      refine it_false (by simp) ?_
      refine tst_or ?_
      refine tst_Compare ?_
      refine ev_Compare ?_
      (run_tac Mine.pyyT)
      refine ⟨by decide, ?_⟩
      (run_tac Mine.bredT)
      refine cmp_eq_list (xs := rw1) (ys := []) hr.units (app_get (app_get hrow)) at_end ?_
      refine Ev.mono (Q := fun lv H4 => lv = .bool (startsW one other || startsW other one) ∧ H2 <+: H4) ?_ ?_
      · (run_tac Mine.pyyT)
        cases h1 : startsW one other with
        | true =>
          refine it_true rfl ?_
          exact ⟨by simp, by (run_tac Mine.pfxT)⟩
        | false =>
          refine it_false rfl ?_
          (run_tac Mine.pyyT)
          exact ⟨by simp, by (run_tac Mine.pfxT)⟩
      rintro _ H4 ⟨rfl, hp4⟩
      refine cmp_eq_bool ?_
      (run_tac Mine.pyyT)
      refine it_false ?_ ?_
      · rw [Bool.eq_false_iff]; intro h; exact c3 (by simpa using h)
      (run_tac Mine.pyyT)
      exact ⟨rfl, hp4⟩
    · rintro _ H3 ⟨rfl, hp3⟩
      have hrow3 := pfx_get hp3 hrow
      refine it_false rfl ?_
      refine ex_one ?_
      refine x_If (Tst.mono (Q := fun b H4 => b = false ∧ H2 <+: H4) ?_ ?_)
      · refine tst_Compare ?_
        refine ev_comp1 ⟨hA, rfl, by decide, by decide, by kernel_rfl, fun _ => rfl⟩ ?_
        (run_tac Mine.pyyT)
        refine ⟨[("one", .str (S one)), ("other", .str (S other))], by (run_tac Mine.subsT), MfOk.cons (fun L => by kernel_rfl) (MfOk.cons (fun L => by kernel_rfl) MfOk.nil), ?_⟩
        refine over_list hrow3 (by have := (List.getElem?_eq_some_iff.mp hrow3).1; (first | lia | omega)) ?_
        intro L2 ac
        refine ⟨fun i H' m => H' = H3 ++ [.list (sts [])] ∧ m = ([("one", .str (S one)), ("other", .str (S other))] : Loc), ⟨rfl, rfl⟩, ?_, ?_, ?_⟩
        · rintro i H' m ⟨rfl, rfl⟩
          exact ⟨by simp, app_get hrow3⟩
        · rintro i y H' m hy ⟨rfl, rfl⟩
          dsimp only at hy
          have hi : i < rw1.length := by
            have := (List.getElem?_eq_some_iff.mp hy).1
            rwa [sts_len] at this
          rw [sts_get hi, List.getD_eq_getElem?_getD, List.getElem?_eq_getElem hi, Option.getD_some] at hy
          cases hy
          have hend2 : (!endsW one rw1[i] && !endsW other rw1[i]) = false := by
            cases e : (!endsW one rw1[i] && !endsW other rw1[i]) with
            | false => rfl
            | true =>
              have : rw1[i] ∈ rw1.filter (fun e => !endsW one e && !endsW other e) := List.mem_filter.mpr ⟨List.getElem_mem hi, e⟩
              rw [c4] at this; cases this
          generalize rw1[i] = e at hend2 ⊢
          refine asg_set ?_
          unfold TstAll
          refine Tst.mono (Q := fun b H4 => b = false ∧ H4 = H3 ++ [LO.list (sts [])]) ?_ ?_
          · refine tst_and ?_
            refine tst_not ?_
            refine tst_plain ?_
            (run_tac Mine.pyyT)
            cases h1 : endsW one e with
            | true => exact it_false rfl ⟨rfl, rfl⟩
            | false =>
              refine it_true rfl ?_
              refine tst_and ?_
              refine tst_not ?_
              refine tst_plain ?_
              (run_tac Mine.pyyT)
              cases h2 : endsW other e with
              | true => exact it_false rfl ⟨rfl, rfl⟩
              | false => rw [h1, h2] at hend2; cases hend2
          rintro _ H4 ⟨rfl, rfl⟩
          refine it_false rfl ?_
          refine ⟨_, _, .keep (by (run_tac Mine.subsT)), rfl, rfl⟩
        rintro H6 m6 ⟨rfl, rfl⟩
        (run_tac Mine.bredT)
        refine ev_list ?_
        (run_tac Mine.bredT)
        refine ⟨by decide, ?_⟩
        refine cmp_ne_list (xs := []) (ys := []) hr.units (app_get at_end) at_end ?_
        (run_tac Mine.pyyT)
        exact ⟨rfl, by (run_tac Mine.pfxT)⟩
      · rintro _ H4 ⟨rfl, hp4⟩
        (run_tac Mine.pyyT)
        exact h _ _ (hL2.pfx hp4) hend (by (run_tac Mine.subsT))
end

/-! text C27 -/
section
variable {K : Kit} {a : Addr} {doc pm cd ct : Value} {an : Option Addr} {x c N d : Addr} {mN : Str → Option Value}
theorem pairs_for {st p : Addr} {text : List Nat} (B : Blts K) (E : Gl K "_law_ends" 5 (pre_ends text x d st p)) (R : Gl K "_law_root" 1 pre_root) (PW : Gl K "_law_powers" 1 pre_powers)
    {A : Around} {L : Addr} {n0 ki kl kd kp kw pos : Nat} {vs : List Nat} {wds : List (List Nat)} {pre : List Nat} {H : List LO} {Q : LF → List LO → Loc → Prop} (hr : Rm 5 A) (hn0 : n0 ≤ ki + 1) (I : Idx ki kl kd kp kw) (hI : LInv ki kl kd kp kw d p st text vs pos wds H)
    (hdr : text.drop pos = pre) (hpl : pre.length ≤ 1) (hpw : ∀ c ∈ pre, ws c = true) (hwl : wds.length ≤ 1000) (hP : ∀ (j k : Nat) (hj : j < wds.length) (hk : k < wds.length), PairP wds[k] wds[j])
    (h : ∀ H' pos pre, LInv ki kl kd kp kw d p st text vs pos wds H' → text.drop pos = pre → pre.length ≤ 1 → (∀ c ∈ pre, ws c = true) → Q .next H' (lawL x ki kw text)) :
    X ⟨K, A, callEnvC (fd0 19 doc pm cd ct an) L a, n0⟩ pairsFor H (lawL x ki kw text) Q := by
  have hA := hr.h
  have hsz : sizeLine = 16777216 := rfl
  refine x_For hA ?_
  (run_tac Mine.pyyT)
  refine ev_tcall (ev_builtin B.range.1 B.range.2 ⟨rfl, rfl⟩) ?_
  (run_tac Mine.pyyT)
  refine ev_bcall (ev_builtin B.len.1 B.len.2 ⟨rfl, rfl⟩) ?_
  (run_tac Mine.pyyT)
  refine blt_len_list hI.words (by rw [sts_len]; (first | lia | omega)) ?_
  (run_tac Mine.pyyT)
  refine blt_range1 ?_
  rw [sts_len]
  refine ⟨n0, over_rng at_end (by decide) (by decide) (by (first | lia | omega)) (by (first | lia | omega)) ?_⟩
  have nH : ∀ {H' : List LO} {pos : Nat}, LInv ki kl kd kp kw d p st text vs pos wds H' → n0 ≤ H'.length := fun {H' pos} g => by
    have := (List.getElem?_eq_some_iff.mp g.items).1; (first | lia | omega)
  refine ⟨lawL x ki kw text, fun j H' m => (∃ pos pre, LInv ki kl kd kp kw d p st text vs pos wds H' ∧ text.drop pos = pre ∧ pre.length ≤ 1 ∧ ∀ c ∈ pre, ws c = true) ∧ m = lawL x ki kw text, Nat.le_refl _, nH (hI.pfx (List.prefix_append _ _)), Sub.refl _, ⟨⟨pos, pre, hI.pfx (List.prefix_append _ _), hdr, hpl, hpw⟩, rfl⟩, ?_, ?_, ?_⟩
  · rintro j H' m ⟨⟨pos, pre, hL, _⟩, rfl⟩
    exact ⟨nH hL, trivial⟩
  · rintro j y H' m hy ⟨⟨pos1, pre1, hL, hdr1, hpl1, hpw1⟩, rfl⟩
    dsimp only at hy
    have hj : j < wds.length := by
      rcases Nat.lt_or_ge j wds.length with h | h
      · exact h
      · rw [if_neg (by (first | lia | omega))] at hy; cases hy
    rw [if_pos (by (first | lia | omega))] at hy
    obtain rfl : y = .int (j : Nat) := by
      cases hy
      congr 1; (first | lia | omega)
    refine asg_set ?_
    refine ex_one ?_
    refine x_For hA ?_
    (run_tac Mine.pyyT)
    refine ev_tcall (ev_builtin B.range.1 B.range.2 ⟨rfl, rfl⟩) ?_
    (run_tac Mine.pyyT)
    refine blt_range1 ?_
    refine ⟨n0, over_rng at_end (by decide) (by decide) (by (first | lia | omega)) (by (first | lia | omega)) ?_⟩
    refine ⟨("j", .int (j : Nat)) :: lawL x ki kw text, fun k H' m => (∃ pos pre, LInv ki kl kd kp kw d p st text vs pos wds H' ∧ text.drop pos = pre ∧ pre.length ≤ 1 ∧ ∀ c ∈ pre, ws c = true) ∧ m = (("j", .int (j : Nat)) :: lawL x ki kw text : Loc), Nat.le_refl _, nH (hL.pfx (List.prefix_append _ _)), by (run_tac Mine.subsT), ⟨⟨pos1, pre1, hL.pfx (List.prefix_append _ _), hdr1, hpl1, hpw1⟩, rfl⟩, ?_, ?_, ?_⟩
    · rintro k H' m ⟨⟨pos, pre, hL, _⟩, rfl⟩
      exact ⟨nH hL, trivial⟩
    · rintro k y H' m hy ⟨⟨pos2, pre2, hL2, hdr2, hpl2, hpw2⟩, rfl⟩
      dsimp only at hy
      have hk : k < j := by
        rcases Nat.lt_or_ge k j with h | h
        · exact h
        · rw [if_neg (by (first | lia | omega))] at hy; cases hy
      rw [if_pos (by (first | lia | omega))] at hy
      obtain rfl : y = .int (k : Nat) := by
        cases hy
        congr 1; (first | lia | omega)
      refine asg_set ?_
      refine ex_sub (m' := ("k", .int (k : Nat)) :: ("j", .int (j : Nat)) :: lawL x ki kw text) (by (run_tac Mine.subsT)) ?_
      refine pair_body B E R PW hr I hL2 hdr2 hpl2 hpw2 hj (Nat.lt_trans hk hj) hwl (hP j k hj (Nat.lt_trans hk hj)) fun H3 m3 g1 g2 g3 => ?_
      exact ⟨_, _, .keep g3, ⟨_, [], g1, g2, Nat.zero_le _, fun c hc => by cases hc⟩, rfl⟩
    · rintro H' m ⟨⟨pos2, pre2, hL2, hdr2, hpl2, hpw2⟩, rfl⟩
      exact ⟨_, _, .keep (by (run_tac Mine.subsT)), ⟨pos2, pre2, hL2, hdr2, hpl2, hpw2⟩, rfl⟩
  · rintro H' m ⟨⟨pos1, pre1, hL, hdr1, hpl1, hpw1⟩, rfl⟩
    exact h H' pos1 pre1 hL hdr1 hpl1 hpw1
end
noncomputable def lawRest : List Stmt := (bodyOf (st1 19)).drop 3
section
variable {K : Kit} {a : Addr} {doc pm cd ct : Value} {an : Option Addr} {x c N d : Addr} {mN : Str → Option Value}
theorem law_rest {st p : Addr} {text : List Nat} {Sf : Int → Bool} {tab : Int → Option (List Nat)} (B : Blts K) (LK : LexK K x c N d mN) (T : TokK K text x d st p mN) (W : Gl K "_law_word" 1 pre_word) (B1 : Gl K "in_table_b1" 1 (pre_b1 Sf)) (B3 : Gl K "map_table_b3" 1 (pre_b3 tab)) (PO : PrepOk Sf tab)
    (E : Gl K "_law_ends" 5 (pre_ends text x d st p)) (R : Gl K "_law_root" 1 pre_root) (PW : Gl K "_law_powers" 1 pre_powers)
    {A : Around} {L : Addr} {n0 ki : Nat} {vs : List Nat} {H0 : List LO} (hr : Rm 5 A) (hn0 : n0 ≤ ki + 1) (hi : H0[ki]? = some (.list (intL vs))) (ht : text = page1 vs) (hvl : vs.length ≤ 1000) (hv : ∀ v ∈ vs, v < 100000000)
    (hP : ∀ v ∈ vs, ∀ w ∈ vs, PairP (wOf v) (wOf w)) :
    Ex ⟨K, A, callEnvC (fd0 19 doc pm cd ct an) L a, n0⟩ lawRest (H0 ++ [.plc p 0, .ns d (lexA 1 st (H0.length + 2)), .list []]) [("items", .obj ki), ("text", .str (S text)), ("lexer", .const (.ref x))] (fun lf _ _ => lf = .ret (.bool true)) := by
  have hsz : sizeLine = 16777216 := rfl
  have hki := (List.getElem?_eq_some_iff.mp hi).1
  have I : Idx ki H0.length (H0.length + 1) (H0.length + 2) (H0.length + 3) := ⟨hki, rfl, rfl, rfl⟩
  refine ex_cons (x_set ?_)
  refine ev_list ?_
  (run_tac Mine.bredT)
  refine ⟨by decide, ?_⟩
  have hlen : (H0 ++ [LO.plc p 0, .ns d (lexA 1 st (H0.length + 2)), .list []]).length = H0.length + 3 := by simp
  have hI : LInv ki H0.length (H0.length + 1) (H0.length + 2) (H0.length + 3) d p st text vs 0 [] (H0 ++ [.plc p 0, .ns d (lexA 1 st (H0.length + 2)), .list []] ++ [.list []]) := by
    refine ⟨app_get (app_get hi), ?_, ?_, ?_, ?_⟩
    · refine app_get ?_
      rw [List.getElem?_append_right (by (first | lia | omega))]
      simp
    · refine app_get ?_
      rw [List.getElem?_append_right (by (first | lia | omega))]
      simp
    · refine app_get ?_
      rw [List.getElem?_append_right (by (first | lia | omega))]
      simp [sts]
    · rw [← hlen, at_end]; rfl
  rw [hlen]
  generalize H0 ++ [LO.plc p 0, .ns d (lexA 1 st (H0.length + 2)), .list []] ++ [LO.list []] = H at hI ⊢
  refine ex_cons (x_sub (m' := lawL x ki (H0.length + 3) text) (by (run_tac Mine.subsT)) (words_for B LK T W B1 B3 PO (hr.mono (by (first | lia | omega))) hn0 I hI ht hvl hv ?_))
  intro H1 pos1 pre1 hI1 hdr1 hpl1 hpw1
  refine ex_cons (pairs_for B E R PW hr hn0 I hI1 hdr1 hpl1 hpw1 (by rw [List.length_map]; (first | lia | omega)) (fun j k hj hk => ?_) ?_)
  · rw [List.getElem_map, List.getElem_map]
    exact hP _ (List.getElem_mem _) _ (List.getElem_mem _)
  intro H2 pos pre hI2 hdr hpl hpw
  obtain ⟨f, hsc⟩ := scan_end hpl hpw
  rw [← hdr] at hsc
  refine ex_cons (x_Return ?_)
  refine ev_and ?_
  refine ev_Compare ?_
  refine ev_methI (H1 := H2) T.tok T.tkB T.tkD (hr.mono (by (first | lia | omega))) T.tkC LK.CL LK.I T.tkN tlo_tok (ev_var (by (run_tac Mine.lgtT)) ⟨rfl, rfl⟩) hI2.lex (by kernel_rfl) ?_
  (run_tac Mine.bredT)
  refine ⟨H0.length + 1, H0.length + 2, H0.length, pos, _, [], rfl, rfl, by (first | lia | omega), hI2.lex, hI2.plc, hI2.push, Nat.zero_le _, f, [], pre.length + 1, by rw [hdr] at hsc ⊢; exact hsc, Nat.zero_le _, ?_⟩
  have hI3 := hI2.tok I (k := pre.length + 1)
  have hend : text.take (pos + (pre.length + 1)) = text := by
    apply List.take_of_length_le
    have := congrArg List.length hdr
    rw [List.length_drop] at this
    (first | lia | omega)
  generalize atH H2 (H0.length + 1) H0.length (H0.length + 2) d p st text (1 + ((text.take pos).count 10 : Nat)) pos (pre.length + 1) = H3 at hI3 ⊢
  (run_tac Mine.pyyT)
  refine ev_attr ?_
  (run_tac Mine.pyyT)
  refine ga_inst LK.CL LK.I hI3.lex (by (run_tac Mine.lgtT)) LK.lineno tlo_lineno (by intro v e; cases e) ?_
  (run_tac Mine.pyyT)
  refine blt_count ?_
  (run_tac Mine.pyyT)
  rw [hend]
  have : ((1 : Int) + (text.count 10 : Nat) == (text.count 10 : Nat) + 1) = true := by rw [beq_iff_eq]; (first | lia | omega)
  rw [this]
end

/-! text C28 -/
/-- a slice of a list that stands fast -/
theorem ev_slice_base {C : Cx} {H : List LO} {m : Loc} {Q : LV → List LO → Prop} {value : PySem.Expr} {lo hi : Option PySem.Expr} {p pos : Pos} {b : Addr} {its : Array Value} {n : Nat} {zs : List Int} (hB : C.K.B b = some ⟨.type "list", none, .seq its n, #[]⟩) (hz : ∀ ρ, VRs ρ (zs.map .int) its.toList) (hl : zs.length ≤ sizeLine)
    (h : Ev C value H m fun a H1 => Prt C lo H1 m fun l H2 => Prt C hi H2 m fun u H3 => ∃ l' u', a = .const (.ref b) ∧ BndR l l' ∧ BndR u u' ∧ Q (.obj H3.length) (H3 ++ [.list (slc (zs.map .int) l' u')])) : Ev C (.Subscript value (.Slice lo hi none p) pos) H m Q := by
  refine .mk fun D ρ s hs => ?_
  refine sub_slice_list (wp_imp (h.go D ρ s hs) fun va s1 ⟨ρ1, H1, la, p1, hs1, r1, q1⟩ => wp_imp (prt_sound q1 hs1) fun vl s2 ⟨ρ2, H2, ll, p2, hs2, r2, q2⟩ => wp_imp (prt_sound q2 hs2) fun vu s3 ⟨ρ3, H3, lu, p3, hs3, r3, q3⟩ => ?_)
  obtain ⟨l', u', rfl, bl, bu, hq⟩ := q3
  cases r1
  have rv := hz ρ3
  have eo := hs3.hp.base _ _ hB
  have hln : its.size = zs.length := by have := rv.length; simpa using this
  refine ⟨b, its, l', u', rfl, ⟨_, eo, rfl, _, rfl⟩, by rw [hln]; exact hl, bl.isPart r2, bu.isPart r3, ?_⟩
  have hs4 := hs3.grow (h' := s3.heap.push { cls := Value.type "slice", data := Data.fields #[vl, vu, Value.none] }) (t := s3.toks) fun b o e => Heap.get?_push_of_some _ e
  have hsz' : (s3.heap.push { cls := Value.type "slice", data := Data.fields #[vl, vu, Value.none] }).objs.size = s3.heap.objs.size + 1 := Heap.size_push ..
  have hs5 := hs4.alloc (h' := (s3.heap.push { cls := Value.type "slice", data := Data.fields #[vl, vu, Value.none] }).push { cls := Value.type "list", data := Data.seq (slicePick its l' u' none) }) (t := s3.toks)
    (lo := .list (slc (zs.map .int) l' u')) (fun b o e => Heap.get?_push_of_some _ e) ⟨slc its.toList l' u', 0, by
      show Heap.get? _ _ = _
      rw [Heap.get?_push_size _ rfl, show its = its.toList.toArray by simp, slicePick_plain]
      simp only [List.size_toArray]
      rfl, ((rv.slc l' u').mono (List.prefix_append _ _))⟩
  refine ⟨_, _, _, pre_trans p1 (pre_trans p2 (pre_trans p3 (List.prefix_append _ _))), hs5, ?_, hq⟩
  have := hs3.hp.len
  refine .obj _ _ ?_
  rw [List.getElem?_append_right (by (first | lia | omega)), ← this]
  simp [hsz']
noncomputable def itemN (z : Int) : Nat := (z.fmod 1000000).toNat
theorem itemN_eq (z : Int) : ((itemN z : Nat) : Int) = z.fmod 1000000 := by
  unfold itemN
  rw [Int.fmod_eq_emod_of_nonneg _ (by decide)]
  have := Int.emod_nonneg z (b := 1000000) (by decide)
  (first | lia | omega)
theorem itemN_lt (z : Int) : itemN z < 1000000 := by
  have h1 := itemN_eq z
  rw [Int.fmod_eq_emod_of_nonneg _ (by decide)] at h1
  have := Int.emod_lt_of_pos z (b := 1000000) (by decide)
  (first | lia | omega)
/-- the script's first three numbers and three more -/
noncomputable def drawZ (zs : List Int) : List Int := zs.take 3 ++ [25, 10843, 128602]
noncomputable def itemsOf (zs : List Int) : List Nat := (drawZ zs).map itemN
theorem itemsOf_len (zs : List Int) : (itemsOf zs).length ≤ 6 := by unfold itemsOf drawZ; rw [List.length_map, List.length_append, List.length_take]; simp; (first | lia | omega)
theorem itemsOf_lt (zs : List Int) : ∀ v ∈ itemsOf zs, v < 1000000 := fun v hv => by
  obtain ⟨z, _, rfl⟩ := List.mem_map.mp hv
  exact itemN_lt z
noncomputable def LawOut (P : Addr) (s : Shared) : Value → Shared → Prop := fun v s' => v = .bool true ∧ s'.os = s.os ∧ s'.gens = #[] ∧ (∀ b o, b ≠ P → s.heap.get? b = some o → s'.heap.get? b = some o) ∧ ∃ ps, s'.heap.get? P = some (tabObj ps)
section
variable {K : Kit} {a : Addr} {doc pm cd ct : Value} {an : Option Addr}
theorem items_st {A : Around} {L : Addr} {sc : Addr} {its : Array Value} {n : Nat} {zs : List Int} (hA : A.handled = none) (hB : K.B sc = some ⟨.type "list", none, .seq its n, #[]⟩) (hz : ∀ ρ, VRs ρ (zs.map .int) its.toList) (hl : zs.length ≤ 1000) :
    X ⟨K, A, callEnvC (fd0 19 doc pm cd ct an) L a, 0⟩ (((bodyOf (st1 19))[0]?).getD default) [] [("script", .const (.ref sc))]
      (fun lf H1 m1 => lf = .next ∧ ∃ ki, H1[ki]? = some (.list (intL (itemsOf zs))) ∧ m1 = ([("script", .const (.ref sc)), ("items", .obj ki)] : Loc)) := by
  have hsz : sizeLine = 16777216 := rfl
  refine x_assignComp1 ⟨hA, rfl, by decide, by decide, by kernel_rfl, fun _ => rfl⟩ ?_
  refine ev_BinOp ?_
  refine ev_slice_base hB hz (by (first | lia | omega)) ?_
  (run_tac Mine.pyyT)
  refine ⟨none, some (3 : Nat), rfl, .none, .int _, ?_⟩
  rw [slc_upto]
  (run_tac Mine.pyyT)
  refine ⟨by decide, ?_⟩
  refine bin_add_list (app_get at_end) at_end (by rw [List.length_take, List.length_map]; simp; (first | lia | omega)) ?_
  have e : (zs.map LV.int).take 3 ++ [.int 25, .int 10843, .int 128602] = (drawZ zs).map LV.int := by unfold drawZ; simp
  rw [e]
  generalize ([] : List LO) ++ [LO.list ((zs.map LV.int).take 3)] ++ [LO.list [.int 25, .int 10843, .int 128602]] = H1
  refine ⟨[], Sub.nil _, MfOk.nil, ?_⟩
  refine over_list at_end (by simp; (first | lia | omega)) ?_
  intro L2 ac
  have hL1 : (H1 ++ [LO.list ((drawZ zs).map LV.int)])[H1.length]? = some (.list ((drawZ zs).map LV.int)) := at_end
  have hdl : (drawZ zs).length ≤ 6 := by unfold drawZ; rw [List.length_append, List.length_take]; simp; (first | lia | omega)
  generalize hH2 : H1 ++ [LO.list ((drawZ zs).map LV.int)] = H2 at hL1 ⊢
  refine ⟨fun i H' m => H' = H2 ++ [.list (intL (((drawZ zs).take i).map itemN))] ∧ m = ([] : Loc), ⟨by simp [intL], rfl⟩, ?_, ?_, ?_⟩
  · rintro i H' m ⟨rfl, rfl⟩
    exact ⟨by simp, app_get hL1⟩
  · rintro i y H' m hy ⟨rfl, rfl⟩
    dsimp only at hy
    rw [List.getElem?_map] at hy
    obtain ⟨z, hzi, rfl⟩ := Option.map_eq_some_iff.mp hy
    refine asg_set ?_
    (run_tac Mine.pyyT)
    refine bin_pow (by decide) (by decide) (by decide) ?_
    refine bin_mod (by decide) ?_
    refine ⟨_, at_end, by unfold intL; rw [List.length_map, List.length_map, List.length_take]; (first | lia | omega), ?_⟩
    refine ⟨_, _, .keep (Sub.nil _), ?_, rfl⟩
    rw [List.set_append_right _ _ (Nat.le_refl _), Nat.sub_self, List.set_cons_zero, List.take_add_one, hzi]
    have e2 : z.fmod ((10 : Int) ^ (6 : Int).toNat) = ((itemN z : Nat) : Int) := (itemN_eq z).symm
    rw [e2]
    unfold intL
    simp
  · rintro H6 m6 ⟨rfl, rfl⟩
    refine ⟨rfl, H2.length, ?_, by kernel_rfl⟩
    rw [at_end, List.length_map, List.take_length]
    rfl
end

/-! text C29 -/
theorem Blts.ext {K K' : Kit} (B : Blts K) (h1 : K'.mg = K.mg) (h2 : K'.mb = K.mb) : Blts K' := by
  obtain ⟨a, b, c, d, e, f, g⟩ := B
  exact ⟨by rw [h1, h2]; exact a, by rw [h1, h2]; exact b, by rw [h1, h2]; exact c, by rw [h1, h2]; exact d, by rw [h1, h2]; exact e, by rw [h1, h2]; exact f, by rw [h1, h2]; exact g⟩
noncomputable def Gl.ext {K K' : Kit} {nm : Str} {k : Nat} {pre : Pre} (G : Gl K nm k pre) (X : KExt K K') (h1 : K'.mg = K.mg) : Gl K' nm k pre :=
  ⟨G.a, G.o, G.fd, by rw [h1]; exact G.g, X.sub _ _ G.B, G.D, G.S.ext X⟩
/-- a method of the lexer's class -/
structure Meth (K : Kit) (mN : Str → Option Value) (nm : Str) (j : Nat) where
  a : Addr
  o : Obj
  doc : Value
  pm : Value
  cd : Value
  ct : Value
  an : Option Addr
  n : mN nm = some (.ref a)
  B : K.B a = some o
  C : o.cls = .type "function"
  D : o.data = .func (fdM j doc pm cd ct an)
  F : Fn K a (fdM j doc pm cd ct an) (bodyOf (mt1 j))
/-- all that the law reaches -/
structure LawTop (K : Kit) (c N : Addr) (mN : Str → Option Value) (cc P : Addr) (Sf : Int → Bool) (tab : Int → Option (List Nat)) where
  B : Blts K
  LT : LexTop K c N mN cc P
  page : Gl K "_law_page" 2 pre_page
  word : Gl K "_law_word" 1 pre_word
  b1 : Gl K "in_table_b1" 1 (pre_b1 Sf)
  b3 : Gl K "map_table_b3" 1 (pre_b3 tab)
  PO : PrepOk Sf tab
  root : Gl K "_law_root" 1 pre_root
  powers : Gl K "_law_powers" 1 pre_powers
  more : Gl K "_law_more" 1 pre_more
  bisl : Gl K "bisect_left" 1 pre_bisL
  insr : Gl K "insort_right" 2 pre_ins
  rc : Meth K mN "_read_char" 1
  tok : Meth K mN "get_token" 2
  push : Meth K mN "push_token" 3
  a12 : Addr
  o12 : Obj
  doc12 : Value
  pm12 : Value
  ct12 : Value
  an12 : Option Addr
  g12 : K.mg "_law_lexer" = some (.ref a12)
  B12 : K.B a12 = some o12
  D12 : o12.data = .func (fd0 12 doc12 pm12 (.ref cc) ct12 an12)
  F12 : Fn K a12 (fd0 12 doc12 pm12 (.ref cc) ct12 an12) (bodyOf (st1 12))
  a16 : Addr
  o16 : Obj
  doc16 : Value
  pm16 : Value
  cd16 : Value
  ct16 : Value
  an16 : Option Addr
  g16 : K.mg "_law_ends" = some (.ref a16)
  B16 : K.B a16 = some o16
  D16 : o16.data = .func (fd0 16 doc16 pm16 cd16 ct16 an16)
  F16 : Fn K a16 (fd0 16 doc16 pm16 cd16 ct16 an16) (bodyOf (st1 16))
section
variable {K : Kit} {a c N cc P : Addr} {doc pm cd ct : Value} {an : Option Addr} {mN : Str → Option Value} {Sf : Int → Bool} {tab : Int → Option (List Nat)}
theorem law_call (T : LawTop K c N mN cc P Sf tab) (F : Fn K a (fd0 19 doc pm cd ct an) (bodyOf (st1 19))) {A : Around} {s : Shared} {sc : Addr} {its : Array Value} {n : Nat} {zs : List Int} (r : Rm 8 A) (hp : Hp K [] [] s) (hP : s.heap.get? P = some (tabObj #[]))
    (hB : K.B sc = some ⟨.type "list", none, .seq its n, #[]⟩) (hz : ∀ ρ, VRs ρ (zs.map .int) its.toList) (hl : zs.length ≤ 1000) (hPair : ∀ v w, PairP (wOf v) (wOf w)) :
    codeAny K.M A (.call (.ref a) ⟨[.ref sc], []⟩) (RetOk (LawOut P s)) s := by
  have hsz : sizeLine = 16777216 := rfl
  refine call_rawC (k := 7) F (fun L => nodup_of (by kernel_rfl)) (cnl_of fun L => by kernel_rfl) (las := [.const (.ref sc)]) r hp ⟨.const _, trivial⟩ [("script", .const (.ref sc))] (nodup_of (by kernel_rfl)) (in_of (fun L => by kernel_rfl)) ⟨[("script", .ref sc)], by kernel_rfl, .cons _ (.const _) .nil⟩ ?_
  intro s1 hown r1 hs1
  generalize hL : s.heap.objs.size = L at hown r1 hs1 ⊢
  have hPo : P ∉ Cx.own ⟨K, A.deeper (callEnvC (fd0 19 doc pm cd ct an) L a), callEnvC (fd0 19 doc pm cd ct an) L a, 0⟩ := fun hm => by rw [hown P hm] at hP; cases hP
  refine wpAny_execs_cons (wp_imp ((items_st r1.h hB hz hl).go _ _ _ hs1) fun f s2 zz => ?_)
  obtain ⟨ρ2, H2, m2, lf, p2, hs2, r2, e1, ki, hi, e3⟩ := zz
  subst e1 e3
  cases r2
  dsimp only
  have hvl := itemsOf_len zs
  have hvlt := itemsOf_lt zs
  have hpl : (page1 (itemsOf zs)).length ≤ 42 := by have := page1_len (itemsOf zs); (first | lia | omega)
  -- text = _law_page(items)
  have hx2 : X ⟨K, A.deeper (callEnvC (fd0 19 doc pm cd ct an) L a), callEnvC (fd0 19 doc pm cd ct an) L a, 0⟩ (((bodyOf (st1 19))[1]?).getD default) H2 [("script", .const (.ref sc)), ("items", .obj ki)]
      (fun lf H1 m1 => lf = .next ∧ H1 = H2 ∧ m1 = ([("script", .const (.ref sc)), ("items", .obj ki), ("text", .str (S (page1 (itemsOf zs))))] : Loc)) := by
    refine x_set ?_
    refine ev_gl T.page (r1.mono (by (first | lia | omega))) ?_
    (run_tac Mine.pyyT)
    exact ⟨ki, itemsOf zs, rfl, rfl, hi, by (first | lia | omega), fun v hv => Nat.lt_trans (hvlt v hv) (by decide), rfl, rfl, by kernel_rfl⟩
  refine wpAny_execs_cons (wp_imp (hx2.go _ _ _ hs2) fun f s3 zz => ?_)
  obtain ⟨ρ3, H3, m3, lf, p3, hs3, r3, e1, e2, e3⟩ := zz
  subst e1 e2 e3
  cases r3
  dsimp only
  generalize ht : page1 (itemsOf zs) = text at hpl hs3 ⊢
  -- lexer = _law_lexer(text)
  have hb3 := hs3.hp.base
  obtain ⟨hgl, _, _⟩ := K.hg s3.heap hb3
  refine wpAny_execs_cons (wpAny_Assign_Name (Call_Name rfl (Calls.Name_function_global (by kernel_rfl) (by kernel_rfl) (Calls.loadGlobal_global hgl T.g12 ?_) (by kernel_rfl))) (by kernel_rfl))
  refine Calls.callWith_function (o := T.o12) (fd := fd0 12 T.doc12 T.pm12 (.ref cc) T.ct12 T.an12) (wp_imp (evalArgs_of (C := ⟨K, A.deeper (callEnvC (fd0 19 doc pm cd ct an) L a), callEnvC (fd0 19 doc pm cd ct an) L a, 0⟩) (Q := fun las H1 => las = [.str (S text)] ∧ H1 = H3) (by kernel_rfl) ?_ hs3) fun as s4 ⟨ekw, ρ4, H4, ls, p4, hs4, r4, els, eH4⟩ => ?_)
  · unfold Evs
    refine ev_var (by (run_tac Mine.lgtT)) ?_
    exact ⟨rfl, rfl⟩
  subst els eH4
  refine ⟨⟨hs4.hp.base _ _ T.B12, T.D12⟩, ?_⟩
  rw [ekw]
  obtain ⟨v4, ev4, r4⟩ := VRs.one r4
  rw [ev4]
  cases r4 with
  | str _ tk =>
  have hP4 : s4.heap.get? P = some (tabObj #[]) := hs4.old hP (by simp) hPo (T.LT.t0 P)
  have n4 : ∀ b, b ∈ ρ4 → s.heap.get? b = none := fun b hb => by
    rcases hs4.new b hb with q | q
    · cases q
    · exact q
  have hPρ4 : P ∉ ρ4 := fun hm => by rw [n4 P hm] at hP; cases hP
  refine wpAny_call (codeAny_mono (lexer_call T.LT T.F12 (by (first | lia | omega)) (r1.mono (by (first | lia | omega))) hs4.hp hP4 hPρ4) fun r s5 x5 => ?_)
  obtain ⟨v5, er, hL⟩ := RetOk.inv x5
  subst er
  obtain ⟨K', x, d, st, p, rd, ord, frd, ρ5, e5, X, emg, emb, epr, ew, II, FA, Brd, Drd, Srd, p5, hp5, n5, new5, k5, ⟨ps, hPs⟩, os5⟩ := hL
  subst e5
  dsimp only
  have hs5 := hs4.jump X p5 hp5 (fun b hb o e => k5 b o e (fun q => hPo (q ▸ hb)) (hs4.off b hb).1) n5 new5
  show wpAny K.M _ _ _ _ _
  rw [show K.M = K'.M from X.M]
  refine store_local (C := ⟨K', A.deeper (callEnvC (fd0 19 doc pm cd ct an) L a), callEnvC (fd0 19 doc pm cd ct an) L a, 0⟩) (x := "lexer") hs5 (.const (.ref x)) (fun s6 hs6 kL => ?_) (by kernel_rfl) (by kernel_rfl) (by kernel_rfl)
  have LK : LexK K' x c N d mN := ⟨T.LT.CL.ext X, II, T.LT.lineno, T.LT.instream, T.LT.whitespace, T.LT.pushback⟩
  have B' := T.B.ext emg emb
  have rcS := rc_spec LK FA Brd Drd Srd (T.rc.F.ext X)
  have tokS := tok_spec B' LK T.rc.n (X.sub _ _ T.rc.B) T.rc.C T.rc.D rcS (T.tok.F.ext X)
  have pushS : FnSpec K' (.ref T.push.a) 1 [] (pre_push x d st) := push_spec LK (T.push.F.ext X)
  have TK : TokK K' text x d st p mN := ⟨T.tok.a, T.tok.o, _, tokS, T.tok.n, X.sub _ _ T.tok.B, T.tok.C, T.tok.D⟩
  have G1 := T.more.ext X emg
  have G2 := T.bisl.ext X emg
  have G3 := T.insr.ext X emg
  have EK : EndsK K' x c N d st mN := ⟨LK, G1.a, G1.o, G1.fd, G1.S, G1.g, G1.B, G1.D, G2.a, G2.o, G2.fd, G2.S, G2.g, G2.B, G2.D, G3.a, G3.o, G3.fd, G3.S, G3.g, G3.B, G3.D, T.push.a, T.push.o, _, pushS, T.push.n, X.sub _ _ T.push.B, T.push.C, T.push.D⟩
  have endS := ends_spec B' EK TK (T.F16.ext X)
  have GE : Gl K' "_law_ends" 5 (pre_ends text x d st p) := ⟨T.a16, T.o16, _, by rw [emg]; exact T.g16, X.sub _ _ T.B16, T.D16, endS⟩
  have hi3 := hi
  refine wp_imp ((ex_sub (m' := [("items", .obj ki), ("text", .str (S text)), ("lexer", .const (.ref x))]) (by (run_tac Mine.subsT)) (law_rest (n0 := 0) (L := L) (a := a) (doc := doc) (pm := pm) (cd := cd) (ct := ct) (an := an) (A := A.deeper (callEnvC (fd0 19 doc pm cd ct an) L a)) B' LK TK (T.word.ext X emg) (T.b1.ext X emg) (T.b3.ext X emg) T.PO GE (T.root.ext X emg) (T.powers.ext X emg)
    (r1.mono (by (first | lia | omega))) (Nat.zero_le _) hi3 ht.symm (by (first | lia | omega)) (fun v hv => Nat.lt_trans (hvlt v hv) (by decide)) (fun v _ w _ => hPair v w))).go _ _ _ hs6) fun f s7 ⟨ρ7, H7, m7, lf, p7, hs7, r7, elf⟩ => ?_
  subst elf
  cases r7 with
  | ret r7 =>
  cases r7
  have own' : ∀ b o, s.heap.get? b = some o → b ∉ Cx.own ⟨K, A.deeper (callEnvC (fd0 19 doc pm cd ct an) L a), callEnvC (fd0 19 doc pm cd ct an) L a, 0⟩ := fun b o e hm => by rw [hown b hm] at e; cases e
  have ρ5n : ∀ b, b ∈ ρ5 → s4.heap.get? b = none ∨ b ∈ ρ4 := fun b hb => (n5 b hb).symm
  refine ⟨rfl, hs7.kp.os.trans (os5.trans hs4.kp.os), hs7.hp.gens, fun b o hbP e => ?_, ps, ?_⟩
  · have e4 := hs4.old e (by simp) (own' b o e) (T.LT.t0 b)
    have hb4 : b ∉ ρ4 := fun hm => by rw [n4 b hm] at e; cases e
    have e5 := k5 b o e4 hbP hb4
    refine hs7.old e5 (fun hm => ?_) (own' b o e) (X.t1 b)
    rcases ρ5n b hm with q | q
    · rw [q] at e4; cases e4
    · exact hb4 q
  · refine hs7.old hPs (fun hm => ?_) hPo (X.t1 P)
    rcases ρ5n P hm with q | q
    · rw [q] at hP4; cases hP4
    · exact hPρ4 q
end

/-! text L3 -/
noncomputable def wordsL : List (List Nat) := [[], [102], [105], [102, 102], [102, 105], [102, 102, 105], [102, 102, 102], [102, 102, 102, 105], [105, 102], [105, 105], [105, 102, 102], [105, 102, 105], [105, 102, 102, 105], [102, 102, 102, 102], [102, 102, 102, 102, 105], [102, 105, 102], [102, 105, 105], [102, 105, 102, 102], [102, 105, 102, 105], [102, 105, 102, 102, 105], [102, 102, 105, 102], [102, 102, 105, 105], [102, 102, 105, 102, 102], [102, 102, 105, 102, 105], [102, 102, 105, 102, 102, 105], [102, 102, 102, 102, 102], [102, 102, 102, 102, 102, 105], [102, 102, 102, 105, 102], [102, 102, 102, 105, 105], [102, 102, 102, 105, 102, 102], [102, 102, 102, 105, 102, 105], [102, 102, 102, 105, 102, 102, 105], [105, 102, 102, 102], [105, 102, 102, 102, 105], [105, 105, 102], [105, 105, 105], [105, 105, 102, 102], [105, 105, 102, 105], [105, 105, 102, 102, 105], [105, 102, 102, 102, 102], [105, 102, 102, 102, 102, 105], [105, 102, 105, 102], [105, 102, 105, 105], [105, 102, 105, 102, 102], [105, 102, 105, 102, 105], [105, 102, 105, 102, 102, 105], [105, 102, 102, 105, 102], [105, 102, 102, 105, 105], [105, 102, 102, 105, 102, 102], [105, 102, 102, 105, 102, 105], [105, 102, 102, 105, 102, 102, 105], [102, 102, 102, 102, 102, 102], [102, 102, 102, 102, 102, 102, 105], [102, 102, 102, 102, 105, 102], [102, 102, 102, 102, 105, 105], [102, 102, 102, 102, 105, 102, 102], [102, 102, 102, 102, 105, 102, 105], [102, 102, 102, 102, 105, 102, 102, 105], [102, 105, 102, 102, 102], [102, 105, 102, 102, 102, 105], [102, 105, 105, 102], [102, 105, 105, 105], [102, 105, 105, 102, 102], [102, 105, 105, 102, 105], [102, 105, 105, 102, 102, 105], [102, 105, 102, 102, 102, 102], [102, 105, 102, 102, 102, 102, 105], [102, 105, 102, 105, 102], [102, 105, 102, 105, 105], [102, 105, 102, 105, 102, 102], [102, 105, 102, 105, 102, 105], [102, 105, 102, 105, 102, 102, 105], [102, 105, 102, 102, 105, 102], [102, 105, 102, 102, 105, 105], [102, 105, 102, 102, 105, 102, 102], [102, 105, 102, 102, 105, 102, 105], [102, 105, 102, 102, 105, 102, 102, 105], [102, 102, 105, 102, 102, 102], [102, 102, 105, 102, 102, 102, 105], [102, 102, 105, 105, 102], [102, 102, 105, 105, 105], [102, 102, 105, 105, 102, 102], [102, 102, 105, 105, 102, 105], [102, 102, 105, 105, 102, 102, 105], [102, 102, 105, 102, 102, 102, 102], [102, 102, 105, 102, 102, 102, 102, 105], [102, 102, 105, 102, 105, 102], [102, 102, 105, 102, 105, 105], [102, 102, 105, 102, 105, 102, 102], [102, 102, 105, 102, 105, 102, 105], [102, 102, 105, 102, 105, 102, 102, 105], [102, 102, 105, 102, 102, 105, 102], [102, 102, 105, 102, 102, 105, 105], [102, 102, 105, 102, 102, 105, 102, 102], [102, 102, 105, 102, 102, 105, 102, 105], [102, 102, 105, 102, 102, 105, 102, 102, 105]]
noncomputable def rowOk (a : List Nat) : Bool := wordsL.all fun b => pairOk a b
theorem rows0 : ([[], [102], [105], [102, 102], [102, 105], [102, 102, 105], [102, 102, 102], [102, 102, 102, 105]] : List (List Nat)).all rowOk = true := by decide +kernel
theorem rows1 : ([[105, 102], [105, 105], [105, 102, 102], [105, 102, 105], [105, 102, 102, 105], [102, 102, 102, 102], [102, 102, 102, 102, 105], [102, 105, 102]] : List (List Nat)).all rowOk = true := by decide +kernel
theorem rows2 : ([[102, 105, 105], [102, 105, 102, 102], [102, 105, 102, 105], [102, 105, 102, 102, 105], [102, 102, 105, 102], [102, 102, 105, 105], [102, 102, 105, 102, 102], [102, 102, 105, 102, 105]] : List (List Nat)).all rowOk = true := by decide +kernel
theorem rows3 : ([[102, 102, 105, 102, 102, 105], [102, 102, 102, 102, 102], [102, 102, 102, 102, 102, 105], [102, 102, 102, 105, 102], [102, 102, 102, 105, 105], [102, 102, 102, 105, 102, 102], [102, 102, 102, 105, 102, 105], [102, 102, 102, 105, 102, 102, 105]] : List (List Nat)).all rowOk = true := by decide +kernel
theorem rows4 : ([[105, 102, 102, 102], [105, 102, 102, 102, 105], [105, 105, 102], [105, 105, 105], [105, 105, 102, 102], [105, 105, 102, 105], [105, 105, 102, 102, 105], [105, 102, 102, 102, 102]] : List (List Nat)).all rowOk = true := by decide +kernel
theorem rows5 : ([[105, 102, 102, 102, 102, 105], [105, 102, 105, 102], [105, 102, 105, 105], [105, 102, 105, 102, 102], [105, 102, 105, 102, 105], [105, 102, 105, 102, 102, 105], [105, 102, 102, 105, 102], [105, 102, 102, 105, 105]] : List (List Nat)).all rowOk = true := by decide +kernel
theorem rows6 : ([[105, 102, 102, 105, 102, 102], [105, 102, 102, 105, 102, 105], [105, 102, 102, 105, 102, 102, 105], [102, 102, 102, 102, 102, 102], [102, 102, 102, 102, 102, 102, 105], [102, 102, 102, 102, 105, 102], [102, 102, 102, 102, 105, 105], [102, 102, 102, 102, 105, 102, 102]] : List (List Nat)).all rowOk = true := by decide +kernel
theorem rows7 : ([[102, 102, 102, 102, 105, 102, 105], [102, 102, 102, 102, 105, 102, 102, 105], [102, 105, 102, 102, 102], [102, 105, 102, 102, 102, 105], [102, 105, 105, 102], [102, 105, 105, 105], [102, 105, 105, 102, 102], [102, 105, 105, 102, 105]] : List (List Nat)).all rowOk = true := by decide +kernel
theorem rows8 : ([[102, 105, 105, 102, 102, 105], [102, 105, 102, 102, 102, 102], [102, 105, 102, 102, 102, 102, 105], [102, 105, 102, 105, 102], [102, 105, 102, 105, 105], [102, 105, 102, 105, 102, 102], [102, 105, 102, 105, 102, 105], [102, 105, 102, 105, 102, 102, 105]] : List (List Nat)).all rowOk = true := by decide +kernel
theorem rows9 : ([[102, 105, 102, 102, 105, 102], [102, 105, 102, 102, 105, 105], [102, 105, 102, 102, 105, 102, 102], [102, 105, 102, 102, 105, 102, 105], [102, 105, 102, 102, 105, 102, 102, 105], [102, 102, 105, 102, 102, 102], [102, 102, 105, 102, 102, 102, 105], [102, 102, 105, 105, 102]] : List (List Nat)).all rowOk = true := by decide +kernel
theorem rows10 : ([[102, 102, 105, 105, 105], [102, 102, 105, 105, 102, 102], [102, 102, 105, 105, 102, 105], [102, 102, 105, 105, 102, 102, 105], [102, 102, 105, 102, 102, 102, 102], [102, 102, 105, 102, 102, 102, 102, 105], [102, 102, 105, 102, 105, 102], [102, 102, 105, 102, 105, 105]] : List (List Nat)).all rowOk = true := by decide +kernel
theorem rows11 : ([[102, 102, 105, 102, 105, 102, 102], [102, 102, 105, 102, 105, 102, 105], [102, 102, 105, 102, 105, 102, 102, 105], [102, 102, 105, 102, 102, 105, 102], [102, 102, 105, 102, 102, 105, 105], [102, 102, 105, 102, 102, 105, 102, 102], [102, 102, 105, 102, 102, 105, 102, 105], [102, 102, 105, 102, 102, 105, 102, 102, 105]] : List (List Nat)).all rowOk = true := by decide +kernel
theorem wordsL_cut : wordsL = ([[], [102], [105], [102, 102], [102, 105], [102, 102, 105], [102, 102, 102], [102, 102, 102, 105]] : List (List Nat)) ++ (([[105, 102], [105, 105], [105, 102, 102], [105, 102, 105], [105, 102, 102, 105], [102, 102, 102, 102], [102, 102, 102, 102, 105], [102, 105, 102]] : List (List Nat)) ++ (([[102, 105, 105], [102, 105, 102, 102], [102, 105, 102, 105], [102, 105, 102, 102, 105], [102, 102, 105, 102], [102, 102, 105, 105], [102, 102, 105, 102, 102], [102, 102, 105, 102, 105]] : List (List Nat)) ++ (([[102, 102, 105, 102, 102, 105], [102, 102, 102, 102, 102], [102, 102, 102, 102, 102, 105], [102, 102, 102, 105, 102], [102, 102, 102, 105, 105], [102, 102, 102, 105, 102, 102], [102, 102, 102, 105, 102, 105], [102, 102, 102, 105, 102, 102, 105]] : List (List Nat)) ++ (([[105, 102, 102, 102], [105, 102, 102, 102, 105], [105, 105, 102], [105, 105, 105], [105, 105, 102, 102], [105, 105, 102, 105], [105, 105, 102, 102, 105], [105, 102, 102, 102, 102]] : List (List Nat)) ++ (([[105, 102, 102, 102, 102, 105], [105, 102, 105, 102], [105, 102, 105, 105], [105, 102, 105, 102, 102], [105, 102, 105, 102, 105], [105, 102, 105, 102, 102, 105], [105, 102, 102, 105, 102], [105, 102, 102, 105, 105]] : List (List Nat)) ++ (([[105, 102, 102, 105, 102, 102], [105, 102, 102, 105, 102, 105], [105, 102, 102, 105, 102, 102, 105], [102, 102, 102, 102, 102, 102], [102, 102, 102, 102, 102, 102, 105], [102, 102, 102, 102, 105, 102], [102, 102, 102, 102, 105, 105], [102, 102, 102, 102, 105, 102, 102]] : List (List Nat)) ++ (([[102, 102, 102, 102, 105, 102, 105], [102, 102, 102, 102, 105, 102, 102, 105], [102, 105, 102, 102, 102], [102, 105, 102, 102, 102, 105], [102, 105, 105, 102], [102, 105, 105, 105], [102, 105, 105, 102, 102], [102, 105, 105, 102, 105]] : List (List Nat)) ++ (([[102, 105, 105, 102, 102, 105], [102, 105, 102, 102, 102, 102], [102, 105, 102, 102, 102, 102, 105], [102, 105, 102, 105, 102], [102, 105, 102, 105, 105], [102, 105, 102, 105, 102, 102], [102, 105, 102, 105, 102, 105], [102, 105, 102, 105, 102, 102, 105]] : List (List Nat)) ++ (([[102, 105, 102, 102, 105, 102], [102, 105, 102, 102, 105, 105], [102, 105, 102, 102, 105, 102, 102], [102, 105, 102, 102, 105, 102, 105], [102, 105, 102, 102, 105, 102, 102, 105], [102, 102, 105, 102, 102, 102], [102, 102, 105, 102, 102, 102, 105], [102, 102, 105, 105, 102]] : List (List Nat)) ++ (([[102, 102, 105, 105, 105], [102, 102, 105, 105, 102, 102], [102, 102, 105, 105, 102, 105], [102, 102, 105, 105, 102, 102, 105], [102, 102, 105, 102, 102, 102, 102], [102, 102, 105, 102, 102, 102, 102, 105], [102, 102, 105, 102, 105, 102], [102, 102, 105, 102, 105, 105]] : List (List Nat)) ++ (([[102, 102, 105, 102, 105, 102, 102], [102, 102, 105, 102, 105, 102, 105], [102, 102, 105, 102, 105, 102, 102, 105], [102, 102, 105, 102, 102, 105, 102], [102, 102, 105, 102, 102, 105, 105], [102, 102, 105, 102, 102, 105, 102, 102], [102, 102, 105, 102, 102, 105, 102, 105], [102, 102, 105, 102, 102, 105, 102, 102, 105]] : List (List Nat))))))))))))) := rfl
theorem rows_all : wordsL.all rowOk = true := by
  rw [wordsL_cut]
  simp only [List.all_append, Bool.and_eq_true]
  exact ⟨rows0, ⟨rows1, ⟨rows2, ⟨rows3, ⟨rows4, ⟨rows5, ⟨rows6, ⟨rows7, ⟨rows8, ⟨rows9, ⟨rows10, rows11⟩⟩⟩⟩⟩⟩⟩⟩⟩⟩⟩
theorem sortedB_pw : ∀ {l : List (List Nat)}, sortedB l = true → l.Pairwise (· ≤ ·)
  | [], _ => .nil
  | [a], _ => by simp
  | a :: b :: r, h => by
    unfold sortedB at h
    rw [Bool.and_eq_true] at h
    have ih := sortedB_pw h.2
    have hab : a ≤ b := by
      have := h.1
      simp only [Bool.not_eq_true', decide_eq_false_iff_not] at this
      exact List.not_lt.mp this
    refine List.pairwise_cons.mpr ⟨fun z hz => ?_, ih⟩
    rcases List.mem_cons.mp hz with rfl | hz
    · exact hab
    · exact List.le_trans hab ((List.pairwise_cons.mp ih).1 z hz)
theorem pairP_of {a b : List Nat} (ha : a.length ≤ 4000) (hb : b.length ≤ 4000) (h : pairOk a b = true) : PairP a b := by
  unfold pairOk at h
  cases he : ends a b with
  | none => rw [he] at h; cases h
  | some R =>
    rw [he] at h
    simp only [Bool.and_eq_true, decide_eq_true_eq] at h
    refine ⟨ha, hb, R, he, h.1, ?_⟩
    have h2 := h.2
    split at h2
    · rename_i hc
      rw [if_pos hc]
      exact beq_iff_eq.mp h2
    · rename_i hc
      rw [if_neg hc]
      simp only [Bool.and_eq_true, Bool.not_eq_true', beq_iff_eq, bne_iff_ne] at h2
      obtain ⟨⟨⟨c1, c2⟩, c3⟩, c4⟩ := h2
      exact ⟨by simpa using c1, sortedB_pw c2, c3, c4⟩
noncomputable def partsL : List (List Nat) := [[], [102], [105], [102, 102], [102, 105], [102, 102, 105]]
theorem three_in : ∀ a ∈ partsL, ∀ b ∈ partsL, ∀ c ∈ partsL, a ++ (b ++ c) ∈ wordsL := by decide +kernel
theorem wordsL_len : ∀ a ∈ wordsL, a.length ≤ 9 := by decide +kernel
theorem meantT_in (i : Nat) : meantT i ∈ partsL := by unfold meantT; split <;> decide
theorem wOf_in (v : Nat) : wOf v ∈ wordsL := by
  have hn : ([] : List Nat) ∈ partsL := by decide
  have key : ∀ (l : List Nat), l.length ≤ 3 → (l.map meantT).flatten ∈ wordsL := fun l hl => by
    match l, hl with
    | [], _ => exact three_in [] hn [] hn [] hn
    | [a], _ => simpa using three_in _ (meantT_in a) [] hn [] hn
    | [a, b], _ => simpa using three_in _ (meantT_in a) _ (meantT_in b) [] hn
    | [a, b, c], _ => simpa using three_in _ (meantT_in a) _ (meantT_in b) _ (meantT_in c)
    | a :: b :: c :: d :: l, h => exact absurd h (by simp)
  unfold wOf meant1
  exact key _ (by unfold ixs; rw [List.length_take]; simp; omega)
theorem all_pairs (v w : Nat) : PairP (wOf v) (wOf w) := by
  have h1 := wOf_in v
  have h2 := wOf_in w
  have h3 := List.all_eq_true.mp rows_all _ h1
  have h4 := List.all_eq_true.mp h3 _ h2
  exact pairP_of (by have := wordsL_len _ h1; omega) (by have := wordsL_len _ h2; omega) h4

/-! text H1 -/
noncomputable section
noncomputable def o111 (b : Bool) (P : Params) : Obj := Obj.mk (Value.type "tuple") none (Data.seq ⟨[]⟩ 0) ⟨[]⟩
noncomputable def o112 (b : Bool) (P : Params) : Obj := Obj.mk Value.none none (Data.fields ⟨[]⟩) ⟨[]⟩
noncomputable def o113 (b : Bool) (P : Params) : Obj := Obj.mk (Value.type "code") none (Data.fields ⟨[(Value.str (Str.ofString "<module>") 182), (Value.str (Str.ofString "<module>") 183), (Value.str (Str.ofString "/claim/cut.py") 184), (Value.int (1) 0), (Value.int (0) 0), (Value.int (0) 0), (Value.int (0) 0), (Value.int (0) 0), (Value.ref 11), (Value.bool false), (Value.int (181) 0), (Value.ref 12), Value.none, Value.none, Value.none, Value.none, (Value.int (185) 0), (Value.int (1) 0), (Value.str (Str.ofString "/claim/cut.py") 186)]⟩) ⟨[]⟩
noncomputable def o114 (b : Bool) (P : Params) : Obj := Obj.mk (Value.type "frame") none Data.plain ⟨[(some (Value.ref 13)), (some (Value.ref 3)), (some (Value.ref 3)), none, (some (Value.str (Str.ofString "__main__") 164)), none, (some (Value.ref 0))]⟩
noncomputable def objs1 (b : Bool) (P : Params) (X : Nat → Obj) : List Obj := [boot_o_0 P, boot_o_1 P, boot_o_2 P, boot_o_3 P, boot_o_4 P, boot_o_5 P, boot_o_6 P, boot_o_7 P, boot_o_8 P, boot_o_9 P, boot_o_10 P, o111 b P, o112 b P, o113 b P, o114 b P]
-- toks 187 gens 0
noncomputable def op0_3 (b : Bool) (P : Params) : Obj := Obj.mk (Value.type "dict") none (Data.dict ⟨[⟨PyData.keyHash P (Str.ofString "__name__"), (Value.str (Str.ofString "__name__") 165), (Value.str (Str.ofString "cpy313.bisect") 187)⟩, ⟨PyData.keyHash P (Str.ofString "__doc__"), (Value.str (Str.ofString "__doc__") 166), Value.none⟩, ⟨PyData.keyHash P (Str.ofString "__package__"), (Value.str (Str.ofString "__package__") 167), Value.none⟩, ⟨PyData.keyHash P (Str.ofString "__loader__"), (Value.str (Str.ofString "__loader__") 168), (Value.builtin "__main__.__loader__#opaque")⟩, ⟨PyData.keyHash P (Str.ofString "__spec__"), (Value.str (Str.ofString "__spec__") 169), Value.none⟩, ⟨PyData.keyHash P (Str.ofString "__annotations__"), (Value.str (Str.ofString "__annotations__") 170), (Value.ref 6)⟩, ⟨PyData.keyHash P (Str.ofString "__builtins__"), (Value.str (Str.ofString "__builtins__") 171), (Value.ref 4)⟩, ⟨PyData.keyHash P (Str.ofString "__file__"), (Value.str (Str.ofString "__file__") 173), (Value.str (Str.ofString "/claim/cut.py") 172)⟩, ⟨PyData.keyHash P (Str.ofString "__cached__"), (Value.str (Str.ofString "__cached__") 174), Value.none⟩]⟩ 9) ⟨[]⟩
noncomputable def objsp0_ (b : Bool) (P : Params) (X : Nat → Obj) : List Obj := [boot_o_0 P, boot_o_1 P, boot_o_2 P, op0_3 b P, boot_o_4 P, boot_o_5 P, boot_o_6 P, boot_o_7 P, boot_o_8 P, boot_o_9 P, boot_o_10 P, o111 b P, o112 b P, o113 b P, o114 b P]
-- toks 189 gens 0
noncomputable def op1_3 (b : Bool) (P : Params) : Obj := Obj.mk (Value.type "dict") none (Data.dict ⟨[⟨PyData.keyHash P (Str.ofString "__name__"), (Value.str (Str.ofString "__name__") 165), (Value.str (Str.ofString "cpy313.bisect") 187)⟩, ⟨PyData.keyHash P (Str.ofString "__doc__"), (Value.str (Str.ofString "__doc__") 166), Value.none⟩, ⟨PyData.keyHash P (Str.ofString "__package__"), (Value.str (Str.ofString "__package__") 167), Value.none⟩, ⟨PyData.keyHash P (Str.ofString "__loader__"), (Value.str (Str.ofString "__loader__") 168), (Value.builtin "__main__.__loader__#opaque")⟩, ⟨PyData.keyHash P (Str.ofString "__spec__"), (Value.str (Str.ofString "__spec__") 169), Value.none⟩, ⟨PyData.keyHash P (Str.ofString "__annotations__"), (Value.str (Str.ofString "__annotations__") 170), (Value.ref 6)⟩, ⟨PyData.keyHash P (Str.ofString "__builtins__"), (Value.str (Str.ofString "__builtins__") 171), (Value.ref 4)⟩, ⟨PyData.keyHash P (Str.ofString "__file__"), (Value.str (Str.ofString "__file__") 173), (Value.str (Str.ofString "/claim/cut.py") 172)⟩, ⟨PyData.keyHash P (Str.ofString "__cached__"), (Value.str (Str.ofString "__cached__") 174), Value.none⟩, ⟨PyData.keyHash P (Str.ofString "insort_right"), (Value.str (Str.ofString "insort_right") 201), (Value.ref 23)⟩]⟩ 10) ⟨[]⟩
noncomputable def op1_12 (b : Bool) (P : Params) : Obj := Obj.mk Value.none none (Data.fields ⟨[(Value.int (2) 0), (Value.int (0) 0), (Value.ref 22)]⟩) ⟨[]⟩
noncomputable def op1_15 (b : Bool) (P : Params) : Obj := Obj.mk (Value.type "tuple") none (Data.seq ⟨[(Value.int (0) 189), Value.none]⟩ 0) ⟨[]⟩
noncomputable def op1_16 (b : Bool) (P : Params) : Obj := Obj.mk (Value.type "dict") none (Data.dict ⟨[⟨PyData.keyHash P (Str.ofString "key"), (Value.str (Str.ofString "key") 190), Value.none⟩]⟩ 1) ⟨[]⟩
noncomputable def op1_17 (b : Bool) (P : Params) : Obj := Obj.mk (Value.type "tuple") none (Data.seq ⟨[]⟩ 0) ⟨[]⟩
noncomputable def op1_18 (b : Bool) (P : Params) : Obj := Obj.mk Value.none none (Data.fields ⟨[]⟩) ⟨[]⟩
noncomputable def op1_19 (b : Bool) (P : Params) : Obj := Obj.mk (Value.type "tuple") none (Data.seq ⟨[(Value.str (Str.ofString "a") 194), (Value.str (Str.ofString "x") 195), (Value.str (Str.ofString "lo") 196), (Value.str (Str.ofString "hi") 197), (Value.str (Str.ofString "key") 198)]⟩ 0) ⟨[]⟩
noncomputable def op1_20 (b : Bool) (P : Params) : Obj := Obj.mk (Value.type "tuple") none (Data.seq ⟨[]⟩ 0) ⟨[]⟩
noncomputable def op1_21 (b : Bool) (P : Params) : Obj := Obj.mk Value.none none (Data.func ⟨(Str.ofString "insort_right"), (Str.ofString "insort_right"), prmOf (st1 1), .stmts (bodyOf (st1 1)), scpOf (st1 1), 0, [], Value.none, Value.none, Value.none, Value.none, none, Value.none, Value.none, 0⟩) ⟨[]⟩
noncomputable def op1_22 (b : Bool) (P : Params) : Obj := Obj.mk (Value.type "code") none (Data.fields ⟨[(Value.str (Str.ofString "insort_right") 191), (Value.str (Str.ofString "insort_right") 192), (Value.str (Str.ofString "/claim/cut.py") 193), (Value.int (2) 0), (Value.int (4) 0), (Value.int (0) 0), (Value.int (1) 0), (Value.int (3) 0), (Value.ref 17), (Value.bool true), (Value.int (181) 0), (Value.ref 18), Value.none, (Value.ref 19), (Value.ref 20), (Value.ref 21), (Value.int (199) 0), (Value.int (2) 0), (Value.str (Str.ofString "/claim/cut.py") 200)]⟩) ⟨[]⟩
noncomputable def op1_23 (b : Bool) (P : Params) : Obj := Obj.mk (Value.type "function") none (Data.func ⟨(Str.ofString "insort_right"), (Str.ofString "insort_right"), prmOf (st1 1), .stmts (bodyOf (st1 1)), scpOf (st1 1), 3, [], (Value.ref 15), (Value.ref 16), Value.none, (Value.str (Str.ofString "cpy313.bisect") 187), none, (Value.ref 22), Value.none, 0⟩) ⟨[]⟩
noncomputable def objsp1_ (b : Bool) (P : Params) (X : Nat → Obj) : List Obj := [boot_o_0 P, boot_o_1 P, boot_o_2 P, op1_3 b P, boot_o_4 P, boot_o_5 P, boot_o_6 P, boot_o_7 P, boot_o_8 P, boot_o_9 P, boot_o_10 P, o111 b P, op1_12 b P, o113 b P, o114 b P, op1_15 b P, op1_16 b P, op1_17 b P, op1_18 b P, op1_19 b P, op1_20 b P, op1_21 b P, op1_22 b P, op1_23 b P]
-- toks 202 gens 0
noncomputable def op2_3 (b : Bool) (P : Params) : Obj := Obj.mk (Value.type "dict") none (Data.dict ⟨[⟨PyData.keyHash P (Str.ofString "__name__"), (Value.str (Str.ofString "__name__") 165), (Value.str (Str.ofString "cpy313.bisect") 187)⟩, ⟨PyData.keyHash P (Str.ofString "__doc__"), (Value.str (Str.ofString "__doc__") 166), Value.none⟩, ⟨PyData.keyHash P (Str.ofString "__package__"), (Value.str (Str.ofString "__package__") 167), Value.none⟩, ⟨PyData.keyHash P (Str.ofString "__loader__"), (Value.str (Str.ofString "__loader__") 168), (Value.builtin "__main__.__loader__#opaque")⟩, ⟨PyData.keyHash P (Str.ofString "__spec__"), (Value.str (Str.ofString "__spec__") 169), Value.none⟩, ⟨PyData.keyHash P (Str.ofString "__annotations__"), (Value.str (Str.ofString "__annotations__") 170), (Value.ref 6)⟩, ⟨PyData.keyHash P (Str.ofString "__builtins__"), (Value.str (Str.ofString "__builtins__") 171), (Value.ref 4)⟩, ⟨PyData.keyHash P (Str.ofString "__file__"), (Value.str (Str.ofString "__file__") 173), (Value.str (Str.ofString "/claim/cut.py") 172)⟩, ⟨PyData.keyHash P (Str.ofString "__cached__"), (Value.str (Str.ofString "__cached__") 174), Value.none⟩, ⟨PyData.keyHash P (Str.ofString "insort_right"), (Value.str (Str.ofString "insort_right") 201), (Value.ref 23)⟩, ⟨PyData.keyHash P (Str.ofString "bisect_right"), (Value.str (Str.ofString "bisect_right") 215), (Value.ref 32)⟩]⟩ 11) ⟨[]⟩
noncomputable def op2_12 (b : Bool) (P : Params) : Obj := Obj.mk Value.none none (Data.fields ⟨[(Value.int (2) 0), (Value.int (0) 0), (Value.ref 22), (Value.int (8) 0), (Value.int (0) 0), (Value.ref 31)]⟩) ⟨[]⟩
noncomputable def op2_24 (b : Bool) (P : Params) : Obj := Obj.mk (Value.type "tuple") none (Data.seq ⟨[(Value.int (0) 202), Value.none]⟩ 0) ⟨[]⟩
noncomputable def op2_25 (b : Bool) (P : Params) : Obj := Obj.mk (Value.type "dict") none (Data.dict ⟨[⟨PyData.keyHash P (Str.ofString "key"), (Value.str (Str.ofString "key") 203), Value.none⟩]⟩ 1) ⟨[]⟩
noncomputable def op2_26 (b : Bool) (P : Params) : Obj := Obj.mk (Value.type "tuple") none (Data.seq ⟨[]⟩ 0) ⟨[]⟩
noncomputable def op2_27 (b : Bool) (P : Params) : Obj := Obj.mk Value.none none (Data.fields ⟨[]⟩) ⟨[]⟩
noncomputable def op2_28 (b : Bool) (P : Params) : Obj := Obj.mk (Value.type "tuple") none (Data.seq ⟨[(Value.str (Str.ofString "a") 207), (Value.str (Str.ofString "x") 208), (Value.str (Str.ofString "lo") 209), (Value.str (Str.ofString "hi") 210), (Value.str (Str.ofString "key") 211), (Value.str (Str.ofString "mid") 212)]⟩ 0) ⟨[]⟩
noncomputable def op2_29 (b : Bool) (P : Params) : Obj := Obj.mk (Value.type "tuple") none (Data.seq ⟨[]⟩ 0) ⟨[]⟩
noncomputable def op2_30 (b : Bool) (P : Params) : Obj := Obj.mk Value.none none (Data.func ⟨(Str.ofString "bisect_right"), (Str.ofString "bisect_right"), prmOf (st1 2), .stmts (bodyOf (st1 2)), scpOf (st1 2), 0, [], Value.none, Value.none, Value.none, Value.none, none, Value.none, Value.none, 0⟩) ⟨[]⟩
noncomputable def op2_31 (b : Bool) (P : Params) : Obj := Obj.mk (Value.type "code") none (Data.fields ⟨[(Value.str (Str.ofString "bisect_right") 204), (Value.str (Str.ofString "bisect_right") 205), (Value.str (Str.ofString "/claim/cut.py") 206), (Value.int (8) 0), (Value.int (4) 0), (Value.int (0) 0), (Value.int (1) 0), (Value.int (3) 0), (Value.ref 26), (Value.bool true), (Value.int (181) 0), (Value.ref 27), Value.none, (Value.ref 28), (Value.ref 29), (Value.ref 30), (Value.int (213) 0), (Value.int (8) 0), (Value.str (Str.ofString "/claim/cut.py") 214)]⟩) ⟨[]⟩
noncomputable def op2_32 (b : Bool) (P : Params) : Obj := Obj.mk (Value.type "function") none (Data.func ⟨(Str.ofString "bisect_right"), (Str.ofString "bisect_right"), prmOf (st1 2), .stmts (bodyOf (st1 2)), scpOf (st1 2), 3, [], (Value.ref 24), (Value.ref 25), Value.none, (Value.str (Str.ofString "cpy313.bisect") 187), none, (Value.ref 31), Value.none, 0⟩) ⟨[]⟩
noncomputable def objsp2_ (b : Bool) (P : Params) (X : Nat → Obj) : List Obj := [boot_o_0 P, boot_o_1 P, boot_o_2 P, op2_3 b P, boot_o_4 P, boot_o_5 P, boot_o_6 P, boot_o_7 P, boot_o_8 P, boot_o_9 P, boot_o_10 P, o111 b P, op2_12 b P, o113 b P, o114 b P, op1_15 b P, op1_16 b P, op1_17 b P, op1_18 b P, op1_19 b P, op1_20 b P, op1_21 b P, op1_22 b P, op1_23 b P, op2_24 b P, op2_25 b P, op2_26 b P, op2_27 b P, op2_28 b P, op2_29 b P, op2_30 b P, op2_31 b P, op2_32 b P]
-- toks 216 gens 0
noncomputable def op3_3 (b : Bool) (P : Params) : Obj := Obj.mk (Value.type "dict") none (Data.dict ⟨[⟨PyData.keyHash P (Str.ofString "__name__"), (Value.str (Str.ofString "__name__") 165), (Value.str (Str.ofString "cpy313.bisect") 187)⟩, ⟨PyData.keyHash P (Str.ofString "__doc__"), (Value.str (Str.ofString "__doc__") 166), Value.none⟩, ⟨PyData.keyHash P (Str.ofString "__package__"), (Value.str (Str.ofString "__package__") 167), Value.none⟩, ⟨PyData.keyHash P (Str.ofString "__loader__"), (Value.str (Str.ofString "__loader__") 168), (Value.builtin "__main__.__loader__#opaque")⟩, ⟨PyData.keyHash P (Str.ofString "__spec__"), (Value.str (Str.ofString "__spec__") 169), Value.none⟩, ⟨PyData.keyHash P (Str.ofString "__annotations__"), (Value.str (Str.ofString "__annotations__") 170), (Value.ref 6)⟩, ⟨PyData.keyHash P (Str.ofString "__builtins__"), (Value.str (Str.ofString "__builtins__") 171), (Value.ref 4)⟩, ⟨PyData.keyHash P (Str.ofString "__file__"), (Value.str (Str.ofString "__file__") 173), (Value.str (Str.ofString "/claim/cut.py") 172)⟩, ⟨PyData.keyHash P (Str.ofString "__cached__"), (Value.str (Str.ofString "__cached__") 174), Value.none⟩, ⟨PyData.keyHash P (Str.ofString "insort_right"), (Value.str (Str.ofString "insort_right") 201), (Value.ref 23)⟩, ⟨PyData.keyHash P (Str.ofString "bisect_right"), (Value.str (Str.ofString "bisect_right") 215), (Value.ref 32)⟩, ⟨PyData.keyHash P (Str.ofString "bisect_left"), (Value.str (Str.ofString "bisect_left") 229), (Value.ref 41)⟩]⟩ 12) ⟨[]⟩
noncomputable def op3_12 (b : Bool) (P : Params) : Obj := Obj.mk Value.none none (Data.fields ⟨[(Value.int (2) 0), (Value.int (0) 0), (Value.ref 22), (Value.int (8) 0), (Value.int (0) 0), (Value.ref 31), (Value.int (28) 0), (Value.int (0) 0), (Value.ref 40)]⟩) ⟨[]⟩
noncomputable def op3_33 (b : Bool) (P : Params) : Obj := Obj.mk (Value.type "tuple") none (Data.seq ⟨[(Value.int (0) 216), Value.none]⟩ 0) ⟨[]⟩
noncomputable def op3_34 (b : Bool) (P : Params) : Obj := Obj.mk (Value.type "dict") none (Data.dict ⟨[⟨PyData.keyHash P (Str.ofString "key"), (Value.str (Str.ofString "key") 217), Value.none⟩]⟩ 1) ⟨[]⟩
noncomputable def op3_35 (b : Bool) (P : Params) : Obj := Obj.mk (Value.type "tuple") none (Data.seq ⟨[]⟩ 0) ⟨[]⟩
noncomputable def op3_36 (b : Bool) (P : Params) : Obj := Obj.mk Value.none none (Data.fields ⟨[]⟩) ⟨[]⟩
noncomputable def op3_37 (b : Bool) (P : Params) : Obj := Obj.mk (Value.type "tuple") none (Data.seq ⟨[(Value.str (Str.ofString "a") 221), (Value.str (Str.ofString "x") 222), (Value.str (Str.ofString "lo") 223), (Value.str (Str.ofString "hi") 224), (Value.str (Str.ofString "key") 225), (Value.str (Str.ofString "mid") 226)]⟩ 0) ⟨[]⟩
noncomputable def op3_38 (b : Bool) (P : Params) : Obj := Obj.mk (Value.type "tuple") none (Data.seq ⟨[]⟩ 0) ⟨[]⟩
noncomputable def op3_39 (b : Bool) (P : Params) : Obj := Obj.mk Value.none none (Data.func ⟨(Str.ofString "bisect_left"), (Str.ofString "bisect_left"), prmOf (st1 3), .stmts (bodyOf (st1 3)), scpOf (st1 3), 0, [], Value.none, Value.none, Value.none, Value.none, none, Value.none, Value.none, 0⟩) ⟨[]⟩
noncomputable def op3_40 (b : Bool) (P : Params) : Obj := Obj.mk (Value.type "code") none (Data.fields ⟨[(Value.str (Str.ofString "bisect_left") 218), (Value.str (Str.ofString "bisect_left") 219), (Value.str (Str.ofString "/claim/cut.py") 220), (Value.int (28) 0), (Value.int (4) 0), (Value.int (0) 0), (Value.int (1) 0), (Value.int (3) 0), (Value.ref 35), (Value.bool true), (Value.int (181) 0), (Value.ref 36), Value.none, (Value.ref 37), (Value.ref 38), (Value.ref 39), (Value.int (227) 0), (Value.int (28) 0), (Value.str (Str.ofString "/claim/cut.py") 228)]⟩) ⟨[]⟩
noncomputable def op3_41 (b : Bool) (P : Params) : Obj := Obj.mk (Value.type "function") none (Data.func ⟨(Str.ofString "bisect_left"), (Str.ofString "bisect_left"), prmOf (st1 3), .stmts (bodyOf (st1 3)), scpOf (st1 3), 3, [], (Value.ref 33), (Value.ref 34), Value.none, (Value.str (Str.ofString "cpy313.bisect") 187), none, (Value.ref 40), Value.none, 0⟩) ⟨[]⟩
noncomputable def objsp3_ (b : Bool) (P : Params) (X : Nat → Obj) : List Obj := [boot_o_0 P, boot_o_1 P, boot_o_2 P, op3_3 b P, boot_o_4 P, boot_o_5 P, boot_o_6 P, boot_o_7 P, boot_o_8 P, boot_o_9 P, boot_o_10 P, o111 b P, op3_12 b P, o113 b P, o114 b P, op1_15 b P, op1_16 b P, op1_17 b P, op1_18 b P, op1_19 b P, op1_20 b P, op1_21 b P, op1_22 b P, op1_23 b P, op2_24 b P, op2_25 b P, op2_26 b P, op2_27 b P, op2_28 b P, op2_29 b P, op2_30 b P, op2_31 b P, op2_32 b P, op3_33 b P, op3_34 b P, op3_35 b P, op3_36 b P, op3_37 b P, op3_38 b P, op3_39 b P, op3_40 b P, op3_41 b P]
-- toks 230 gens 0
noncomputable def op4_3 (b : Bool) (P : Params) : Obj := Obj.mk (Value.type "dict") none (Data.dict ⟨[⟨PyData.keyHash P (Str.ofString "__name__"), (Value.str (Str.ofString "__name__") 165), (Value.str (Str.ofString "cpy313.netrc") 230)⟩, ⟨PyData.keyHash P (Str.ofString "__doc__"), (Value.str (Str.ofString "__doc__") 166), Value.none⟩, ⟨PyData.keyHash P (Str.ofString "__package__"), (Value.str (Str.ofString "__package__") 167), Value.none⟩, ⟨PyData.keyHash P (Str.ofString "__loader__"), (Value.str (Str.ofString "__loader__") 168), (Value.builtin "__main__.__loader__#opaque")⟩, ⟨PyData.keyHash P (Str.ofString "__spec__"), (Value.str (Str.ofString "__spec__") 169), Value.none⟩, ⟨PyData.keyHash P (Str.ofString "__annotations__"), (Value.str (Str.ofString "__annotations__") 170), (Value.ref 6)⟩, ⟨PyData.keyHash P (Str.ofString "__builtins__"), (Value.str (Str.ofString "__builtins__") 171), (Value.ref 4)⟩, ⟨PyData.keyHash P (Str.ofString "__file__"), (Value.str (Str.ofString "__file__") 173), (Value.str (Str.ofString "/claim/cut.py") 172)⟩, ⟨PyData.keyHash P (Str.ofString "__cached__"), (Value.str (Str.ofString "__cached__") 174), Value.none⟩, ⟨PyData.keyHash P (Str.ofString "insort_right"), (Value.str (Str.ofString "insort_right") 201), (Value.ref 23)⟩, ⟨PyData.keyHash P (Str.ofString "bisect_right"), (Value.str (Str.ofString "bisect_right") 215), (Value.ref 32)⟩, ⟨PyData.keyHash P (Str.ofString "bisect_left"), (Value.str (Str.ofString "bisect_left") 229), (Value.ref 41)⟩]⟩ 12) ⟨[]⟩
noncomputable def objsp4_ (b : Bool) (P : Params) (X : Nat → Obj) : List Obj := [boot_o_0 P, boot_o_1 P, boot_o_2 P, op4_3 b P, boot_o_4 P, boot_o_5 P, boot_o_6 P, boot_o_7 P, boot_o_8 P, boot_o_9 P, boot_o_10 P, o111 b P, op3_12 b P, o113 b P, o114 b P, op1_15 b P, op1_16 b P, op1_17 b P, op1_18 b P, op1_19 b P, op1_20 b P, op1_21 b P, op1_22 b P, op1_23 b P, op2_24 b P, op2_25 b P, op2_26 b P, op2_27 b P, op2_28 b P, op2_29 b P, op2_30 b P, op2_31 b P, op2_32 b P, op3_33 b P, op3_34 b P, op3_35 b P, op3_36 b P, op3_37 b P, op3_38 b P, op3_39 b P, op3_40 b P, op3_41 b P]
-- toks 232 gens 0
noncomputable def op5_3 (b : Bool) (P : Params) : Obj := Obj.mk (Value.type "dict") none (Data.dict ⟨[⟨PyData.keyHash P (Str.ofString "__name__"), (Value.str (Str.ofString "__name__") 165), (Value.str (Str.ofString "cpy313.netrc") 230)⟩, ⟨PyData.keyHash P (Str.ofString "__doc__"), (Value.str (Str.ofString "__doc__") 166), Value.none⟩, ⟨PyData.keyHash P (Str.ofString "__package__"), (Value.str (Str.ofString "__package__") 167), Value.none⟩, ⟨PyData.keyHash P (Str.ofString "__loader__"), (Value.str (Str.ofString "__loader__") 168), (Value.builtin "__main__.__loader__#opaque")⟩, ⟨PyData.keyHash P (Str.ofString "__spec__"), (Value.str (Str.ofString "__spec__") 169), Value.none⟩, ⟨PyData.keyHash P (Str.ofString "__annotations__"), (Value.str (Str.ofString "__annotations__") 170), (Value.ref 6)⟩, ⟨PyData.keyHash P (Str.ofString "__builtins__"), (Value.str (Str.ofString "__builtins__") 171), (Value.ref 4)⟩, ⟨PyData.keyHash P (Str.ofString "__file__"), (Value.str (Str.ofString "__file__") 173), (Value.str (Str.ofString "/claim/cut.py") 172)⟩, ⟨PyData.keyHash P (Str.ofString "__cached__"), (Value.str (Str.ofString "__cached__") 174), Value.none⟩, ⟨PyData.keyHash P (Str.ofString "insort_right"), (Value.str (Str.ofString "insort_right") 201), (Value.ref 23)⟩, ⟨PyData.keyHash P (Str.ofString "bisect_right"), (Value.str (Str.ofString "bisect_right") 215), (Value.ref 32)⟩, ⟨PyData.keyHash P (Str.ofString "bisect_left"), (Value.str (Str.ofString "bisect_left") 229), (Value.ref 41)⟩, ⟨PyData.keyHash P (Str.ofString "_netrclex"), (Value.str (Str.ofString "_netrclex") 289), (Value.ref 79)⟩]⟩ 13) ⟨[]⟩
noncomputable def op5_12 (b : Bool) (P : Params) : Obj := Obj.mk Value.none none (Data.fields ⟨[(Value.int (2) 0), (Value.int (0) 0), (Value.ref 22), (Value.int (8) 0), (Value.int (0) 0), (Value.ref 31), (Value.int (28) 0), (Value.int (0) 0), (Value.ref 40), (Value.int (49) 0), (Value.int (0) 0), (Value.ref 47)]⟩) ⟨[]⟩
noncomputable def op5_42 (b : Bool) (P : Params) : Obj := Obj.mk (Value.type "tuple") none (Data.seq ⟨[]⟩ 0) ⟨[]⟩
noncomputable def op5_43 (b : Bool) (P : Params) : Obj := Obj.mk (Value.type "builtin_function_or_method") none (Data.fields ⟨[(Value.builtin "type.__prepare__"), (Value.type "type")]⟩) ⟨[]⟩
noncomputable def op5_44 (b : Bool) (P : Params) : Obj := Obj.mk (Value.type "dict") none (Data.dict ⟨[⟨PyData.keyHash P (Str.ofString "__module__"), (Value.str (Str.ofString "__module__") 239), (Value.str (Str.ofString "cpy313.netrc") 230)⟩, ⟨PyData.keyHash P (Str.ofString "__qualname__"), (Value.str (Str.ofString "__qualname__") 241), (Value.str (Str.ofString "_netrclex") 240)⟩, ⟨PyData.keyHash P (Str.ofString "__firstlineno__"), (Value.str (Str.ofString "__firstlineno__") 243), (Value.int (49) 242)⟩, ⟨PyData.keyHash P (Str.ofString "__init__"), (Value.str (Str.ofString "__init__") 251), (Value.ref 55)⟩, ⟨PyData.keyHash P (Str.ofString "_read_char"), (Value.str (Str.ofString "_read_char") 259), (Value.ref 62)⟩, ⟨PyData.keyHash P (Str.ofString "get_token"), (Value.str (Str.ofString "get_token") 269), (Value.ref 69)⟩, ⟨PyData.keyHash P (Str.ofString "push_token"), (Value.str (Str.ofString "push_token") 277), (Value.ref 76)⟩, ⟨PyData.keyHash P (Str.ofString "__static_attributes__"), (Value.str (Str.ofString "__static_attributes__") 282), (Value.ref 77)⟩]⟩ 8) ⟨[]⟩
noncomputable def op5_45 (b : Bool) (P : Params) : Obj := Obj.mk (Value.type "tuple") none (Data.seq ⟨[]⟩ 0) ⟨[]⟩
noncomputable def op5_46 (b : Bool) (P : Params) : Obj := Obj.mk Value.none none (Data.fields ⟨[(Value.int (51) 0), (Value.int (4) 0), (Value.ref 54), (Value.int (57) 0), (Value.int (4) 0), (Value.ref 61), (Value.int (63) 0), (Value.int (4) 0), (Value.ref 68), (Value.int (90) 0), (Value.int (4) 0), (Value.ref 75)]⟩) ⟨[]⟩
noncomputable def op5_47 (b : Bool) (P : Params) : Obj := Obj.mk (Value.type "code") none (Data.fields ⟨[(Value.str (Str.ofString "_netrclex") 234), (Value.str (Str.ofString "_netrclex") 235), (Value.str (Str.ofString "/claim/cut.py") 236), (Value.int (49) 0), (Value.int (0) 0), (Value.int (0) 0), (Value.int (0) 0), (Value.int (0) 0), (Value.ref 45), (Value.bool false), (Value.int (181) 0), (Value.ref 46), Value.none, Value.none, Value.none, Value.none, (Value.int (237) 0), (Value.int (49) 0), (Value.str (Str.ofString "/claim/cut.py") 238)]⟩) ⟨[]⟩
noncomputable def op5_48 (b : Bool) (P : Params) : Obj := Obj.mk (Value.type "frame") none Data.plain ⟨[(some (Value.ref 47)), (some (Value.ref 3)), (some (Value.ref 44)), none, (some (Value.str (Str.ofString "cpy313.netrc") 230)), none, (some (Value.ref 0))]⟩
noncomputable def op5_49 (b : Bool) (P : Params) : Obj := Obj.mk (Value.type "tuple") none (Data.seq ⟨[]⟩ 0) ⟨[]⟩
noncomputable def op5_50 (b : Bool) (P : Params) : Obj := Obj.mk Value.none none (Data.fields ⟨[]⟩) ⟨[]⟩
noncomputable def op5_51 (b : Bool) (P : Params) : Obj := Obj.mk (Value.type "tuple") none (Data.seq ⟨[(Value.str (Str.ofString "self") 247), (Value.str (Str.ofString "fp") 248)]⟩ 0) ⟨[]⟩
noncomputable def op5_52 (b : Bool) (P : Params) : Obj := Obj.mk (Value.type "tuple") none (Data.seq ⟨[]⟩ 0) ⟨[]⟩
noncomputable def op5_53 (b : Bool) (P : Params) : Obj := Obj.mk Value.none none (Data.func ⟨(Str.ofString "__init__"), (Str.ofString "_netrclex.__init__"), prmOf (mt1 0), .stmts (bodyOf (mt1 0)), scpOf (mt1 0), 0, [], Value.none, Value.none, Value.none, Value.none, none, Value.none, Value.none, 0⟩) ⟨[]⟩
noncomputable def op5_54 (b : Bool) (P : Params) : Obj := Obj.mk (Value.type "code") none (Data.fields ⟨[(Value.str (Str.ofString "__init__") 244), (Value.str (Str.ofString "_netrclex.__init__") 245), (Value.str (Str.ofString "/claim/cut.py") 246), (Value.int (51) 0), (Value.int (2) 0), (Value.int (0) 0), (Value.int (0) 0), (Value.int (3) 0), (Value.ref 49), (Value.bool true), (Value.int (181) 0), (Value.ref 50), Value.none, (Value.ref 51), (Value.ref 52), (Value.ref 53), (Value.int (249) 0), (Value.int (51) 0), (Value.str (Str.ofString "/claim/cut.py") 250)]⟩) ⟨[]⟩
noncomputable def op5_55 (b : Bool) (P : Params) : Obj := Obj.mk (Value.type "function") none (Data.func ⟨(Str.ofString "__init__"), (Str.ofString "_netrclex.__init__"), prmOf (mt1 0), .stmts (bodyOf (mt1 0)), scpOf (mt1 0), 3, [], Value.none, Value.none, Value.none, (Value.str (Str.ofString "cpy313.netrc") 230), none, (Value.ref 54), Value.none, 0⟩) ⟨[]⟩
noncomputable def op5_56 (b : Bool) (P : Params) : Obj := Obj.mk (Value.type "tuple") none (Data.seq ⟨[]⟩ 0) ⟨[]⟩
noncomputable def op5_57 (b : Bool) (P : Params) : Obj := Obj.mk Value.none none (Data.fields ⟨[]⟩) ⟨[]⟩
noncomputable def op5_58 (b : Bool) (P : Params) : Obj := Obj.mk (Value.type "tuple") none (Data.seq ⟨[(Value.str (Str.ofString "self") 255), (Value.str (Str.ofString "ch") 256)]⟩ 0) ⟨[]⟩
noncomputable def op5_59 (b : Bool) (P : Params) : Obj := Obj.mk (Value.type "tuple") none (Data.seq ⟨[]⟩ 0) ⟨[]⟩
noncomputable def op5_60 (b : Bool) (P : Params) : Obj := Obj.mk Value.none none (Data.func ⟨(Str.ofString "_read_char"), (Str.ofString "_netrclex._read_char"), prmOf (mt1 1), .stmts (bodyOf (mt1 1)), scpOf (mt1 1), 0, [], Value.none, Value.none, Value.none, Value.none, none, Value.none, Value.none, 0⟩) ⟨[]⟩
noncomputable def op5_61 (b : Bool) (P : Params) : Obj := Obj.mk (Value.type "code") none (Data.fields ⟨[(Value.str (Str.ofString "_read_char") 252), (Value.str (Str.ofString "_netrclex._read_char") 253), (Value.str (Str.ofString "/claim/cut.py") 254), (Value.int (57) 0), (Value.int (1) 0), (Value.int (0) 0), (Value.int (0) 0), (Value.int (3) 0), (Value.ref 56), (Value.bool true), (Value.int (181) 0), (Value.ref 57), Value.none, (Value.ref 58), (Value.ref 59), (Value.ref 60), (Value.int (257) 0), (Value.int (57) 0), (Value.str (Str.ofString "/claim/cut.py") 258)]⟩) ⟨[]⟩
noncomputable def op5_62 (b : Bool) (P : Params) : Obj := Obj.mk (Value.type "function") none (Data.func ⟨(Str.ofString "_read_char"), (Str.ofString "_netrclex._read_char"), prmOf (mt1 1), .stmts (bodyOf (mt1 1)), scpOf (mt1 1), 3, [], Value.none, Value.none, Value.none, (Value.str (Str.ofString "cpy313.netrc") 230), none, (Value.ref 61), Value.none, 0⟩) ⟨[]⟩
noncomputable def op5_63 (b : Bool) (P : Params) : Obj := Obj.mk (Value.type "tuple") none (Data.seq ⟨[]⟩ 0) ⟨[]⟩
noncomputable def op5_64 (b : Bool) (P : Params) : Obj := Obj.mk Value.none none (Data.fields ⟨[]⟩) ⟨[]⟩
noncomputable def op5_65 (b : Bool) (P : Params) : Obj := Obj.mk (Value.type "tuple") none (Data.seq ⟨[(Value.str (Str.ofString "self") 263), (Value.str (Str.ofString "token") 264), (Value.str (Str.ofString "fiter") 265), (Value.str (Str.ofString "ch") 266)]⟩ 0) ⟨[]⟩
noncomputable def op5_66 (b : Bool) (P : Params) : Obj := Obj.mk (Value.type "tuple") none (Data.seq ⟨[]⟩ 0) ⟨[]⟩
noncomputable def op5_67 (b : Bool) (P : Params) : Obj := Obj.mk Value.none none (Data.func ⟨(Str.ofString "get_token"), (Str.ofString "_netrclex.get_token"), prmOf (mt1 2), .stmts (bodyOf (mt1 2)), scpOf (mt1 2), 0, [], Value.none, Value.none, Value.none, Value.none, none, Value.none, Value.none, 0⟩) ⟨[]⟩
noncomputable def op5_68 (b : Bool) (P : Params) : Obj := Obj.mk (Value.type "code") none (Data.fields ⟨[(Value.str (Str.ofString "get_token") 260), (Value.str (Str.ofString "_netrclex.get_token") 261), (Value.str (Str.ofString "/claim/cut.py") 262), (Value.int (63) 0), (Value.int (1) 0), (Value.int (0) 0), (Value.int (0) 0), (Value.int (3) 0), (Value.ref 63), (Value.bool true), (Value.int (181) 0), (Value.ref 64), Value.none, (Value.ref 65), (Value.ref 66), (Value.ref 67), (Value.int (267) 0), (Value.int (63) 0), (Value.str (Str.ofString "/claim/cut.py") 268)]⟩) ⟨[]⟩
noncomputable def op5_69 (b : Bool) (P : Params) : Obj := Obj.mk (Value.type "function") none (Data.func ⟨(Str.ofString "get_token"), (Str.ofString "_netrclex.get_token"), prmOf (mt1 2), .stmts (bodyOf (mt1 2)), scpOf (mt1 2), 3, [], Value.none, Value.none, Value.none, (Value.str (Str.ofString "cpy313.netrc") 230), none, (Value.ref 68), Value.none, 0⟩) ⟨[]⟩
noncomputable def op5_70 (b : Bool) (P : Params) : Obj := Obj.mk (Value.type "tuple") none (Data.seq ⟨[]⟩ 0) ⟨[]⟩
noncomputable def op5_71 (b : Bool) (P : Params) : Obj := Obj.mk Value.none none (Data.fields ⟨[]⟩) ⟨[]⟩
noncomputable def op5_72 (b : Bool) (P : Params) : Obj := Obj.mk (Value.type "tuple") none (Data.seq ⟨[(Value.str (Str.ofString "self") 273), (Value.str (Str.ofString "token") 274)]⟩ 0) ⟨[]⟩
noncomputable def op5_73 (b : Bool) (P : Params) : Obj := Obj.mk (Value.type "tuple") none (Data.seq ⟨[]⟩ 0) ⟨[]⟩
noncomputable def op5_74 (b : Bool) (P : Params) : Obj := Obj.mk Value.none none (Data.func ⟨(Str.ofString "push_token"), (Str.ofString "_netrclex.push_token"), prmOf (mt1 3), .stmts (bodyOf (mt1 3)), scpOf (mt1 3), 0, [], Value.none, Value.none, Value.none, Value.none, none, Value.none, Value.none, 0⟩) ⟨[]⟩
noncomputable def op5_75 (b : Bool) (P : Params) : Obj := Obj.mk (Value.type "code") none (Data.fields ⟨[(Value.str (Str.ofString "push_token") 270), (Value.str (Str.ofString "_netrclex.push_token") 271), (Value.str (Str.ofString "/claim/cut.py") 272), (Value.int (90) 0), (Value.int (2) 0), (Value.int (0) 0), (Value.int (0) 0), (Value.int (3) 0), (Value.ref 70), (Value.bool true), (Value.int (181) 0), (Value.ref 71), Value.none, (Value.ref 72), (Value.ref 73), (Value.ref 74), (Value.int (275) 0), (Value.int (90) 0), (Value.str (Str.ofString "/claim/cut.py") 276)]⟩) ⟨[]⟩
noncomputable def op5_76 (b : Bool) (P : Params) : Obj := Obj.mk (Value.type "function") none (Data.func ⟨(Str.ofString "push_token"), (Str.ofString "_netrclex.push_token"), prmOf (mt1 3), .stmts (bodyOf (mt1 3)), scpOf (mt1 3), 3, [], Value.none, Value.none, Value.none, (Value.str (Str.ofString "cpy313.netrc") 230), none, (Value.ref 75), Value.none, 0⟩) ⟨[]⟩
noncomputable def op5_77 (b : Bool) (P : Params) : Obj := Obj.mk (Value.type "tuple") none (Data.seq ⟨[(Value.str (Str.ofString "instream") 278), (Value.str (Str.ofString "lineno") 279), (Value.str (Str.ofString "pushback") 280), (Value.str (Str.ofString "whitespace") 281)]⟩ 0) ⟨[]⟩
noncomputable def op5_78 (b : Bool) (P : Params) : Obj := Obj.mk (Value.type "dict") none (Data.dict ⟨[⟨PyData.keyHash P (Str.ofString "__module__"), (Value.str (Str.ofString "__module__") 239), (Value.str (Str.ofString "cpy313.netrc") 230)⟩, ⟨PyData.keyHash P (Str.ofString "__firstlineno__"), (Value.str (Str.ofString "__firstlineno__") 243), (Value.int (49) 242)⟩, ⟨PyData.keyHash P (Str.ofString "__init__"), (Value.str (Str.ofString "__init__") 251), (Value.ref 55)⟩, ⟨PyData.keyHash P (Str.ofString "_read_char"), (Value.str (Str.ofString "_read_char") 259), (Value.ref 62)⟩, ⟨PyData.keyHash P (Str.ofString "get_token"), (Value.str (Str.ofString "get_token") 269), (Value.ref 69)⟩, ⟨PyData.keyHash P (Str.ofString "push_token"), (Value.str (Str.ofString "push_token") 277), (Value.ref 76)⟩, ⟨PyData.keyHash P (Str.ofString "__static_attributes__"), (Value.str (Str.ofString "__static_attributes__") 282), (Value.ref 77)⟩, ⟨PyData.keyHash P (Str.ofString "__dict__"), (Value.str (Str.ofString "__dict__") 284), (Value.ref 80)⟩, ⟨PyData.keyHash P (Str.ofString "__weakref__"), (Value.str (Str.ofString "__weakref__") 286), (Value.ref 81)⟩, ⟨PyData.keyHash P (Str.ofString "__doc__"), (Value.str (Str.ofString "__doc__") 287), Value.none⟩]⟩ 4) ⟨[]⟩
noncomputable def op5_79 (b : Bool) (P : Params) : Obj := Obj.mk (Value.type "type") none (Data.cls ⟨(Str.ofString "_netrclex"), [(Value.type "object")], [(Value.ref 79), (Value.type "object")], 78, (Str.ofString "_netrclex"), true, [], [], false, none, false⟩) ⟨[none, none, (some (Value.str (Str.ofString "_netrclex") 232)), (some (Value.str (Str.ofString "_netrclex") 240)), (some (Value.builtin "object.__new__")), (some (Value.bool true))]⟩
noncomputable def op5_80 (b : Bool) (P : Params) : Obj := Obj.mk (Value.type "getset_descriptor") none (Data.fields ⟨[(Value.str (Str.ofString "__dict__") 283), (Value.ref 79), (Value.builtin "function.__dict__"), (Value.builtin "function.__dict__#set")]⟩) ⟨[]⟩
noncomputable def op5_81 (b : Bool) (P : Params) : Obj := Obj.mk (Value.type "getset_descriptor") none (Data.fields ⟨[(Value.str (Str.ofString "__weakref__") 285), (Value.ref 79), (Value.builtin "ExceptionGroup.__weakref__"), Value.none]⟩) ⟨[]⟩
noncomputable def op5_82 (b : Bool) (P : Params) : Obj := Obj.mk (Value.type "super") none (Data.fields ⟨[(Value.ref 79), (Value.ref 79), (Value.ref 79)]⟩) ⟨[]⟩
noncomputable def op5_83 (b : Bool) (P : Params) : Obj := Obj.mk (Value.type "builtin_function_or_method") none (Data.fields ⟨[(Value.builtin "object.__init_subclass__"), (Value.ref 79)]⟩) ⟨[]⟩
noncomputable def objsp5_ (b : Bool) (P : Params) (X : Nat → Obj) : List Obj := [boot_o_0 P, boot_o_1 P, boot_o_2 P, op5_3 b P, boot_o_4 P, boot_o_5 P, boot_o_6 P, boot_o_7 P, boot_o_8 P, boot_o_9 P, boot_o_10 P, o111 b P, op5_12 b P, o113 b P, o114 b P, op1_15 b P, op1_16 b P, op1_17 b P, op1_18 b P, op1_19 b P, op1_20 b P, op1_21 b P, op1_22 b P, op1_23 b P, op2_24 b P, op2_25 b P, op2_26 b P, op2_27 b P, op2_28 b P, op2_29 b P, op2_30 b P, op2_31 b P, op2_32 b P, op3_33 b P, op3_34 b P, op3_35 b P, op3_36 b P, op3_37 b P, op3_38 b P, op3_39 b P, op3_40 b P, op3_41 b P, op5_42 b P, op5_43 b P, op5_44 b P, op5_45 b P, op5_46 b P, op5_47 b P, op5_48 b P, op5_49 b P, op5_50 b P, op5_51 b P, op5_52 b P, op5_53 b P, op5_54 b P, op5_55 b P, op5_56 b P, op5_57 b P, op5_58 b P, op5_59 b P, op5_60 b P, op5_61 b P, op5_62 b P, op5_63 b P, op5_64 b P, op5_65 b P, op5_66 b P, op5_67 b P, op5_68 b P, op5_69 b P, op5_70 b P, op5_71 b P, op5_72 b P, op5_73 b P, op5_74 b P, op5_75 b P, op5_76 b P, op5_77 b P, op5_78 b P, op5_79 b P, op5_80 b P, op5_81 b P, op5_82 b P, op5_83 b P]
-- toks 290 gens 0
noncomputable def op6_3 (b : Bool) (P : Params) : Obj := Obj.mk (Value.type "dict") none (Data.dict ⟨[⟨PyData.keyHash P (Str.ofString "__name__"), (Value.str (Str.ofString "__name__") 165), (Value.str (Str.ofString "cpy313.stringprep") 290)⟩, ⟨PyData.keyHash P (Str.ofString "__doc__"), (Value.str (Str.ofString "__doc__") 166), Value.none⟩, ⟨PyData.keyHash P (Str.ofString "__package__"), (Value.str (Str.ofString "__package__") 167), Value.none⟩, ⟨PyData.keyHash P (Str.ofString "__loader__"), (Value.str (Str.ofString "__loader__") 168), (Value.builtin "__main__.__loader__#opaque")⟩, ⟨PyData.keyHash P (Str.ofString "__spec__"), (Value.str (Str.ofString "__spec__") 169), Value.none⟩, ⟨PyData.keyHash P (Str.ofString "__annotations__"), (Value.str (Str.ofString "__annotations__") 170), (Value.ref 6)⟩, ⟨PyData.keyHash P (Str.ofString "__builtins__"), (Value.str (Str.ofString "__builtins__") 171), (Value.ref 4)⟩, ⟨PyData.keyHash P (Str.ofString "__file__"), (Value.str (Str.ofString "__file__") 173), (Value.str (Str.ofString "/claim/cut.py") 172)⟩, ⟨PyData.keyHash P (Str.ofString "__cached__"), (Value.str (Str.ofString "__cached__") 174), Value.none⟩, ⟨PyData.keyHash P (Str.ofString "insort_right"), (Value.str (Str.ofString "insort_right") 201), (Value.ref 23)⟩, ⟨PyData.keyHash P (Str.ofString "bisect_right"), (Value.str (Str.ofString "bisect_right") 215), (Value.ref 32)⟩, ⟨PyData.keyHash P (Str.ofString "bisect_left"), (Value.str (Str.ofString "bisect_left") 229), (Value.ref 41)⟩, ⟨PyData.keyHash P (Str.ofString "_netrclex"), (Value.str (Str.ofString "_netrclex") 289), (Value.ref 79)⟩]⟩ 13) ⟨[]⟩
noncomputable def objsp6_ (b : Bool) (P : Params) (X : Nat → Obj) : List Obj := [boot_o_0 P, boot_o_1 P, boot_o_2 P, op6_3 b P, boot_o_4 P, boot_o_5 P, boot_o_6 P, boot_o_7 P, boot_o_8 P, boot_o_9 P, boot_o_10 P, o111 b P, op5_12 b P, o113 b P, o114 b P, op1_15 b P, op1_16 b P, op1_17 b P, op1_18 b P, op1_19 b P, op1_20 b P, op1_21 b P, op1_22 b P, op1_23 b P, op2_24 b P, op2_25 b P, op2_26 b P, op2_27 b P, op2_28 b P, op2_29 b P, op2_30 b P, op2_31 b P, op2_32 b P, op3_33 b P, op3_34 b P, op3_35 b P, op3_36 b P, op3_37 b P, op3_38 b P, op3_39 b P, op3_40 b P, op3_41 b P, op5_42 b P, op5_43 b P, op5_44 b P, op5_45 b P, op5_46 b P, op5_47 b P, op5_48 b P, op5_49 b P, op5_50 b P, op5_51 b P, op5_52 b P, op5_53 b P, op5_54 b P, op5_55 b P, op5_56 b P, op5_57 b P, op5_58 b P, op5_59 b P, op5_60 b P, op5_61 b P, op5_62 b P, op5_63 b P, op5_64 b P, op5_65 b P, op5_66 b P, op5_67 b P, op5_68 b P, op5_69 b P, op5_70 b P, op5_71 b P, op5_72 b P, op5_73 b P, op5_74 b P, op5_75 b P, op5_76 b P, op5_77 b P, op5_78 b P, op5_79 b P, op5_80 b P, op5_81 b P, op5_82 b P, op5_83 b P]
-- toks 292 gens 0
noncomputable def op7_3 (b : Bool) (P : Params) : Obj := Obj.mk (Value.type "dict") none (Data.dict ⟨[⟨PyData.keyHash P (Str.ofString "__name__"), (Value.str (Str.ofString "__name__") 165), (Value.str (Str.ofString "cpy313.stringprep") 290)⟩, ⟨PyData.keyHash P (Str.ofString "__doc__"), (Value.str (Str.ofString "__doc__") 166), Value.none⟩, ⟨PyData.keyHash P (Str.ofString "__package__"), (Value.str (Str.ofString "__package__") 167), Value.none⟩, ⟨PyData.keyHash P (Str.ofString "__loader__"), (Value.str (Str.ofString "__loader__") 168), (Value.builtin "__main__.__loader__#opaque")⟩, ⟨PyData.keyHash P (Str.ofString "__spec__"), (Value.str (Str.ofString "__spec__") 169), Value.none⟩, ⟨PyData.keyHash P (Str.ofString "__annotations__"), (Value.str (Str.ofString "__annotations__") 170), (Value.ref 6)⟩, ⟨PyData.keyHash P (Str.ofString "__builtins__"), (Value.str (Str.ofString "__builtins__") 171), (Value.ref 4)⟩, ⟨PyData.keyHash P (Str.ofString "__file__"), (Value.str (Str.ofString "__file__") 173), (Value.str (Str.ofString "/claim/cut.py") 172)⟩, ⟨PyData.keyHash P (Str.ofString "__cached__"), (Value.str (Str.ofString "__cached__") 174), Value.none⟩, ⟨PyData.keyHash P (Str.ofString "insort_right"), (Value.str (Str.ofString "insort_right") 201), (Value.ref 23)⟩, ⟨PyData.keyHash P (Str.ofString "bisect_right"), (Value.str (Str.ofString "bisect_right") 215), (Value.ref 32)⟩, ⟨PyData.keyHash P (Str.ofString "bisect_left"), (Value.str (Str.ofString "bisect_left") 229), (Value.ref 41)⟩, ⟨PyData.keyHash P (Str.ofString "_netrclex"), (Value.str (Str.ofString "_netrclex") 289), (Value.ref 79)⟩, ⟨PyData.keyHash P (Str.ofString "b1_set"), (Value.str (Str.ofString "b1_set") 351), (Value.ref 91)⟩]⟩ 14) ⟨[]⟩
noncomputable def op7_84 (b : Bool) (P : Params) : Obj := Obj.mk (Value.type "list") none (Data.seq ⟨[(Value.int (173) 292), (Value.int (847) 293), (Value.int (6150) 294), (Value.int (6155) 295), (Value.int (6156) 296), (Value.int (6157) 297), (Value.int (8203) 298), (Value.int (8204) 299), (Value.int (8205) 300), (Value.int (8288) 301), (Value.int (65279) 302)]⟩ 0) ⟨[]⟩
noncomputable def op7_85 (b : Bool) (P : Params) : Obj := Obj.mk (Value.type "range") none (Data.fields ⟨[(Value.int (65024) 303), (Value.int (65040) 304), (Value.int (1) 305)]⟩) ⟨[]⟩
noncomputable def op7_86 (b : Bool) (P : Params) : Obj := Obj.mk (Value.type "list") none (Data.seq ⟨[(Value.int (65024) 308), (Value.int (65025) 309), (Value.int (65026) 310), (Value.int (65027) 311), (Value.int (65028) 312), (Value.int (65029) 313), (Value.int (65030) 314), (Value.int (65031) 315), (Value.int (65032) 316), (Value.int (65033) 317), (Value.int (65034) 318), (Value.int (65035) 319), (Value.int (65036) 320), (Value.int (65037) 321), (Value.int (65038) 322), (Value.int (65039) 323)]⟩ 18) ⟨[]⟩
noncomputable def op7_87 (b : Bool) (P : Params) : Obj := Obj.mk (Value.type "range_iterator") none (Data.fields ⟨[(Value.int (65040) 0), (Value.int (0) 0), (Value.int (1) 0)]⟩) ⟨[]⟩
noncomputable def op7_88 (b : Bool) (P : Params) : Obj := Obj.mk (Value.type "tuple") none (Data.seq ⟨[]⟩ 0) ⟨[]⟩
noncomputable def op7_89 (b : Bool) (P : Params) : Obj := Obj.mk (Value.type "StopIteration") none (Data.fields ⟨[(Value.ref 88), Value.none, Value.none, Value.none, (Value.bool false), Value.none]⟩) ⟨[]⟩
noncomputable def op7_90 (b : Bool) (P : Params) : Obj := Obj.mk (Value.type "list") none (Data.seq ⟨[(Value.int (173) 292), (Value.int (847) 293), (Value.int (6150) 294), (Value.int (6155) 295), (Value.int (6156) 296), (Value.int (6157) 297), (Value.int (8203) 298), (Value.int (8204) 299), (Value.int (8205) 300), (Value.int (8288) 301), (Value.int (65279) 302), (Value.int (65024) 308), (Value.int (65025) 309), (Value.int (65026) 310), (Value.int (65027) 311), (Value.int (65028) 312), (Value.int (65029) 313), (Value.int (65030) 314), (Value.int (65031) 315), (Value.int (65032) 316), (Value.int (65033) 317), (Value.int (65034) 318), (Value.int (65035) 319), (Value.int (65036) 320), (Value.int (65037) 321), (Value.int (65038) 322), (Value.int (65039) 323)]⟩ 0) ⟨[]⟩
noncomputable def op7_91 (b : Bool) (P : Params) : Obj := Obj.mk (Value.type "set") none (Data.set ⟨[((65024), (Value.int (65024) 308)), ((65025), (Value.int (65025) 309)), ((65026), (Value.int (65026) 310)), ((65027), (Value.int (65027) 311)), ((65028), (Value.int (65028) 312)), ((65029), (Value.int (65029) 313)), ((6150), (Value.int (6150) 294)), ((65030), (Value.int (65030) 314)), ((65031), (Value.int (65031) 315)), ((65032), (Value.int (65032) 316)), ((65033), (Value.int (65033) 317)), ((6155), (Value.int (6155) 295)), ((6156), (Value.int (6156) 296)), ((6157), (Value.int (6157) 297)), ((8203), (Value.int (8203) 298)), ((8204), (Value.int (8204) 299)), ((8205), (Value.int (8205) 300)), ((65034), (Value.int (65034) 318)), ((65035), (Value.int (65035) 319)), ((65036), (Value.int (65036) 320)), ((65037), (Value.int (65037) 321)), ((65038), (Value.int (65038) 322)), ((65039), (Value.int (65039) 323)), ((173), (Value.int (173) 292)), ((847), (Value.int (847) 293)), ((8288), (Value.int (8288) 301)), ((65279), (Value.int (65279) 302))]⟩ 29 ⟨127, ⟨[0, 1, 2, 3, 4, 5, 6, 7, 8, 9, 10, 11, 12, 13, 14, 15, 16, 17, 18, 19, 20, 21, 22, 45, 79, 96, 127]⟩, ⟨[]⟩, 0, (!b), 2, true⟩) ⟨[]⟩
noncomputable def op7_92 (b : Bool) (P : Params) : Obj := Obj.mk (Value.type "list_iterator") none (Data.fields ⟨[Value.none, (Value.int (27) 0)]⟩) ⟨[]⟩
noncomputable def op7_93 (b : Bool) (P : Params) : Obj := Obj.mk (Value.type "tuple") none (Data.seq ⟨[]⟩ 0) ⟨[]⟩
noncomputable def op7_94 (b : Bool) (P : Params) : Obj := Obj.mk (Value.type "StopIteration") none (Data.fields ⟨[(Value.ref 93), Value.none, Value.none, Value.none, (Value.bool false), Value.none]⟩) ⟨[]⟩
noncomputable def objsp7_ (b : Bool) (P : Params) (X : Nat → Obj) : List Obj := [boot_o_0 P, boot_o_1 P, boot_o_2 P, op7_3 b P, boot_o_4 P, boot_o_5 P, boot_o_6 P, boot_o_7 P, boot_o_8 P, boot_o_9 P, boot_o_10 P, o111 b P, op5_12 b P, o113 b P, o114 b P, op1_15 b P, op1_16 b P, op1_17 b P, op1_18 b P, op1_19 b P, op1_20 b P, op1_21 b P, op1_22 b P, op1_23 b P, op2_24 b P, op2_25 b P, op2_26 b P, op2_27 b P, op2_28 b P, op2_29 b P, op2_30 b P, op2_31 b P, op2_32 b P, op3_33 b P, op3_34 b P, op3_35 b P, op3_36 b P, op3_37 b P, op3_38 b P, op3_39 b P, op3_40 b P, op3_41 b P, op5_42 b P, op5_43 b P, op5_44 b P, op5_45 b P, op5_46 b P, op5_47 b P, op5_48 b P, op5_49 b P, op5_50 b P, op5_51 b P, op5_52 b P, op5_53 b P, op5_54 b P, op5_55 b P, op5_56 b P, op5_57 b P, op5_58 b P, op5_59 b P, op5_60 b P, op5_61 b P, op5_62 b P, op5_63 b P, op5_64 b P, op5_65 b P, op5_66 b P, op5_67 b P, op5_68 b P, op5_69 b P, op5_70 b P, op5_71 b P, op5_72 b P, op5_73 b P, op5_74 b P, op5_75 b P, op5_76 b P, op5_77 b P, op5_78 b P, op5_79 b P, op5_80 b P, op5_81 b P, op5_82 b P, op5_83 b P, op7_84 b P, op7_85 b P, op7_86 b P, op7_87 b P, op7_88 b P, op7_89 b P, op7_90 b P, op7_91 b P, op7_92 b P, op7_93 b P, op7_94 b P]
-- toks 352 gens 0
noncomputable def op8_3 (b : Bool) (P : Params) : Obj := Obj.mk (Value.type "dict") none (Data.dict ⟨[⟨PyData.keyHash P (Str.ofString "__name__"), (Value.str (Str.ofString "__name__") 165), (Value.str (Str.ofString "cpy313.stringprep") 290)⟩, ⟨PyData.keyHash P (Str.ofString "__doc__"), (Value.str (Str.ofString "__doc__") 166), Value.none⟩, ⟨PyData.keyHash P (Str.ofString "__package__"), (Value.str (Str.ofString "__package__") 167), Value.none⟩, ⟨PyData.keyHash P (Str.ofString "__loader__"), (Value.str (Str.ofString "__loader__") 168), (Value.builtin "__main__.__loader__#opaque")⟩, ⟨PyData.keyHash P (Str.ofString "__spec__"), (Value.str (Str.ofString "__spec__") 169), Value.none⟩, ⟨PyData.keyHash P (Str.ofString "__annotations__"), (Value.str (Str.ofString "__annotations__") 170), (Value.ref 6)⟩, ⟨PyData.keyHash P (Str.ofString "__builtins__"), (Value.str (Str.ofString "__builtins__") 171), (Value.ref 4)⟩, ⟨PyData.keyHash P (Str.ofString "__file__"), (Value.str (Str.ofString "__file__") 173), (Value.str (Str.ofString "/claim/cut.py") 172)⟩, ⟨PyData.keyHash P (Str.ofString "__cached__"), (Value.str (Str.ofString "__cached__") 174), Value.none⟩, ⟨PyData.keyHash P (Str.ofString "insort_right"), (Value.str (Str.ofString "insort_right") 201), (Value.ref 23)⟩, ⟨PyData.keyHash P (Str.ofString "bisect_right"), (Value.str (Str.ofString "bisect_right") 215), (Value.ref 32)⟩, ⟨PyData.keyHash P (Str.ofString "bisect_left"), (Value.str (Str.ofString "bisect_left") 229), (Value.ref 41)⟩, ⟨PyData.keyHash P (Str.ofString "_netrclex"), (Value.str (Str.ofString "_netrclex") 289), (Value.ref 79)⟩, ⟨PyData.keyHash P (Str.ofString "b1_set"), (Value.str (Str.ofString "b1_set") 351), (Value.ref 91)⟩, ⟨PyData.keyHash P (Str.ofString "in_table_b1"), (Value.str (Str.ofString "in_table_b1") 358), (Value.ref 101)⟩]⟩ 15) ⟨[]⟩
noncomputable def op8_12 (b : Bool) (P : Params) : Obj := Obj.mk Value.none none (Data.fields ⟨[(Value.int (2) 0), (Value.int (0) 0), (Value.ref 22), (Value.int (8) 0), (Value.int (0) 0), (Value.ref 31), (Value.int (28) 0), (Value.int (0) 0), (Value.ref 40), (Value.int (49) 0), (Value.int (0) 0), (Value.ref 47), (Value.int (94) 0), (Value.int (0) 0), (Value.ref 100)]⟩) ⟨[]⟩
noncomputable def op8_95 (b : Bool) (P : Params) : Obj := Obj.mk (Value.type "tuple") none (Data.seq ⟨[]⟩ 0) ⟨[]⟩
noncomputable def op8_96 (b : Bool) (P : Params) : Obj := Obj.mk Value.none none (Data.fields ⟨[]⟩) ⟨[]⟩
noncomputable def op8_97 (b : Bool) (P : Params) : Obj := Obj.mk (Value.type "tuple") none (Data.seq ⟨[(Value.str (Str.ofString "code") 355)]⟩ 0) ⟨[]⟩
noncomputable def op8_98 (b : Bool) (P : Params) : Obj := Obj.mk (Value.type "tuple") none (Data.seq ⟨[]⟩ 0) ⟨[]⟩
noncomputable def op8_99 (b : Bool) (P : Params) : Obj := Obj.mk Value.none none (Data.func ⟨(Str.ofString "in_table_b1"), (Str.ofString "in_table_b1"), prmOf (st1 8), .stmts (bodyOf (st1 8)), scpOf (st1 8), 0, [], Value.none, Value.none, Value.none, Value.none, none, Value.none, Value.none, 0⟩) ⟨[]⟩
noncomputable def op8_100 (b : Bool) (P : Params) : Obj := Obj.mk (Value.type "code") none (Data.fields ⟨[(Value.str (Str.ofString "in_table_b1") 352), (Value.str (Str.ofString "in_table_b1") 353), (Value.str (Str.ofString "/claim/cut.py") 354), (Value.int (94) 0), (Value.int (1) 0), (Value.int (0) 0), (Value.int (0) 0), (Value.int (3) 0), (Value.ref 95), (Value.bool true), (Value.int (181) 0), (Value.ref 96), Value.none, (Value.ref 97), (Value.ref 98), (Value.ref 99), (Value.int (356) 0), (Value.int (94) 0), (Value.str (Str.ofString "/claim/cut.py") 357)]⟩) ⟨[]⟩
noncomputable def op8_101 (b : Bool) (P : Params) : Obj := Obj.mk (Value.type "function") none (Data.func ⟨(Str.ofString "in_table_b1"), (Str.ofString "in_table_b1"), prmOf (st1 8), .stmts (bodyOf (st1 8)), scpOf (st1 8), 3, [], Value.none, Value.none, Value.none, (Value.str (Str.ofString "cpy313.stringprep") 290), none, (Value.ref 100), Value.none, 0⟩) ⟨[]⟩
noncomputable def objsp8_ (b : Bool) (P : Params) (X : Nat → Obj) : List Obj := [boot_o_0 P, boot_o_1 P, boot_o_2 P, op8_3 b P, boot_o_4 P, boot_o_5 P, boot_o_6 P, boot_o_7 P, boot_o_8 P, boot_o_9 P, boot_o_10 P, o111 b P, op8_12 b P, o113 b P, o114 b P, op1_15 b P, op1_16 b P, op1_17 b P, op1_18 b P, op1_19 b P, op1_20 b P, op1_21 b P, op1_22 b P, op1_23 b P, op2_24 b P, op2_25 b P, op2_26 b P, op2_27 b P, op2_28 b P, op2_29 b P, op2_30 b P, op2_31 b P, op2_32 b P, op3_33 b P, op3_34 b P, op3_35 b P, op3_36 b P, op3_37 b P, op3_38 b P, op3_39 b P, op3_40 b P, op3_41 b P, op5_42 b P, op5_43 b P, op5_44 b P, op5_45 b P, op5_46 b P, op5_47 b P, op5_48 b P, op5_49 b P, op5_50 b P, op5_51 b P, op5_52 b P, op5_53 b P, op5_54 b P, op5_55 b P, op5_56 b P, op5_57 b P, op5_58 b P, op5_59 b P, op5_60 b P, op5_61 b P, op5_62 b P, op5_63 b P, op5_64 b P, op5_65 b P, op5_66 b P, op5_67 b P, op5_68 b P, op5_69 b P, op5_70 b P, op5_71 b P, op5_72 b P, op5_73 b P, op5_74 b P, op5_75 b P, op5_76 b P, op5_77 b P, op5_78 b P, op5_79 b P, op5_80 b P, op5_81 b P, op5_82 b P, op5_83 b P, op7_84 b P, op7_85 b P, op7_86 b P, op7_87 b P, op7_88 b P, op7_89 b P, op7_90 b P, op7_91 b P, op7_92 b P, op7_93 b P, op7_94 b P, op8_95 b P, op8_96 b P, op8_97 b P, op8_98 b P, op8_99 b P, op8_100 b P, op8_101 b P]
-- toks 359 gens 0
noncomputable def op9_3 (b : Bool) (P : Params) : Obj := Obj.mk (Value.type "dict") none (Data.dict ⟨[⟨PyData.keyHash P (Str.ofString "__name__"), (Value.str (Str.ofString "__name__") 165), (Value.str (Str.ofString "cpy313.stringprep") 290)⟩, ⟨PyData.keyHash P (Str.ofString "__doc__"), (Value.str (Str.ofString "__doc__") 166), Value.none⟩, ⟨PyData.keyHash P (Str.ofString "__package__"), (Value.str (Str.ofString "__package__") 167), Value.none⟩, ⟨PyData.keyHash P (Str.ofString "__loader__"), (Value.str (Str.ofString "__loader__") 168), (Value.builtin "__main__.__loader__#opaque")⟩, ⟨PyData.keyHash P (Str.ofString "__spec__"), (Value.str (Str.ofString "__spec__") 169), Value.none⟩, ⟨PyData.keyHash P (Str.ofString "__annotations__"), (Value.str (Str.ofString "__annotations__") 170), (Value.ref 6)⟩, ⟨PyData.keyHash P (Str.ofString "__builtins__"), (Value.str (Str.ofString "__builtins__") 171), (Value.ref 4)⟩, ⟨PyData.keyHash P (Str.ofString "__file__"), (Value.str (Str.ofString "__file__") 173), (Value.str (Str.ofString "/claim/cut.py") 172)⟩, ⟨PyData.keyHash P (Str.ofString "__cached__"), (Value.str (Str.ofString "__cached__") 174), Value.none⟩, ⟨PyData.keyHash P (Str.ofString "insort_right"), (Value.str (Str.ofString "insort_right") 201), (Value.ref 23)⟩, ⟨PyData.keyHash P (Str.ofString "bisect_right"), (Value.str (Str.ofString "bisect_right") 215), (Value.ref 32)⟩, ⟨PyData.keyHash P (Str.ofString "bisect_left"), (Value.str (Str.ofString "bisect_left") 229), (Value.ref 41)⟩, ⟨PyData.keyHash P (Str.ofString "_netrclex"), (Value.str (Str.ofString "_netrclex") 289), (Value.ref 79)⟩, ⟨PyData.keyHash P (Str.ofString "b1_set"), (Value.str (Str.ofString "b1_set") 351), (Value.ref 91)⟩, ⟨PyData.keyHash P (Str.ofString "in_table_b1"), (Value.str (Str.ofString "in_table_b1") 358), (Value.ref 101)⟩, ⟨PyData.keyHash P (Str.ofString "b3_exceptions"), (Value.str (Str.ofString "b3_exceptions") 2309), (Value.ref 102)⟩]⟩ 16) ⟨[]⟩
noncomputable def objsp9_ (b : Bool) (P : Params) (X : Nat → Obj) : List Obj := [boot_o_0 P, boot_o_1 P, boot_o_2 P, op9_3 b P, boot_o_4 P, boot_o_5 P, boot_o_6 P, boot_o_7 P, boot_o_8 P, boot_o_9 P, boot_o_10 P, o111 b P, op8_12 b P, o113 b P, o114 b P, op1_15 b P, op1_16 b P, op1_17 b P, op1_18 b P, op1_19 b P, op1_20 b P, op1_21 b P, op1_22 b P, op1_23 b P, op2_24 b P, op2_25 b P, op2_26 b P, op2_27 b P, op2_28 b P, op2_29 b P, op2_30 b P, op2_31 b P, op2_32 b P, op3_33 b P, op3_34 b P, op3_35 b P, op3_36 b P, op3_37 b P, op3_38 b P, op3_39 b P, op3_40 b P, op3_41 b P, op5_42 b P, op5_43 b P, op5_44 b P, op5_45 b P, op5_46 b P, op5_47 b P, op5_48 b P, op5_49 b P, op5_50 b P, op5_51 b P, op5_52 b P, op5_53 b P, op5_54 b P, op5_55 b P, op5_56 b P, op5_57 b P, op5_58 b P, op5_59 b P, op5_60 b P, op5_61 b P, op5_62 b P, op5_63 b P, op5_64 b P, op5_65 b P, op5_66 b P, op5_67 b P, op5_68 b P, op5_69 b P, op5_70 b P, op5_71 b P, op5_72 b P, op5_73 b P, op5_74 b P, op5_75 b P, op5_76 b P, op5_77 b P, op5_78 b P, op5_79 b P, op5_80 b P, op5_81 b P, op5_82 b P, op5_83 b P, op7_84 b P, op7_85 b P, op7_86 b P, op7_87 b P, op7_88 b P, op7_89 b P, op7_90 b P, op7_91 b P, op7_92 b P, op7_93 b P, op7_94 b P, op8_95 b P, op8_96 b P, op8_97 b P, op8_98 b P, op8_99 b P, op8_100 b P, op8_101 b P, X 0, X 1, X 2, X 3, X 4, X 5, X 6, X 7, X 8, X 9, X 10, X 11, X 12, X 13, X 14, X 15, X 16, X 17, X 18, X 19, X 20, X 21, X 22, X 23, X 24, X 25, X 26, X 27, X 28, X 29, X 30, X 31, X 32, X 33, X 34, X 35, X 36, X 37, X 38]
-- toks 2310 gens 0
noncomputable def op10_3 (b : Bool) (P : Params) : Obj := Obj.mk (Value.type "dict") none (Data.dict ⟨[⟨PyData.keyHash P (Str.ofString "__name__"), (Value.str (Str.ofString "__name__") 165), (Value.str (Str.ofString "cpy313.stringprep") 290)⟩, ⟨PyData.keyHash P (Str.ofString "__doc__"), (Value.str (Str.ofString "__doc__") 166), Value.none⟩, ⟨PyData.keyHash P (Str.ofString "__package__"), (Value.str (Str.ofString "__package__") 167), Value.none⟩, ⟨PyData.keyHash P (Str.ofString "__loader__"), (Value.str (Str.ofString "__loader__") 168), (Value.builtin "__main__.__loader__#opaque")⟩, ⟨PyData.keyHash P (Str.ofString "__spec__"), (Value.str (Str.ofString "__spec__") 169), Value.none⟩, ⟨PyData.keyHash P (Str.ofString "__annotations__"), (Value.str (Str.ofString "__annotations__") 170), (Value.ref 6)⟩, ⟨PyData.keyHash P (Str.ofString "__builtins__"), (Value.str (Str.ofString "__builtins__") 171), (Value.ref 4)⟩, ⟨PyData.keyHash P (Str.ofString "__file__"), (Value.str (Str.ofString "__file__") 173), (Value.str (Str.ofString "/claim/cut.py") 172)⟩, ⟨PyData.keyHash P (Str.ofString "__cached__"), (Value.str (Str.ofString "__cached__") 174), Value.none⟩, ⟨PyData.keyHash P (Str.ofString "insort_right"), (Value.str (Str.ofString "insort_right") 201), (Value.ref 23)⟩, ⟨PyData.keyHash P (Str.ofString "bisect_right"), (Value.str (Str.ofString "bisect_right") 215), (Value.ref 32)⟩, ⟨PyData.keyHash P (Str.ofString "bisect_left"), (Value.str (Str.ofString "bisect_left") 229), (Value.ref 41)⟩, ⟨PyData.keyHash P (Str.ofString "_netrclex"), (Value.str (Str.ofString "_netrclex") 289), (Value.ref 79)⟩, ⟨PyData.keyHash P (Str.ofString "b1_set"), (Value.str (Str.ofString "b1_set") 351), (Value.ref 91)⟩, ⟨PyData.keyHash P (Str.ofString "in_table_b1"), (Value.str (Str.ofString "in_table_b1") 358), (Value.ref 101)⟩, ⟨PyData.keyHash P (Str.ofString "b3_exceptions"), (Value.str (Str.ofString "b3_exceptions") 2309), (Value.ref 102)⟩, ⟨PyData.keyHash P (Str.ofString "map_table_b3"), (Value.str (Str.ofString "map_table_b3") 2317), (Value.ref 147)⟩]⟩ 17) ⟨[]⟩
noncomputable def op10_12 (b : Bool) (P : Params) : Obj := Obj.mk Value.none none (Data.fields ⟨[(Value.int (2) 0), (Value.int (0) 0), (Value.ref 22), (Value.int (8) 0), (Value.int (0) 0), (Value.ref 31), (Value.int (28) 0), (Value.int (0) 0), (Value.ref 40), (Value.int (49) 0), (Value.int (0) 0), (Value.ref 47), (Value.int (94) 0), (Value.int (0) 0), (Value.ref 100), (Value.int (97) 0), (Value.int (0) 0), (Value.ref 146)]⟩) ⟨[]⟩
noncomputable def op10_141 (b : Bool) (P : Params) : Obj := Obj.mk (Value.type "tuple") none (Data.seq ⟨[]⟩ 0) ⟨[]⟩
noncomputable def op10_142 (b : Bool) (P : Params) : Obj := Obj.mk Value.none none (Data.fields ⟨[]⟩) ⟨[]⟩
noncomputable def op10_143 (b : Bool) (P : Params) : Obj := Obj.mk (Value.type "tuple") none (Data.seq ⟨[(Value.str (Str.ofString "code") 2313), (Value.str (Str.ofString "r") 2314)]⟩ 0) ⟨[]⟩
noncomputable def op10_144 (b : Bool) (P : Params) : Obj := Obj.mk (Value.type "tuple") none (Data.seq ⟨[]⟩ 0) ⟨[]⟩
noncomputable def op10_145 (b : Bool) (P : Params) : Obj := Obj.mk Value.none none (Data.func ⟨(Str.ofString "map_table_b3"), (Str.ofString "map_table_b3"), prmOf (st1 10), .stmts (bodyOf (st1 10)), scpOf (st1 10), 0, [], Value.none, Value.none, Value.none, Value.none, none, Value.none, Value.none, 0⟩) ⟨[]⟩
noncomputable def op10_146 (b : Bool) (P : Params) : Obj := Obj.mk (Value.type "code") none (Data.fields ⟨[(Value.str (Str.ofString "map_table_b3") 2310), (Value.str (Str.ofString "map_table_b3") 2311), (Value.str (Str.ofString "/claim/cut.py") 2312), (Value.int (97) 0), (Value.int (1) 0), (Value.int (0) 0), (Value.int (0) 0), (Value.int (3) 0), (Value.ref 141), (Value.bool true), (Value.int (181) 0), (Value.ref 142), Value.none, (Value.ref 143), (Value.ref 144), (Value.ref 145), (Value.int (2315) 0), (Value.int (97) 0), (Value.str (Str.ofString "/claim/cut.py") 2316)]⟩) ⟨[]⟩
noncomputable def op10_147 (b : Bool) (P : Params) : Obj := Obj.mk (Value.type "function") none (Data.func ⟨(Str.ofString "map_table_b3"), (Str.ofString "map_table_b3"), prmOf (st1 10), .stmts (bodyOf (st1 10)), scpOf (st1 10), 3, [], Value.none, Value.none, Value.none, (Value.str (Str.ofString "cpy313.stringprep") 290), none, (Value.ref 146), Value.none, 0⟩) ⟨[]⟩
noncomputable def objsp10_ (b : Bool) (P : Params) (X : Nat → Obj) : List Obj := [boot_o_0 P, boot_o_1 P, boot_o_2 P, op10_3 b P, boot_o_4 P, boot_o_5 P, boot_o_6 P, boot_o_7 P, boot_o_8 P, boot_o_9 P, boot_o_10 P, o111 b P, op10_12 b P, o113 b P, o114 b P, op1_15 b P, op1_16 b P, op1_17 b P, op1_18 b P, op1_19 b P, op1_20 b P, op1_21 b P, op1_22 b P, op1_23 b P, op2_24 b P, op2_25 b P, op2_26 b P, op2_27 b P, op2_28 b P, op2_29 b P, op2_30 b P, op2_31 b P, op2_32 b P, op3_33 b P, op3_34 b P, op3_35 b P, op3_36 b P, op3_37 b P, op3_38 b P, op3_39 b P, op3_40 b P, op3_41 b P, op5_42 b P, op5_43 b P, op5_44 b P, op5_45 b P, op5_46 b P, op5_47 b P, op5_48 b P, op5_49 b P, op5_50 b P, op5_51 b P, op5_52 b P, op5_53 b P, op5_54 b P, op5_55 b P, op5_56 b P, op5_57 b P, op5_58 b P, op5_59 b P, op5_60 b P, op5_61 b P, op5_62 b P, op5_63 b P, op5_64 b P, op5_65 b P, op5_66 b P, op5_67 b P, op5_68 b P, op5_69 b P, op5_70 b P, op5_71 b P, op5_72 b P, op5_73 b P, op5_74 b P, op5_75 b P, op5_76 b P, op5_77 b P, op5_78 b P, op5_79 b P, op5_80 b P, op5_81 b P, op5_82 b P, op5_83 b P, op7_84 b P, op7_85 b P, op7_86 b P, op7_87 b P, op7_88 b P, op7_89 b P, op7_90 b P, op7_91 b P, op7_92 b P, op7_93 b P, op7_94 b P, op8_95 b P, op8_96 b P, op8_97 b P, op8_98 b P, op8_99 b P, op8_100 b P, op8_101 b P, X 0, X 1, X 2, X 3, X 4, X 5, X 6, X 7, X 8, X 9, X 10, X 11, X 12, X 13, X 14, X 15, X 16, X 17, X 18, X 19, X 20, X 21, X 22, X 23, X 24, X 25, X 26, X 27, X 28, X 29, X 30, X 31, X 32, X 33, X 34, X 35, X 36, X 37, X 38, op10_141 b P, op10_142 b P, op10_143 b P, op10_144 b P, op10_145 b P, op10_146 b P, op10_147 b P]
-- toks 2318 gens 0
noncomputable def op11_3 (b : Bool) (P : Params) : Obj := Obj.mk (Value.type "dict") none (Data.dict ⟨[⟨PyData.keyHash P (Str.ofString "__name__"), (Value.str (Str.ofString "__name__") 165), (Value.str (Str.ofString "law_re0155_01") 2318)⟩, ⟨PyData.keyHash P (Str.ofString "__doc__"), (Value.str (Str.ofString "__doc__") 166), Value.none⟩, ⟨PyData.keyHash P (Str.ofString "__package__"), (Value.str (Str.ofString "__package__") 167), Value.none⟩, ⟨PyData.keyHash P (Str.ofString "__loader__"), (Value.str (Str.ofString "__loader__") 168), (Value.builtin "__main__.__loader__#opaque")⟩, ⟨PyData.keyHash P (Str.ofString "__spec__"), (Value.str (Str.ofString "__spec__") 169), Value.none⟩, ⟨PyData.keyHash P (Str.ofString "__annotations__"), (Value.str (Str.ofString "__annotations__") 170), (Value.ref 6)⟩, ⟨PyData.keyHash P (Str.ofString "__builtins__"), (Value.str (Str.ofString "__builtins__") 171), (Value.ref 4)⟩, ⟨PyData.keyHash P (Str.ofString "__file__"), (Value.str (Str.ofString "__file__") 173), (Value.str (Str.ofString "/claim/cut.py") 172)⟩, ⟨PyData.keyHash P (Str.ofString "__cached__"), (Value.str (Str.ofString "__cached__") 174), Value.none⟩, ⟨PyData.keyHash P (Str.ofString "insort_right"), (Value.str (Str.ofString "insort_right") 201), (Value.ref 23)⟩, ⟨PyData.keyHash P (Str.ofString "bisect_right"), (Value.str (Str.ofString "bisect_right") 215), (Value.ref 32)⟩, ⟨PyData.keyHash P (Str.ofString "bisect_left"), (Value.str (Str.ofString "bisect_left") 229), (Value.ref 41)⟩, ⟨PyData.keyHash P (Str.ofString "_netrclex"), (Value.str (Str.ofString "_netrclex") 289), (Value.ref 79)⟩, ⟨PyData.keyHash P (Str.ofString "b1_set"), (Value.str (Str.ofString "b1_set") 351), (Value.ref 91)⟩, ⟨PyData.keyHash P (Str.ofString "in_table_b1"), (Value.str (Str.ofString "in_table_b1") 358), (Value.ref 101)⟩, ⟨PyData.keyHash P (Str.ofString "b3_exceptions"), (Value.str (Str.ofString "b3_exceptions") 2309), (Value.ref 102)⟩, ⟨PyData.keyHash P (Str.ofString "map_table_b3"), (Value.str (Str.ofString "map_table_b3") 2317), (Value.ref 147)⟩]⟩ 17) ⟨[]⟩
noncomputable def objsp11_ (b : Bool) (P : Params) (X : Nat → Obj) : List Obj := [boot_o_0 P, boot_o_1 P, boot_o_2 P, op11_3 b P, boot_o_4 P, boot_o_5 P, boot_o_6 P, boot_o_7 P, boot_o_8 P, boot_o_9 P, boot_o_10 P, o111 b P, op10_12 b P, o113 b P, o114 b P, op1_15 b P, op1_16 b P, op1_17 b P, op1_18 b P, op1_19 b P, op1_20 b P, op1_21 b P, op1_22 b P, op1_23 b P, op2_24 b P, op2_25 b P, op2_26 b P, op2_27 b P, op2_28 b P, op2_29 b P, op2_30 b P, op2_31 b P, op2_32 b P, op3_33 b P, op3_34 b P, op3_35 b P, op3_36 b P, op3_37 b P, op3_38 b P, op3_39 b P, op3_40 b P, op3_41 b P, op5_42 b P, op5_43 b P, op5_44 b P, op5_45 b P, op5_46 b P, op5_47 b P, op5_48 b P, op5_49 b P, op5_50 b P, op5_51 b P, op5_52 b P, op5_53 b P, op5_54 b P, op5_55 b P, op5_56 b P, op5_57 b P, op5_58 b P, op5_59 b P, op5_60 b P, op5_61 b P, op5_62 b P, op5_63 b P, op5_64 b P, op5_65 b P, op5_66 b P, op5_67 b P, op5_68 b P, op5_69 b P, op5_70 b P, op5_71 b P, op5_72 b P, op5_73 b P, op5_74 b P, op5_75 b P, op5_76 b P, op5_77 b P, op5_78 b P, op5_79 b P, op5_80 b P, op5_81 b P, op5_82 b P, op5_83 b P, op7_84 b P, op7_85 b P, op7_86 b P, op7_87 b P, op7_88 b P, op7_89 b P, op7_90 b P, op7_91 b P, op7_92 b P, op7_93 b P, op7_94 b P, op8_95 b P, op8_96 b P, op8_97 b P, op8_98 b P, op8_99 b P, op8_100 b P, op8_101 b P, X 0, X 1, X 2, X 3, X 4, X 5, X 6, X 7, X 8, X 9, X 10, X 11, X 12, X 13, X 14, X 15, X 16, X 17, X 18, X 19, X 20, X 21, X 22, X 23, X 24, X 25, X 26, X 27, X 28, X 29, X 30, X 31, X 32, X 33, X 34, X 35, X 36, X 37, X 38, op10_141 b P, op10_142 b P, op10_143 b P, op10_144 b P, op10_145 b P, op10_146 b P, op10_147 b P]
-- toks 2320 gens 0
noncomputable def op12_3 (b : Bool) (P : Params) : Obj := Obj.mk (Value.type "dict") none (Data.dict ⟨[⟨PyData.keyHash P (Str.ofString "__name__"), (Value.str (Str.ofString "__name__") 165), (Value.str (Str.ofString "law_re0155_01") 2318)⟩, ⟨PyData.keyHash P (Str.ofString "__doc__"), (Value.str (Str.ofString "__doc__") 166), Value.none⟩, ⟨PyData.keyHash P (Str.ofString "__package__"), (Value.str (Str.ofString "__package__") 167), Value.none⟩, ⟨PyData.keyHash P (Str.ofString "__loader__"), (Value.str (Str.ofString "__loader__") 168), (Value.builtin "__main__.__loader__#opaque")⟩, ⟨PyData.keyHash P (Str.ofString "__spec__"), (Value.str (Str.ofString "__spec__") 169), Value.none⟩, ⟨PyData.keyHash P (Str.ofString "__annotations__"), (Value.str (Str.ofString "__annotations__") 170), (Value.ref 6)⟩, ⟨PyData.keyHash P (Str.ofString "__builtins__"), (Value.str (Str.ofString "__builtins__") 171), (Value.ref 4)⟩, ⟨PyData.keyHash P (Str.ofString "__file__"), (Value.str (Str.ofString "__file__") 173), (Value.str (Str.ofString "/claim/cut.py") 172)⟩, ⟨PyData.keyHash P (Str.ofString "__cached__"), (Value.str (Str.ofString "__cached__") 174), Value.none⟩, ⟨PyData.keyHash P (Str.ofString "insort_right"), (Value.str (Str.ofString "insort_right") 201), (Value.ref 23)⟩, ⟨PyData.keyHash P (Str.ofString "bisect_right"), (Value.str (Str.ofString "bisect_right") 215), (Value.ref 32)⟩, ⟨PyData.keyHash P (Str.ofString "bisect_left"), (Value.str (Str.ofString "bisect_left") 229), (Value.ref 41)⟩, ⟨PyData.keyHash P (Str.ofString "_netrclex"), (Value.str (Str.ofString "_netrclex") 289), (Value.ref 79)⟩, ⟨PyData.keyHash P (Str.ofString "b1_set"), (Value.str (Str.ofString "b1_set") 351), (Value.ref 91)⟩, ⟨PyData.keyHash P (Str.ofString "in_table_b1"), (Value.str (Str.ofString "in_table_b1") 358), (Value.ref 101)⟩, ⟨PyData.keyHash P (Str.ofString "b3_exceptions"), (Value.str (Str.ofString "b3_exceptions") 2309), (Value.ref 102)⟩, ⟨PyData.keyHash P (Str.ofString "map_table_b3"), (Value.str (Str.ofString "map_table_b3") 2317), (Value.ref 147)⟩, ⟨PyData.keyHash P (Str.ofString "_law_lexer"), (Value.str (Str.ofString "_law_lexer") 2330), (Value.ref 154)⟩]⟩ 18) ⟨[]⟩
noncomputable def op12_12 (b : Bool) (P : Params) : Obj := Obj.mk Value.none none (Data.fields ⟨[(Value.int (2) 0), (Value.int (0) 0), (Value.ref 22), (Value.int (8) 0), (Value.int (0) 0), (Value.ref 31), (Value.int (28) 0), (Value.int (0) 0), (Value.ref 40), (Value.int (49) 0), (Value.int (0) 0), (Value.ref 47), (Value.int (94) 0), (Value.int (0) 0), (Value.ref 100), (Value.int (97) 0), (Value.int (0) 0), (Value.ref 146), (Value.int (103) 0), (Value.int (0) 0), (Value.ref 153)]⟩) ⟨[]⟩
noncomputable def op12_148 (b : Bool) (P : Params) : Obj := Obj.mk (Value.type "tuple") none (Data.seq ⟨[]⟩ 0) ⟨[]⟩
noncomputable def op12_149 (b : Bool) (P : Params) : Obj := Obj.mk Value.none none (Data.fields ⟨[]⟩) ⟨[]⟩
noncomputable def op12_150 (b : Bool) (P : Params) : Obj := Obj.mk (Value.type "tuple") none (Data.seq ⟨[(Value.str (Str.ofString "text") 2323), (Value.str (Str.ofString "read") 2324), (Value.str (Str.ofString "stream") 2325)]⟩ 0) ⟨[]⟩
noncomputable def op12_151 (b : Bool) (P : Params) : Obj := Obj.mk (Value.type "tuple") none (Data.seq ⟨[(Value.str (Str.ofString "text") 2326), (Value.str (Str.ofString "place") 2327)]⟩ 0) ⟨[]⟩
noncomputable def op12_152 (b : Bool) (P : Params) : Obj := Obj.mk Value.none none (Data.func ⟨(Str.ofString "_law_lexer"), (Str.ofString "_law_lexer"), prmOf (st1 12), .stmts (bodyOf (st1 12)), scpOf (st1 12), 0, [], Value.none, Value.none, Value.none, Value.none, none, Value.none, Value.none, 0⟩) ⟨[]⟩
noncomputable def op12_153 (b : Bool) (P : Params) : Obj := Obj.mk (Value.type "code") none (Data.fields ⟨[(Value.str (Str.ofString "_law_lexer") 2320), (Value.str (Str.ofString "_law_lexer") 2321), (Value.str (Str.ofString "/claim/cut.py") 2322), (Value.int (103) 0), (Value.int (1) 0), (Value.int (0) 0), (Value.int (0) 0), (Value.int (3) 0), (Value.ref 148), (Value.bool true), (Value.int (181) 0), (Value.ref 149), Value.none, (Value.ref 150), (Value.ref 151), (Value.ref 152), (Value.int (2328) 0), (Value.int (103) 0), (Value.str (Str.ofString "/claim/cut.py") 2329)]⟩) ⟨[]⟩
noncomputable def op12_154 (b : Bool) (P : Params) : Obj := Obj.mk (Value.type "function") none (Data.func ⟨(Str.ofString "_law_lexer"), (Str.ofString "_law_lexer"), prmOf (st1 12), .stmts (bodyOf (st1 12)), scpOf (st1 12), 3, [], Value.none, Value.none, Value.none, (Value.str (Str.ofString "law_re0155_01") 2318), none, (Value.ref 153), Value.none, 0⟩) ⟨[]⟩
noncomputable def objsp12_ (b : Bool) (P : Params) (X : Nat → Obj) : List Obj := [boot_o_0 P, boot_o_1 P, boot_o_2 P, op12_3 b P, boot_o_4 P, boot_o_5 P, boot_o_6 P, boot_o_7 P, boot_o_8 P, boot_o_9 P, boot_o_10 P, o111 b P, op12_12 b P, o113 b P, o114 b P, op1_15 b P, op1_16 b P, op1_17 b P, op1_18 b P, op1_19 b P, op1_20 b P, op1_21 b P, op1_22 b P, op1_23 b P, op2_24 b P, op2_25 b P, op2_26 b P, op2_27 b P, op2_28 b P, op2_29 b P, op2_30 b P, op2_31 b P, op2_32 b P, op3_33 b P, op3_34 b P, op3_35 b P, op3_36 b P, op3_37 b P, op3_38 b P, op3_39 b P, op3_40 b P, op3_41 b P, op5_42 b P, op5_43 b P, op5_44 b P, op5_45 b P, op5_46 b P, op5_47 b P, op5_48 b P, op5_49 b P, op5_50 b P, op5_51 b P, op5_52 b P, op5_53 b P, op5_54 b P, op5_55 b P, op5_56 b P, op5_57 b P, op5_58 b P, op5_59 b P, op5_60 b P, op5_61 b P, op5_62 b P, op5_63 b P, op5_64 b P, op5_65 b P, op5_66 b P, op5_67 b P, op5_68 b P, op5_69 b P, op5_70 b P, op5_71 b P, op5_72 b P, op5_73 b P, op5_74 b P, op5_75 b P, op5_76 b P, op5_77 b P, op5_78 b P, op5_79 b P, op5_80 b P, op5_81 b P, op5_82 b P, op5_83 b P, op7_84 b P, op7_85 b P, op7_86 b P, op7_87 b P, op7_88 b P, op7_89 b P, op7_90 b P, op7_91 b P, op7_92 b P, op7_93 b P, op7_94 b P, op8_95 b P, op8_96 b P, op8_97 b P, op8_98 b P, op8_99 b P, op8_100 b P, op8_101 b P, X 0, X 1, X 2, X 3, X 4, X 5, X 6, X 7, X 8, X 9, X 10, X 11, X 12, X 13, X 14, X 15, X 16, X 17, X 18, X 19, X 20, X 21, X 22, X 23, X 24, X 25, X 26, X 27, X 28, X 29, X 30, X 31, X 32, X 33, X 34, X 35, X 36, X 37, X 38, op10_141 b P, op10_142 b P, op10_143 b P, op10_144 b P, op10_145 b P, op10_146 b P, op10_147 b P, op12_148 b P, op12_149 b P, op12_150 b P, op12_151 b P, op12_152 b P, op12_153 b P, op12_154 b P]
-- toks 2331 gens 0
noncomputable def op13_3 (b : Bool) (P : Params) : Obj := Obj.mk (Value.type "dict") none (Data.dict ⟨[⟨PyData.keyHash P (Str.ofString "__name__"), (Value.str (Str.ofString "__name__") 165), (Value.str (Str.ofString "law_re0155_01") 2318)⟩, ⟨PyData.keyHash P (Str.ofString "__doc__"), (Value.str (Str.ofString "__doc__") 166), Value.none⟩, ⟨PyData.keyHash P (Str.ofString "__package__"), (Value.str (Str.ofString "__package__") 167), Value.none⟩, ⟨PyData.keyHash P (Str.ofString "__loader__"), (Value.str (Str.ofString "__loader__") 168), (Value.builtin "__main__.__loader__#opaque")⟩, ⟨PyData.keyHash P (Str.ofString "__spec__"), (Value.str (Str.ofString "__spec__") 169), Value.none⟩, ⟨PyData.keyHash P (Str.ofString "__annotations__"), (Value.str (Str.ofString "__annotations__") 170), (Value.ref 6)⟩, ⟨PyData.keyHash P (Str.ofString "__builtins__"), (Value.str (Str.ofString "__builtins__") 171), (Value.ref 4)⟩, ⟨PyData.keyHash P (Str.ofString "__file__"), (Value.str (Str.ofString "__file__") 173), (Value.str (Str.ofString "/claim/cut.py") 172)⟩, ⟨PyData.keyHash P (Str.ofString "__cached__"), (Value.str (Str.ofString "__cached__") 174), Value.none⟩, ⟨PyData.keyHash P (Str.ofString "insort_right"), (Value.str (Str.ofString "insort_right") 201), (Value.ref 23)⟩, ⟨PyData.keyHash P (Str.ofString "bisect_right"), (Value.str (Str.ofString "bisect_right") 215), (Value.ref 32)⟩, ⟨PyData.keyHash P (Str.ofString "bisect_left"), (Value.str (Str.ofString "bisect_left") 229), (Value.ref 41)⟩, ⟨PyData.keyHash P (Str.ofString "_netrclex"), (Value.str (Str.ofString "_netrclex") 289), (Value.ref 79)⟩, ⟨PyData.keyHash P (Str.ofString "b1_set"), (Value.str (Str.ofString "b1_set") 351), (Value.ref 91)⟩, ⟨PyData.keyHash P (Str.ofString "in_table_b1"), (Value.str (Str.ofString "in_table_b1") 358), (Value.ref 101)⟩, ⟨PyData.keyHash P (Str.ofString "b3_exceptions"), (Value.str (Str.ofString "b3_exceptions") 2309), (Value.ref 102)⟩, ⟨PyData.keyHash P (Str.ofString "map_table_b3"), (Value.str (Str.ofString "map_table_b3") 2317), (Value.ref 147)⟩, ⟨PyData.keyHash P (Str.ofString "_law_lexer"), (Value.str (Str.ofString "_law_lexer") 2330), (Value.ref 154)⟩, ⟨PyData.keyHash P (Str.ofString "_law_word"), (Value.str (Str.ofString "_law_word") 2336), (Value.ref 159)⟩]⟩ 19) ⟨[]⟩
noncomputable def op13_12 (b : Bool) (P : Params) : Obj := Obj.mk Value.none none (Data.fields ⟨[(Value.int (2) 0), (Value.int (0) 0), (Value.ref 22), (Value.int (8) 0), (Value.int (0) 0), (Value.ref 31), (Value.int (28) 0), (Value.int (0) 0), (Value.ref 40), (Value.int (49) 0), (Value.int (0) 0), (Value.ref 47), (Value.int (94) 0), (Value.int (0) 0), (Value.ref 100), (Value.int (97) 0), (Value.int (0) 0), (Value.ref 146), (Value.int (103) 0), (Value.int (0) 0), (Value.ref 153), (Value.int (113) 0), (Value.int (0) 0), (Value.ref 158)]⟩) ⟨[]⟩
noncomputable def op13_155 (b : Bool) (P : Params) : Obj := Obj.mk (Value.type "tuple") none (Data.seq ⟨[]⟩ 0) ⟨[]⟩
noncomputable def op13_156 (b : Bool) (P : Params) : Obj := Obj.mk Value.none none (Data.fields ⟨[]⟩) ⟨[]⟩
noncomputable def op13_157 (b : Bool) (P : Params) : Obj := Obj.mk Value.none none (Data.func ⟨(Str.ofString "_law_word"), (Str.ofString "_law_word"), prmOf (st1 13), .stmts (bodyOf (st1 13)), scpOf (st1 13), 0, [], Value.none, Value.none, Value.none, Value.none, none, Value.none, Value.none, 0⟩) ⟨[]⟩
noncomputable def op13_158 (b : Bool) (P : Params) : Obj := Obj.mk (Value.type "code") none (Data.fields ⟨[(Value.str (Str.ofString "_law_word") 2331), (Value.str (Str.ofString "_law_word") 2332), (Value.str (Str.ofString "/claim/cut.py") 2333), (Value.int (113) 0), (Value.int (1) 0), (Value.int (0) 0), (Value.int (0) 0), (Value.int (3) 0), (Value.ref 155), (Value.bool true), (Value.int (181) 0), (Value.ref 156), Value.none, Value.none, Value.none, (Value.ref 157), (Value.int (2334) 0), (Value.int (113) 0), (Value.str (Str.ofString "/claim/cut.py") 2335)]⟩) ⟨[]⟩
noncomputable def op13_159 (b : Bool) (P : Params) : Obj := Obj.mk (Value.type "function") none (Data.func ⟨(Str.ofString "_law_word"), (Str.ofString "_law_word"), prmOf (st1 13), .stmts (bodyOf (st1 13)), scpOf (st1 13), 3, [], Value.none, Value.none, Value.none, (Value.str (Str.ofString "law_re0155_01") 2318), none, (Value.ref 158), Value.none, 0⟩) ⟨[]⟩
noncomputable def objsp13_ (b : Bool) (P : Params) (X : Nat → Obj) : List Obj := [boot_o_0 P, boot_o_1 P, boot_o_2 P, op13_3 b P, boot_o_4 P, boot_o_5 P, boot_o_6 P, boot_o_7 P, boot_o_8 P, boot_o_9 P, boot_o_10 P, o111 b P, op13_12 b P, o113 b P, o114 b P, op1_15 b P, op1_16 b P, op1_17 b P, op1_18 b P, op1_19 b P, op1_20 b P, op1_21 b P, op1_22 b P, op1_23 b P, op2_24 b P, op2_25 b P, op2_26 b P, op2_27 b P, op2_28 b P, op2_29 b P, op2_30 b P, op2_31 b P, op2_32 b P, op3_33 b P, op3_34 b P, op3_35 b P, op3_36 b P, op3_37 b P, op3_38 b P, op3_39 b P, op3_40 b P, op3_41 b P, op5_42 b P, op5_43 b P, op5_44 b P, op5_45 b P, op5_46 b P, op5_47 b P, op5_48 b P, op5_49 b P, op5_50 b P, op5_51 b P, op5_52 b P, op5_53 b P, op5_54 b P, op5_55 b P, op5_56 b P, op5_57 b P, op5_58 b P, op5_59 b P, op5_60 b P, op5_61 b P, op5_62 b P, op5_63 b P, op5_64 b P, op5_65 b P, op5_66 b P, op5_67 b P, op5_68 b P, op5_69 b P, op5_70 b P, op5_71 b P, op5_72 b P, op5_73 b P, op5_74 b P, op5_75 b P, op5_76 b P, op5_77 b P, op5_78 b P, op5_79 b P, op5_80 b P, op5_81 b P, op5_82 b P, op5_83 b P, op7_84 b P, op7_85 b P, op7_86 b P, op7_87 b P, op7_88 b P, op7_89 b P, op7_90 b P, op7_91 b P, op7_92 b P, op7_93 b P, op7_94 b P, op8_95 b P, op8_96 b P, op8_97 b P, op8_98 b P, op8_99 b P, op8_100 b P, op8_101 b P, X 0, X 1, X 2, X 3, X 4, X 5, X 6, X 7, X 8, X 9, X 10, X 11, X 12, X 13, X 14, X 15, X 16, X 17, X 18, X 19, X 20, X 21, X 22, X 23, X 24, X 25, X 26, X 27, X 28, X 29, X 30, X 31, X 32, X 33, X 34, X 35, X 36, X 37, X 38, op10_141 b P, op10_142 b P, op10_143 b P, op10_144 b P, op10_145 b P, op10_146 b P, op10_147 b P, op12_148 b P, op12_149 b P, op12_150 b P, op12_151 b P, op12_152 b P, op12_153 b P, op12_154 b P, op13_155 b P, op13_156 b P, op13_157 b P, op13_158 b P, op13_159 b P]
-- toks 2337 gens 0
noncomputable def op14_3 (b : Bool) (P : Params) : Obj := Obj.mk (Value.type "dict") none (Data.dict ⟨[⟨PyData.keyHash P (Str.ofString "__name__"), (Value.str (Str.ofString "__name__") 165), (Value.str (Str.ofString "law_re0155_01") 2318)⟩, ⟨PyData.keyHash P (Str.ofString "__doc__"), (Value.str (Str.ofString "__doc__") 166), Value.none⟩, ⟨PyData.keyHash P (Str.ofString "__package__"), (Value.str (Str.ofString "__package__") 167), Value.none⟩, ⟨PyData.keyHash P (Str.ofString "__loader__"), (Value.str (Str.ofString "__loader__") 168), (Value.builtin "__main__.__loader__#opaque")⟩, ⟨PyData.keyHash P (Str.ofString "__spec__"), (Value.str (Str.ofString "__spec__") 169), Value.none⟩, ⟨PyData.keyHash P (Str.ofString "__annotations__"), (Value.str (Str.ofString "__annotations__") 170), (Value.ref 6)⟩, ⟨PyData.keyHash P (Str.ofString "__builtins__"), (Value.str (Str.ofString "__builtins__") 171), (Value.ref 4)⟩, ⟨PyData.keyHash P (Str.ofString "__file__"), (Value.str (Str.ofString "__file__") 173), (Value.str (Str.ofString "/claim/cut.py") 172)⟩, ⟨PyData.keyHash P (Str.ofString "__cached__"), (Value.str (Str.ofString "__cached__") 174), Value.none⟩, ⟨PyData.keyHash P (Str.ofString "insort_right"), (Value.str (Str.ofString "insort_right") 201), (Value.ref 23)⟩, ⟨PyData.keyHash P (Str.ofString "bisect_right"), (Value.str (Str.ofString "bisect_right") 215), (Value.ref 32)⟩, ⟨PyData.keyHash P (Str.ofString "bisect_left"), (Value.str (Str.ofString "bisect_left") 229), (Value.ref 41)⟩, ⟨PyData.keyHash P (Str.ofString "_netrclex"), (Value.str (Str.ofString "_netrclex") 289), (Value.ref 79)⟩, ⟨PyData.keyHash P (Str.ofString "b1_set"), (Value.str (Str.ofString "b1_set") 351), (Value.ref 91)⟩, ⟨PyData.keyHash P (Str.ofString "in_table_b1"), (Value.str (Str.ofString "in_table_b1") 358), (Value.ref 101)⟩, ⟨PyData.keyHash P (Str.ofString "b3_exceptions"), (Value.str (Str.ofString "b3_exceptions") 2309), (Value.ref 102)⟩, ⟨PyData.keyHash P (Str.ofString "map_table_b3"), (Value.str (Str.ofString "map_table_b3") 2317), (Value.ref 147)⟩, ⟨PyData.keyHash P (Str.ofString "_law_lexer"), (Value.str (Str.ofString "_law_lexer") 2330), (Value.ref 154)⟩, ⟨PyData.keyHash P (Str.ofString "_law_word"), (Value.str (Str.ofString "_law_word") 2336), (Value.ref 159)⟩, ⟨PyData.keyHash P (Str.ofString "_law_page"), (Value.str (Str.ofString "_law_page") 2342), (Value.ref 164)⟩]⟩ 20) ⟨[]⟩
noncomputable def op14_12 (b : Bool) (P : Params) : Obj := Obj.mk Value.none none (Data.fields ⟨[(Value.int (2) 0), (Value.int (0) 0), (Value.ref 22), (Value.int (8) 0), (Value.int (0) 0), (Value.ref 31), (Value.int (28) 0), (Value.int (0) 0), (Value.ref 40), (Value.int (49) 0), (Value.int (0) 0), (Value.ref 47), (Value.int (94) 0), (Value.int (0) 0), (Value.ref 100), (Value.int (97) 0), (Value.int (0) 0), (Value.ref 146), (Value.int (103) 0), (Value.int (0) 0), (Value.ref 153), (Value.int (113) 0), (Value.int (0) 0), (Value.ref 158), (Value.int (118) 0), (Value.int (0) 0), (Value.ref 163)]⟩) ⟨[]⟩
noncomputable def op14_160 (b : Bool) (P : Params) : Obj := Obj.mk (Value.type "tuple") none (Data.seq ⟨[]⟩ 0) ⟨[]⟩
noncomputable def op14_161 (b : Bool) (P : Params) : Obj := Obj.mk Value.none none (Data.fields ⟨[]⟩) ⟨[]⟩
noncomputable def op14_162 (b : Bool) (P : Params) : Obj := Obj.mk Value.none none (Data.func ⟨(Str.ofString "_law_page"), (Str.ofString "_law_page"), prmOf (st1 14), .stmts (bodyOf (st1 14)), scpOf (st1 14), 0, [], Value.none, Value.none, Value.none, Value.none, none, Value.none, Value.none, 0⟩) ⟨[]⟩
noncomputable def op14_163 (b : Bool) (P : Params) : Obj := Obj.mk (Value.type "code") none (Data.fields ⟨[(Value.str (Str.ofString "_law_page") 2337), (Value.str (Str.ofString "_law_page") 2338), (Value.str (Str.ofString "/claim/cut.py") 2339), (Value.int (118) 0), (Value.int (1) 0), (Value.int (0) 0), (Value.int (0) 0), (Value.int (3) 0), (Value.ref 160), (Value.bool true), (Value.int (181) 0), (Value.ref 161), Value.none, Value.none, Value.none, (Value.ref 162), (Value.int (2340) 0), (Value.int (118) 0), (Value.str (Str.ofString "/claim/cut.py") 2341)]⟩) ⟨[]⟩
noncomputable def op14_164 (b : Bool) (P : Params) : Obj := Obj.mk (Value.type "function") none (Data.func ⟨(Str.ofString "_law_page"), (Str.ofString "_law_page"), prmOf (st1 14), .stmts (bodyOf (st1 14)), scpOf (st1 14), 3, [], Value.none, Value.none, Value.none, (Value.str (Str.ofString "law_re0155_01") 2318), none, (Value.ref 163), Value.none, 0⟩) ⟨[]⟩
noncomputable def objsp14_ (b : Bool) (P : Params) (X : Nat → Obj) : List Obj := [boot_o_0 P, boot_o_1 P, boot_o_2 P, op14_3 b P, boot_o_4 P, boot_o_5 P, boot_o_6 P, boot_o_7 P, boot_o_8 P, boot_o_9 P, boot_o_10 P, o111 b P, op14_12 b P, o113 b P, o114 b P, op1_15 b P, op1_16 b P, op1_17 b P, op1_18 b P, op1_19 b P, op1_20 b P, op1_21 b P, op1_22 b P, op1_23 b P, op2_24 b P, op2_25 b P, op2_26 b P, op2_27 b P, op2_28 b P, op2_29 b P, op2_30 b P, op2_31 b P, op2_32 b P, op3_33 b P, op3_34 b P, op3_35 b P, op3_36 b P, op3_37 b P, op3_38 b P, op3_39 b P, op3_40 b P, op3_41 b P, op5_42 b P, op5_43 b P, op5_44 b P, op5_45 b P, op5_46 b P, op5_47 b P, op5_48 b P, op5_49 b P, op5_50 b P, op5_51 b P, op5_52 b P, op5_53 b P, op5_54 b P, op5_55 b P, op5_56 b P, op5_57 b P, op5_58 b P, op5_59 b P, op5_60 b P, op5_61 b P, op5_62 b P, op5_63 b P, op5_64 b P, op5_65 b P, op5_66 b P, op5_67 b P, op5_68 b P, op5_69 b P, op5_70 b P, op5_71 b P, op5_72 b P, op5_73 b P, op5_74 b P, op5_75 b P, op5_76 b P, op5_77 b P, op5_78 b P, op5_79 b P, op5_80 b P, op5_81 b P, op5_82 b P, op5_83 b P, op7_84 b P, op7_85 b P, op7_86 b P, op7_87 b P, op7_88 b P, op7_89 b P, op7_90 b P, op7_91 b P, op7_92 b P, op7_93 b P, op7_94 b P, op8_95 b P, op8_96 b P, op8_97 b P, op8_98 b P, op8_99 b P, op8_100 b P, op8_101 b P, X 0, X 1, X 2, X 3, X 4, X 5, X 6, X 7, X 8, X 9, X 10, X 11, X 12, X 13, X 14, X 15, X 16, X 17, X 18, X 19, X 20, X 21, X 22, X 23, X 24, X 25, X 26, X 27, X 28, X 29, X 30, X 31, X 32, X 33, X 34, X 35, X 36, X 37, X 38, op10_141 b P, op10_142 b P, op10_143 b P, op10_144 b P, op10_145 b P, op10_146 b P, op10_147 b P, op12_148 b P, op12_149 b P, op12_150 b P, op12_151 b P, op12_152 b P, op12_153 b P, op12_154 b P, op13_155 b P, op13_156 b P, op13_157 b P, op13_158 b P, op13_159 b P, op14_160 b P, op14_161 b P, op14_162 b P, op14_163 b P, op14_164 b P]
-- toks 2343 gens 0
noncomputable def op15_3 (b : Bool) (P : Params) : Obj := Obj.mk (Value.type "dict") none (Data.dict ⟨[⟨PyData.keyHash P (Str.ofString "__name__"), (Value.str (Str.ofString "__name__") 165), (Value.str (Str.ofString "law_re0155_01") 2318)⟩, ⟨PyData.keyHash P (Str.ofString "__doc__"), (Value.str (Str.ofString "__doc__") 166), Value.none⟩, ⟨PyData.keyHash P (Str.ofString "__package__"), (Value.str (Str.ofString "__package__") 167), Value.none⟩, ⟨PyData.keyHash P (Str.ofString "__loader__"), (Value.str (Str.ofString "__loader__") 168), (Value.builtin "__main__.__loader__#opaque")⟩, ⟨PyData.keyHash P (Str.ofString "__spec__"), (Value.str (Str.ofString "__spec__") 169), Value.none⟩, ⟨PyData.keyHash P (Str.ofString "__annotations__"), (Value.str (Str.ofString "__annotations__") 170), (Value.ref 6)⟩, ⟨PyData.keyHash P (Str.ofString "__builtins__"), (Value.str (Str.ofString "__builtins__") 171), (Value.ref 4)⟩, ⟨PyData.keyHash P (Str.ofString "__file__"), (Value.str (Str.ofString "__file__") 173), (Value.str (Str.ofString "/claim/cut.py") 172)⟩, ⟨PyData.keyHash P (Str.ofString "__cached__"), (Value.str (Str.ofString "__cached__") 174), Value.none⟩, ⟨PyData.keyHash P (Str.ofString "insort_right"), (Value.str (Str.ofString "insort_right") 201), (Value.ref 23)⟩, ⟨PyData.keyHash P (Str.ofString "bisect_right"), (Value.str (Str.ofString "bisect_right") 215), (Value.ref 32)⟩, ⟨PyData.keyHash P (Str.ofString "bisect_left"), (Value.str (Str.ofString "bisect_left") 229), (Value.ref 41)⟩, ⟨PyData.keyHash P (Str.ofString "_netrclex"), (Value.str (Str.ofString "_netrclex") 289), (Value.ref 79)⟩, ⟨PyData.keyHash P (Str.ofString "b1_set"), (Value.str (Str.ofString "b1_set") 351), (Value.ref 91)⟩, ⟨PyData.keyHash P (Str.ofString "in_table_b1"), (Value.str (Str.ofString "in_table_b1") 358), (Value.ref 101)⟩, ⟨PyData.keyHash P (Str.ofString "b3_exceptions"), (Value.str (Str.ofString "b3_exceptions") 2309), (Value.ref 102)⟩, ⟨PyData.keyHash P (Str.ofString "map_table_b3"), (Value.str (Str.ofString "map_table_b3") 2317), (Value.ref 147)⟩, ⟨PyData.keyHash P (Str.ofString "_law_lexer"), (Value.str (Str.ofString "_law_lexer") 2330), (Value.ref 154)⟩, ⟨PyData.keyHash P (Str.ofString "_law_word"), (Value.str (Str.ofString "_law_word") 2336), (Value.ref 159)⟩, ⟨PyData.keyHash P (Str.ofString "_law_page"), (Value.str (Str.ofString "_law_page") 2342), (Value.ref 164)⟩, ⟨PyData.keyHash P (Str.ofString "_law_more"), (Value.str (Str.ofString "_law_more") 2350), (Value.ref 171)⟩]⟩ 21) ⟨[]⟩
noncomputable def op15_12 (b : Bool) (P : Params) : Obj := Obj.mk Value.none none (Data.fields ⟨[(Value.int (2) 0), (Value.int (0) 0), (Value.ref 22), (Value.int (8) 0), (Value.int (0) 0), (Value.ref 31), (Value.int (28) 0), (Value.int (0) 0), (Value.ref 40), (Value.int (49) 0), (Value.int (0) 0), (Value.ref 47), (Value.int (94) 0), (Value.int (0) 0), (Value.ref 100), (Value.int (97) 0), (Value.int (0) 0), (Value.ref 146), (Value.int (103) 0), (Value.int (0) 0), (Value.ref 153), (Value.int (113) 0), (Value.int (0) 0), (Value.ref 158), (Value.int (118) 0), (Value.int (0) 0), (Value.ref 163), (Value.int (128) 0), (Value.int (0) 0), (Value.ref 170)]⟩) ⟨[]⟩
noncomputable def op15_165 (b : Bool) (P : Params) : Obj := Obj.mk (Value.type "tuple") none (Data.seq ⟨[]⟩ 0) ⟨[]⟩
noncomputable def op15_166 (b : Bool) (P : Params) : Obj := Obj.mk Value.none none (Data.fields ⟨[]⟩) ⟨[]⟩
noncomputable def op15_167 (b : Bool) (P : Params) : Obj := Obj.mk (Value.type "tuple") none (Data.seq ⟨[(Value.str (Str.ofString "longer") 2346), (Value.str (Str.ofString "shorter") 2347)]⟩ 0) ⟨[]⟩
noncomputable def op15_168 (b : Bool) (P : Params) : Obj := Obj.mk (Value.type "tuple") none (Data.seq ⟨[]⟩ 0) ⟨[]⟩
noncomputable def op15_169 (b : Bool) (P : Params) : Obj := Obj.mk Value.none none (Data.func ⟨(Str.ofString "_law_more"), (Str.ofString "_law_more"), prmOf (st1 15), .stmts (bodyOf (st1 15)), scpOf (st1 15), 0, [], Value.none, Value.none, Value.none, Value.none, none, Value.none, Value.none, 0⟩) ⟨[]⟩
noncomputable def op15_170 (b : Bool) (P : Params) : Obj := Obj.mk (Value.type "code") none (Data.fields ⟨[(Value.str (Str.ofString "_law_more") 2343), (Value.str (Str.ofString "_law_more") 2344), (Value.str (Str.ofString "/claim/cut.py") 2345), (Value.int (128) 0), (Value.int (2) 0), (Value.int (0) 0), (Value.int (0) 0), (Value.int (3) 0), (Value.ref 165), (Value.bool true), (Value.int (181) 0), (Value.ref 166), Value.none, (Value.ref 167), (Value.ref 168), (Value.ref 169), (Value.int (2348) 0), (Value.int (128) 0), (Value.str (Str.ofString "/claim/cut.py") 2349)]⟩) ⟨[]⟩
noncomputable def op15_171 (b : Bool) (P : Params) : Obj := Obj.mk (Value.type "function") none (Data.func ⟨(Str.ofString "_law_more"), (Str.ofString "_law_more"), prmOf (st1 15), .stmts (bodyOf (st1 15)), scpOf (st1 15), 3, [], Value.none, Value.none, Value.none, (Value.str (Str.ofString "law_re0155_01") 2318), none, (Value.ref 170), Value.none, 0⟩) ⟨[]⟩
noncomputable def objsp15_ (b : Bool) (P : Params) (X : Nat → Obj) : List Obj := [boot_o_0 P, boot_o_1 P, boot_o_2 P, op15_3 b P, boot_o_4 P, boot_o_5 P, boot_o_6 P, boot_o_7 P, boot_o_8 P, boot_o_9 P, boot_o_10 P, o111 b P, op15_12 b P, o113 b P, o114 b P, op1_15 b P, op1_16 b P, op1_17 b P, op1_18 b P, op1_19 b P, op1_20 b P, op1_21 b P, op1_22 b P, op1_23 b P, op2_24 b P, op2_25 b P, op2_26 b P, op2_27 b P, op2_28 b P, op2_29 b P, op2_30 b P, op2_31 b P, op2_32 b P, op3_33 b P, op3_34 b P, op3_35 b P, op3_36 b P, op3_37 b P, op3_38 b P, op3_39 b P, op3_40 b P, op3_41 b P, op5_42 b P, op5_43 b P, op5_44 b P, op5_45 b P, op5_46 b P, op5_47 b P, op5_48 b P, op5_49 b P, op5_50 b P, op5_51 b P, op5_52 b P, op5_53 b P, op5_54 b P, op5_55 b P, op5_56 b P, op5_57 b P, op5_58 b P, op5_59 b P, op5_60 b P, op5_61 b P, op5_62 b P, op5_63 b P, op5_64 b P, op5_65 b P, op5_66 b P, op5_67 b P, op5_68 b P, op5_69 b P, op5_70 b P, op5_71 b P, op5_72 b P, op5_73 b P, op5_74 b P, op5_75 b P, op5_76 b P, op5_77 b P, op5_78 b P, op5_79 b P, op5_80 b P, op5_81 b P, op5_82 b P, op5_83 b P, op7_84 b P, op7_85 b P, op7_86 b P, op7_87 b P, op7_88 b P, op7_89 b P, op7_90 b P, op7_91 b P, op7_92 b P, op7_93 b P, op7_94 b P, op8_95 b P, op8_96 b P, op8_97 b P, op8_98 b P, op8_99 b P, op8_100 b P, op8_101 b P, X 0, X 1, X 2, X 3, X 4, X 5, X 6, X 7, X 8, X 9, X 10, X 11, X 12, X 13, X 14, X 15, X 16, X 17, X 18, X 19, X 20, X 21, X 22, X 23, X 24, X 25, X 26, X 27, X 28, X 29, X 30, X 31, X 32, X 33, X 34, X 35, X 36, X 37, X 38, op10_141 b P, op10_142 b P, op10_143 b P, op10_144 b P, op10_145 b P, op10_146 b P, op10_147 b P, op12_148 b P, op12_149 b P, op12_150 b P, op12_151 b P, op12_152 b P, op12_153 b P, op12_154 b P, op13_155 b P, op13_156 b P, op13_157 b P, op13_158 b P, op13_159 b P, op14_160 b P, op14_161 b P, op14_162 b P, op14_163 b P, op14_164 b P, op15_165 b P, op15_166 b P, op15_167 b P, op15_168 b P, op15_169 b P, op15_170 b P, op15_171 b P]
-- toks 2351 gens 0
noncomputable def op16_3 (b : Bool) (P : Params) : Obj := Obj.mk (Value.type "dict") none (Data.dict ⟨[⟨PyData.keyHash P (Str.ofString "__name__"), (Value.str (Str.ofString "__name__") 165), (Value.str (Str.ofString "law_re0155_01") 2318)⟩, ⟨PyData.keyHash P (Str.ofString "__doc__"), (Value.str (Str.ofString "__doc__") 166), Value.none⟩, ⟨PyData.keyHash P (Str.ofString "__package__"), (Value.str (Str.ofString "__package__") 167), Value.none⟩, ⟨PyData.keyHash P (Str.ofString "__loader__"), (Value.str (Str.ofString "__loader__") 168), (Value.builtin "__main__.__loader__#opaque")⟩, ⟨PyData.keyHash P (Str.ofString "__spec__"), (Value.str (Str.ofString "__spec__") 169), Value.none⟩, ⟨PyData.keyHash P (Str.ofString "__annotations__"), (Value.str (Str.ofString "__annotations__") 170), (Value.ref 6)⟩, ⟨PyData.keyHash P (Str.ofString "__builtins__"), (Value.str (Str.ofString "__builtins__") 171), (Value.ref 4)⟩, ⟨PyData.keyHash P (Str.ofString "__file__"), (Value.str (Str.ofString "__file__") 173), (Value.str (Str.ofString "/claim/cut.py") 172)⟩, ⟨PyData.keyHash P (Str.ofString "__cached__"), (Value.str (Str.ofString "__cached__") 174), Value.none⟩, ⟨PyData.keyHash P (Str.ofString "insort_right"), (Value.str (Str.ofString "insort_right") 201), (Value.ref 23)⟩, ⟨PyData.keyHash P (Str.ofString "bisect_right"), (Value.str (Str.ofString "bisect_right") 215), (Value.ref 32)⟩, ⟨PyData.keyHash P (Str.ofString "bisect_left"), (Value.str (Str.ofString "bisect_left") 229), (Value.ref 41)⟩, ⟨PyData.keyHash P (Str.ofString "_netrclex"), (Value.str (Str.ofString "_netrclex") 289), (Value.ref 79)⟩, ⟨PyData.keyHash P (Str.ofString "b1_set"), (Value.str (Str.ofString "b1_set") 351), (Value.ref 91)⟩, ⟨PyData.keyHash P (Str.ofString "in_table_b1"), (Value.str (Str.ofString "in_table_b1") 358), (Value.ref 101)⟩, ⟨PyData.keyHash P (Str.ofString "b3_exceptions"), (Value.str (Str.ofString "b3_exceptions") 2309), (Value.ref 102)⟩, ⟨PyData.keyHash P (Str.ofString "map_table_b3"), (Value.str (Str.ofString "map_table_b3") 2317), (Value.ref 147)⟩, ⟨PyData.keyHash P (Str.ofString "_law_lexer"), (Value.str (Str.ofString "_law_lexer") 2330), (Value.ref 154)⟩, ⟨PyData.keyHash P (Str.ofString "_law_word"), (Value.str (Str.ofString "_law_word") 2336), (Value.ref 159)⟩, ⟨PyData.keyHash P (Str.ofString "_law_page"), (Value.str (Str.ofString "_law_page") 2342), (Value.ref 164)⟩, ⟨PyData.keyHash P (Str.ofString "_law_more"), (Value.str (Str.ofString "_law_more") 2350), (Value.ref 171)⟩, ⟨PyData.keyHash P (Str.ofString "_law_ends"), (Value.str (Str.ofString "_law_ends") 2356), (Value.ref 176)⟩]⟩ 22) ⟨[]⟩
noncomputable def op16_12 (b : Bool) (P : Params) : Obj := Obj.mk Value.none none (Data.fields ⟨[(Value.int (2) 0), (Value.int (0) 0), (Value.ref 22), (Value.int (8) 0), (Value.int (0) 0), (Value.ref 31), (Value.int (28) 0), (Value.int (0) 0), (Value.ref 40), (Value.int (49) 0), (Value.int (0) 0), (Value.ref 47), (Value.int (94) 0), (Value.int (0) 0), (Value.ref 100), (Value.int (97) 0), (Value.int (0) 0), (Value.ref 146), (Value.int (103) 0), (Value.int (0) 0), (Value.ref 153), (Value.int (113) 0), (Value.int (0) 0), (Value.ref 158), (Value.int (118) 0), (Value.int (0) 0), (Value.ref 163), (Value.int (128) 0), (Value.int (0) 0), (Value.ref 170), (Value.int (130) 0), (Value.int (0) 0), (Value.ref 175)]⟩) ⟨[]⟩
noncomputable def op16_172 (b : Bool) (P : Params) : Obj := Obj.mk (Value.type "tuple") none (Data.seq ⟨[]⟩ 0) ⟨[]⟩
noncomputable def op16_173 (b : Bool) (P : Params) : Obj := Obj.mk Value.none none (Data.fields ⟨[]⟩) ⟨[]⟩
noncomputable def op16_174 (b : Bool) (P : Params) : Obj := Obj.mk Value.none none (Data.func ⟨(Str.ofString "_law_ends"), (Str.ofString "_law_ends"), prmOf (st1 16), .stmts (bodyOf (st1 16)), scpOf (st1 16), 0, [], Value.none, Value.none, Value.none, Value.none, none, Value.none, Value.none, 0⟩) ⟨[]⟩
noncomputable def op16_175 (b : Bool) (P : Params) : Obj := Obj.mk (Value.type "code") none (Data.fields ⟨[(Value.str (Str.ofString "_law_ends") 2351), (Value.str (Str.ofString "_law_ends") 2352), (Value.str (Str.ofString "/claim/cut.py") 2353), (Value.int (130) 0), (Value.int (3) 0), (Value.int (0) 0), (Value.int (0) 0), (Value.int (3) 0), (Value.ref 172), (Value.bool true), (Value.int (181) 0), (Value.ref 173), Value.none, Value.none, Value.none, (Value.ref 174), (Value.int (2354) 0), (Value.int (130) 0), (Value.str (Str.ofString "/claim/cut.py") 2355)]⟩) ⟨[]⟩
noncomputable def op16_176 (b : Bool) (P : Params) : Obj := Obj.mk (Value.type "function") none (Data.func ⟨(Str.ofString "_law_ends"), (Str.ofString "_law_ends"), prmOf (st1 16), .stmts (bodyOf (st1 16)), scpOf (st1 16), 3, [], Value.none, Value.none, Value.none, (Value.str (Str.ofString "law_re0155_01") 2318), none, (Value.ref 175), Value.none, 0⟩) ⟨[]⟩
noncomputable def objsp16_ (b : Bool) (P : Params) (X : Nat → Obj) : List Obj := [boot_o_0 P, boot_o_1 P, boot_o_2 P, op16_3 b P, boot_o_4 P, boot_o_5 P, boot_o_6 P, boot_o_7 P, boot_o_8 P, boot_o_9 P, boot_o_10 P, o111 b P, op16_12 b P, o113 b P, o114 b P, op1_15 b P, op1_16 b P, op1_17 b P, op1_18 b P, op1_19 b P, op1_20 b P, op1_21 b P, op1_22 b P, op1_23 b P, op2_24 b P, op2_25 b P, op2_26 b P, op2_27 b P, op2_28 b P, op2_29 b P, op2_30 b P, op2_31 b P, op2_32 b P, op3_33 b P, op3_34 b P, op3_35 b P, op3_36 b P, op3_37 b P, op3_38 b P, op3_39 b P, op3_40 b P, op3_41 b P, op5_42 b P, op5_43 b P, op5_44 b P, op5_45 b P, op5_46 b P, op5_47 b P, op5_48 b P, op5_49 b P, op5_50 b P, op5_51 b P, op5_52 b P, op5_53 b P, op5_54 b P, op5_55 b P, op5_56 b P, op5_57 b P, op5_58 b P, op5_59 b P, op5_60 b P, op5_61 b P, op5_62 b P, op5_63 b P, op5_64 b P, op5_65 b P, op5_66 b P, op5_67 b P, op5_68 b P, op5_69 b P, op5_70 b P, op5_71 b P, op5_72 b P, op5_73 b P, op5_74 b P, op5_75 b P, op5_76 b P, op5_77 b P, op5_78 b P, op5_79 b P, op5_80 b P, op5_81 b P, op5_82 b P, op5_83 b P, op7_84 b P, op7_85 b P, op7_86 b P, op7_87 b P, op7_88 b P, op7_89 b P, op7_90 b P, op7_91 b P, op7_92 b P, op7_93 b P, op7_94 b P, op8_95 b P, op8_96 b P, op8_97 b P, op8_98 b P, op8_99 b P, op8_100 b P, op8_101 b P, X 0, X 1, X 2, X 3, X 4, X 5, X 6, X 7, X 8, X 9, X 10, X 11, X 12, X 13, X 14, X 15, X 16, X 17, X 18, X 19, X 20, X 21, X 22, X 23, X 24, X 25, X 26, X 27, X 28, X 29, X 30, X 31, X 32, X 33, X 34, X 35, X 36, X 37, X 38, op10_141 b P, op10_142 b P, op10_143 b P, op10_144 b P, op10_145 b P, op10_146 b P, op10_147 b P, op12_148 b P, op12_149 b P, op12_150 b P, op12_151 b P, op12_152 b P, op12_153 b P, op12_154 b P, op13_155 b P, op13_156 b P, op13_157 b P, op13_158 b P, op13_159 b P, op14_160 b P, op14_161 b P, op14_162 b P, op14_163 b P, op14_164 b P, op15_165 b P, op15_166 b P, op15_167 b P, op15_168 b P, op15_169 b P, op15_170 b P, op15_171 b P, op16_172 b P, op16_173 b P, op16_174 b P, op16_175 b P, op16_176 b P]
-- toks 2357 gens 0
noncomputable def op17_3 (b : Bool) (P : Params) : Obj := Obj.mk (Value.type "dict") none (Data.dict ⟨[⟨PyData.keyHash P (Str.ofString "__name__"), (Value.str (Str.ofString "__name__") 165), (Value.str (Str.ofString "law_re0155_01") 2318)⟩, ⟨PyData.keyHash P (Str.ofString "__doc__"), (Value.str (Str.ofString "__doc__") 166), Value.none⟩, ⟨PyData.keyHash P (Str.ofString "__package__"), (Value.str (Str.ofString "__package__") 167), Value.none⟩, ⟨PyData.keyHash P (Str.ofString "__loader__"), (Value.str (Str.ofString "__loader__") 168), (Value.builtin "__main__.__loader__#opaque")⟩, ⟨PyData.keyHash P (Str.ofString "__spec__"), (Value.str (Str.ofString "__spec__") 169), Value.none⟩, ⟨PyData.keyHash P (Str.ofString "__annotations__"), (Value.str (Str.ofString "__annotations__") 170), (Value.ref 6)⟩, ⟨PyData.keyHash P (Str.ofString "__builtins__"), (Value.str (Str.ofString "__builtins__") 171), (Value.ref 4)⟩, ⟨PyData.keyHash P (Str.ofString "__file__"), (Value.str (Str.ofString "__file__") 173), (Value.str (Str.ofString "/claim/cut.py") 172)⟩, ⟨PyData.keyHash P (Str.ofString "__cached__"), (Value.str (Str.ofString "__cached__") 174), Value.none⟩, ⟨PyData.keyHash P (Str.ofString "insort_right"), (Value.str (Str.ofString "insort_right") 201), (Value.ref 23)⟩, ⟨PyData.keyHash P (Str.ofString "bisect_right"), (Value.str (Str.ofString "bisect_right") 215), (Value.ref 32)⟩, ⟨PyData.keyHash P (Str.ofString "bisect_left"), (Value.str (Str.ofString "bisect_left") 229), (Value.ref 41)⟩, ⟨PyData.keyHash P (Str.ofString "_netrclex"), (Value.str (Str.ofString "_netrclex") 289), (Value.ref 79)⟩, ⟨PyData.keyHash P (Str.ofString "b1_set"), (Value.str (Str.ofString "b1_set") 351), (Value.ref 91)⟩, ⟨PyData.keyHash P (Str.ofString "in_table_b1"), (Value.str (Str.ofString "in_table_b1") 358), (Value.ref 101)⟩, ⟨PyData.keyHash P (Str.ofString "b3_exceptions"), (Value.str (Str.ofString "b3_exceptions") 2309), (Value.ref 102)⟩, ⟨PyData.keyHash P (Str.ofString "map_table_b3"), (Value.str (Str.ofString "map_table_b3") 2317), (Value.ref 147)⟩, ⟨PyData.keyHash P (Str.ofString "_law_lexer"), (Value.str (Str.ofString "_law_lexer") 2330), (Value.ref 154)⟩, ⟨PyData.keyHash P (Str.ofString "_law_word"), (Value.str (Str.ofString "_law_word") 2336), (Value.ref 159)⟩, ⟨PyData.keyHash P (Str.ofString "_law_page"), (Value.str (Str.ofString "_law_page") 2342), (Value.ref 164)⟩, ⟨PyData.keyHash P (Str.ofString "_law_more"), (Value.str (Str.ofString "_law_more") 2350), (Value.ref 171)⟩, ⟨PyData.keyHash P (Str.ofString "_law_ends"), (Value.str (Str.ofString "_law_ends") 2356), (Value.ref 176)⟩, ⟨PyData.keyHash P (Str.ofString "_law_root"), (Value.str (Str.ofString "_law_root") 2364), (Value.ref 183)⟩]⟩ 23) ⟨[]⟩
noncomputable def op17_12 (b : Bool) (P : Params) : Obj := Obj.mk Value.none none (Data.fields ⟨[(Value.int (2) 0), (Value.int (0) 0), (Value.ref 22), (Value.int (8) 0), (Value.int (0) 0), (Value.ref 31), (Value.int (28) 0), (Value.int (0) 0), (Value.ref 40), (Value.int (49) 0), (Value.int (0) 0), (Value.ref 47), (Value.int (94) 0), (Value.int (0) 0), (Value.ref 100), (Value.int (97) 0), (Value.int (0) 0), (Value.ref 146), (Value.int (103) 0), (Value.int (0) 0), (Value.ref 153), (Value.int (113) 0), (Value.int (0) 0), (Value.ref 158), (Value.int (118) 0), (Value.int (0) 0), (Value.ref 163), (Value.int (128) 0), (Value.int (0) 0), (Value.ref 170), (Value.int (130) 0), (Value.int (0) 0), (Value.ref 175), (Value.int (144) 0), (Value.int (0) 0), (Value.ref 182)]⟩) ⟨[]⟩
noncomputable def op17_177 (b : Bool) (P : Params) : Obj := Obj.mk (Value.type "tuple") none (Data.seq ⟨[]⟩ 0) ⟨[]⟩
noncomputable def op17_178 (b : Bool) (P : Params) : Obj := Obj.mk Value.none none (Data.fields ⟨[]⟩) ⟨[]⟩
noncomputable def op17_179 (b : Bool) (P : Params) : Obj := Obj.mk (Value.type "tuple") none (Data.seq ⟨[(Value.str (Str.ofString "word") 2360), (Value.str (Str.ofString "size") 2361)]⟩ 0) ⟨[]⟩
noncomputable def op17_180 (b : Bool) (P : Params) : Obj := Obj.mk (Value.type "tuple") none (Data.seq ⟨[]⟩ 0) ⟨[]⟩
noncomputable def op17_181 (b : Bool) (P : Params) : Obj := Obj.mk Value.none none (Data.func ⟨(Str.ofString "_law_root"), (Str.ofString "_law_root"), prmOf (st1 17), .stmts (bodyOf (st1 17)), scpOf (st1 17), 0, [], Value.none, Value.none, Value.none, Value.none, none, Value.none, Value.none, 0⟩) ⟨[]⟩
noncomputable def op17_182 (b : Bool) (P : Params) : Obj := Obj.mk (Value.type "code") none (Data.fields ⟨[(Value.str (Str.ofString "_law_root") 2357), (Value.str (Str.ofString "_law_root") 2358), (Value.str (Str.ofString "/claim/cut.py") 2359), (Value.int (144) 0), (Value.int (1) 0), (Value.int (0) 0), (Value.int (0) 0), (Value.int (3) 0), (Value.ref 177), (Value.bool true), (Value.int (181) 0), (Value.ref 178), Value.none, (Value.ref 179), (Value.ref 180), (Value.ref 181), (Value.int (2362) 0), (Value.int (144) 0), (Value.str (Str.ofString "/claim/cut.py") 2363)]⟩) ⟨[]⟩
noncomputable def op17_183 (b : Bool) (P : Params) : Obj := Obj.mk (Value.type "function") none (Data.func ⟨(Str.ofString "_law_root"), (Str.ofString "_law_root"), prmOf (st1 17), .stmts (bodyOf (st1 17)), scpOf (st1 17), 3, [], Value.none, Value.none, Value.none, (Value.str (Str.ofString "law_re0155_01") 2318), none, (Value.ref 182), Value.none, 0⟩) ⟨[]⟩
noncomputable def objsp17_ (b : Bool) (P : Params) (X : Nat → Obj) : List Obj := [boot_o_0 P, boot_o_1 P, boot_o_2 P, op17_3 b P, boot_o_4 P, boot_o_5 P, boot_o_6 P, boot_o_7 P, boot_o_8 P, boot_o_9 P, boot_o_10 P, o111 b P, op17_12 b P, o113 b P, o114 b P, op1_15 b P, op1_16 b P, op1_17 b P, op1_18 b P, op1_19 b P, op1_20 b P, op1_21 b P, op1_22 b P, op1_23 b P, op2_24 b P, op2_25 b P, op2_26 b P, op2_27 b P, op2_28 b P, op2_29 b P, op2_30 b P, op2_31 b P, op2_32 b P, op3_33 b P, op3_34 b P, op3_35 b P, op3_36 b P, op3_37 b P, op3_38 b P, op3_39 b P, op3_40 b P, op3_41 b P, op5_42 b P, op5_43 b P, op5_44 b P, op5_45 b P, op5_46 b P, op5_47 b P, op5_48 b P, op5_49 b P, op5_50 b P, op5_51 b P, op5_52 b P, op5_53 b P, op5_54 b P, op5_55 b P, op5_56 b P, op5_57 b P, op5_58 b P, op5_59 b P, op5_60 b P, op5_61 b P, op5_62 b P, op5_63 b P, op5_64 b P, op5_65 b P, op5_66 b P, op5_67 b P, op5_68 b P, op5_69 b P, op5_70 b P, op5_71 b P, op5_72 b P, op5_73 b P, op5_74 b P, op5_75 b P, op5_76 b P, op5_77 b P, op5_78 b P, op5_79 b P, op5_80 b P, op5_81 b P, op5_82 b P, op5_83 b P, op7_84 b P, op7_85 b P, op7_86 b P, op7_87 b P, op7_88 b P, op7_89 b P, op7_90 b P, op7_91 b P, op7_92 b P, op7_93 b P, op7_94 b P, op8_95 b P, op8_96 b P, op8_97 b P, op8_98 b P, op8_99 b P, op8_100 b P, op8_101 b P, X 0, X 1, X 2, X 3, X 4, X 5, X 6, X 7, X 8, X 9, X 10, X 11, X 12, X 13, X 14, X 15, X 16, X 17, X 18, X 19, X 20, X 21, X 22, X 23, X 24, X 25, X 26, X 27, X 28, X 29, X 30, X 31, X 32, X 33, X 34, X 35, X 36, X 37, X 38, op10_141 b P, op10_142 b P, op10_143 b P, op10_144 b P, op10_145 b P, op10_146 b P, op10_147 b P, op12_148 b P, op12_149 b P, op12_150 b P, op12_151 b P, op12_152 b P, op12_153 b P, op12_154 b P, op13_155 b P, op13_156 b P, op13_157 b P, op13_158 b P, op13_159 b P, op14_160 b P, op14_161 b P, op14_162 b P, op14_163 b P, op14_164 b P, op15_165 b P, op15_166 b P, op15_167 b P, op15_168 b P, op15_169 b P, op15_170 b P, op15_171 b P, op16_172 b P, op16_173 b P, op16_174 b P, op16_175 b P, op16_176 b P, op17_177 b P, op17_178 b P, op17_179 b P, op17_180 b P, op17_181 b P, op17_182 b P, op17_183 b P]
-- toks 2365 gens 0
noncomputable def op18_3 (b : Bool) (P : Params) : Obj := Obj.mk (Value.type "dict") none (Data.dict ⟨[⟨PyData.keyHash P (Str.ofString "__name__"), (Value.str (Str.ofString "__name__") 165), (Value.str (Str.ofString "law_re0155_01") 2318)⟩, ⟨PyData.keyHash P (Str.ofString "__doc__"), (Value.str (Str.ofString "__doc__") 166), Value.none⟩, ⟨PyData.keyHash P (Str.ofString "__package__"), (Value.str (Str.ofString "__package__") 167), Value.none⟩, ⟨PyData.keyHash P (Str.ofString "__loader__"), (Value.str (Str.ofString "__loader__") 168), (Value.builtin "__main__.__loader__#opaque")⟩, ⟨PyData.keyHash P (Str.ofString "__spec__"), (Value.str (Str.ofString "__spec__") 169), Value.none⟩, ⟨PyData.keyHash P (Str.ofString "__annotations__"), (Value.str (Str.ofString "__annotations__") 170), (Value.ref 6)⟩, ⟨PyData.keyHash P (Str.ofString "__builtins__"), (Value.str (Str.ofString "__builtins__") 171), (Value.ref 4)⟩, ⟨PyData.keyHash P (Str.ofString "__file__"), (Value.str (Str.ofString "__file__") 173), (Value.str (Str.ofString "/claim/cut.py") 172)⟩, ⟨PyData.keyHash P (Str.ofString "__cached__"), (Value.str (Str.ofString "__cached__") 174), Value.none⟩, ⟨PyData.keyHash P (Str.ofString "insort_right"), (Value.str (Str.ofString "insort_right") 201), (Value.ref 23)⟩, ⟨PyData.keyHash P (Str.ofString "bisect_right"), (Value.str (Str.ofString "bisect_right") 215), (Value.ref 32)⟩, ⟨PyData.keyHash P (Str.ofString "bisect_left"), (Value.str (Str.ofString "bisect_left") 229), (Value.ref 41)⟩, ⟨PyData.keyHash P (Str.ofString "_netrclex"), (Value.str (Str.ofString "_netrclex") 289), (Value.ref 79)⟩, ⟨PyData.keyHash P (Str.ofString "b1_set"), (Value.str (Str.ofString "b1_set") 351), (Value.ref 91)⟩, ⟨PyData.keyHash P (Str.ofString "in_table_b1"), (Value.str (Str.ofString "in_table_b1") 358), (Value.ref 101)⟩, ⟨PyData.keyHash P (Str.ofString "b3_exceptions"), (Value.str (Str.ofString "b3_exceptions") 2309), (Value.ref 102)⟩, ⟨PyData.keyHash P (Str.ofString "map_table_b3"), (Value.str (Str.ofString "map_table_b3") 2317), (Value.ref 147)⟩, ⟨PyData.keyHash P (Str.ofString "_law_lexer"), (Value.str (Str.ofString "_law_lexer") 2330), (Value.ref 154)⟩, ⟨PyData.keyHash P (Str.ofString "_law_word"), (Value.str (Str.ofString "_law_word") 2336), (Value.ref 159)⟩, ⟨PyData.keyHash P (Str.ofString "_law_page"), (Value.str (Str.ofString "_law_page") 2342), (Value.ref 164)⟩, ⟨PyData.keyHash P (Str.ofString "_law_more"), (Value.str (Str.ofString "_law_more") 2350), (Value.ref 171)⟩, ⟨PyData.keyHash P (Str.ofString "_law_ends"), (Value.str (Str.ofString "_law_ends") 2356), (Value.ref 176)⟩, ⟨PyData.keyHash P (Str.ofString "_law_root"), (Value.str (Str.ofString "_law_root") 2364), (Value.ref 183)⟩, ⟨PyData.keyHash P (Str.ofString "_law_powers"), (Value.str (Str.ofString "_law_powers") 2370), (Value.ref 188)⟩]⟩ 24) ⟨[]⟩
noncomputable def op18_12 (b : Bool) (P : Params) : Obj := Obj.mk Value.none none (Data.fields ⟨[(Value.int (2) 0), (Value.int (0) 0), (Value.ref 22), (Value.int (8) 0), (Value.int (0) 0), (Value.ref 31), (Value.int (28) 0), (Value.int (0) 0), (Value.ref 40), (Value.int (49) 0), (Value.int (0) 0), (Value.ref 47), (Value.int (94) 0), (Value.int (0) 0), (Value.ref 100), (Value.int (97) 0), (Value.int (0) 0), (Value.ref 146), (Value.int (103) 0), (Value.int (0) 0), (Value.ref 153), (Value.int (113) 0), (Value.int (0) 0), (Value.ref 158), (Value.int (118) 0), (Value.int (0) 0), (Value.ref 163), (Value.int (128) 0), (Value.int (0) 0), (Value.ref 170), (Value.int (130) 0), (Value.int (0) 0), (Value.ref 175), (Value.int (144) 0), (Value.int (0) 0), (Value.ref 182), (Value.int (149) 0), (Value.int (0) 0), (Value.ref 187)]⟩) ⟨[]⟩
noncomputable def op18_184 (b : Bool) (P : Params) : Obj := Obj.mk (Value.type "tuple") none (Data.seq ⟨[]⟩ 0) ⟨[]⟩
noncomputable def op18_185 (b : Bool) (P : Params) : Obj := Obj.mk Value.none none (Data.fields ⟨[]⟩) ⟨[]⟩
noncomputable def op18_186 (b : Bool) (P : Params) : Obj := Obj.mk Value.none none (Data.func ⟨(Str.ofString "_law_powers"), (Str.ofString "_law_powers"), prmOf (st1 18), .stmts (bodyOf (st1 18)), scpOf (st1 18), 0, [], Value.none, Value.none, Value.none, Value.none, none, Value.none, Value.none, 0⟩) ⟨[]⟩
noncomputable def op18_187 (b : Bool) (P : Params) : Obj := Obj.mk (Value.type "code") none (Data.fields ⟨[(Value.str (Str.ofString "_law_powers") 2365), (Value.str (Str.ofString "_law_powers") 2366), (Value.str (Str.ofString "/claim/cut.py") 2367), (Value.int (149) 0), (Value.int (2) 0), (Value.int (0) 0), (Value.int (0) 0), (Value.int (3) 0), (Value.ref 184), (Value.bool true), (Value.int (181) 0), (Value.ref 185), Value.none, Value.none, Value.none, (Value.ref 186), (Value.int (2368) 0), (Value.int (149) 0), (Value.str (Str.ofString "/claim/cut.py") 2369)]⟩) ⟨[]⟩
noncomputable def op18_188 (b : Bool) (P : Params) : Obj := Obj.mk (Value.type "function") none (Data.func ⟨(Str.ofString "_law_powers"), (Str.ofString "_law_powers"), prmOf (st1 18), .stmts (bodyOf (st1 18)), scpOf (st1 18), 3, [], Value.none, Value.none, Value.none, (Value.str (Str.ofString "law_re0155_01") 2318), none, (Value.ref 187), Value.none, 0⟩) ⟨[]⟩
noncomputable def objsp18_ (b : Bool) (P : Params) (X : Nat → Obj) : List Obj := [boot_o_0 P, boot_o_1 P, boot_o_2 P, op18_3 b P, boot_o_4 P, boot_o_5 P, boot_o_6 P, boot_o_7 P, boot_o_8 P, boot_o_9 P, boot_o_10 P, o111 b P, op18_12 b P, o113 b P, o114 b P, op1_15 b P, op1_16 b P, op1_17 b P, op1_18 b P, op1_19 b P, op1_20 b P, op1_21 b P, op1_22 b P, op1_23 b P, op2_24 b P, op2_25 b P, op2_26 b P, op2_27 b P, op2_28 b P, op2_29 b P, op2_30 b P, op2_31 b P, op2_32 b P, op3_33 b P, op3_34 b P, op3_35 b P, op3_36 b P, op3_37 b P, op3_38 b P, op3_39 b P, op3_40 b P, op3_41 b P, op5_42 b P, op5_43 b P, op5_44 b P, op5_45 b P, op5_46 b P, op5_47 b P, op5_48 b P, op5_49 b P, op5_50 b P, op5_51 b P, op5_52 b P, op5_53 b P, op5_54 b P, op5_55 b P, op5_56 b P, op5_57 b P, op5_58 b P, op5_59 b P, op5_60 b P, op5_61 b P, op5_62 b P, op5_63 b P, op5_64 b P, op5_65 b P, op5_66 b P, op5_67 b P, op5_68 b P, op5_69 b P, op5_70 b P, op5_71 b P, op5_72 b P, op5_73 b P, op5_74 b P, op5_75 b P, op5_76 b P, op5_77 b P, op5_78 b P, op5_79 b P, op5_80 b P, op5_81 b P, op5_82 b P, op5_83 b P, op7_84 b P, op7_85 b P, op7_86 b P, op7_87 b P, op7_88 b P, op7_89 b P, op7_90 b P, op7_91 b P, op7_92 b P, op7_93 b P, op7_94 b P, op8_95 b P, op8_96 b P, op8_97 b P, op8_98 b P, op8_99 b P, op8_100 b P, op8_101 b P, X 0, X 1, X 2, X 3, X 4, X 5, X 6, X 7, X 8, X 9, X 10, X 11, X 12, X 13, X 14, X 15, X 16, X 17, X 18, X 19, X 20, X 21, X 22, X 23, X 24, X 25, X 26, X 27, X 28, X 29, X 30, X 31, X 32, X 33, X 34, X 35, X 36, X 37, X 38, op10_141 b P, op10_142 b P, op10_143 b P, op10_144 b P, op10_145 b P, op10_146 b P, op10_147 b P, op12_148 b P, op12_149 b P, op12_150 b P, op12_151 b P, op12_152 b P, op12_153 b P, op12_154 b P, op13_155 b P, op13_156 b P, op13_157 b P, op13_158 b P, op13_159 b P, op14_160 b P, op14_161 b P, op14_162 b P, op14_163 b P, op14_164 b P, op15_165 b P, op15_166 b P, op15_167 b P, op15_168 b P, op15_169 b P, op15_170 b P, op15_171 b P, op16_172 b P, op16_173 b P, op16_174 b P, op16_175 b P, op16_176 b P, op17_177 b P, op17_178 b P, op17_179 b P, op17_180 b P, op17_181 b P, op17_182 b P, op17_183 b P, op18_184 b P, op18_185 b P, op18_186 b P, op18_187 b P, op18_188 b P]
-- toks 2371 gens 0
noncomputable def op19_3 (b : Bool) (P : Params) : Obj := Obj.mk (Value.type "dict") none (Data.dict ⟨[⟨PyData.keyHash P (Str.ofString "__name__"), (Value.str (Str.ofString "__name__") 165), (Value.str (Str.ofString "law_re0155_01") 2318)⟩, ⟨PyData.keyHash P (Str.ofString "__doc__"), (Value.str (Str.ofString "__doc__") 166), Value.none⟩, ⟨PyData.keyHash P (Str.ofString "__package__"), (Value.str (Str.ofString "__package__") 167), Value.none⟩, ⟨PyData.keyHash P (Str.ofString "__loader__"), (Value.str (Str.ofString "__loader__") 168), (Value.builtin "__main__.__loader__#opaque")⟩, ⟨PyData.keyHash P (Str.ofString "__spec__"), (Value.str (Str.ofString "__spec__") 169), Value.none⟩, ⟨PyData.keyHash P (Str.ofString "__annotations__"), (Value.str (Str.ofString "__annotations__") 170), (Value.ref 6)⟩, ⟨PyData.keyHash P (Str.ofString "__builtins__"), (Value.str (Str.ofString "__builtins__") 171), (Value.ref 4)⟩, ⟨PyData.keyHash P (Str.ofString "__file__"), (Value.str (Str.ofString "__file__") 173), (Value.str (Str.ofString "/claim/cut.py") 172)⟩, ⟨PyData.keyHash P (Str.ofString "__cached__"), (Value.str (Str.ofString "__cached__") 174), Value.none⟩, ⟨PyData.keyHash P (Str.ofString "insort_right"), (Value.str (Str.ofString "insort_right") 201), (Value.ref 23)⟩, ⟨PyData.keyHash P (Str.ofString "bisect_right"), (Value.str (Str.ofString "bisect_right") 215), (Value.ref 32)⟩, ⟨PyData.keyHash P (Str.ofString "bisect_left"), (Value.str (Str.ofString "bisect_left") 229), (Value.ref 41)⟩, ⟨PyData.keyHash P (Str.ofString "_netrclex"), (Value.str (Str.ofString "_netrclex") 289), (Value.ref 79)⟩, ⟨PyData.keyHash P (Str.ofString "b1_set"), (Value.str (Str.ofString "b1_set") 351), (Value.ref 91)⟩, ⟨PyData.keyHash P (Str.ofString "in_table_b1"), (Value.str (Str.ofString "in_table_b1") 358), (Value.ref 101)⟩, ⟨PyData.keyHash P (Str.ofString "b3_exceptions"), (Value.str (Str.ofString "b3_exceptions") 2309), (Value.ref 102)⟩, ⟨PyData.keyHash P (Str.ofString "map_table_b3"), (Value.str (Str.ofString "map_table_b3") 2317), (Value.ref 147)⟩, ⟨PyData.keyHash P (Str.ofString "_law_lexer"), (Value.str (Str.ofString "_law_lexer") 2330), (Value.ref 154)⟩, ⟨PyData.keyHash P (Str.ofString "_law_word"), (Value.str (Str.ofString "_law_word") 2336), (Value.ref 159)⟩, ⟨PyData.keyHash P (Str.ofString "_law_page"), (Value.str (Str.ofString "_law_page") 2342), (Value.ref 164)⟩, ⟨PyData.keyHash P (Str.ofString "_law_more"), (Value.str (Str.ofString "_law_more") 2350), (Value.ref 171)⟩, ⟨PyData.keyHash P (Str.ofString "_law_ends"), (Value.str (Str.ofString "_law_ends") 2356), (Value.ref 176)⟩, ⟨PyData.keyHash P (Str.ofString "_law_root"), (Value.str (Str.ofString "_law_root") 2364), (Value.ref 183)⟩, ⟨PyData.keyHash P (Str.ofString "_law_powers"), (Value.str (Str.ofString "_law_powers") 2370), (Value.ref 188)⟩, ⟨PyData.keyHash P (Str.ofString "law"), (Value.str (Str.ofString "law") 2376), (Value.ref 193)⟩]⟩ 25) ⟨[]⟩
noncomputable def op19_12 (b : Bool) (P : Params) : Obj := Obj.mk Value.none none (Data.fields ⟨[(Value.int (2) 0), (Value.int (0) 0), (Value.ref 22), (Value.int (8) 0), (Value.int (0) 0), (Value.ref 31), (Value.int (28) 0), (Value.int (0) 0), (Value.ref 40), (Value.int (49) 0), (Value.int (0) 0), (Value.ref 47), (Value.int (94) 0), (Value.int (0) 0), (Value.ref 100), (Value.int (97) 0), (Value.int (0) 0), (Value.ref 146), (Value.int (103) 0), (Value.int (0) 0), (Value.ref 153), (Value.int (113) 0), (Value.int (0) 0), (Value.ref 158), (Value.int (118) 0), (Value.int (0) 0), (Value.ref 163), (Value.int (128) 0), (Value.int (0) 0), (Value.ref 170), (Value.int (130) 0), (Value.int (0) 0), (Value.ref 175), (Value.int (144) 0), (Value.int (0) 0), (Value.ref 182), (Value.int (149) 0), (Value.int (0) 0), (Value.ref 187), (Value.int (158) 0), (Value.int (0) 0), (Value.ref 192)]⟩) ⟨[]⟩
noncomputable def op19_189 (b : Bool) (P : Params) : Obj := Obj.mk (Value.type "tuple") none (Data.seq ⟨[]⟩ 0) ⟨[]⟩
noncomputable def op19_190 (b : Bool) (P : Params) : Obj := Obj.mk Value.none none (Data.fields ⟨[]⟩) ⟨[]⟩
noncomputable def op19_191 (b : Bool) (P : Params) : Obj := Obj.mk Value.none none (Data.func ⟨(Str.ofString "law"), (Str.ofString "law"), prmOf (st1 19), .stmts (bodyOf (st1 19)), scpOf (st1 19), 0, [], Value.none, Value.none, Value.none, Value.none, none, Value.none, Value.none, 0⟩) ⟨[]⟩
noncomputable def op19_192 (b : Bool) (P : Params) : Obj := Obj.mk (Value.type "code") none (Data.fields ⟨[(Value.str (Str.ofString "law") 2371), (Value.str (Str.ofString "law") 2372), (Value.str (Str.ofString "/claim/cut.py") 2373), (Value.int (158) 0), (Value.int (1) 0), (Value.int (0) 0), (Value.int (0) 0), (Value.int (3) 0), (Value.ref 189), (Value.bool true), (Value.int (181) 0), (Value.ref 190), Value.none, Value.none, Value.none, (Value.ref 191), (Value.int (2374) 0), (Value.int (158) 0), (Value.str (Str.ofString "/claim/cut.py") 2375)]⟩) ⟨[]⟩
noncomputable def op19_193 (b : Bool) (P : Params) : Obj := Obj.mk (Value.type "function") none (Data.func ⟨(Str.ofString "law"), (Str.ofString "law"), prmOf (st1 19), .stmts (bodyOf (st1 19)), scpOf (st1 19), 3, [], Value.none, Value.none, Value.none, (Value.str (Str.ofString "law_re0155_01") 2318), none, (Value.ref 192), Value.none, 0⟩) ⟨[]⟩
noncomputable def objsp19_ (b : Bool) (P : Params) (X : Nat → Obj) : List Obj := [boot_o_0 P, boot_o_1 P, boot_o_2 P, op19_3 b P, boot_o_4 P, boot_o_5 P, boot_o_6 P, boot_o_7 P, boot_o_8 P, boot_o_9 P, boot_o_10 P, o111 b P, op19_12 b P, o113 b P, o114 b P, op1_15 b P, op1_16 b P, op1_17 b P, op1_18 b P, op1_19 b P, op1_20 b P, op1_21 b P, op1_22 b P, op1_23 b P, op2_24 b P, op2_25 b P, op2_26 b P, op2_27 b P, op2_28 b P, op2_29 b P, op2_30 b P, op2_31 b P, op2_32 b P, op3_33 b P, op3_34 b P, op3_35 b P, op3_36 b P, op3_37 b P, op3_38 b P, op3_39 b P, op3_40 b P, op3_41 b P, op5_42 b P, op5_43 b P, op5_44 b P, op5_45 b P, op5_46 b P, op5_47 b P, op5_48 b P, op5_49 b P, op5_50 b P, op5_51 b P, op5_52 b P, op5_53 b P, op5_54 b P, op5_55 b P, op5_56 b P, op5_57 b P, op5_58 b P, op5_59 b P, op5_60 b P, op5_61 b P, op5_62 b P, op5_63 b P, op5_64 b P, op5_65 b P, op5_66 b P, op5_67 b P, op5_68 b P, op5_69 b P, op5_70 b P, op5_71 b P, op5_72 b P, op5_73 b P, op5_74 b P, op5_75 b P, op5_76 b P, op5_77 b P, op5_78 b P, op5_79 b P, op5_80 b P, op5_81 b P, op5_82 b P, op5_83 b P, op7_84 b P, op7_85 b P, op7_86 b P, op7_87 b P, op7_88 b P, op7_89 b P, op7_90 b P, op7_91 b P, op7_92 b P, op7_93 b P, op7_94 b P, op8_95 b P, op8_96 b P, op8_97 b P, op8_98 b P, op8_99 b P, op8_100 b P, op8_101 b P, X 0, X 1, X 2, X 3, X 4, X 5, X 6, X 7, X 8, X 9, X 10, X 11, X 12, X 13, X 14, X 15, X 16, X 17, X 18, X 19, X 20, X 21, X 22, X 23, X 24, X 25, X 26, X 27, X 28, X 29, X 30, X 31, X 32, X 33, X 34, X 35, X 36, X 37, X 38, op10_141 b P, op10_142 b P, op10_143 b P, op10_144 b P, op10_145 b P, op10_146 b P, op10_147 b P, op12_148 b P, op12_149 b P, op12_150 b P, op12_151 b P, op12_152 b P, op12_153 b P, op12_154 b P, op13_155 b P, op13_156 b P, op13_157 b P, op13_158 b P, op13_159 b P, op14_160 b P, op14_161 b P, op14_162 b P, op14_163 b P, op14_164 b P, op15_165 b P, op15_166 b P, op15_167 b P, op15_168 b P, op15_169 b P, op15_170 b P, op15_171 b P, op16_172 b P, op16_173 b P, op16_174 b P, op16_175 b P, op16_176 b P, op17_177 b P, op17_178 b P, op17_179 b P, op17_180 b P, op17_181 b P, op17_182 b P, op17_183 b P, op18_184 b P, op18_185 b P, op18_186 b P, op18_187 b P, op18_188 b P, op19_189 b P, op19_190 b P, op19_191 b P, op19_192 b P, op19_193 b P]
-- toks 2377 gens 0
end

/-! text H2 -/
noncomputable abbrev denT : Code → Sem Fin := Fast.tw11892475500146522536 Fast.tw14364793385576792824
theorem denT_eq : denote table = denT := by rw [table_eq_tree, Fast.te14364793385576792824, Fast.te11892475500146522536]
noncomputable abbrev MT (w : World) : Model := ⟨denT, PySem.Challenge.pw_re0155_01, w⟩
theorem MT_eq (w : World) : model PySem.Challenge.pw_re0155_01 w = MT w := by unfold model MT; rw [denT_eq]
noncomputable def execsT := Fast.tw12563942051412417395
theorem execsT_eq : execs = execsT := Fast.te12563942051412417395
noncomputable def Γ0 : Ctx := ⟨.builtin "claim.caller" {}, none, none, [], none⟩
noncomputable def env0 : Env := { scope := PySem.Challenge.pw_re0155_01.main.scope, locals := mainNs, globals := mainNs, cells := [], code := .ref 13, frame := some 14 }
noncomputable def body0 : List Stmt := PySem.Challenge.pw_re0155_01.main.body
noncomputable def Γ1 (p : Pos) : Ctx := Γ0.enter (.body body0 env0) none p
noncomputable def ww (w : World) (b c : Bool) : World := (w.withFollow "set-order" b).withFollow "special-get-raises" c
noncomputable def stt (P : Params) (l : List Obj) (t : Nat) (os : OsState) : Shared := ⟨⟨⟨l⟩, (boot_heap P).life⟩, ⟨[]⟩, boot_drawn, t, os⟩
noncomputable def runM (w : World) (b c : Bool) (l : List Stmt) (p : Pos) (s : Shared) : Option (Except Value Flow × Shared) :=
  (go (MT (ww w b c)) (code (MT (ww w b c)) 40) (Γ1 default) (execsT l env0) p s).map fun x => (x.1, x.2.2)
noncomputable def nx (s : Shared) : Option (Except Value Flow × Shared) := some (.ok .next, s)
theorem runA0 (w : World) (b c : Bool) (X : Nat → Obj) (os : OsState) (p : Pos) : runM w b c [st1 0] p (stt (ww w b c).params (objs1 b (ww w b c).params X) 187 os) = nx (stt (ww w b c).params (objsp0_ b (ww w b c).params X) 189 os) := by
  kernel_rfl
theorem runA1 (w : World) (b c : Bool) (X : Nat → Obj) (os : OsState) (p : Pos) : runM w b c [st1 1] p (stt (ww w b c).params (objsp0_ b (ww w b c).params X) 189 os) = nx (stt (ww w b c).params (objsp1_ b (ww w b c).params X) 202 os) := by
  kernel_rfl
theorem runA2 (w : World) (b c : Bool) (X : Nat → Obj) (os : OsState) (p : Pos) : runM w b c [st1 2] p (stt (ww w b c).params (objsp1_ b (ww w b c).params X) 202 os) = nx (stt (ww w b c).params (objsp2_ b (ww w b c).params X) 216 os) := by
  kernel_rfl
theorem runA3 (w : World) (b c : Bool) (X : Nat → Obj) (os : OsState) (p : Pos) : runM w b c [st1 3] p (stt (ww w b c).params (objsp2_ b (ww w b c).params X) 216 os) = nx (stt (ww w b c).params (objsp3_ b (ww w b c).params X) 230 os) := by
  kernel_rfl
theorem runA4 (w : World) (b c : Bool) (X : Nat → Obj) (os : OsState) (p : Pos) : runM w b c [st1 4] p (stt (ww w b c).params (objsp3_ b (ww w b c).params X) 230 os) = nx (stt (ww w b c).params (objsp4_ b (ww w b c).params X) 232 os) := by
  kernel_rfl
theorem runA5 (w : World) (b c : Bool) (X : Nat → Obj) (os : OsState) (p : Pos) : runM w b c [st1 5] p (stt (ww w b c).params (objsp4_ b (ww w b c).params X) 232 os) = nx (stt (ww w b c).params (objsp5_ b (ww w b c).params X) 290 os) := by
  kernel_rfl
theorem runA6 (w : World) (b c : Bool) (X : Nat → Obj) (os : OsState) (p : Pos) : runM w b c [st1 6] p (stt (ww w b c).params (objsp5_ b (ww w b c).params X) 290 os) = nx (stt (ww w b c).params (objsp6_ b (ww w b c).params X) 292 os) := by
  kernel_rfl
theorem runA8 (w : World) (b c : Bool) (X : Nat → Obj) (os : OsState) (p : Pos) : runM w b c [st1 8] p (stt (ww w b c).params (objsp7_ b (ww w b c).params X) 352 os) = nx (stt (ww w b c).params (objsp8_ b (ww w b c).params X) 359 os) := by
  kernel_rfl
theorem runA10 (w : World) (b c : Bool) (X : Nat → Obj) (os : OsState) (p : Pos) : runM w b c [st1 10] p (stt (ww w b c).params (objsp9_ b (ww w b c).params X) 2310 os) = nx (stt (ww w b c).params (objsp10_ b (ww w b c).params X) 2318 os) := by
  kernel_rfl
theorem runA11 (w : World) (b c : Bool) (X : Nat → Obj) (os : OsState) (p : Pos) : runM w b c [st1 11] p (stt (ww w b c).params (objsp10_ b (ww w b c).params X) 2318 os) = nx (stt (ww w b c).params (objsp11_ b (ww w b c).params X) 2320 os) := by
  kernel_rfl
theorem runA12 (w : World) (b c : Bool) (X : Nat → Obj) (os : OsState) (p : Pos) : runM w b c [st1 12] p (stt (ww w b c).params (objsp11_ b (ww w b c).params X) 2320 os) = nx (stt (ww w b c).params (objsp12_ b (ww w b c).params X) 2331 os) := by
  kernel_rfl
theorem runA13 (w : World) (b c : Bool) (X : Nat → Obj) (os : OsState) (p : Pos) : runM w b c [st1 13] p (stt (ww w b c).params (objsp12_ b (ww w b c).params X) 2331 os) = nx (stt (ww w b c).params (objsp13_ b (ww w b c).params X) 2337 os) := by
  kernel_rfl
theorem runA14 (w : World) (b c : Bool) (X : Nat → Obj) (os : OsState) (p : Pos) : runM w b c [st1 14] p (stt (ww w b c).params (objsp13_ b (ww w b c).params X) 2337 os) = nx (stt (ww w b c).params (objsp14_ b (ww w b c).params X) 2343 os) := by
  kernel_rfl
theorem runA15 (w : World) (b c : Bool) (X : Nat → Obj) (os : OsState) (p : Pos) : runM w b c [st1 15] p (stt (ww w b c).params (objsp14_ b (ww w b c).params X) 2343 os) = nx (stt (ww w b c).params (objsp15_ b (ww w b c).params X) 2351 os) := by
  kernel_rfl
theorem runA16 (w : World) (b c : Bool) (X : Nat → Obj) (os : OsState) (p : Pos) : runM w b c [st1 16] p (stt (ww w b c).params (objsp15_ b (ww w b c).params X) 2351 os) = nx (stt (ww w b c).params (objsp16_ b (ww w b c).params X) 2357 os) := by
  kernel_rfl
theorem runA17 (w : World) (b c : Bool) (X : Nat → Obj) (os : OsState) (p : Pos) : runM w b c [st1 17] p (stt (ww w b c).params (objsp16_ b (ww w b c).params X) 2357 os) = nx (stt (ww w b c).params (objsp17_ b (ww w b c).params X) 2365 os) := by
  kernel_rfl
theorem runA18 (w : World) (b c : Bool) (X : Nat → Obj) (os : OsState) (p : Pos) : runM w b c [st1 18] p (stt (ww w b c).params (objsp17_ b (ww w b c).params X) 2365 os) = nx (stt (ww w b c).params (objsp18_ b (ww w b c).params X) 2371 os) := by
  kernel_rfl
theorem runA19 (w : World) (b c : Bool) (X : Nat → Obj) (os : OsState) (p : Pos) : runM w b c [st1 19] p (stt (ww w b c).params (objsp18_ b (ww w b c).params X) 2371 os) = nx (stt (ww w b c).params (objsp19_ b (ww w b c).params X) 2377 os) := by
  kernel_rfl
theorem runA7ff (w : World) (X : Nat → Obj) (os : OsState) (p : Pos) : runM w false false [st1 7] p (stt (ww w false false).params (objsp6_ false (ww w false false).params X) 292 os) = nx (stt (ww w false false).params (objsp7_ false (ww w false false).params X) 352 os) := by
  kernel_rfl
theorem runA7ft (w : World) (X : Nat → Obj) (os : OsState) (p : Pos) : runM w false true [st1 7] p (stt (ww w false true).params (objsp6_ false (ww w false true).params X) 292 os) = nx (stt (ww w false true).params (objsp7_ false (ww w false true).params X) 352 os) := by
  kernel_rfl
theorem runA7tf (w : World) (X : Nat → Obj) (os : OsState) (p : Pos) : runM w true false [st1 7] p (stt (ww w true false).params (objsp6_ true (ww w true false).params X) 292 os) = nx (stt (ww w true false).params (objsp7_ true (ww w true false).params X) 352 os) := by
  kernel_rfl
theorem runA7tt (w : World) (X : Nat → Obj) (os : OsState) (p : Pos) : runM w true true [st1 7] p (stt (ww w true true).params (objsp6_ true (ww w true true).params X) 292 os) = nx (stt (ww w true true).params (objsp7_ true (ww w true true).params X) 352 os) := by
  kernel_rfl

/-! text H3 -/
section
open PySem PySem.W PyProof.Rows PyProof.V
theorem runs_life {M : Model} {Γ : Ctx} {p : Pos} {t : Sem Fin} {fs : List Frame} {s s' : Shared} {e : End} (h : Runs M Γ p t fs s e s') : s'.heap.life = s.heap.life := by
  induction h <;> (try simp only [Shared.setGen] at *) <;> first | rfl | assumption | (simp_all; done) | (rename_i ih; exact ih)
theorem returns_life {M : Model} {Γ : Ctx} {p : Pos} {s s' : Shared} {r : Result} (h : Returns M Γ p s r s') : s'.heap.life = s.heap.life := runs_life h
/-- a tree without generators keeps the heap's life -/
theorem wp_life {α : Type} (M : Model) (Γ : Ctx) (ℓ : Life) (t : Sem α) : ∀ (Q : α → Pos → Shared → Prop) (E : Value → Pos → Shared → Prop) (p : Pos) (s : Shared), s.heap.life = ℓ → Sem.wp M Γ t Q E p s →
    Sem.wp M Γ t (fun a p' s' => s'.heap.life = ℓ ∧ Q a p' s') (fun e p' s' => s'.heap.life = ℓ ∧ E e p' s') p s := by
  induction t with
  | pure a => intro Q E p s hl h; exact ⟨hl, h⟩
  | raise e => intro Q E p s hl h; exact ⟨hl, h⟩
  | unsupported | finish | register | «yield» | fork | await => intro Q E p s hl h; exact h
  | rule _ k ih => intro Q E p s hl h; exact ih () Q E p s hl h
  | «at» p' k ih => intro Q E p s hl h; exact ih () Q E p' s hl h
  | load a _ k ih => intro Q E p s hl h; obtain ⟨o, ho, h⟩ := h; exact ⟨o, ho, ih o Q E p s hl h⟩
  | update a _ f k ih => intro Q E p s hl h; exact ⟨h.1, ih () Q E p _ hl h.2⟩
  | alloc o k ih => intro Q E p s hl h; exact ih _ Q E p _ ((Heap.life_push s.heap o).trans hl) h
  | loadIfAlive a k ih | point _ k ih | ask k ih | handled own k ih | stack k ih | thread k ih => intro Q E p s hl h; exact ih _ Q E p s hl h
  | fresh k ih | os q _ k ih | newGen c k ih => intro Q E p s hl h; exact ih _ Q E p _ hl h
  | choose src m k ih => intro Q E p s hl h; exact ⟨h.1, ih _ Q E p _ hl h.2⟩
  | call c hd _ _ k ih => intro Q E p s hl h; obtain ⟨r, s', hr, h⟩ := h; exact ⟨r, s', hr, ih r Q E p s' ((returns_life hr).trans hl) h⟩
  | genState g k ih => intro Q E p s hl h; obtain ⟨st, hs, h⟩ := h; exact ⟨st, hs, ih _ Q E p s hl h⟩
  | resume g r _ k ih =>
    intro Q E p s hl h
    obtain ⟨res, s', hw, h⟩ := h
    refine ⟨res, s', hw, ih res Q E p s' (Eq.trans ?_ hl) h⟩
    unfold Wakes at hw
    split at hw
    · exact hw.elim
    · split at hw
      · obtain ⟨e₁, s₁, hr, _, _, rfl⟩ := hw; exact (runs_life hr : s₁.heap.life = (s.setGen g .running).heap.life)
      · rw [hw.2]
      · rw [hw.2]; rfl
    · obtain ⟨e₁, s₁, hr, _, _, rfl⟩ := hw; exact (runs_life hr : s₁.heap.life = (s.setGen g .running).heap.life)
    · rw [hw.2]
    · rw [hw.2]
theorem wpAny_life {α : Type} {M : Model} {A : Around} {s : Shared} {t : Sem α} {Q : α → Shared → Prop} {E : Value → Shared → Prop} (h : wpAny M A t Q E s) :
    wpAny M A t (fun a s' => s'.heap.life = s.heap.life ∧ Q a s') (fun e s' => s'.heap.life = s.heap.life ∧ E e s') s := fun Γ p hΓ => wp_life M Γ _ t _ _ p s rfl (h Γ p hΓ)
/-- a key and a text -/
noncomputable def strip (p : Int × Value) : Option (Int × Str) := match p with
  | (i, .str x _) => some (i, x)
  | _ => none
noncomputable def KV (a : List (Int × Value)) (b : List (Int × Str)) : Prop := a.map strip = b.map some
theorem strip_fst {p : Int × Value} {q : Int × Str} (h : strip p = some q) : p.1 = q.1 ∧ ∃ t, p.2 = .str q.2 t := by
  obtain ⟨i, v⟩ := p
  cases v <;> simp only [strip] at h <;> cases h
  exact ⟨rfl, _, rfl⟩
theorem KV.fst : ∀ {a : List (Int × Value)} {b : List (Int × Str)}, KV a b → a.map (·.1) = b.map (·.1)
  | [], [], _ => rfl
  | [], _ :: _, h => by cases h
  | _ :: _, [], h => by cases h
  | p :: a, q :: b, h => by
    have h' := List.cons.inj h
    rw [List.map_cons, List.map_cons, (strip_fst h'.1).1, KV.fst (a := a) (b := b) h'.2]
theorem KV.len {a : List (Int × Value)} {b : List (Int × Str)} (h : KV a b) : a.length = b.length := by
  have := congrArg List.length h
  simpa using this
theorem KV.app {a a' : List (Int × Value)} {b b' : List (Int × Str)} (h : KV a b) (h' : KV a' b') : KV (a ++ a') (b ++ b') := by
  unfold KV at *
  rw [List.map_append, List.map_append, h, h']
noncomputable def pdOf (q : Int × Str) : PyData × PyData := (.int q.1, .str q.2)
theorem KV.flat : ∀ {a : List (Int × Value)} {b : List (Int × Str)}, KV a b → FlatPairs PyData.int a (b.map pdOf)
  | [], [], _ => .nil
  | [], _ :: _, h => by cases h
  | _ :: _, [], h => by cases h
  | (i, v) :: a, (j, x) :: b, h => by
    have h' := List.cons.inj h
    obtain ⟨e1, t, e2⟩ := strip_fst h'.1
    simp only at e1 e2
    subst e1 e2
    exact .cons (Flat.str _ _) (KV.flat (a := a) (b := b) h'.2)
section
variable {prog : Program} {w : World} {A : Around} {E : Value → Shared → Prop}
theorem stored_new {kvs : List (Int × Value)} {k : Int} {v : Value} (h : k ∉ kvs.map (·.1)) : stored kvs k v = kvs ++ [(k, v)] := by
  unfold stored
  rw [if_neg]
  rw [List.any_eq_true]
  rintro ⟨kv, hkv, e⟩
  exact h (List.mem_map.mpr ⟨kv, hkv, of_decide_eq_true e⟩)
/-- what a pair of trees comes to -/
noncomputable def TI (prog : Program) (w : World) (p : Sem Value × Sem Value) (q : Int × Str) : Prop :=
  (∀ (A : Around) (E : Value → Shared → Prop) (s : Shared) (Q : Value → Shared → Prop), Q (.int q.1 s.toks) { s with toks := s.toks + 1 } → wpAny (model prog w) A p.1 Q E s) ∧
  (∀ (A : Around) (E : Value → Shared → Prop) (s : Shared) (Q : Value → Shared → Prop), Q (.str q.2 s.toks) { s with toks := s.toks + 1 } → wpAny (model prog w) A p.2 Q E s)
inductive TIs (prog : Program) (w : World) : List (Sem Value × Sem Value) → List (Int × Str) → Prop
  | nil : TIs prog w [] []
  | cons {p q ps qs} : TI prog w p q → TIs prog w ps qs → TIs prog w (p :: ps) (q :: qs)
theorem TIs.len {ps qs} (h : TIs prog w ps qs) : ps.length = qs.length := by
  induction h with
  | nil => rfl
  | cons _ _ ih => simp [ih]
theorem TIs.app {ps qs ps' qs'} (h : TIs prog w ps qs) (h' : TIs prog w ps' qs') : TIs prog w (ps ++ ps') (qs ++ qs') := by
  induction h with
  | nil => exact h'
  | cons a _ ih => exact .cons a ih
theorem long_all {d : Addr} {f : Sem Value × Sem Value → PUnit → Sem (ForInStep PUnit)} (hf : ∀ k v u, f (k, v) u = (do let kv ← k; let vv ← holding [kv] v; holding [kv, vv] (dictSet d kv vv); pure (.yield ⟨⟩))) :
    ∀ {ps : List (Sem Value × Sem Value)} {xs : List (Int × Str)} (h : TIs prog w ps xs) (acc : List (Int × Value)) (s : Shared) (Q : PUnit → Shared → Prop), s.heap.DictOf (intKind prog w) d acc → (acc.map (·.1) ++ xs.map (·.1)).Nodup → acc.length + xs.length ≤ sizeLine →
    (∀ h' kvv, KV kvv xs → h'.DictOf (intKind prog w) d (acc ++ kvv) → Heap.SameBut d s.heap h' → Q ⟨⟩ { s with heap := h', toks := s.toks + 3 * xs.length }) → wpAny (model prog w) A (forIn ps PUnit.unit f) Q E s := by
  intro ps xs h
  induction h with
  | nil =>
    intro acc s Q hm _ _ hQ
    rw [List.forIn_nil]
    exact wpAny_pure (by simpa using hQ s.heap [] rfl (by simpa using hm) (Heap.SameBut.refl _ _))
  | @cons p q ps qs hp _ ih =>
    intro acc s Q hm hn hsz hQ
    obtain ⟨k, v⟩ := p
    obtain ⟨i, x⟩ := q
    rw [List.forIn_cons, hf]
    rw [List.length_cons] at hsz
    have hi : i ∉ acc.map (·.1) := by
      rw [List.map_cons, List.nodup_append] at hn
      exact fun hm => hn.2.2 i hm i (List.mem_cons_self) rfl
    refine wpAny_bind (wpAny_bind (hp.1 _ _ _ _ (wpAny_bind (wpAny_holding (hp.2 _ _ _ _ (wpAny_bind (wpAny_holding (wpAny_dictSet_pairs (hsz := by omega) (intKind_is prog w i s.toks) hm fun h' hm' hs' => ?_))))))))
    rw [stored_new hi] at hm'
    refine wpAny_pure (ih _ _ _ hm' ?_ (by rw [List.length_append]; simp only [List.length_cons, List.length_nil]; omega) fun h2 kvv hk hm2 hs2 => ?_)
    · simpa [List.append_assoc] using hn
    · have := hQ h2 ((i, .str x (s.toks + 1)) :: kvv) (by unfold KV at hk ⊢; rw [List.map_cons, List.map_cons, hk]; rfl) (by simpa [List.append_assoc] using hm2) (hs'.trans hs2)
      refine cast (congrArg (Q _) ?_) this
      simp only [List.length_cons]
      congr 1
      omega
theorem eval_all : ∀ {ps : List (Sem Value × Sem Value)} {xs : List (Int × Str)} (h : TIs prog w ps xs) (s : Shared) (Q : List (Value × Value) → Shared → Prop),
    (∀ vs kvv, KV kvv xs → Carries (intKind prog w) vs kvv → Q vs { s with toks := s.toks + 2 * xs.length }) → wpAny (model prog w) A (evalPairs ps) Q E s := by
  intro ps xs h
  induction h with
  | nil => intro s Q hQ; exact evalPairs_nil (hQ [] [] rfl trivial)
  | @cons p q ps qs hp _ ih =>
    intro s Q hQ
    obtain ⟨k, v⟩ := p
    refine evalPairs_cons (hp.1 _ _ _ _ (hp.2 _ _ _ _ (ih _ _ fun vs kvv hk hc => ?_)))
    have := hQ ((.int q.1 s.toks, .str q.2 (s.toks + 1)) :: vs) ((q.1, .str q.2 (s.toks + 1)) :: kvv) (by unfold KV at hk ⊢; rw [List.map_cons, List.map_cons, hk]; rfl) ⟨intKind_is prog w q.1 s.toks, rfl, hc⟩
    refine cast (congrArg (Q _) ?_) this
    simp only [List.length_cons]
    congr 1
    omega
theorem merged_new : ∀ (more acc : List (Int × Value)), (acc.map (·.1) ++ more.map (·.1)).Nodup → merged acc more = acc ++ more
  | [], acc, _ => by simp [merged]
  | (k, v) :: more, acc, h => by
    have hk : k ∉ acc.map (·.1) := by
      rw [List.map_cons, List.nodup_append] at h
      exact fun hm => h.2.2 k hm k (List.mem_cons_self) rfl
    have e : merged acc ((k, v) :: more) = merged (stored acc k v) more := by simp [merged]
    rw [e, stored_new hk, merged_new more (acc ++ [(k, v)]) (by simpa [List.append_assoc] using h), List.append_assoc]
    rfl
/-- a run of pairs makes a dictionary -/
theorem sub_made {ps : List (Sem Value × Sem Value)} {xs : List (Int × Str)} (h : TIs prog w ps xs) (hn : (xs.map (·.1)).Nodup) (hl : xs.length ≤ 1000) {s : Shared} {Q : Addr → Shared → Prop}
    (hQ : ∀ h' kvv, KV kvv xs → h'.DictOf (intKind prog w) s.heap.objs.size kvv → h'.objs.size = s.heap.objs.size + 1 → (∀ b, b < s.heap.objs.size → h'.get? b = s.heap.get? b) → Q s.heap.objs.size { s with heap := h', toks := s.toks + 3 * xs.length }) :
    wpAny (model prog w) A (subDict ps) Q E s := by
  have hsz : sizeLine = 16777216 := rfl
  unfold subDict
  refine wpAny_bind (wpAny_alloc ?_)
  refine wpAny_bind (wpAny_holding ?_)
  have hd0 : (s.heap.push { cls := .type "dict", data := .dict #[] }).DictOf (intKind prog w) s.heap.objs.size [] := Heap.DictOf.new (knd := intKind prog w) s.heap
  have hs0 : (s.heap.push { cls := .type "dict", data := .dict #[] }).objs.size = s.heap.objs.size + 1 := by cases s.heap; simp [Heap.push]
  have fin : ∀ h' kvv, KV kvv xs → h'.DictOf (intKind prog w) s.heap.objs.size kvv → Heap.SameBut s.heap.objs.size (s.heap.push { cls := .type "dict", data := .dict #[] }) h' → Q s.heap.objs.size { s with heap := h', toks := s.toks + 3 * xs.length } := fun h' kvv hk hm hs =>
    hQ h' kvv hk hm (hs.1.trans hs0) fun b hb => (hs.2 b (Nat.ne_of_lt hb)).trans (Heap.get?_push_ne _ _ _ (Nat.ne_of_lt hb))
  split
  · rename_i hlen
    refine wpAny_bind (eval_all h _ _ fun vs kvv hk hc => ?_)
    refine wpAny_holding (wpAny_bind (wpAny_storeAll (knd := intKind prog w) vs kvv [] _ _ hc hd0 (by rw [List.length_nil, hk.len]; omega) fun h' hm hs => wpAny_pure (wpAny_pure ?_)))
    rw [merged_new kvv [] (by simpa [hk.fst] using hn)] at hm
    have := fin h' kvv hk (by simpa using hm) hs
    refine cast (congrArg (Q _) ?_) this
    have e1 := hc.length
    have e2 := hk.len
    show Shared.mk _ _ _ _ _ = Shared.mk _ _ _ _ _
    congr 1
    simp only
    omega
  · refine wpAny_bind (wpAny_rule ?_)
    refine wpAny_bind (long_all (fun _ _ _ => rfl) h [] _ _ hd0 (by simpa using hn) (by rw [List.length_nil]; omega) fun h' kvv hk hm hs => wpAny_pure (wpAny_pure ?_))
    exact fin h' kvv hk (by simpa using hm) hs
theorem put_new {d : Addr} {acc : List (Int × Value)} {k : Int} {key v : Value} {s : Shared} {Q : Unit → Shared → Prop} (hkey : (intKind prog w).is k key = true) (hm : s.heap.DictOf (intKind prog w) d acc) (hk : k ∉ acc.map (·.1))
    (hsz : acc.length ≤ sizeLine) (hQ : ∀ h', h'.DictOf (intKind prog w) d (acc ++ [(k, v)]) → Heap.SameBut d s.heap h' → Q () { s with heap := h' }) :
    wpAny (model prog w) A (dictPut d ((intKind prog w).hash k) key v) Q E s := by
  obtain ⟨o, es, ep, ho, hc, hd, hks, hp, hn⟩ := hm
  have hes : es.size ≤ sizeLine := by
    have e1 := hp.length
    have e2 : es.toList.length = es.size := by simp
    omega
  unfold dictPut
  refine wpAny_bind (wpAny_dictFind_of hkey ho hd hks ?_)
  have hidx : (es.findIdx? fun e => (intKind prog w).is k e.key) = acc.findIdx? fun kv => decide (kv.1 = k) := by
    rw [← hp.findIdx k]; obtain ⟨l⟩ := es; simp
  have hnone : acc.findIdx? (fun kv => decide (kv.1 = k)) = none := by
    rw [List.findIdx?_eq_none_iff]
    intro x hx
    exact decide_eq_false fun e => hk (List.mem_map.mpr ⟨x, hx, e⟩)
  rw [hidx, hnone]
  refine wpAny_updateDictKeys (hz := hes) ho hd (hQ _ ⟨_, _, ep + 1, Heap.get?_update_self _ ho (Obj.isFreed_of_dict (Obj.data_mapDictKeys hd _)), hc.mapDictKeys _, Obj.data_mapDictKeys hd _, hks.push hkey _, ?_, ?_⟩ (Heap.SameBut.update ..))
  · have := hp.append hkey ((intKind prog w).hash k) v
    obtain ⟨l⟩ := es
    simpa using this
  · rw [List.map_append, List.nodup_append]
    refine ⟨hn, by simp, ?_⟩
    intro a ha b hb
    simp only [List.map_cons, List.map_nil, List.mem_singleton] at hb
    subst hb
    exact fun e => hk (e ▸ ha)
theorem merge_new {d a : Addr} {acc more : List (Int × Value)} {s : Shared} {Q : Unit → Shared → Prop} (hda : d ≠ a) (haS : (a == sysModules) = false) (hd : s.heap.DictOf (intKind prog w) d acc) (ho : s.heap.DictOf (intKind prog w) a more)
    (h0 : acc ≠ []) (hn : (acc.map (·.1) ++ more.map (·.1)).Nodup) (hsz : acc.length + more.length ≤ sizeLine) (hQ : ∀ h', h'.DictOf (intKind prog w) d (acc ++ more) → Heap.SameBut d s.heap h' → Q () { s with heap := h' }) :
    wpAny (model prog w) A (mergeMapping d (.ref a) false) Q E s := by
  have hod := hd
  obtain ⟨od, esd, epd, hod, hcd, hdd, hkd, hpd, hnd⟩ := hod
  obtain ⟨oo, eso, epo, hoo, hco, hdo', hko, hpo, hno⟩ := ho
  have hlen : more.length = eso.size := by
    have := hpo.length
    simpa using this.symm
  have hT : s.TypeIs (.ref a) "dict" := ⟨oo, hoo, hco.1⟩
  unfold mergeMapping
  refine wpAny_bind (wpAny_isInstance hT isSubtype_dict_dict ?_)
  simp only [if_true]
  refine wpAny_bind (wpAny_specialOf hT F.slot_dict_iter.lookup ?_)
  simp only [beq_self_eq_true, haS, Bool.false_eq_true, if_false]
  refine wpAny_bind (wpAny_pure ?_)
  simp only [haS, Bool.false_eq_true, if_false]
  refine wpAny_bind (wpAny_dictEntries hod hdd ?_)
  have hne : esd.isEmpty = false := by
    have e := hpd.length
    cases he : esd.isEmpty with
    | false => rfl
    | true =>
      have : esd = #[] := Array.isEmpty_iff.mp he
      subst this
      exact absurd (List.length_eq_zero_iff.mp (by simpa using e.symm)) h0
  simp only [hne, Bool.false_eq_true, if_false]
  refine wpAny_bind (wpAny_dictEntries hoo hdo' ?_)
  refine wpAny_bind (wpAny_dictEpoch hoo hdo' ?_)
  refine wpAny_bind ?_
  refine wpAny_forIn_list _ (fun r _ s' => ∃ h' i, s' = { s with heap := h' } ∧ r = List.range' i (eso.size - i) ∧ i ≤ eso.size ∧ h'.DictOf (intKind prog w) d (acc ++ more.take i) ∧ h'.get? a = some oo ∧ Heap.SameBut d s.heap h') _
    ?_ ?_ _ _ ⟨s.heap, 0, rfl, by simp [List.range_eq_range'], Nat.zero_le _, by simpa using hd, hoo, Heap.SameBut.refl _ _⟩
  · rintro x rest b s' ⟨h', i, rfl, hr, hi, hd', hoo', hs'⟩
    have hlt : i < eso.size := by
      rcases Nat.lt_or_ge i eso.size with h | h
      · exact h
      · rw [Nat.sub_eq_zero_of_le h] at hr; simp at hr
    obtain ⟨rfl, hrest⟩ : x = i ∧ rest = List.range' (i + 1) (eso.size - (i + 1)) := by
      have e : eso.size - i = (eso.size - (i + 1)) + 1 := by omega
      rw [e, List.range'_succ] at hr
      injection hr with h1 h2
      exact ⟨h1, h2⟩
    refine wpAny_bind (wpAny_dictEntries hoo' hdo' ?_)
    rw [Array.getElem?_eq_getElem hlt]
    obtain ⟨kv, hkv⟩ : ∃ kv, more[x]? = some kv := ⟨more[x]'(by rw [hlen]; exact hlt), List.getElem?_eq_getElem _⟩
    obtain ⟨k, v⟩ := kv
    obtain ⟨hkey, hval⟩ := hpo.get? (e := eso[x]) (by simp [hlt]) hkv
    obtain ⟨k', hkey', hhash⟩ := hko eso[x] (Array.getElem_mem hlt)
    obtain rfl : k' = k := (intKind prog w).inj _ _ _ hkey' hkey
    have htk : more.take (x + 1) = more.take x ++ [(k', v)] := by rw [List.take_add_one, hkv]; rfl
    have hki : k' ∉ (acc ++ more.take x).map (·.1) := by
      have e : acc.map (·.1) ++ more.map (·.1) = (acc ++ more.take x).map (·.1) ++ (k' :: (more.drop (x + 1)).map (·.1)) := by
        conv => lhs; rw [← List.take_append_drop x more, List.drop_eq_getElem_cons (by rw [hlen]; exact hlt)]
        have e2 : more[x]'(by rw [hlen]; exact hlt) = (k', v) := by
          have := List.getElem?_eq_getElem (l := more) (i := x) (by rw [hlen]; exact hlt)
          rw [hkv] at this
          exact (Option.some.inj this).symm
        rw [e2]
        simp
      rw [e, List.nodup_append] at hn
      exact fun hm => hn.2.2 k' hm k' (List.mem_cons_self) rfl
    show wpAny _ _ (holding [eso[x].key, eso[x].val] (dictPut d eso[x].hash eso[x].key eso[x].val) >>= _) _ _ _
    rw [hhash, hval]
    refine wpAny_bind (wpAny_holding (put_new hkey hd' hki (by rw [List.length_append, List.length_take]; omega) fun h'' hd'' hs'' => ?_))
    have hoo'' : h''.get? a = some oo := (hs''.2 a (Ne.symm hda)).trans hoo'
    refine wpAny_bind (wpAny_dictEpoch hoo'' hdo' ?_)
    rw [if_neg (by simp)]
    exact wpAny_pure ⟨h'', x + 1, rfl, hrest, hlt, by rw [htk, ← List.append_assoc]; exact hd'', hoo'', hs'.trans hs''⟩
  · rintro b s' ⟨h', i, rfl, hr, hi, hd', hoo', hs'⟩
    have hin : i = eso.size := by
      rcases Nat.lt_or_ge i eso.size with h | h
      · have e : eso.size - i = (eso.size - (i + 1)) + 1 := by omega
        rw [e, List.range'_succ] at hr; exact nomatch hr
      · exact Nat.le_antisymm hi h
    refine wpAny_pure (hQ h' ?_ hs')
    rw [hin, ← hlen, List.take_length] at hd'
    exact hd'
end
end

/-! text H4 -/
section
open PySem PySem.W PyProof.Rows PyProof.V
noncomputable def flushD (run : List (Sem Value × Sem Value)) (main : Option Addr) : Sem (Option Addr) :=
  if run.isEmpty then pure main else match main with
    | none => do return some (← subDict run)
    | some d => do
      let sub ← holding [.ref d] (subDict run)
      (holding [.ref d, .ref sub] (mergeMapping d (.ref sub) false)).onRaise fun x => do let _ ← holding [.ref d, x] (runValue (.builtin "proto.let_go" {}))
      return some d
section
variable {prog : Program} {w : World} {A : Around} {E : Value → Shared → Prop}
/-- the display half way: what lies in the main dictionary, how many dictionaries there are -/
noncomputable def Half (prog : Program) (w : World) (s0 : Shared) (main : Option Addr) (don : List (Int × Str)) (cnt : Nat) (s : Shared) : Prop :=
  (main = none ∧ don = [] ∧ cnt = 0 ∧ s = s0) ∨
  (main = some s0.heap.objs.size ∧ don ≠ [] ∧ 0 < cnt ∧ (∃ kvv, KV kvv don ∧ s.heap.DictOf (intKind prog w) s0.heap.objs.size kvv) ∧ s.heap.objs.size = s0.heap.objs.size + cnt ∧ (∀ b, b < s0.heap.objs.size → s.heap.get? b = s0.heap.get? b) ∧
    s = { s0 with heap := s.heap, toks := s0.toks + 3 * don.length })
theorem flush_step {s0 : Shared} {main : Option Addr} {don xs : List (Int × Str)} {cnt : Nat} {s : Shared} {run : List (Sem Value × Sem Value)} (hb : sysModules < s0.heap.objs.size) (h : Half prog w s0 main don cnt s) (ht : TIs prog w run xs) (h0 : run ≠ []) (hl : xs.length ≤ 1000)
    (hn : ((don ++ xs).map (·.1)).Nodup) (hsz : don.length + xs.length ≤ sizeLine) {Q : Option Addr → Shared → Prop}
    (hQ : ∀ s', Half prog w s0 (some s0.heap.objs.size) (don ++ xs) (cnt + 1) s' → Q (some s0.heap.objs.size) s') : wpAny (model prog w) A (flushD run main) Q E s := by
  have hxs : xs ≠ [] := fun e => h0 (List.length_eq_zero_iff.mp (by rw [ht.len, e]; rfl))
  have hne : run.isEmpty = false := by cases run with | nil => exact absurd rfl h0 | cons => rfl
  rw [List.map_append] at hn
  have hnx : (xs.map (·.1)).Nodup := (List.nodup_append.mp hn).2.1
  unfold flushD
  rw [hne]
  simp only [Bool.false_eq_true, if_false]
  rcases h with ⟨rfl, rfl, rfl, rfl⟩ | ⟨rfl, hd0, hc, ⟨kvv, hk, hd⟩, hs, hold, es⟩
  · refine wpAny_bind (sub_made ht hnx hl fun h' kvv hk hd hsz' hold => wpAny_pure (hQ _ (.inr ⟨rfl, by simpa using hxs, by omega, ⟨kvv, hk, hd⟩, by simpa using hsz', hold, rfl⟩)))
  · refine wpAny_bind (wpAny_holding (sub_made ht hnx hl fun h' kvv' hk' hd' hsz' hold' => ?_))
    have hlt : s0.heap.objs.size < s.heap.objs.size := by omega
    have hdm : h'.DictOf (intKind prog w) s0.heap.objs.size kvv := by
      obtain ⟨o, a1, a2, a3, r⟩ := hd
      exact ⟨o, a1, a2, (hold' _ hlt).trans a3, r⟩
    refine wpAny_bind (wpAny_onRaise (wpAny_holding (merge_new (s := ⟨h', _, _, _, _⟩) (Nat.ne_of_lt hlt) ?_ hdm hd' ?_ (by rw [hk.fst, hk'.fst]; exact hn) (by rw [hk.len, hk'.len]; exact hsz) fun h2 hd2 hs2 => wpAny_pure (hQ _ (.inr ⟨rfl, by simp [hxs], by omega, ⟨kvv ++ kvv', hk.app hk', hd2⟩, ?_, ?_, ?_⟩)))))
    · exact beq_false_of_ne (Nat.ne_of_gt (Nat.lt_trans hb hlt))
    · intro e
      exact hd0 (List.length_eq_zero_iff.mp (by rw [← hk.len, e]; rfl))
    · show h2.objs.size = _
      rw [hs2.1]
      show h'.objs.size = _
      omega
    · intro b hb'
      show h2.get? b = _
      rw [hs2.2 b (Nat.ne_of_lt hb')]
      show h'.get? b = _
      rw [hold' b (by omega), hold b hb']
    · rw [es]
      show Shared.mk _ _ _ _ _ = Shared.mk _ _ _ _ _
      congr 1
      simp only [List.length_append]
      omega
theorem loop_half {f : (Option (Sem Value) × Sem Value) → (Option Addr × List (Sem Value × Sem Value)) → Sem (ForInStep (Option Addr × List (Sem Value × Sem Value)))} {s0 : Shared} (hb : sysModules < s0.heap.objs.size)
    (hf1 : ∀ p run main, run.length + 1 < 17 → f (some p.1, p.2) (main, run) = pure (.yield (main, run ++ [p])))
    (hf2 : ∀ p run main, run.length + 1 = 17 → f (some p.1, p.2) (main, run) = (flushD (run ++ [p]) main >>= fun m => pure (.yield (m, [])))) :
    ∀ {ps : List (Sem Value × Sem Value)} {xs : List (Int × Str)} (h : TIs prog w ps xs) {main : Option Addr} {run : List (Sem Value × Sem Value)} {don rxs : List (Int × Str)} {cnt : Nat} {s : Shared}, Half prog w s0 main don cnt s → TIs prog w run rxs → run.length < 17 →
      ((don ++ (rxs ++ xs)).map (·.1)).Nodup → don.length + rxs.length + xs.length ≤ sizeLine →
      wpAny (model prog w) A (forIn (ps.map fun p => (some p.1, p.2)) (main, run) f) (fun st s' => ∃ cnt' don' rxs', Half prog w s0 st.1 don' cnt' s' ∧ TIs prog w st.2 rxs' ∧ don' ++ rxs' = don ++ (rxs ++ xs) ∧ st.2.length < 17 ∧ 17 * cnt' + st.2.length = 17 * cnt + run.length + ps.length) E s := by
  intro ps xs h
  induction h with
  | nil =>
    intro main run don rxs cnt s hh hr hl hn hsz
    rw [List.map_nil, List.forIn_nil]
    exact wpAny_pure ⟨cnt, don, rxs, hh, hr, by simp, hl, by simp⟩
  | @cons p q ps xs hp h ih =>
    intro main run don rxs cnt s hh hr hl hn hsz
    rw [List.map_cons, List.forIn_cons]
    have hr' := hr.app (.cons hp .nil)
    have hrl := hr.len
    rw [List.length_cons] at hsz
    by_cases hlt : run.length + 1 < 17
    · rw [hf1 p run main hlt]
      refine wpAny_bind (wpAny_pure ?_)
      refine wpAny_mono (ih hh hr' (by rw [List.length_append]; exact hlt) (by simpa [List.append_assoc] using hn) (by rw [List.length_append]; simp only [List.length_cons, List.length_nil]; omega)) (fun st s' ⟨c, d, r, a1, a2, a3, a4, a5⟩ => ⟨c, d, r, a1, a2, ?_, a4, ?_⟩) fun _ _ e => e
      · rw [a3]; simp [List.append_assoc]
      · rw [a5]; simp only [List.length_append, List.length_cons, List.length_nil]; omega
    · have he : run.length + 1 = 17 := by omega
      rw [hf2 p run main he]
      refine wpAny_bind (wpAny_bind (flush_step hb hh hr' (by simp) (by rw [List.length_append]; simp only [List.length_cons, List.length_nil]; omega) ?_ (by rw [List.length_append]; simp only [List.length_cons, List.length_nil]; omega) fun s1 hh1 => wpAny_pure ?_))
      · refine List.Nodup.sublist ?_ hn
        refine List.Sublist.map _ ?_
        rw [← List.append_assoc, ← List.append_assoc]
        exact List.Sublist.append (List.Sublist.refl _) (List.Sublist.cons_cons _ (List.nil_sublist _))
      · refine wpAny_mono (ih hh1 .nil (by simp) (by simpa [List.append_assoc] using hn) (by rw [List.length_append, List.length_append]; simp only [List.length_cons, List.length_nil]; omega)) (fun st s' ⟨c, d, r, a1, a2, a3, a4, a5⟩ => ⟨c, d, r, a1, a2, ?_, a4, ?_⟩) fun _ _ e => e
        · rw [a3]; simp [List.append_assoc]
        · rw [a5]; simp only [List.length_cons, List.length_nil]; omega
theorem display_half {s0 : Shared} {ps : List (Sem Value × Sem Value)} {xs : List (Int × Str)} (hb : sysModules < s0.heap.objs.size) (h : TIs prog w ps xs) (h0 : xs ≠ []) (hn : (xs.map (·.1)).Nodup) (hsz : xs.length ≤ sizeLine) {Q : Value → Shared → Prop}
    (hQ : ∀ s', Half prog w s0 (some s0.heap.objs.size) xs ((xs.length + 16) / 17) s' → Q (.ref s0.heap.objs.size) s') : wpAny (model prog w) A (dictDisplay (ps.map fun p => (some p.1, p.2))) Q E s0 := by
  unfold dictDisplay
  dsimp only
  refine wpAny_bind (wpAny_mono (loop_half hb ?_ ?_ h (.inl ⟨rfl, rfl, rfl, rfl⟩) .nil (by simp) (by simpa using hn) (by simpa using hsz)) (fun st s' ⟨c, d, rr, a1, a2, a3, a4, a5⟩ => ?_) fun _ _ e => e)
  · intro p run main hl
    have hne : ((run ++ [(p.1, p.2)]).length == 17) = false := by simp; omega
    simp only [hne, Bool.false_eq_true, if_false]
  · intro p run main hl
    have hne : ((run ++ [(p.1, p.2)]).length == 17) = true := by simp; omega
    simp only [hne, if_true]
    rfl
  · obtain ⟨m, r⟩ := st
    have hl := h.len
    have hrl := a2.len
    simp only [List.nil_append, List.length_nil, Nat.mul_zero, Nat.zero_add] at a3 a5
    simp only at a1 a2 a4 a5 hrl
    have hsum : d.length + r.length = xs.length := by rw [← a3, List.length_append, hrl]
    show wpAny _ _ (flushD r m >>= _) _ _ _
    by_cases hr0 : r = []
    · subst hr0
      cases a2
      rw [List.append_nil] at a3
      subst a3
      rcases a1 with ⟨_, e, _⟩ | ⟨rfl, q⟩
      · exact absurd e h0
      · refine wpAny_bind (wpAny_pure (wpAny_pure (hQ _ ?_)))
        rw [show (d.length + 16) / 17 = c by simp only [List.length_nil, Nat.add_zero] at a5; omega]
        exact .inr ⟨rfl, q⟩
    · refine wpAny_bind (flush_step hb a1 a2 hr0 (by omega) (by rw [a3]; exact hn) (by omega) fun s2 hh2 => wpAny_pure (hQ _ ?_))
      rw [a3] at hh2
      have hpos : 0 < r.length := List.length_pos_iff.mpr hr0
      rw [show (xs.length + 16) / 17 = c + 1 by omega]
      exact hh2
end
end

/-! text H5 -/
section
open PySem PySem.W PyProof.Rows PyProof.V
noncomputable def cI9 (k : Option PySem.Expr) : Option Int := match k with
  | some (.Constant c _ _) => (match c with | .int i => some i | _ => none)
  | _ => none
noncomputable def cS9 (v : PySem.Expr) : Option Str := match v with
  | .Constant c _ _ => (match c with | .str x => some x | _ => none)
  | _ => none
theorem cI9_inv {k : Option PySem.Expr} {i : Int} (h : cI9 k = some i) : ∃ k1 p1, k = some (.Constant (.int i) k1 p1) := by
  unfold cI9 at h
  split at h
  · split at h
    · cases h; exact ⟨_, _, rfl⟩
    · cases h
  · cases h
theorem cS9_inv {v : PySem.Expr} {x : Str} (h : cS9 v = some x) : ∃ k1 p1, v = .Constant (.str x) k1 p1 := by
  unfold cS9 at h
  split at h
  · split at h
    · cases h; exact ⟨_, _, rfl⟩
    · cases h
  · cases h
noncomputable def pair9 (k : Option PySem.Expr) (v : PySem.Expr) : Option (Int × Str) := (cI9 k).bind fun i => (cS9 v).map fun x => (i, x)
noncomputable def kvsOf9 : List (Option PySem.Expr) → List PySem.Expr → List (Int × Str)
  | k :: ks, v :: vs => (pair9 k v).toList ++ kvsOf9 ks vs
  | _, _ => []
noncomputable def allC9 : List (Option PySem.Expr) → List PySem.Expr → Bool
  | k :: ks, v :: vs => (pair9 k v).isSome && allC9 ks vs
  | [], [] => true
  | _, _ => false
theorem tis9 {prog : Program} {w : World} {env : Env} {pos : Pos} : ∀ (ks : List (Option PySem.Expr)) (vs : List PySem.Expr), allC9 ks vs = true → TIs prog w (pairTrees ks vs env pos) (kvsOf9 ks vs) ∧ ks.all (·.isSome) = true ∧ ks.length = vs.length
  | [], [], _ => ⟨.nil, rfl, rfl⟩
  | [], _ :: _, h => Bool.noConfusion (show false = true from h)
  | _ :: _, [], h => Bool.noConfusion (show false = true from h)
  | k :: ks, v :: vs, h => by
    have h : ((pair9 k v).isSome && allC9 ks vs) = true := h
    obtain ⟨h1, h2⟩ := Bool.and_eq_true_iff.mp h
    obtain ⟨a, b, c⟩ := tis9 (prog := prog) (w := w) (env := env) (pos := pos) ks vs h2
    obtain ⟨q, hq⟩ := Option.isSome_iff_exists.mp h1
    obtain ⟨i, hi, hx⟩ := Option.bind_eq_some_iff.mp hq
    obtain ⟨x, hy, rfl⟩ := Option.map_eq_some_iff.mp hx
    obtain ⟨k1, p1, rfl⟩ := cI9_inv hi
    obtain ⟨k2, p2, rfl⟩ := cS9_inv hy
    have t1 : TI prog w (eval (.Constant (.int i) k1 p1) env, do let x ← eval (.Constant (.str x) k2 p2) env; standAt pos; pure x) (i, x) :=
      ⟨fun A E s Q q => wpAny_Constant_int (env := env) (k := k1) (pos := p1) q, fun A E s Q q => wpAny_bind (wpAny_Constant_str (env := env) (k := k2) (pos := p2) (wpAny_bind (wpAny_standAt (wpAny_pure q))))⟩
    refine ⟨TIs.cons t1 a, ?_, ?_⟩
    · simpa using b
    · simpa using c
noncomputable def asc9 : List Int → Bool
  | a :: b :: l => decide (a < b) && asc9 (b :: l)
  | _ => true
theorem asc_lt : ∀ (l : List Int) (a : Int), asc9 (a :: l) = true → ∀ x ∈ l, a < x
  | [], _, _, x, hx => nomatch hx
  | b :: l, a, h, x, hx => by
    obtain ⟨h1, h2⟩ := Bool.and_eq_true_iff.mp h
    have h1 := of_decide_eq_true h1
    rcases List.mem_cons.mp hx with rfl | hx
    · exact h1
    · exact Int.lt_trans h1 (asc_lt l b h2 x hx)
theorem asc_nodup : ∀ (l : List Int), asc9 l = true → l.Nodup
  | [], _ => List.nodup_nil
  | a :: l, h => by
    refine List.nodup_cons.mpr ⟨fun hm => Int.lt_irrefl a (asc_lt l a h a hm), asc_nodup l ?_⟩
    cases l with
    | nil => rfl
    | cons b l => exact (Bool.and_eq_true_iff.mp h).2
structure As9 where
  x : Str
  p' : Pos
  ks : List (Option PySem.Expr)
  vs : List PySem.Expr
  pd : Pos
  pos : Pos
noncomputable def as9 (st : Stmt) : As9 := match st with
  | .Assign [.Name x p'] (.Dict ks vs pd) pos => ⟨x, p', ks, vs, pd, pos⟩
  | _ => ⟨Str.ofString "", default, [], [], default, default⟩
noncomputable def a9 : As9 := as9 (st1 9)
noncomputable def x9 : Str := a9.x
noncomputable def pp9 : Pos := a9.p'
noncomputable def ks9 : List (Option PySem.Expr) := a9.ks
noncomputable def vs9 : List PySem.Expr := a9.vs
noncomputable def pd9 : Pos := a9.pd
noncomputable def po9 : Pos := a9.pos
noncomputable def kv9 : List (Int × Str) := kvsOf9 ks9 vs9
theorem st9_eq : st1 9 = .Assign [.Name x9 pp9] (.Dict ks9 vs9 pd9) po9 := by kernel_rfl
theorem all9 : allC9 ks9 vs9 = true := by kernel_rfl
theorem asc9_ok : asc9 (kv9.map (·.1)) = true := by kernel_rfl
theorem len9 : kv9.length = 650 := by kernel_rfl
theorem nodup9 : (kv9.map (·.1)).Nodup := asc_nodup _ asc9_ok
noncomputable def A9 (Γ : Ctx) : Around := { handled := Γ.handled, depth := frameCount Γ.below + Γ.code.weight, frames := none, guards := none, units := Γ.units }
theorem in9 (Γ : Ctx) : Γ.In (A9 Γ) := ⟨rfl, Nat.le_refl _, fun l h => (by have h' : (none : Option (List Env)) = some l := h; cases h'), fun l h => (by have h' : (none : Option (List Code)) = some l := h; cases h'), Nat.le_refl _⟩
noncomputable def bind9 : Sem Flow := (do standAt pp9; bindName env0 x9 (.ref 102); pure .next)
theorem run9b (w : World) (b c : Bool) (X0 X : Nat → Obj) (os : OsState) (p : Pos) :
    (go (MT (ww w b c)) (code (MT (ww w b c)) 40) (Γ1 default) bind9 p (stt (ww w b c).params (objsp8_ b (ww w b c).params X0 ++ (List.range 39).map X) 2309 os)).map (fun x => (x.1, x.2.2)) = nx (stt (ww w b c).params (objsp9_ b (ww w b c).params X) 2310 os) := by
  kernel_rfl
theorem wp_runM {w : World} {b c : Bool} {l : List Stmt} {p : Pos} {s s' : Shared} (h : runM w b c l p s = nx s') :
    wp (MT (ww w b c)) (Γ1 default) (execs l env0) (fun f _ s'' => f = .next ∧ s'' = s') (fun _ _ _ => False) p s := by
  rw [execsT_eq]
  unfold runM nx at h
  obtain ⟨⟨r, p1, s1⟩, h1, h2⟩ := Option.map_eq_some_iff.mp h
  obtain ⟨rfl, rfl⟩ := Prod.mk.inj h2
  exact go_wp (fun Γ p s r s' h => code_returns 40 Γ p s r s' h) _ _ _ _ _ _ _ _ h1 ⟨rfl, rfl⟩
theorem execs_seq {M : Model} {Γ : Ctx} {env : Env} {st : Stmt} {rest : List Stmt} {Q : Flow → Pos → Shared → Prop} {E : Value → Pos → Shared → Prop} {p : Pos} {s s' : Shared}
    (h : wp M Γ (execs [st] env) (fun f _ s'' => f = .next ∧ s'' = s') (fun _ _ _ => False) p s) (k : ∀ p, wp M Γ (execs rest env) Q E p s') : wp M Γ (execs (st :: rest) env) Q E p s := by
  rw [execs_cons, Sem.wp_bind'] at h ⊢
  refine Sem.wp_mono M Γ _ (fun f p1 s1 h1 => ?_) (fun _ _ _ x => x.elim) p s h
  cases f with
  | next =>
    have h1 : Flow.next = Flow.next ∧ s1 = s' := h1
    rw [h1.2]
    exact k p1
  | _ => have h1 : _ = Flow.next ∧ _ := h1; exact nomatch h1.1
/-- a heap of which the old objects are known -/
theorem heap_of {h : Heap} {l : List Obj} {n : Nat} {ℓ : Life} (hl : h.life = ℓ) (hs : h.objs.size = l.length + n) (ho : ∀ b o, l[b]? = some o → h.get? b = some o) :
    ∃ X : Nat → Obj, h = ⟨⟨l ++ (List.range n).map X⟩, ℓ⟩ := by
  obtain ⟨⟨xs⟩, ℓ'⟩ := h
  obtain rfl : ℓ' = ℓ := hl
  refine ⟨fun j => (xs[l.length + j]?).getD default, ?_⟩
  congr 2
  have hs : xs.length = l.length + n := by simpa using hs
  refine List.ext_getElem? fun j => ?_
  rcases Nat.lt_or_ge j l.length with hj | hj
  · rw [List.getElem?_append_left hj]
    have e := (Heap.get?_some_iff.mp (ho j _ (List.getElem?_eq_getElem hj))).1
    rw [List.getElem?_eq_getElem hj]
    simpa using e
  · rw [List.getElem?_append_right hj]
    rcases Nat.lt_or_ge j (l.length + n) with h2 | h2
    · rw [List.getElem?_map, List.getElem?_range (by omega)]
      simp only [Option.map_some]
      rw [show l.length + (j - l.length) = j by omega, List.getElem?_eq_getElem (by omega)]
      rfl
    · rw [List.getElem?_eq_none (by omega), List.getElem?_eq_none (by simp; omega)]
theorem swaps9 (ks : List (Option PySem.Expr)) (vs : List PySem.Expr) (pd : Pos) (t : Option PySem.Expr) (l : Nat) (env : Env) : swapsWith (.Dict ks vs pd) t l env = pure false := rfl
theorem size8 (b : Bool) (P : Params) (X : Nat → Obj) : (objsp8_ b P X).length = 102 := by kernel_rfl
theorem alive8 (b : Bool) (P : Params) (X : Nat → Obj) : ∀ (j : Nat) (o : Obj), (objsp8_ b P X)[j]? = some o → o.isFreed = false := by
  have h : (objsp8_ b P X).all (fun (o : Obj) => !o.isFreed) = true := by kernel_rfl
  intro j o e
  have := List.all_eq_true.mp h o (List.mem_of_getElem? e)
  simpa using this
theorem wp_assign {M : Model} {Γ : Ctx} {env : Env} {x : Str} {p' : Pos} {value : PySem.Expr} {pos : Pos} {rest : List Stmt} {Q : Flow → Pos → Shared → Prop} {E : Value → Pos → Shared → Prop} {p : Pos} {s : Shared} (hs : swapsWith value (some (.Name x p')) pos.line env = pure false)
    (h : wp M Γ (eval value env) (fun v p1 s1 => wp M Γ (do standAt p'; bindName env x v; pure Flow.next) (fun f p2 s2 => f = .next ∧ wp M Γ (execs rest env) Q E p2 s2) E p1 s1) E pos s) : wp M Γ (execs (.Assign [.Name x p'] value pos :: rest) env) Q E p s := by
  rw [execs_cons, Sem.wp_bind', exec_Assign_Name env x p' value pos hs]
  simp only [Sem.wp_bind', Sem.wp_cmd_standAt, Sem.wp_pure'] at h ⊢
  refine Sem.wp_mono M Γ _ (fun v p1 s1 h1 => ?_) (fun _ _ _ x => x) _ _ h
  exact Sem.wp_mono M Γ _ (fun _ p3 s3 h3 => h3.2) (fun _ _ _ x => x) _ _ h1
end

/-! text H6 -/
section
open PySem PySem.W PyProof.Rows PyProof.V
noncomputable def TabX (w : World) (b c : Bool) (X0 X : Nat → Obj) (os : OsState) (kvv : List (Int × Value)) : Prop := KV kvv kv9 ∧ (stt (ww w b c).params (objsp8_ b (ww w b c).params X0 ++ (List.range 39).map X) 2309 os).heap.DictOf (intKind PySem.Challenge.pw_re0155_01 (ww w b c)) 102 kvv
/-- what comes behind statement 9 -/
noncomputable def Kont (w : World) (b c : Bool) (X0 : Nat → Obj) (os : OsState) (rest : List Stmt) (Q : Flow → Pos → Shared → Prop) (E : Value → Pos → Shared → Prop) : Prop :=
  ∀ (X : Nat → Obj) kvv p, TabX w b c X0 X os kvv → wp (MT (ww w b c)) (Γ1 default) (execs rest env0) Q E p (stt (ww w b c).params (objsp9_ b (ww w b c).params X) 2310 os)
/-- statement 9: the table of the exceptions -/
theorem stmt9_of {st : Stmt} {x : Str} {p' : Pos} {ks : List (Option PySem.Expr)} {vs : List PySem.Expr} {pd pos : Pos} (e9 : st = .Assign [.Name x p'] (.Dict ks vs pd) pos) (al : allC9 ks vs = true) (ekv : kvsOf9 ks vs = kv9) (eb : bind9 = (do standAt p'; bindName env0 x (.ref 102); pure .next))
    {w : World} {b c : Bool} {X0 : Nat → Obj} {os : OsState} {p : Pos} {rest : List Stmt} {Q : Flow → Pos → Shared → Prop} {E : Value → Pos → Shared → Prop}
    (k : Kont w b c X0 os rest Q E) :
    wp (MT (ww w b c)) (Γ1 default) (execs (st :: rest) env0) Q E p (stt (ww w b c).params (objsp8_ b (ww w b c).params X0) 359 os) := by
  rw [e9]
  refine wp_assign (swaps9 ..) ?_
  unfold Kont TabX at k
  generalize hP : (ww w b c).params = P at k ⊢
  have hsz : (stt P (objsp8_ b P X0) 359 os).heap.objs.size = 102 := size8 b P X0
  obtain ⟨ht, hall, hl⟩ := tis9 (prog := PySem.Challenge.pw_re0155_01) (w := ww w b c) (env := env0) (pos := pd) ks vs al
  rw [ekv] at ht
  have hD : wpAny (model PySem.Challenge.pw_re0155_01 (ww w b c)) (A9 (Γ1 default)) (eval (.Dict ks vs pd) env0) (fun v s' => v = .ref 102 ∧ Half PySem.Challenge.pw_re0155_01 (ww w b c) (stt P (objsp8_ b P X0) 359 os) (some 102) kv9 39 s') (fun _ _ => False) (stt P (objsp8_ b P X0) 359 os) := by
    rw [arm_eval_Dict, zip_pairTrees ks vs env0 pd hall hl]
    refine wpAny_bind (wpAny_standAt (display_half (by rw [hsz]; decide) ht (fun e => ?_) nodup9 (by rw [len9]; decide) fun s' hh => ?_))
    · have := len9
      rw [e] at this
      cases this
    · rw [hsz, len9] at hh
      rw [hsz]
      exact ⟨rfl, hh⟩
  have hD' := (wpAny_life hD) (Γ1 default) pos (in9 _)
  rw [MT_eq] at hD'
  refine Sem.wp_mono _ _ _ (fun v p1 s1 h1 => ?_) (fun _ _ _ x => x.2.elim) _ _ hD'
  obtain ⟨hlf, rfl, hh⟩ := h1
  rcases hh with ⟨e, _⟩ | ⟨_, _, _, ⟨kvv, hk, hd⟩, hs, hold, es⟩
  · cases e
  have ho : ∀ j o, (objsp8_ b P X0)[j]? = some o → s1.heap.get? j = some o := fun j o e => by
    rw [hold j (by have := (List.getElem?_eq_some_iff.mp e).1; rw [size8] at this; rw [hsz]; exact this)]
    exact Heap.get?_some_iff.mpr ⟨by simpa [stt] using e, alive8 _ _ _ _ _ e⟩
  obtain ⟨X, hX⟩ := heap_of (h := s1.heap) (l := objsp8_ b P X0) (n := 39) hlf (by rw [hs, hsz, size8]) ho
  · rw [es, hX, show (stt P (objsp8_ b P X0) 359 os).toks + 3 * kv9.length = 2309 by rw [len9]; rfl]
    have hk' := k X kvv
    rw [hsz, hX] at hd
    subst hP
    obtain ⟨⟨r, p2, s2⟩, g1, g2⟩ := Option.map_eq_some_iff.mp (run9b w b c X0 X os p1)
    obtain ⟨rfl, rfl⟩ := Prod.mk.inj g2
    rw [eb] at g1
    exact go_wp (fun Γ p s r s' h => code_returns 40 Γ p s r s' h) _ _ _ _ _ _ (fun f p s => f = .next ∧ wp (MT (ww w b c)) (Γ1 default) (execs rest env0) Q E p s) E g1 ⟨rfl, hk' p2 ⟨hk, hd⟩⟩
theorem ekv9 : kvsOf9 ks9 vs9 = kv9 := by kernel_rfl
theorem eb9 : bind9 = (do standAt pp9; bindName env0 x9 (.ref 102); pure .next) := by kernel_rfl
theorem body0_eq : body0 = [st1 0, st1 1, st1 2, st1 3, st1 4, st1 5, st1 6, st1 7, st1 8, st1 9, st1 10, st1 11, st1 12, st1 13, st1 14, st1 15, st1 16, st1 17, st1 18, st1 19] := by kernel_rfl
theorem runA7 (w : World) (b c : Bool) (X : Nat → Obj) (os : OsState) (p : Pos) : runM w b c [st1 7] p (stt (ww w b c).params (objsp6_ b (ww w b c).params X) 292 os) = nx (stt (ww w b c).params (objsp7_ b (ww w b c).params X) 352 os) := by
  cases b <;> cases c
  · exact runA7ff w X os p
  · exact runA7ft w X os p
  · exact runA7tf w X os p
  · exact runA7tt w X os p
theorem body_runs {w : World} {b c : Bool} {os : OsState} {p : Pos} {Q : Flow → Pos → Shared → Prop} {E : Value → Pos → Shared → Prop}
    (k : ∀ (X : Nat → Obj) kvv p, TabX w b c (fun _ => default) X os kvv →
      Q .next p (stt (ww w b c).params (objsp19_ b (ww w b c).params X) 2377 os)) :
    wp (MT (ww w b c)) (Γ1 default) (execs body0 env0) Q E p (stt (ww w b c).params (objs1 b (ww w b c).params fun _ => default) 187 os) := by
  rw [body0_eq]
  obtain ⟨st, h9⟩ : ∃ st, st = st1 9 := ⟨_, rfl⟩
  rw [← h9]
  have e9 := h9.trans st9_eq
  clear h9
  refine execs_seq (wp_runM (runA0 w b c (fun _ => default) os _)) fun _ => ?_
  refine execs_seq (wp_runM (runA1 w b c (fun _ => default) os _)) fun _ => ?_
  refine execs_seq (wp_runM (runA2 w b c (fun _ => default) os _)) fun _ => ?_
  refine execs_seq (wp_runM (runA3 w b c (fun _ => default) os _)) fun _ => ?_
  refine execs_seq (wp_runM (runA4 w b c (fun _ => default) os _)) fun _ => ?_
  refine execs_seq (wp_runM (runA5 w b c (fun _ => default) os _)) fun _ => ?_
  refine execs_seq (wp_runM (runA6 w b c (fun _ => default) os _)) fun _ => ?_
  refine execs_seq (wp_runM (runA7 w b c (fun _ => default) os _)) fun _ => ?_
  refine execs_seq (wp_runM (runA8 w b c (fun _ => default) os _)) fun _ => ?_
  refine stmt9_of e9 all9 ekv9 eb9 ?_
  intro X kvv _ hk
  refine execs_seq (wp_runM (runA10 w b c X os _)) fun _ => ?_
  refine execs_seq (wp_runM (runA11 w b c X os _)) fun _ => ?_
  refine execs_seq (wp_runM (runA12 w b c X os _)) fun _ => ?_
  refine execs_seq (wp_runM (runA13 w b c X os _)) fun _ => ?_
  refine execs_seq (wp_runM (runA14 w b c X os _)) fun _ => ?_
  refine execs_seq (wp_runM (runA15 w b c X os _)) fun _ => ?_
  refine execs_seq (wp_runM (runA16 w b c X os _)) fun _ => ?_
  refine execs_seq (wp_runM (runA17 w b c X os _)) fun _ => ?_
  refine execs_seq (wp_runM (runA18 w b c X os _)) fun _ => ?_
  refine execs_seq (wp_runM (runA19 w b c X os _)) fun _ => ?_
  rw [show execs [] env0 = pure Flow.next from rfl, Sem.wp_pure']
  exact k X kvv _ hk
end

/-! text H7 -/
section
open PySem PySem.W PyProof.Rows PyProof.V
noncomputable abbrev pw1 : Program := PySem.Challenge.pw_re0155_01
noncomputable def s0of (P : Params) (os : OsState) : Shared := ⟨boot_heap P, ⟨[]⟩, boot_drawn, boot_toks, os⟩
noncomputable def pre1 : Sem (Value × Addr) := (do let code ← moduleCode pw1.main; let frame ← newBodyFrame code mainNs mainNs; pure (code, frame))
theorem run_pre (w : World) (b c : Bool) (os : OsState) (X : Nat → Obj) : (go (MT (ww w b c)) (code (MT (ww w b c)) 40) Γ0 pre1 default (s0of (ww w b c).params os)) = some (.ok (.ref 13, 14), default, stt (ww w b c).params (objs1 b (ww w b c).params X) 187 os) := by
  kernel_rfl
theorem behind_eq : behindTheImports pw1 = body0 := by kernel_rfl
theorem den_body : denT (.body body0 env0) = (do let f ← (execs body0 env0).onRaise (leaving env0); pure (.done f)) := by
  rw [← denT_eq]
  show (do blockStart body0 env0; return Fin.done (← (execs body0 env0).onRaise (leaving env0))) = _
  have hb : blockStart body0 env0 = pure () := by kernel_rfl
  rw [hb]
  rfl
noncomputable def FinOk (w : World) (b c : Bool) (os : OsState) (s' : Shared) : Prop := ∃ X kvv, TabX w b c (fun _ => default) X os kvv ∧ s' = stt (ww w b c).params (objsp19_ b (ww w b c).params X) 2377 os
theorem body_wp (w : World) (b c : Bool) (os : OsState) (p : Pos) : wpCode (MT (ww w b c)) (Γ1 default) (fun r s' => r = .ok .next ∧ FinOk w b c os s') p (stt (ww w b c).params (objs1 b (ww w b c).params fun _ => default) 187 os) := by
  rw [wpCode_iff_wp]
  show wp (MT (ww w b c)) (Γ1 default) (denT (.body body0 env0)) _ _ p _
  rw [den_body, Sem.wp_bind', Sem.wp_onRaise]
  refine body_runs fun X kvv p hk => ?_
  rw [Sem.wp_pure']
  exact ⟨rfl, X, kvv, hk, rfl⟩
theorem top_wp (w : World) (b c : Bool) (os : OsState) : wp (MT (ww w b c)) Γ0 (topStub pw1).cur (fun fin _ s' => (∃ f, fin = .done f) ∧ FinOk w b c os s') (fun _ _ _ => False) default (s0of (ww w b c).params os) := by
  have h1 := go_wp (fun Γ p s r s' h => code_returns 40 Γ p s r s' h) _ _ _ _ _ _ (fun x p s => x = (Value.ref 13, 14) ∧ p = default ∧ s = stt (ww w b c).params (objs1 b (ww w b c).params fun _ => default) 187 os) (fun _ _ _ => False) (run_pre w b c os fun _ => default) ⟨rfl, rfl, rfl⟩
  unfold pre1 at h1
  simp only [Sem.wp_bind', Sem.wp_pure'] at h1
  unfold topStub
  simp only [Sem.wp_bind']
  refine Sem.wp_mono _ _ _ (fun cd p1 s1 h2 => ?_) (fun _ _ _ x => x) _ _ h1
  refine Sem.wp_mono _ _ _ (fun fr p2 s2 h3 => ?_) (fun _ _ _ x => x) _ _ h2
  obtain ⟨e1, rfl, rfl⟩ := h3
  obtain ⟨rfl, rfl⟩ := Prod.mk.inj e1
  rw [behind_eq]
  unfold run
  rw [Sem.wp_call]
  obtain ⟨r, s', h4, rfl, h5⟩ := body_wp w b c os default
  exact ⟨_, s', h4, ⟨_, rfl⟩, h5⟩
end

/-! text H8 -/
section
open PySem PySem.W PyProof.Rows PyProof.V
/-- an outcome that is the end of a body -/
noncomputable def isDone : Outcome → Bool
  | .done _ => true
  | _ => false
noncomputable def stepDone : Step → Bool
  | .halt o _ => isDone o
  | .go _ _ => false
theorem fin_done {o : Outcome} {s : Shared} (h : stepDone (finish o s) = true) : isDone o = true := by
  unfold finish at h
  cases e : leftWithCleanup s.gens with
  | true => rw [e] at h; exact Bool.noConfusion (show false = true from h)
  | false => rw [e] at h; exact h
theorem step_done {den : Code → Sem Fin} {p : Program} {w : World} {heap : Heap} {gens : Array GenState} {drawn : Drawn} {toks : Nat} {os : OsState} {code : Code} {pos : Pos} {stack : List Frame} : ∀ cur : Sem Fin, stepDone (step den p w ⟨heap, gens, drawn, toks, os⟩ ⟨cur, code, pos, stack⟩) = true → through ⟨cur, code, pos, stack⟩ = true := by
  intro cur
  have no : ∀ {P : Prop}, false = true → P := fun h => Bool.noConfusion h
  cases cur with
  | pure f =>
    cases f with
    | again c => exact fun h => no h
    | done f => cases stack with
      | nil => exact fun _ => rfl
      | cons fr r => cases fr <;> exact fun h => no h
  | raise e => cases stack with
    | nil => exact fun h => no (show isDone (.uncaught e) = true from fin_done h)
    | cons fr r => cases fr <;> exact fun h => no h
  | finish e =>
    intro h
    have h : stepDone (if leftWithCleanup gens then .halt (.unsupported "lifetime:generator-with-cleanup-left-suspended") ⟨heap, gens, drawn, toks, os⟩ else .halt (.ended e) ⟨heap, gens, drawn, toks, os⟩) = true := h
    cases e2 : leftWithCleanup gens <;> rw [e2] at h <;> exact no h
  | load a q k =>
    intro h
    have h : stepDone (match heap.get? a with
      | some o => .go ⟨heap, gens, drawn, toks, os⟩ ⟨k o, code, pos, stack⟩
      | none => .halt (.stuck (if a < heap.objs.size then "load: the object has been freed" else "load: no object at this address")) ⟨heap, gens, drawn, toks, os⟩) = true := h
    cases e2 : heap.get? a <;> rw [e2] at h <;> exact no h
  | update a q f k =>
    intro h
    have h : stepDone (if (heap.get? a).isSome then .go ⟨heap.update a f, gens, drawn, toks, os⟩ ⟨k (), code, pos, stack⟩ else .halt (.stuck "update: no object at this address, or it has been freed") ⟨heap, gens, drawn, toks, os⟩) = true := h
    cases e2 : (heap.get? a).isSome <;> rw [e2] at h <;> exact no h
  | choose src n k =>
    intro h
    have h : stepDone (if n = 0 then .halt (.stuck "choose 0") ⟨heap, gens, drawn, toks, os⟩ else .go ⟨heap, gens, drawn.bump src, toks, os⟩ ⟨k (w.draws src (drawn.get src) % n), code, pos, stack⟩) = true := h
    by_cases e2 : n = 0
    · rw [if_pos e2] at h; exact no h
    · rw [if_neg e2] at h; exact no h
  | genState g k => intro h; unfold step at h; dsimp only at h; cases e2 : gens[g]? <;> rw [e2] at h <;> exact no h
  | resume g r l k =>
    intro h
    unfold step at h
    dsimp only at h
    cases e2 : gens[g]? with
    | none => rw [e2] at h; exact no h
    | some st => rw [e2] at h; cases st <;> cases r <;> first | exact no h | (rename_i v; cases v <;> exact no h)
  | «yield» v g l k => intro h; unfold step at h; dsimp only at h; cases e2 : splitAtGen stack <;> rw [e2] at h <;> exact no h
  | _ => exact fun h => no h
theorem halt_through {den : Code → Sem Fin} {p : Program} {w : World} {s s' : Shared} {t : Thread} {f : Flow} (h : step den p w s t = .halt (.done f) s') : through t = true ∧ s' = s := by
  refine ⟨?_, step_halt_same _ _ _ s s' t _ h⟩
  obtain ⟨heap, gens, drawn, toks, os⟩ := s
  obtain ⟨cur, code, pos, stack⟩ := t
  exact step_done cur (by rw [h]; rfl)
theorem sched_through {den : Code → Sem Fin} {p : Program} {w : World} : ∀ (n : Nat) (s : Shared) (t : Thread) (f : Flow) (s' : Shared), runN den p w n s t = .halted (.done f) s' →
    (∀ k s₁ t₁, runN den p w k s t = .running s₁ t₁ → t₁.calm = true) → s.asleep → ∃ m t₁, schedN den p w m (.single s t) = .running (.single s' t₁) ∧ through t₁ = true
  | 0, _, _, _, _, h, _, _ => by cases h
  | n + 1, s, t, f, s', h, hc, hz => by
    have e := sstep_single den p w s t (hc 0 s t rfl) hz
    simp only [runN] at h
    cases hs : step den p w s t with
    | go s₂ t₂ =>
      rw [hs] at h
      obtain ⟨m, t₁, hm, ht⟩ := sched_through n s₂ t₂ f s' h (fun k s₁ t₁ q => hc (k + 1) s₁ t₁ (by simp only [runN, hs]; exact q)) (Shared.asleep_of_life (step_life den p w s s₂ t t₂ hs) hz)
      have e : sstep den p w (.single s t) = .go (.single s₂ t₂) := by
        rcases e with e | e
        · rw [e, hs]; rfl
        · rw [hs] at e; cases e
      exact ⟨m + 1, t₁, by simp only [schedN, e]; exact hm, ht⟩
    | halt o₂ s₂ =>
      rw [hs] at h
      cases h
      obtain ⟨h1, rfl⟩ := halt_through hs
      exact ⟨0, t, rfl, h1⟩
theorem top_sched (w : World) (b c : Bool) (os : OsState) (hz : (s0of (ww w b c).params os).asleep) :
    ∃ s', FinOk w b c os s' ∧ ∃ n t, schedN (denote table) pw1 (ww w b c) n (.single (s0of (ww w b c).params os) (topStub pw1)) = .running (.single s' t) ∧ through t = true := by
  have h := top_wp w b c os
  rw [← MT_eq] at h
  have h' := Sem.wp_mono (model pw1 (ww w b c)) Γ0 _ (post' := Sem.finPost (model pw1 (ww w b c)) Γ0 fun r s' => ((∃ f, r = .ok f) ∧ FinOk w b c os s' ∧ s'.gens = #[]) ∧ leftWithCleanup s'.gens = false) (exc' := fun e _ s' => ((∃ f, (Except.error e : Result) = .ok f) ∧ FinOk w b c os s' ∧ s'.gens = #[]) ∧ leftWithCleanup s'.gens = false) (fun fin _ s' x => ?_) (fun _ _ _ x => x.elim) _ _ h
  · obtain ⟨n, r, s₁, hn, ⟨f, rfl⟩, hF, hg⟩ := (wp_iff_halts (M := model pw1 (ww w b c)) (R := fun r s' => (∃ f, r = .ok f) ∧ FinOk w b c os s' ∧ s'.gens = #[]) ..).mp h'
    obtain ⟨s₂, hr, hf, hc⟩ := runNI_real _ _ _ hn (outcomeOf_ends _)
    obtain rfl : s₂ = s₁ := Shared.eq_of_forget_eq hf hg
    obtain ⟨m, t₁, hm, ht⟩ := sched_through n _ _ f _ hr hc hz
    exact ⟨_, hF, m, t₁, hm, ht⟩
  · obtain ⟨⟨f, rfl⟩, hF⟩ := x
    obtain ⟨X, kvv, hk, rfl⟩ := hF
    exact ⟨⟨⟨f, rfl⟩, ⟨X, kvv, hk, rfl⟩, rfl⟩, by simp [stt, leftWithCleanup]⟩
end

/-! text H9 -/
section
open PySem PySem.W PyProof.Rows PyProof.V
noncomputable def sF (b : Bool) (P : Params) (X : Nat → Obj) (os : OsState) : Shared := stt P (objsp19_ b P X) 2377 os
theorem f_g (b : Bool) (P : Params) (X : Nat → Obj) (os : OsState) : (sF b P X os).heap.isNs mainGlobals = true := by kernel_rfl
theorem f_b (b : Bool) (P : Params) (X : Nat → Obj) (os : OsState) : (sF b P X os).heap.isNs builtinsNs = true := by kernel_rfl
theorem f_acc (b : Bool) (P : Params) (X : Nat → Obj) (os : OsState) : (sF b P X os).heap.accountedOkI (importedModules pw1.main.body) = true := by kernel_rfl
theorem f_stat (b : Bool) (P : Params) (X : Nat → Obj) (os : OsState) : staticsOk (importedModules pw1.main.body) (s0of P os).heap (sF b P X os).heap = true := by kernel_rfl
theorem f_names (b : Bool) (P : Params) (X : Nat → Obj) (os : OsState) : namesBound pw1 (sF b P X os).heap = true := by kernel_rfl
theorem f_laid (b : Bool) (P : Params) (X : Nat → Obj) (os : OsState) : laidKept (s0of P os).heap (sF b P X os).heap = true := by kernel_rfl
theorem f_blt (b : Bool) (P : Params) (X : Nat → Obj) (os : OsState) : (sF b P X os).heap.bltView = bltViewBooted := by kernel_rfl
theorem f_bmain (b : Bool) (P : Params) (X : Nat → Obj) (os : OsState) : (sF b P X os).heap.bmainOk = true := by kernel_rfl
theorem size0 (P : Params) (os : OsState) : (s0of P os).heap.objs.size = 11 := by kernel_rfl
theorem f_old (b : Bool) (P : Params) (X : Nat → Obj) (os : OsState) : ∀ j, j < 11 → j ≠ 3 → (sF b P X os).heap.get? j = (s0of P os).heap.get? j := by
  intro j hj h3
  match j, hj with
  | 0, _ => kernel_rfl
  | 1, _ => kernel_rfl
  | 2, _ => kernel_rfl
  | 3, _ => exact absurd rfl h3
  | 4, _ => kernel_rfl
  | 5, _ => kernel_rfl
  | 6, _ => kernel_rfl
  | 7, _ => kernel_rfl
  | 8, _ => kernel_rfl
  | 9, _ => kernel_rfl
  | 10, _ => kernel_rfl
theorem top_ran {w : World} {b c : Bool} {os : OsState} {X : Nat → Obj} (hs : ∃ n t, schedN (denote table) pw1 (ww w b c) n (.single (s0of (ww w b c).params os) (topStub pw1)) = .running (.single (sF b (ww w b c).params X os) t) ∧ through t = true) :
    TopRan pw1 (ww w b c) (s0of (ww w b c).params os) (sF b (ww w b c).params X os) := by
  generalize (ww w b c).params = P at hs ⊢
  refine ⟨hs, rfl, Shared.rest_eq rfl, fun j o hj hn => ?_, Heap.accountedI_of_ok (f_acc ..), statics_of_ok (f_stat ..), Pin.keysAreStrs_of (f_g ..), fun x hx => (Pin.builtinOf_eq (f_b ..) x).trans (Heap.of_bltView (f_b ..) (f_blt ..) x hx), ?_, fun g hg => ?_, names_of_bound (f_names ..), laid_of_kept (f_laid ..)⟩
  · rw [f_old b P X os j (by have := Heap.lt_size hj; rwa [size0] at this) (fun e => hn (.inl e))]
    exact hj
  · obtain ⟨bm, ob, h1, _, h3, h4, h5, _⟩ := Heap.bmainOk_spec (f_bmain b P X os)
    exact ⟨bm, ob, (Pin.globalOf_eq (f_g ..) _).trans h1, h3, h4, h5⟩
  · have : (sF b P X os).gens = #[] := rfl
    rw [this] at hg
    exact absurd hg (by simp)
end

/-! text H10 -/
section
open PySem PySem.W PyProof.Rows PyProof.V
noncomputable def hF (b : Bool) (P : Params) (X : Nat → Obj) : Heap := ⟨⟨objsp19_ b P X⟩, (boot_heap P).life⟩
noncomputable def BF (b : Bool) (P : Params) (X : Nat → Obj) (a : Addr) : Option Obj := if a = 149 then none else (hF b P X).get? a
theorem BF_get {b : Bool} {P : Params} {X : Nat → Obj} {a : Addr} {o : Obj} (h : BF b P X a = some o) : (hF b P X).get? a = some o ∧ a ≠ 149 := by
  unfold BF at h
  split at h
  · cases h
  · exact ⟨h, by assumption⟩
theorem ns_of {h h' : Heap} {a : Addr} (x : h.isNs a = true) (k : ∀ o, h.get? a = some o → h'.get? a = some o) : h'.Ns a (h.nsMap a) :=
  let ⟨o, es, ep, ho, r⟩ := Heap.Ns.of_isNs x
  ⟨o, es, ep, k o ho, r⟩
noncomputable def kitF (w : World) (b c : Bool) (X : Nat → Obj) : Kit where
  prog := pw1
  w := ww w b c
  B := BF b (ww w b c).params X
  tab := fun _ => false
  mg := (hF b (ww w b c).params X).nsMap mainGlobals
  mb := (hF b (ww w b c).params X).nsMap builtinsNs
  hg := fun h hb => by
    refine ⟨ns_of (by kernel_rfl) fun o e => hb _ _ ((if_neg (by decide)).trans e), ns_of (by kernel_rfl) fun o e => hb _ _ ((if_neg (by decide)).trans e), _, ns_of (h := hF b (ww w b c).params X) (by kernel_rfl) fun o e => hb _ _ ((if_neg (by decide)).trans e), by kernel_rfl⟩
  low := by
    have h : (BF b (ww w b c).params X sysModules).isSome = true := by kernel_rfl
    intro e
    rw [e] at h
    cases h
  top := 193
  htop := by
    have h : (BF b (ww w b c).params X 193).isSome = true := by kernel_rfl
    intro e
    rw [e] at h
    cases h
  htab := fun a h => by cases h
noncomputable def fieldsAt (o : Obj) : Array Value := match o.data with
  | .fields vs => vs
  | _ => #[]
theorem Fn.of {K : Kit} {a : Addr} {fd : FuncData} {body : List Stmt} {o oc : Obj} {c1 : Addr} {t : Tok} (hB : K.B a = some o) (hd : o.data = .func fd) (hb : fd.body = .stmts body) (hc : fd.code = .ref c1) (hBc : K.B c1 = some oc) (hdc : oc.data = .fields (fieldsAt oc)) (hq : (fieldsAt oc)[1]? = some (.str fd.qualname t))
    (h1 : fd.closure = []) (h2 : fd.scope.isCoroutine = false) (h3 : fd.scope.isGenerator = false) (h4 : fd.scope.kind = .function) : Fn K a fd body :=
  ⟨⟨o, hB, hd⟩, hb, fun h base => ⟨c1, oc, fieldsAt oc, t, hc, base _ _ hBc, hdc, hq⟩, h1, h2, h3, h4⟩
section
variable {w : World} {b c : Bool} {X : Nat → Obj}
noncomputable abbrev d_fn1 : FuncData := fdOf (st1 1) (Value.ref 15) (Value.ref 16) Value.none (Value.str (Str.ofString "cpy313.bisect") 187) (.ref 22) Value.none none
theorem fn1 : Fn (kitF w b c X) 23 d_fn1 (bodyOf (st1 1)) :=
  Fn.of (o := op1_23 b (ww w b c).params) (oc := op1_22 b (ww w b c).params) (c1 := 22) (t := 192) (by kernel_rfl) (by kernel_rfl) (by kernel_rfl) (by kernel_rfl) (by kernel_rfl) (by kernel_rfl) (by kernel_rfl) (by kernel_rfl) (by kernel_rfl) (by kernel_rfl) (by kernel_rfl)
noncomputable abbrev d_fn2 : FuncData := fdOf (st1 2) (Value.ref 24) (Value.ref 25) Value.none (Value.str (Str.ofString "cpy313.bisect") 187) (.ref 31) Value.none none
theorem fn2 : Fn (kitF w b c X) 32 d_fn2 (bodyOf (st1 2)) :=
  Fn.of (o := op2_32 b (ww w b c).params) (oc := op2_31 b (ww w b c).params) (c1 := 31) (t := 205) (by kernel_rfl) (by kernel_rfl) (by kernel_rfl) (by kernel_rfl) (by kernel_rfl) (by kernel_rfl) (by kernel_rfl) (by kernel_rfl) (by kernel_rfl) (by kernel_rfl) (by kernel_rfl)
noncomputable abbrev d_fn3 : FuncData := fdOf (st1 3) (Value.ref 33) (Value.ref 34) Value.none (Value.str (Str.ofString "cpy313.bisect") 187) (.ref 40) Value.none none
theorem fn3 : Fn (kitF w b c X) 41 d_fn3 (bodyOf (st1 3)) :=
  Fn.of (o := op3_41 b (ww w b c).params) (oc := op3_40 b (ww w b c).params) (c1 := 40) (t := 219) (by kernel_rfl) (by kernel_rfl) (by kernel_rfl) (by kernel_rfl) (by kernel_rfl) (by kernel_rfl) (by kernel_rfl) (by kernel_rfl) (by kernel_rfl) (by kernel_rfl) (by kernel_rfl)
noncomputable abbrev d_fm0 : FuncData := fdM 0 Value.none (Value.str (Str.ofString "cpy313.netrc") 230) (.ref 54) Value.none none
theorem fm0 : Fn (kitF w b c X) 55 d_fm0 (bodyOf (mt1 0)) :=
  Fn.of (o := op5_55 b (ww w b c).params) (oc := op5_54 b (ww w b c).params) (c1 := 54) (t := 245) (by kernel_rfl) (by kernel_rfl) (by kernel_rfl) (by kernel_rfl) (by kernel_rfl) (by kernel_rfl) (by kernel_rfl) (by kernel_rfl) (by kernel_rfl) (by kernel_rfl) (by kernel_rfl)
noncomputable abbrev d_fm1 : FuncData := fdM 1 Value.none (Value.str (Str.ofString "cpy313.netrc") 230) (.ref 61) Value.none none
theorem fm1 : Fn (kitF w b c X) 62 d_fm1 (bodyOf (mt1 1)) :=
  Fn.of (o := op5_62 b (ww w b c).params) (oc := op5_61 b (ww w b c).params) (c1 := 61) (t := 253) (by kernel_rfl) (by kernel_rfl) (by kernel_rfl) (by kernel_rfl) (by kernel_rfl) (by kernel_rfl) (by kernel_rfl) (by kernel_rfl) (by kernel_rfl) (by kernel_rfl) (by kernel_rfl)
noncomputable abbrev d_fm2 : FuncData := fdM 2 Value.none (Value.str (Str.ofString "cpy313.netrc") 230) (.ref 68) Value.none none
theorem fm2 : Fn (kitF w b c X) 69 d_fm2 (bodyOf (mt1 2)) :=
  Fn.of (o := op5_69 b (ww w b c).params) (oc := op5_68 b (ww w b c).params) (c1 := 68) (t := 261) (by kernel_rfl) (by kernel_rfl) (by kernel_rfl) (by kernel_rfl) (by kernel_rfl) (by kernel_rfl) (by kernel_rfl) (by kernel_rfl) (by kernel_rfl) (by kernel_rfl) (by kernel_rfl)
noncomputable abbrev d_fm3 : FuncData := fdM 3 Value.none (Value.str (Str.ofString "cpy313.netrc") 230) (.ref 75) Value.none none
theorem fm3 : Fn (kitF w b c X) 76 d_fm3 (bodyOf (mt1 3)) :=
  Fn.of (o := op5_76 b (ww w b c).params) (oc := op5_75 b (ww w b c).params) (c1 := 75) (t := 271) (by kernel_rfl) (by kernel_rfl) (by kernel_rfl) (by kernel_rfl) (by kernel_rfl) (by kernel_rfl) (by kernel_rfl) (by kernel_rfl) (by kernel_rfl) (by kernel_rfl) (by kernel_rfl)
noncomputable abbrev d_fn8 : FuncData := fd0 8 Value.none (Value.str (Str.ofString "cpy313.stringprep") 290) (.ref 100) Value.none none
theorem fn8 : Fn (kitF w b c X) 101 d_fn8 (bodyOf (st1 8)) :=
  Fn.of (o := op8_101 b (ww w b c).params) (oc := op8_100 b (ww w b c).params) (c1 := 100) (t := 353) (by kernel_rfl) (by kernel_rfl) (by kernel_rfl) (by kernel_rfl) (by kernel_rfl) (by kernel_rfl) (by kernel_rfl) (by kernel_rfl) (by kernel_rfl) (by kernel_rfl) (by kernel_rfl)
noncomputable abbrev d_fn10 : FuncData := fd0 10 Value.none (Value.str (Str.ofString "cpy313.stringprep") 290) (.ref 146) Value.none none
theorem fn10 : Fn (kitF w b c X) 147 d_fn10 (bodyOf (st1 10)) :=
  Fn.of (o := op10_147 b (ww w b c).params) (oc := op10_146 b (ww w b c).params) (c1 := 146) (t := 2311) (by kernel_rfl) (by kernel_rfl) (by kernel_rfl) (by kernel_rfl) (by kernel_rfl) (by kernel_rfl) (by kernel_rfl) (by kernel_rfl) (by kernel_rfl) (by kernel_rfl) (by kernel_rfl)
noncomputable abbrev d_fn12 : FuncData := fd0 12 Value.none (Value.str (Str.ofString "law_re0155_01") 2318) (.ref 153) Value.none none
theorem fn12 : Fn (kitF w b c X) 154 d_fn12 (bodyOf (st1 12)) :=
  Fn.of (o := op12_154 b (ww w b c).params) (oc := op12_153 b (ww w b c).params) (c1 := 153) (t := 2321) (by kernel_rfl) (by kernel_rfl) (by kernel_rfl) (by kernel_rfl) (by kernel_rfl) (by kernel_rfl) (by kernel_rfl) (by kernel_rfl) (by kernel_rfl) (by kernel_rfl) (by kernel_rfl)
noncomputable abbrev d_fn13 : FuncData := fd0 13 Value.none (Value.str (Str.ofString "law_re0155_01") 2318) (.ref 158) Value.none none
theorem fn13 : Fn (kitF w b c X) 159 d_fn13 (bodyOf (st1 13)) :=
  Fn.of (o := op13_159 b (ww w b c).params) (oc := op13_158 b (ww w b c).params) (c1 := 158) (t := 2332) (by kernel_rfl) (by kernel_rfl) (by kernel_rfl) (by kernel_rfl) (by kernel_rfl) (by kernel_rfl) (by kernel_rfl) (by kernel_rfl) (by kernel_rfl) (by kernel_rfl) (by kernel_rfl)
noncomputable abbrev d_fn14 : FuncData := fd0 14 Value.none (Value.str (Str.ofString "law_re0155_01") 2318) (.ref 163) Value.none none
theorem fn14 : Fn (kitF w b c X) 164 d_fn14 (bodyOf (st1 14)) :=
  Fn.of (o := op14_164 b (ww w b c).params) (oc := op14_163 b (ww w b c).params) (c1 := 163) (t := 2338) (by kernel_rfl) (by kernel_rfl) (by kernel_rfl) (by kernel_rfl) (by kernel_rfl) (by kernel_rfl) (by kernel_rfl) (by kernel_rfl) (by kernel_rfl) (by kernel_rfl) (by kernel_rfl)
noncomputable abbrev d_fn15 : FuncData := fd0 15 Value.none (Value.str (Str.ofString "law_re0155_01") 2318) (.ref 170) Value.none none
theorem fn15 : Fn (kitF w b c X) 171 d_fn15 (bodyOf (st1 15)) :=
  Fn.of (o := op15_171 b (ww w b c).params) (oc := op15_170 b (ww w b c).params) (c1 := 170) (t := 2344) (by kernel_rfl) (by kernel_rfl) (by kernel_rfl) (by kernel_rfl) (by kernel_rfl) (by kernel_rfl) (by kernel_rfl) (by kernel_rfl) (by kernel_rfl) (by kernel_rfl) (by kernel_rfl)
noncomputable abbrev d_fn16 : FuncData := fd0 16 Value.none (Value.str (Str.ofString "law_re0155_01") 2318) (.ref 175) Value.none none
theorem fn16 : Fn (kitF w b c X) 176 d_fn16 (bodyOf (st1 16)) :=
  Fn.of (o := op16_176 b (ww w b c).params) (oc := op16_175 b (ww w b c).params) (c1 := 175) (t := 2352) (by kernel_rfl) (by kernel_rfl) (by kernel_rfl) (by kernel_rfl) (by kernel_rfl) (by kernel_rfl) (by kernel_rfl) (by kernel_rfl) (by kernel_rfl) (by kernel_rfl) (by kernel_rfl)
noncomputable abbrev d_fn17 : FuncData := fd0 17 Value.none (Value.str (Str.ofString "law_re0155_01") 2318) (.ref 182) Value.none none
theorem fn17 : Fn (kitF w b c X) 183 d_fn17 (bodyOf (st1 17)) :=
  Fn.of (o := op17_183 b (ww w b c).params) (oc := op17_182 b (ww w b c).params) (c1 := 182) (t := 2358) (by kernel_rfl) (by kernel_rfl) (by kernel_rfl) (by kernel_rfl) (by kernel_rfl) (by kernel_rfl) (by kernel_rfl) (by kernel_rfl) (by kernel_rfl) (by kernel_rfl) (by kernel_rfl)
noncomputable abbrev d_fn18 : FuncData := fd0 18 Value.none (Value.str (Str.ofString "law_re0155_01") 2318) (.ref 187) Value.none none
theorem fn18 : Fn (kitF w b c X) 188 d_fn18 (bodyOf (st1 18)) :=
  Fn.of (o := op18_188 b (ww w b c).params) (oc := op18_187 b (ww w b c).params) (c1 := 187) (t := 2366) (by kernel_rfl) (by kernel_rfl) (by kernel_rfl) (by kernel_rfl) (by kernel_rfl) (by kernel_rfl) (by kernel_rfl) (by kernel_rfl) (by kernel_rfl) (by kernel_rfl) (by kernel_rfl)
noncomputable abbrev d_fn19 : FuncData := fd0 19 Value.none (Value.str (Str.ofString "law_re0155_01") 2318) (.ref 192) Value.none none
theorem fn19 : Fn (kitF w b c X) 193 d_fn19 (bodyOf (st1 19)) :=
  Fn.of (o := op19_193 b (ww w b c).params) (oc := op19_192 b (ww w b c).params) (c1 := 192) (t := 2372) (by kernel_rfl) (by kernel_rfl) (by kernel_rfl) (by kernel_rfl) (by kernel_rfl) (by kernel_rfl) (by kernel_rfl) (by kernel_rfl) (by kernel_rfl) (by kernel_rfl) (by kernel_rfl)
end
end

/-! text H11 -/
section
open PySem PySem.W PyProof.Rows PyProof.V
section
variable {w : World} {b c : Bool} {X : Nat → Obj}
theorem fit_of {K : Kit} {fd : FuncData} {las : List LV} {k : Nat} {x : List Nat} {T1 T2 : Addr} {o1 o2 : Obj} (h1 : K.B T1 = some o1) (h2 : K.B T2 = some o2)
    (e : ∀ ρ vas, VRs ρ las vas → ∃ bs, (∀ S, peek [(T1, o1), (T2, o2)] S (bindArgs fd ⟨vas, []⟩) = some bs) ∧ BR ρ (bisLb k x) bs) : Fits K fd [] las [] (bisLb k x) := by
  intro s ρ vas vks hB ra rk
  obtain ⟨bs, h3, h4⟩ := e ρ vas ra
  refine ⟨bs, ?_, h4⟩
  refine kp_binds (K := [(T1, o1), (T2, o2)]) (fun a o e => ?_) h3
  rw [List.lookup_cons] at e
  split at e
  · rename_i he
    cases e
    rw [eq_of_beq he]
    exact hB _ _ h1
  · rw [List.lookup_cons] at e
    split at e
    · rename_i he
      cases e
      rw [eq_of_beq he]
      exact hB _ _ h2
    · cases e
theorem blts : Blts (kitF w b c X) := ⟨⟨by kernel_rfl, by kernel_rfl⟩, ⟨by kernel_rfl, by kernel_rfl⟩, ⟨by kernel_rfl, by kernel_rfl⟩, ⟨by kernel_rfl, by kernel_rfl⟩, ⟨by kernel_rfl, by kernel_rfl⟩, ⟨by kernel_rfl, by kernel_rfl⟩, ⟨by kernel_rfl, by kernel_rfl⟩⟩
theorem sp_bisl : FnSpec (kitF w b c X) (.ref 41) 1 [] pre_bisL := bisL_spec blts fn3 fun k x => fit_of (T1 := 33) (T2 := 34) (o1 := op3_33 b (ww w b c).params) (o2 := op3_34 b (ww w b c).params) (by kernel_rfl) (by kernel_rfl) fun ρ vas r => by
  obtain ⟨v, u, rfl, r1, r2⟩ := VRs.two r
  exact ⟨[("a", v), ("x", u), ("lo", .int 0 216), ("hi", .none), ("key", .none)], fun S => by kernel_rfl, .cons _ r1 (.cons _ r2 (.cons _ (.int _ _) (.cons _ .none (.cons _ .none .nil))))⟩
theorem VRs.four {ρ : List Addr} {a b c d : LV} {vs : List Value} (h : VRs ρ [a, b, c, d] vs) : ∃ v w x y, vs = [v, w, x, y] ∧ VR ρ a v ∧ VR ρ b w ∧ VR ρ c x ∧ VR ρ d y := by
  obtain _ | ⟨v1, vs⟩ := vs
  · exact h.elim
  obtain ⟨h1, h⟩ := h
  obtain _ | ⟨v2, vs⟩ := vs
  · exact h.elim
  obtain ⟨h2, h⟩ := h
  obtain ⟨v3, v4, rfl, h3, h4⟩ := VRs.two h
  exact ⟨_, _, _, _, rfl, h1, h2, h3, h4⟩
theorem sp_bisr : FnSpec (kitF w b c X) (.ref 32) 1 [] pre_bisR := bisR_spec blts fn2 fun k x => fit_of (T1 := 24) (T2 := 25) (o1 := op2_24 b (ww w b c).params) (o2 := op2_25 b (ww w b c).params) (by kernel_rfl) (by kernel_rfl) fun ρ vas r => by
  obtain ⟨v, u, y, z, rfl, r1, r2, r3, r4⟩ := VRs.four r
  exact ⟨[("a", v), ("x", u), ("lo", y), ("hi", z), ("key", .none)], fun S => by kernel_rfl, .cons _ r1 (.cons _ r2 (.cons _ r3 (.cons _ r4 (.cons _ .none .nil))))⟩
theorem sp_ins : FnSpec (kitF w b c X) (.ref 23) 2 [] pre_ins := ins_spec fn1 (fun k x => fit_of (T1 := 15) (T2 := 16) (o1 := op1_15 b (ww w b c).params) (o2 := op1_16 b (ww w b c).params) (by kernel_rfl) (by kernel_rfl) fun ρ vas r => by
  obtain ⟨v, u, rfl, r1, r2⟩ := VRs.two r
  exact ⟨[("a", v), ("x", u), ("lo", .int 0 189), ("hi", .none), ("key", .none)], fun S => by kernel_rfl, .cons _ r1 (.cons _ r2 (.cons _ (.int _ _) (.cons _ .none (.cons _ .none .nil))))⟩)
  (b := 32) (ob := op2_32 b (ww w b c).params) (fb := d_fn2) (by kernel_rfl) (by kernel_rfl) (by kernel_rfl) sp_bisr
noncomputable def Sf1 (i : Int) : Bool := hid.any fun n => decide (i = (n : Nat))
noncomputable def setData (o : Obj) : Array (Int × Value) × Nat × SetTable := match o.data with
  | .set es n t => (es, n, t)
  | _ => (#[], 0, default)
noncomputable def keyOfE (e : Int × Value) : Int := match e.2 with
  | .int i _ => i
  | _ => 0
noncomputable def okE (e : Int × Value) : Bool := match e.2 with
  | .int i _ => decide (e.1 = hashInt i) && e.2.scannable
  | _ => false
theorem okE_is {e : Int × Value} (h : okE e = true) : (∃ t, e.2 = .int (keyOfE e) t) ∧ e.1 = hashInt (keyOfE e) ∧ e.2.scannable = true := by
  obtain ⟨a, v⟩ := e
  cases v <;> simp only [okE, Bool.and_eq_true, decide_eq_true_eq] at h <;> first | (exact absurd h (by decide)) | exact ⟨⟨_, rfl⟩, h⟩
theorem set_of {prog : Program} {w : World} {h : Heap} {a : Addr} {o : Obj} {n : Nat} (ho : h.get? a = some o) (hc : o.cls = .type "set") (hd : o.dict = none) (hs : o.slots = #[]) (hdd : o.data = .set (setData o).1 (setData o).2.1 (setData o).2.2)
    (hok : (setData o).1.toList.all okE = true) (hk : (setData o).1.toList.map keyOfE |>.all Sf1) (hk2 : hid.all (fun m => ((setData o).1.toList.map keyOfE).contains (m : Nat)) = true) (hb : n < scanBound) (hf : (setData o).2.2.fits (setData o).1.size = true) (hn : (setData o).1.size = n) : h.SetOf (intKind prog w) a Sf1 n := by
  have hall := List.all_eq_true.mp hok
  refine ⟨o, _, _, _, ho, ⟨hc, hd, hs⟩, hdd, fun e he => ?_, fun k => ?_, by rw [hn]; exact hb, hf, hn⟩
  · obtain ⟨⟨t, e1⟩, e2, e3⟩ := okE_is (hall e he)
    exact ⟨⟨keyOfE e, by rw [e1]; exact intKind_is prog w _ t, e2⟩, e3⟩
  · constructor
    · intro hS
      obtain ⟨m, hm, e1⟩ := List.any_eq_true.mp hS
      have e1 := of_decide_eq_true e1
      have := List.all_eq_true.mp hk2 m hm
      obtain ⟨e, he, e2⟩ := List.mem_map.mp (List.contains_iff_mem.mp this)
      obtain ⟨⟨t, e3⟩, _⟩ := okE_is (hall e he)
      refine ⟨e, he, ?_⟩
      rw [e3, e2, e1]
      exact intKind_is prog w _ t
    · rintro ⟨e, he, hi⟩
      obtain ⟨⟨t, e3⟩, _⟩ := okE_is (hall e he)
      have e4 : k = keyOfE e := (intKind prog w).inj _ _ _ hi (by rw [e3]; exact intKind_is prog w _ t)
      rw [e4]
      exact List.all_eq_true.mp hk _ (List.mem_map.mpr ⟨e, he, rfl⟩)
theorem set91 : ∀ h : Heap, (kitF w b c X).Base h → h.SetOf (intKind (kitF w b c X).prog (kitF w b c X).w) 91 Sf1 27 := fun h base =>
  set_of (o := op7_91 b (ww w b c).params) (base _ _ (by kernel_rfl)) (by kernel_rfl) (by kernel_rfl) (by kernel_rfl) (by kernel_rfl) (by kernel_rfl) (by kernel_rfl) (by kernel_rfl) (by decide) (by kernel_rfl) (by kernel_rfl)
theorem sp_b1 : FnSpec (kitF w b c X) (.ref 101) 1 [] (pre_b1 Sf1) := b1_spec blts fn8 (by kernel_rfl) set91
end
end

/-! text H12 -/
section
open PySem PySem.W PyProof.Rows PyProof.V
noncomputable def tabL : List (Int × Str) → Int → Option (List Nat)
  | [], _ => none
  | (k, s) :: r, i => if k = i then some s.cps.toList else tabL r i
theorem tabL_look (i : Int) : ∀ l : List (Int × Str), Spec.lookup (.int i) (l.map pdOf) = (tabL l i).map fun l => PyData.str (S l)
  | [] => rfl
  | (k, s) :: r => by
    show (if Spec.same (.int k) (.int i) then some (PyData.str s) else Spec.lookup (.int i) (r.map pdOf)) = Option.map (fun l => PyData.str (S l)) (if k = i then some s.cps.toList else tabL r i)
    rw [same_int, tabL_look i r]
    by_cases h : k = i
    · rw [if_pos (by simpa using h), if_pos h]
      rfl
    · rw [if_neg (by simpa using h), if_neg h]
noncomputable def tab1 (i : Int) : Option (List Nat) := tabL kv9 i
noncomputable def foldOk (c : Nat) : Bool := decide (tab1 (c : Nat) = some (mtC c)) || (decide (tab1 (c : Nat) = none) && decide (Txt.lower (S [c]) = S (mtC c)))
theorem fold_all : letters.all foldOk = true := by kernel_rfl
theorem prep1 : PrepOk Sf1 tab1 := by
  refine ⟨?_, ?_, fun c hc => ?_⟩
  · have h : hid.all (fun c => Sf1 (c : Nat)) = true := by kernel_rfl
    exact fun c hc => List.all_eq_true.mp h c hc
  · have h : letters.all (fun c => !Sf1 (c : Nat)) = true := by kernel_rfl
    exact fun c hc => by simpa using List.all_eq_true.mp h c hc
  · have h := List.all_eq_true.mp fold_all c hc
    unfold foldOk at h
    simp only [Bool.or_eq_true, Bool.and_eq_true, decide_eq_true_eq] at h
    exact h
section
variable {w : World} {b c : Bool} {X : Nat → Obj} {os : OsState} {kvv : List (Int × Value)}
theorem get102 (T : TabX w b c (fun _ => default) X os kvv) : ∃ o, (kitF w b c X).B 102 = some o ∧ o.IsDictOf (intKind pw1 (ww w b c)) kvv := by
  obtain ⟨_, o, es, ep, ho, r⟩ := T
  refine ⟨o, ?_, es, ep, r⟩
  have e : (kitF w b c X).B 102 = (stt (ww w b c).params (objsp8_ b (ww w b c).params (fun _ => default) ++ (List.range 39).map X) 2309 os).heap.get? 102 := by kernel_rfl
  rw [e]
  exact ho
theorem tab102 (T : TabX w b c (fun _ => default) X os kvv) : ∀ h : Heap, (kitF w b c X).Base h → IntTab (kitF w b c X).prog (kitF w b c X).w h 102 (kv9.map pdOf) := fun h base => by
  obtain ⟨o, ho, hd⟩ := get102 T
  exact TabAt.ofObj (by decide) (base _ _ ho) hd T.1.flat
theorem sp_b3 (T : TabX w b c (fun _ => default) X os kvv) : FnSpec (kitF w b c X) (.ref 147) 1 [] (pre_b3 tab1) := by
  obtain ⟨o, ho, es, ep, hc, hd⟩ := get102 T
  exact b3_spec blts fn10 (by kernel_rfl) ho hc.1 hc.2.1 (tab102 T) fun i => tabL_look i kv9
noncomputable def mN1 (w : World) (b c : Bool) (X : Nat → Obj) : Str → Option Value := (hF b (ww w b c).params X).nsMap 78
theorem ns78 : ∀ h : Heap, (kitF w b c X).Base h → h.Ns 78 (mN1 w b c X) := fun h base => ns_of (by kernel_rfl) fun o e => base _ _ (show (if (78 : Nat) = 149 then none else (hF b (ww w b c).params X).get? 78) = some o from (if_neg (by decide)).trans e)
theorem cls79 : (kitF w b c X).B 79 = some (excClassObj (Str.ofString "_netrclex") (Str.ofString "_netrclex") 79 78 [.type "object"] [.type "object"] true [] [] false none none none none (some (.str (Str.ofString "_netrclex") 232)) (some (.str (Str.ofString "_netrclex") 240)) (some (.bool true)) "object.__new__") := by kernel_rfl
noncomputable def lexTop : LexTop (kitF w b c X) 79 78 (mN1 w b c X) 153 149 where
  t0 := fun _ => rfl
  CL := ⟨⟨_, _, _, _, _, _, _, _, _, _, _, _, _, cls79⟩, ns78, by kernel_rfl, by kernel_rfl, by kernel_rfl⟩
  at_ := fun h base => ⟨⟨_, _, _, _, _, _, _, _, _, _, _, _, base _ _ cls79⟩, ns78 h base⟩
  lineno := by kernel_rfl
  instream := by kernel_rfl
  whitespace := by kernel_rfl
  pushback := by kernel_rfl
  cG := by kernel_rfl
  fi := 55
  oi := op5_55 b (ww w b c).params
  iN := by kernel_rfl
  iB := by kernel_rfl
  iC := by kernel_rfl
  doc := _
  pm := _
  cd := _
  ct := _
  an := _
  iF := fm0
  code := fun h base => ⟨op12_153 b (ww w b c).params, fieldsAt (op12_153 b (ww w b c).params), Str.ofString "/claim/cut.py", 2329, 3, 0, true, 181, 0, base _ _ (by kernel_rfl), by kernel_rfl, by kernel_rfl, by kernel_rfl, by kernel_rfl, by kernel_rfl, by kernel_rfl, by kernel_rfl, by kernel_rfl, by decide⟩
  bAt := fun h base => ⟨4, boot_o_4 (ww w b c).params, by kernel_rfl, by decide, by decide, by decide, base _ _ (by kernel_rfl), by kernel_rfl, by kernel_rfl, by kernel_rfl⟩
  PB := by kernel_rfl
  PG := by decide
end
end

/-! text H13 -/
section
open PySem PySem.W PyProof.Rows PyProof.V
section
variable {w : World} {b c : Bool} {X : Nat → Obj} {os : OsState} {kvv : List (Int × Value)}
noncomputable def gl_word : Gl (kitF w b c X) "_law_word" 1 pre_word := ⟨159, op13_159 b (ww w b c).params, d_fn13, by kernel_rfl, by kernel_rfl, by kernel_rfl, word_spec blts fn13⟩
noncomputable def lawTop (T : TabX w b c (fun _ => default) X os kvv) : LawTop (kitF w b c X) 79 78 (mN1 w b c X) 153 149 Sf1 tab1 where
  B := blts
  LT := lexTop
  page := ⟨164, op14_164 b (ww w b c).params, d_fn14, by kernel_rfl, by kernel_rfl, by kernel_rfl, page_spec blts fn14 gl_word.g gl_word.B gl_word.D gl_word.S⟩
  word := gl_word
  b1 := ⟨101, op8_101 b (ww w b c).params, d_fn8, by kernel_rfl, by kernel_rfl, by kernel_rfl, sp_b1⟩
  b3 := ⟨147, op10_147 b (ww w b c).params, d_fn10, by kernel_rfl, by kernel_rfl, by kernel_rfl, sp_b3 T⟩
  PO := prep1
  root := ⟨183, op17_183 b (ww w b c).params, d_fn17, by kernel_rfl, by kernel_rfl, by kernel_rfl, root_spec blts fn17⟩
  powers := ⟨188, op18_188 b (ww w b c).params, d_fn18, by kernel_rfl, by kernel_rfl, by kernel_rfl, powers_spec blts fn18⟩
  more := ⟨171, op15_171 b (ww w b c).params, d_fn15, by kernel_rfl, by kernel_rfl, by kernel_rfl, more_spec blts fn15⟩
  bisl := ⟨41, op3_41 b (ww w b c).params, d_fn3, by kernel_rfl, by kernel_rfl, by kernel_rfl, sp_bisl⟩
  insr := ⟨23, op1_23 b (ww w b c).params, d_fn1, by kernel_rfl, by kernel_rfl, by kernel_rfl, sp_ins⟩
  rc := ⟨62, op5_62 b (ww w b c).params, _, _, _, _, _, by kernel_rfl, by kernel_rfl, by kernel_rfl, by kernel_rfl, fm1⟩
  tok := ⟨69, op5_69 b (ww w b c).params, _, _, _, _, _, by kernel_rfl, by kernel_rfl, by kernel_rfl, by kernel_rfl, fm2⟩
  push := ⟨76, op5_76 b (ww w b c).params, _, _, _, _, _, by kernel_rfl, by kernel_rfl, by kernel_rfl, by kernel_rfl, fm3⟩
  a12 := 154
  o12 := op12_154 b (ww w b c).params
  doc12 := _
  pm12 := _
  ct12 := _
  an12 := _
  g12 := by kernel_rfl
  B12 := by kernel_rfl
  D12 := by kernel_rfl
  F12 := fn12
  a16 := 176
  o16 := op16_176 b (ww w b c).params
  doc16 := _
  pm16 := _
  cd16 := _
  ct16 := _
  an16 := _
  g16 := by kernel_rfl
  B16 := by kernel_rfl
  D16 := by kernel_rfl
  F16 := fn16
end
noncomputable def Meth.ext {K K' : Kit} {mN : Str → Option Value} {nm : Str} {j : Nat} (M : Meth K mN nm j) (X : KExt K K') : Meth K' mN nm j := ⟨M.a, M.o, M.doc, M.pm, M.cd, M.ct, M.an, M.n, X.sub _ _ M.B, M.C, M.D, M.F.ext X⟩
noncomputable def LexTop.ext {K K' : Kit} {c N : Addr} {mN : Str → Option Value} {cc P : Addr} (T : LexTop K c N mN cc P) (X : KExt K K') (h1 : K'.mg = K.mg) (h2 : K'.B P = none) : LexTop K' c N mN cc P where
  t0 := X.t1
  CL := T.CL.ext X
  at_ := fun h b => T.at_ h (X.base b)
  lineno := T.lineno
  instream := T.instream
  whitespace := T.whitespace
  pushback := T.pushback
  cG := by rw [h1]; exact T.cG
  fi := T.fi
  oi := T.oi
  iN := T.iN
  iB := X.sub _ _ T.iB
  iC := T.iC
  doc := T.doc
  pm := T.pm
  cd := T.cd
  ct := T.ct
  an := T.an
  iF := T.iF.ext X
  code := fun h b => T.code h (X.base b)
  bAt := fun h b => by rw [h1]; exact T.bAt h (X.base b)
  PB := h2
  PG := T.PG
noncomputable def LawTop.ext {K K' : Kit} {c N : Addr} {mN : Str → Option Value} {cc P : Addr} {Sf : Int → Bool} {tab : Int → Option (List Nat)} (T : LawTop K c N mN cc P Sf tab) (X : KExt K K') (h1 : K'.mg = K.mg) (h3 : K'.mb = K.mb) (h2 : K'.B P = none) : LawTop K' c N mN cc P Sf tab where
  B := T.B.ext h1 h3
  LT := T.LT.ext X h1 h2
  page := T.page.ext X h1
  word := T.word.ext X h1
  b1 := T.b1.ext X h1
  b3 := T.b3.ext X h1
  PO := T.PO
  root := T.root.ext X h1
  powers := T.powers.ext X h1
  more := T.more.ext X h1
  bisl := T.bisl.ext X h1
  insr := T.insr.ext X h1
  rc := T.rc.ext X
  tok := T.tok.ext X
  push := T.push.ext X
  a12 := T.a12
  o12 := T.o12
  doc12 := T.doc12
  pm12 := T.pm12
  ct12 := T.ct12
  an12 := T.an12
  g12 := by rw [h1]; exact T.g12
  B12 := X.sub _ _ T.B12
  D12 := T.D12
  F12 := T.F12.ext X
  a16 := T.a16
  o16 := T.o16
  doc16 := T.doc16
  pm16 := T.pm16
  cd16 := T.cd16
  ct16 := T.ct16
  an16 := T.an16
  g16 := by rw [h1]; exact T.g16
  B16 := X.sub _ _ T.B16
  D16 := T.D16
  F16 := T.F16.ext X
/-- the kit with the script's list -/
noncomputable def kitS (w : World) (b c : Bool) (X : Nat → Obj) (sc : Addr) (o : Obj) (h : (kitF w b c X).B sc = none) : Kit :=
  (kitF w b c X).add (fun a => if a = sc then some o else (kitF w b c X).B a) fun a o' e => by
    by_cases ha : a = sc
    · rw [ha, h] at e; cases e
    · rw [if_neg ha]; exact e
theorem kitS_ext {w : World} {b c : Bool} {X : Nat → Obj} {sc : Addr} {o : Obj} {h : (kitF w b c X).B sc = none} : KExt (kitF w b c X) (kitS w b c X sc o h) := Kit.add_ext fun _ => rfl
theorem sizeF (b : Bool) (P : Params) (X : Nat → Obj) : (hF b P X).objs.size = 194 := by kernel_rfl
theorem law_at {w : World} {b c : Bool} {X : Nat → Obj} {os : OsState} {kvv : List (Int × Value)} (T : TabX w b c (fun _ => default) X os kvv) {s : Shared} {A : Around} {sc : Addr} {its : Array Value} {n : Nat} {zs : List Int} (r : Rm 8 A)
    (hK : ∀ a o, (hF b (ww w b c).params X).get? a = some o → s.heap.get? a = some o) (hg : s.gens = #[]) (hsc : 194 ≤ sc) (hB : s.heap.get? sc = some ⟨.type "list", none, .seq its n, #[]⟩) (hz : ∀ ρ, VRs ρ (zs.map .int) its.toList) (hl : zs.length ≤ 1000) :
    codeAny (model pw1 (ww w b c)) A (.call (.ref 193) ⟨[.ref sc], []⟩) (RetOk (LawOut 149 s)) s := by
  have hn : (kitF w b c X).B sc = none := by
    show (if sc = 149 then none else (hF b (ww w b c).params X).get? sc) = none
    split
    · rfl
    · cases e : (hF b (ww w b c).params X).get? sc with
      | none => rfl
      | some o => have := Heap.lt_size e; rw [sizeF] at this; exact absurd (Nat.lt_of_lt_of_le this hsc) (Nat.lt_irrefl _)
  have hP : (hF b (ww w b c).params X).get? 149 = some (tabObj #[]) := by kernel_rfl
  have hne : ¬ (149 : Addr) = sc := fun e => by
    subst e
    exact absurd hsc (by decide)
  have T2 := (lawTop T).ext (K' := kitS w b c X sc ⟨.type "list", none, .seq its n, #[]⟩ hn) kitS_ext rfl rfl (by
    show (if 149 = sc then _ else (kitF w b c X).B 149) = none
    rw [if_neg hne]
    rfl)
  have hp : Hp (kitS w b c X sc ⟨.type "list", none, .seq its n, #[]⟩ hn) [] [] s := {
    base := fun a o e => by
      have e : (if a = sc then some _ else (kitF w b c X).B a) = some o := e
      split at e
      · rename_i he
        cases e
        rw [he]
        exact hB
      · exact hK _ _ (BF_get e).1
    len := rfl
    objs := fun k a lo h _ => by simp at h
    nd := List.nodup_nil
    own := fun a ha => by simp at ha
    gens := hg }
  refine law_call (n := n) T2 (fn19.ext kitS_ext) r hp (hK _ _ hP) ?_ hz hl all_pairs
  show (if sc = sc then some _ else (kitF w b c X).B sc) = some _
  rw [if_pos rfl]
end

/-! text H14 -/
section
open PySem PySem.W PyProof.Rows PyProof.V
theorem int_of {x : WData} (h : WShape.has [] x .int = true) : ∃ z, x = .int z := by
  cases x with
  | int z => exact ⟨z, rfl⟩
  | _ => exact Bool.noConfusion (show false = true from h)
theorem ints_of : ∀ xs : List WData, WShape.hasItems [] xs .int = true → ∃ zs : List Int, xs = zs.map .int
  | [], _ => ⟨[], rfl⟩
  | x :: xs, h => by
    have h : (WShape.has [] x .int && WShape.hasItems [] xs .int) = true := h
    obtain ⟨h1, h2⟩ := Bool.and_eq_true_iff.mp h
    obtain ⟨zs, rfl⟩ := ints_of xs h2
    obtain ⟨z, rfl⟩ := int_of h1
    exact ⟨z :: zs, rfl⟩
theorem list_of {x : WData} (h : WShape.has [] x (.list .int) = true) : ∃ zs : List Int, x = .list (zs.map .int) := by
  cases x with
  | list xs =>
    have h1 : (WShape.hasItems [] xs .int || false) = true := h
    rw [Bool.or_false] at h1
    obtain ⟨zs, rfl⟩ := ints_of xs h1
    exact ⟨zs, rfl⟩
  | _ => exact Bool.noConfusion (show false = true from h)
abbrev row1 : OpenRow := OpenLaw.row PySem.Challenge.rw_re0155_01
theorem args_inv {args : List WData} (h : row1.toRowW.claim.pre args = true) : ∃ zs : List Int, args = [.list (zs.map .int)] ∧ zs.length ≤ 63 := by
  obtain ⟨h1, h2⟩ := pre_splitW (r := row1.toRowW) h
  obtain ⟨d, r, rfl, h3, h4⟩ := hasAllW_cons (e := .list .int) (es := []) h1
  obtain rfl := hasAllW_nil h4
  obtain ⟨zs, rfl⟩ := list_of h3
  refine ⟨zs, rfl, ?_⟩
  have hv : row1.toRowW.pre.value [] { args := [.list (zs.map .int)] } = some (.bool (!decide ((63 : Int) < (zs.map WData.int).length) && true)) :=
    w_and (w_not (w_lt (x := 63) rfl (w_len_list (w_arg rfl)))) rfl
  have h2 : (match row1.toRowW.pre.value [] { args := [.list (zs.map .int)] } with
    | some (.bool true) => true
    | _ => false) = true := h2
  rw [hv] at h2
  by_cases hd : (63 : Int) < (zs.map WData.int).length
  · rw [decide_eq_true hd] at h2
    exact absurd h2 (by simp)
  · rw [List.length_map] at hd
    omega
theorem lay_ints {R : WRecords} {cl : Str → Option Addr} {P : Params} {ord : List DictEntry → List DictEntry} : ∀ (zs : List Int) (s : Shared), ∃ vals, layAllW R cl P ord (zs.map .int) s = some (vals, { s with toks := s.toks + zs.length }) ∧ ∀ ρ, VRs ρ (zs.map .int) vals
  | [], s => ⟨[], rfl, fun ρ => trivial⟩
  | z :: zs, s => by
    obtain ⟨vals, e, h⟩ := lay_ints (R := R) (cl := cl) (P := P) (ord := ord) zs { s with toks := s.toks + 1 }
    refine ⟨.int z s.toks :: vals, ?_, fun ρ => ⟨.int _ _, h ρ⟩⟩
    show (match layAllW R cl P ord (zs.map .int) { s with toks := s.toks + 1 } with
      | some r => some (Value.int z s.toks :: r.1, r.2)
      | Option.none => Option.none) = _
    rw [e]
    simp only [List.length_cons]
    congr 3
    omega
theorem lay_list {R : WRecords} {cl : Str → Option Addr} {P : Params} {ord : List DictEntry → List DictEntry} (zs : List Int) (s : Shared) : ∃ vals, layAllW R cl P ord [.list (zs.map .int)] s = some ([.ref s.heap.objs.size], { s with heap := s.heap.push { cls := .type "list", data := .seq vals.toArray }, toks := s.toks + zs.length }) ∧ ∀ ρ, VRs ρ (zs.map .int) vals := by
  obtain ⟨vals, e, h⟩ := lay_ints (R := R) (cl := cl) (P := P) (ord := ord) zs s
  refine ⟨vals, ?_, h⟩
  show (match (match layAllW R cl P ord (zs.map .int) s with
      | some r => some (Value.ref r.2.heap.objs.size, ({ r.2 with heap := r.2.heap.push { cls := .type "list", data := .seq r.1.toArray } } : Shared))
      | Option.none => Option.none) with
    | some a => (match layAllW R cl P ord [] a.2 with
      | some r => some (a.1 :: r.1, r.2)
      | Option.none => Option.none)
    | Option.none => Option.none) = _
  rw [e]
  rfl
theorem bare1 : pw1.bare := ⟨rfl, rfl, rfl, rfl, rfl, by decide +kernel⟩
theorem opens1 : opensWell pw1 = true := by decide +kernel
theorem promised1 : row1.toRowW.promised := by w_witness2
theorem open1 : opening pw1 = plainProg pw1.main.scope.names := by kernel_rfl
theorem fence1 (s : Shared) : fenceModules? pw1 s = some s := by kernel_rfl
theorem law_def (b : Bool) (P : Params) (X : Nat → Obj) (os : OsState) : isTheDefsW pw1 (sF b P X os).heap (Str.ofString "law") := by
  refine ⟨193, op19_193 b P, d_fn19, prmOf (st1 19), bodyOf (st1 19), scpOf (st1 19), ?_, by kernel_rfl, by kernel_rfl, by kernel_rfl, by kernel_rfl, by kernel_rfl, by kernel_rfl, by kernel_rfl, by kernel_rfl, by kernel_rfl, by kernel_rfl, by kernel_rfl, .inl ⟨by kernel_rfl, by kernel_rfl⟩, [], by kernel_rfl, .inl ⟨rfl, by kernel_rfl⟩⟩
  rw [Pin.globalOf_eq (f_g ..)]
  kernel_rfl
end

/-! text H15 -/
section
open PySem PySem.W PyProof.Rows PyProof.V PySem.Calls
theorem behind1 (w : World) : ∃ os, AfterRun (opening pw1) w (s0of w.params os) := by
  have h := boot_open (p := pw1) (N := 600) open1 rfl fence1 w
  rw [← table_eq_tree] at h
  obtain ⟨s₀, h2, e⟩ := Option.map_eq_some_iff.mp h
  obtain ⟨s, h4, h5⟩ := Option.bind_eq_some_iff.mp h2
  rw [fence1] at h5
  obtain rfl : s = s₀ := Option.some.inj h5
  have A := AfterImport.of_importEnds h4
  obtain ⟨hp, gens, dr, tk, os⟩ := s
  obtain ⟨e1, f2⟩ := Prod.mk.inj e
  obtain ⟨e2, f3⟩ := Prod.mk.inj f2
  obtain ⟨e3, e4⟩ := Prod.mk.inj f3
  dsimp only at e1 e2 e3 e4
  subst e1 e2 e3 e4
  exact ⟨os, A⟩
theorem ww_self (w : World) : ww w (w.params.followText "set-order") (w.params.followText "special-get-raises") = w := by
  unfold ww
  rw [World.withFollow_self, World.withFollow_self]
theorem post1 (args : List WData) : row1.toRowW.claim.post args (.bool true) args = true := by
  have hv : row1.toRowW.post.value [] { args, res := some (.bool true), after := args } = some (.bool (true == true)) := w_eq_bool (w_res rfl) rfl
  show (WShape.has [] (.bool true) .bool && row1.toRowW.post.holds [] { args, res := some (.bool true), after := args }) = true
  unfold WTm.holds
  rw [hv]
  rfl
theorem oldK {s s' : Shared} {args : List Value} (h : ∀ b o, b ≠ 149 → s.heap.get? b = some o → s'.heap.get? b = some o) (hP : s.heap.get? 149 = some (tabObj #[])) (hP' : ∃ ps, s'.heap.get? 149 = some (tabObj ps)) (hc : isCodeTable s.heap 149) : OldK s.heap s'.heap := by
  obtain ⟨ps, hP'⟩ := hP'
  refine ⟨fun b o e => ?_, fun b o e => ?_⟩
  · by_cases hb : b = 149
    · subst hb
      rw [hP] at e
      cases e
      exact .inr (.inl ⟨hc, rfl, #[], ps, rfl, by simpa using hP'⟩)
    · exact .inl (h b o hb e)
  · by_cases hb : b = 149
    · subst hb
      exact ⟨_, hP'⟩
    · exact ⟨o, h b o hb e⟩
theorem reads_ints {R : WRecords} {cl : Str → Option Addr} {h : Heap} : ∀ (zs : List Int) (vals : List Value), VRs [] (zs.map .int) vals → ReadsAllW R cl h vals (zs.map WData.int) []
  | [], [], _ => .nil
  | [], _ :: _, h => h.elim
  | _ :: _, [], h => h.elim
  | z :: zs, v :: vals, ⟨h1, h2⟩ => by
    cases h1 with
    | int _ t => exact .cons (.int _ _) (reads_ints zs vals h2)
theorem rm_caller : Rm 8 callerA := ⟨by decide, by decide, rfl⟩
theorem call1 {w : World} {b c : Bool} {X : Nat → Obj} {os : OsState} {kvv : List (Int × Value)} (T : TabX w b c (fun _ => default) X os kvv) (hz : (sF b (ww w b c).params X os).asleep) {free : Addr → Prop} {gens : Prop} {kept : Heap → Prop} (hk : ∀ h, kept h) :
    row1.toRowW.claim.CallFrom (callStub (Str.ofString "law")) (ww w b c) free gens kept (sF b (ww w b c).params X os) := by
  refine ClaimW.callFrom_of_specG (c := row1.toRowW.claim) (tree := fun vs => do match ← nsGet mainNs (Str.ofString "law") with
      | some f => do ret (← PySem.call f vs)
      | none => unsupported "claim.caller:no-such-global") hz rfl fun args hpre hlay ord hord => ?_
  obtain ⟨zs, rfl, hl⟩ := args_inv hpre
  obtain ⟨vals, hlaid, hv⟩ := lay_list (R := []) (cl := classAt (sF b (ww w b c).params X os).heap) (P := (ww w b c).params) (ord := ord) zs (sF b (ww w b c).params X os)
  refine ⟨_, _, hlaid, ?_⟩
  have hsz : (sF b (ww w b c).params X os).heap.objs.size = 194 := sizeF ..
  have keep : ∀ a o, (hF b (ww w b c).params X).get? a = some o → ((sF b (ww w b c).params X os).heap.push { cls := .type "list", data := .seq vals.toArray }).get? a = some o := fun a o e => Heap.get?_push_of_some _ e
  have hlaw := law_at (w := w) (b := b) (c := c) (s := { sF b (ww w b c).params X os with heap := (sF b (ww w b c).params X os).heap.push { cls := .type "list", data := .seq vals.toArray }, toks := (sF b (ww w b c).params X os).toks + zs.length }) (A := callerA) (sc := (sF b (ww w b c).params X os).heap.objs.size) (zs := zs) T rm_caller keep rfl (by rw [hsz]; exact Nat.le_refl _) (Heap.get?_push_size _ rfl) (fun ρ => by simpa using hv ρ) (by omega)
  have hg : ((sF b (ww w b c).params X os).heap.push { cls := .type "list", data := .seq vals.toArray }).Ns mainGlobals ((sF b (ww w b c).params X os).heap.nsMap mainGlobals) := (Heap.Ns.of_isNs (f_g ..)).push _
  refine wpAny_bind (wpAny_nsGet hg ?_)
  rw [show (sF b (ww w b c).params X os).heap.nsMap mainGlobals (Str.ofString "law") = some (.ref 193) by kernel_rfl]
  refine wpAny_bind (wpAny_call (codeAny_mono hlaw fun r s5 x5 => ?_))
  match r, x5 with
  | .ok (.ret v5), ⟨e5, hos, hgs, hkeep, hP'⟩ =>
  subst e5
  refine wpAny_pure ⟨_, rfl, ?_, ?_, ?_, hk _⟩
  · have hn : ∀ (i : Nat) {Pp : Prop}, i ∈ ([] : List Nat) → Pp := fun i Pp hi => absurd hi (by simp)
    have hrd : ReadsAllW [] (classAt (sF b (ww w b c).params X os).heap) s5.heap vals.toArray.toList (zs.map WData.int) [] := reads_ints zs vals (hv [])
    have hold := oldK (args := []) hkeep (keep _ _ (by kernel_rfl)) hP' ⟨153, op12_153 b (ww w b c).params, fieldsAt (op12_153 b (ww w b c).params), keep _ _ (by kernel_rfl), by kernel_rfl, by kernel_rfl, by kernel_rfl⟩
    have hls := hkeep _ _ (by rw [hsz]; decide) (Heap.get?_push_size (sF b (ww w b c).params X os).heap (o := { cls := .type "list", data := .seq vals.toArray }) rfl)
    refine .inl ⟨.bool true, rfl, fun _ => rfl, ⟨.bool true, _, [], _, .bool true, .cons (.list hls rfl rfl hrd) .nil, post1 _, fun _ => ⟨List.nodup_nil, fun a ha => absurd ha (by simp), fun a ha => absurd ha (by simp)⟩, fun as₀ _ => ident_freeW rfl rfl rfl _ _⟩, fun i hi => (by have hi' : (none : Option Nat) = some i := hi; cases hi'), fun b' o e _ _ => hold.old b' o e, fun i hi => hn i hi⟩
  · exact hos
  · exact .of_eq hgs
theorem row_holds (said : row1.wellSaid = true) : row1.Holds := by
  refine ⟨said, promised1, ⟨bare1, opens1, rfl⟩, promised1.witness, fun w => ?_⟩
  obtain ⟨os, A⟩ := behind1 w
  refine ⟨⟨_, A⟩, fun s' hs' => ?_⟩
  obtain rfl : s' = s0of w.params os := AfterImport.unique hs' A
  have hz : (s0of w.params os).asleep := AfterImport.life A
  generalize hb : w.params.followText "set-order" = b
  generalize hc : w.params.followText "special-get-raises" = c
  have ew : ww w b c = w := by rw [← hb, ← hc]; exact ww_self w
  rw [← ew] at hz ⊢
  generalize w = w0 at hz ⊢
  refine ⟨_, fence1 _, rfl, ?_⟩
  obtain ⟨s₁, ⟨X, kvv, T, rfl⟩, hsch⟩ := top_sched w0 b c os hz
  refine ⟨sF b (ww w0 b c).params X os, top_ran hsch, fun n hn => ?_, fun x hx => absurd (show x ∈ ([] : WRecords) from hx) List.not_mem_nil, fun x hx => absurd (show x ∈ ([] : WRecords) from hx) List.not_mem_nil, call1 T (Shared.asleep_of_life rfl hz) fun h q => absurd q (by decide)⟩
  have hn : n ∈ [Str.ofString "law"] := hn
  rw [List.mem_singleton] at hn
  subst hn
  exact law_def ..
end
end Mine
namespace Mine
open Lean Elab Tactic Meta in
/-- a long `and`, each part of it evaluated by itself -/
def partsT : Nat → Lean.Expr → MetaM Lean.Expr
  | 0, _ => throwError "partsT"
  | n + 1, e => do
    if e.isAppOfArity ``and 2 then
      let pa ← partsT n e.appFn!.appArg!
      let pb ← partsT n e.appArg!
      return mkApp4 (mkConst ``PySem.W.look_both) e.appFn!.appArg! e.appArg! pa pb
    let ty ← mkEq e (mkConst ``Bool.true)
    if [``PySem.W.OpenLaw.wellSaid, ``PySem.W.OpenRow.wellSaid, ``PySem.W.OpenRow.partSaid, ``PySem.W.looksOpen].any e.isAppOf then
      if let some e' ← delta? e then
        let p ← partsT n e'.headBeta
        return (← mkExpectedTypeHint p ty)
    return mkConst (← mkAuxLemma [] ty (mkApp2 (mkConst ``Eq.refl [1]) (mkConst ``Bool) (mkConst ``Bool.true)) (cache := false))
open Lean Elab Tactic Meta in
def saidT : TacticM Unit := do
  let g ← getMainGoal
  let t ← instantiateMVars (← g.getType)
  g.assign (← partsT 100 t.appFn!.appArg!)
theorem said_law : PySem.Challenge.rw_re0155_01.wellSaid = true := by
  run_tac Mine.saidT
end Mine
set_option maxRecDepth 100000 in
set_option maxHeartbeats 8000000 in
theorem PySem.Challenge.cw_re0155_01_holds : PySem.Challenge.rw_re0155_01.Holds := by
  exact holds_law Mine.said_law Mine.row_holds
