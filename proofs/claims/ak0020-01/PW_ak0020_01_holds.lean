import PyProof.Rows.All
import Wide.All
import OpenK.AllK
import Wide.FinOn
import PySem.Challenge.RW_ak0020_01

set_option Elab.async false

section
open PySem PySem.W PySem.Calls PyProof.Rows
set_option Elab.async false
namespace Mine

noncomputable def bget (t : BT) : Nat → Option Obj :=
  @BT.rec (fun _ => Nat → Option Obj) (fun _ => none)
    (fun v _ _ ihl ihr i => @Bool.rec (fun _ => Option Obj) (@Bool.rec (fun _ => Option Obj) (ihr (Nat.sub (Nat.div i 2) 1)) (ihl (Nat.div i 2)) (Nat.beq (Nat.mod i 2) 1)) (some v) (Nat.beq i 0)) t
noncomputable def bset (t : BT) : Nat → (Obj → Obj) → BT :=
  @BT.rec (fun _ => Nat → (Obj → Obj) → BT) (fun _ _ => .nil)
    (fun v l r ihl ihr i f => @Bool.rec (fun _ => BT) (@Bool.rec (fun _ => BT) (.node v l (ihr (Nat.sub (Nat.div i 2) 1) f)) (.node v (ihl (Nat.div i 2) f) r) (Nat.beq (Nat.mod i 2) 1)) (.node (f v) l r) (Nat.beq i 0)) t
noncomputable def bins (t : BT) : Nat → Obj → BT :=
  @BT.rec (fun _ => Nat → Obj → BT) (fun _ o => .node o .nil .nil)
    (fun v l r ihl ihr i o => @Bool.rec (fun _ => BT) (@Bool.rec (fun _ => BT) (.node v l (ihr (Nat.sub (Nat.div i 2) 1) o)) (.node v (ihl (Nat.div i 2) o) r) (Nat.beq (Nat.mod i 2) 1)) (.node o l r) (Nat.beq i 0)) t

theorem bget_eq : ∀ (t : BT) (i : Nat), bget t i = t.get i
  | .nil, _ => rfl
  | .node v l r, i => by
    have e : bget (.node v l r) i = @Bool.rec (fun _ => Option Obj) (@Bool.rec (fun _ => Option Obj) (bget r (i / 2 - 1)) (bget l (i / 2)) (Nat.beq (i % 2) 1)) (some v) (Nat.beq i 0) := rfl
    rw [e, bget_eq l, bget_eq r]
    show _ = (match Nat.beq i 0 with | true => some v | false => match Nat.beq (i % 2) 1 with | true => l.get (i / 2) | false => r.get (i / 2 - 1))
    cases Nat.beq i 0 <;> cases Nat.beq (i % 2) 1 <;> rfl
theorem bset_eq : ∀ (t : BT) (i : Nat) (f : Obj → Obj), bset t i f = t.set i f
  | .nil, _, _ => rfl
  | .node v l r, i, f => by
    have e : bset (.node v l r) i f = @Bool.rec (fun _ => BT) (@Bool.rec (fun _ => BT) (.node v l (bset r (i / 2 - 1) f)) (.node v (bset l (i / 2) f) r) (Nat.beq (i % 2) 1)) (.node (f v) l r) (Nat.beq i 0) := rfl
    rw [e, bset_eq l, bset_eq r]
    show _ = (match Nat.beq i 0 with | true => BT.node (f v) l r | false => match Nat.beq (i % 2) 1 with | true => BT.node v (l.set (i / 2) f) r | false => BT.node v l (r.set (i / 2 - 1) f))
    cases Nat.beq i 0 <;> cases Nat.beq (i % 2) 1 <;> rfl
theorem bins_eq : ∀ (t : BT) (i : Nat) (o : Obj), bins t i o = t.ins i o
  | .nil, _, _ => rfl
  | .node v l r, i, o => by
    have e : bins (.node v l r) i o = @Bool.rec (fun _ => BT) (@Bool.rec (fun _ => BT) (.node v l (bins r (i / 2 - 1) o)) (.node v (bins l (i / 2) o) r) (Nat.beq (i % 2) 1)) (.node o l r) (Nat.beq i 0) := rfl
    rw [e, bins_eq l, bins_eq r]
    show _ = (match Nat.beq i 0 with | true => BT.node o l r | false => match Nat.beq (i % 2) 1 with | true => BT.node v (l.ins (i / 2) o) r | false => BT.node v l (r.ins (i / 2 - 1) o))
    cases Nat.beq i 0 <;> cases Nat.beq (i % 2) 1 <;> rfl

/-- the state without the outside -/
structure HS where
  tree : BT
  n : Nat
  toks : Nat

noncomputable abbrev EvR (α : Type) := Option (Except Value α × Pos × HS)

noncomputable def evW (Γ : Ctx) (prog : Program) (P : Params) (cl : Ctx → Pos → HS → Option (Result × HS)) {α : Type} (m : Sem α) : Pos → HS → EvR α :=
  @Sem.rec α (fun _ => Pos → HS → EvR α)
    (pure := fun a p s => some (.ok a, p, s))
    (raise := fun e p s => some (.error e, p, s))
    (unsupported := fun _ _ _ => none)
    (finish := fun _ _ _ => none)
    (rule := fun _ _ ih p s => ih () p s)
    («at» := fun q _ ih _ s => ih () q s)
    (load := fun a _ _ ih p s => @HS.rec (fun _ => EvR α) (fun t n k => @Bool.rec (fun _ => EvR α) none (@Option.rec Obj (fun _ => EvR α) none (fun o => @Option.rec Obj (fun _ => EvR α) none (fun o' => ih o' p ⟨t, n, k⟩) (alive o)) (bget t a)) (Nat.blt a n)) s)
    (update := fun a _ f _ ih p s => @HS.rec (fun _ => EvR α) (fun t n k => @Bool.rec (fun _ => EvR α) none (@Option.rec Obj (fun _ => EvR α) none (fun o => @Option.rec Obj (fun _ => EvR α) none (fun _ => ih () p ⟨bset t a f, n, k⟩) (alive o)) (bget t a)) (Nat.blt a n)) s)
    (alloc := fun o _ ih p s => @HS.rec (fun _ => EvR α) (fun t n k => @Option.rec Obj (fun _ => EvR α) none (fun _ => ih n p ⟨bins t n o, Nat.succ n, k⟩) (bget (bins t n o) n)) s)
    (loadIfAlive := fun a _ ih p s => @HS.rec (fun _ => EvR α) (fun t n k => @Bool.rec (fun _ => EvR α) none (@Option.rec Obj (fun _ => EvR α) none (fun o => ih (alive o) p ⟨t, n, k⟩) (bget t a)) (Nat.blt a n)) s)
    (point := fun _ _ ih p s => ih () p s)
    (register := fun _ _ _ _ _ => none)
    (fresh := fun _ ih p s => @HS.rec (fun _ => EvR α) (fun t n k => ih k p ⟨t, n, Nat.succ k⟩) s)
    (ask := fun _ ih p s => ih ⟨prog, P⟩ p s)
    (choose := fun _ _ _ _ _ _ => none)
    (os := fun _ _ _ _ _ _ => none)
    (call := fun c h _ _ _ ih p s => @Option.rec (Result × HS) (fun _ => EvR α) none (fun r => @Prod.rec Result HS (fun _ => EvR α) (fun a s' => ih a p s') r) (cl (Γ.enter c h p) p s))
    (handled := fun own _ ih p s => ih (@Bool.rec (fun _ => Option Value) Γ.handled Γ.own own) p s)
    (newGen := fun _ _ _ _ _ => none)
    (genState := fun _ _ _ _ _ => none)
    (resume := fun _ _ _ _ _ _ _ => none)
    (yield := fun _ _ _ _ _ _ _ => none)
    (stack := fun _ ih p s => ih ((Γ.code, p) :: Γ.below) p s)
    (fork := fun _ _ _ _ _ => none)
    (thread := fun _ ih p s => ih 0 p s)
    (await := fun _ _ _ _ _ _ _ _ => none) m

/-- what a tree that is a code's comes to; `next`: a code handed on -/
noncomputable def evFin (next : Code → Pos → HS → Option (Result × HS)) (r : EvR Fin) : Option (Result × HS) :=
  @Option.rec (Except Value Fin × Pos × HS) (fun _ => Option (Result × HS)) none
    (fun x => @Prod.rec _ _ (fun _ => Option (Result × HS)) (fun a y => @Prod.rec _ _ (fun _ => Option (Result × HS)) (fun p s =>
      @Except.rec Value Fin (fun _ => Option (Result × HS)) (fun e => some (.error e, s))
        (fun f => @PySem.Fin.rec (fun _ => Option (Result × HS)) (fun fl => some (.ok fl, s)) (fun c => next c p s) f) a) y) x) r

noncomputable def evC (den : Code → Sem Fin) (qt : Code → Bool) (prog : Program) (P : Params) (n : Nat) : Ctx → Pos → HS → Option (Result × HS) :=
  @Nat.rec (fun _ => Ctx → Pos → HS → Option (Result × HS)) (fun _ _ _ => none)
    (fun _ ih Γ p s => evFin (fun c p' s' => @Bool.rec (fun _ => Option (Result × HS)) none (ih (Γ.goto c) p' s') (qt c)) (evW Γ prog P ih (den Γ.code) p s)) n

variable {M : Model}

/-- all that a state of the run holds beside -/
structure Rest where
  life : Life
  gens : Array GenState
  drawn : Drawn
  os : OsState
noncomputable def HS.full (s : HS) (R : Rest) : Shared := ⟨absHeap s.tree s.n R.life, R.gens, R.drawn, s.toks, R.os⟩

noncomputable def CallOk (M : Model) (R : Rest) (cl : Ctx → Pos → HS → Option (Result × HS)) : Prop :=
  ∀ Γ p s r s', cl Γ p s = some (r, s') → wpCode M Γ (fun r' t => r' = r ∧ t = s'.full R) p (s.full R)

theorem evW_sound {Γ : Ctx} {R : Rest} {cl : Ctx → Pos → HS → Option (Result × HS)} (hc : CallOk M R cl) {α : Type} (m : Sem α) :
    ∀ (p : Pos) (s : HS) (r : Except Value α) (p' : Pos) (s' : HS), evW Γ M.prog M.w.params cl m p s = some (r, p', s') →
      Sem.wp M Γ m (fun a q t => r = .ok a ∧ q = p' ∧ t = s'.full R) (fun e q t => r = .error e ∧ q = p' ∧ t = s'.full R) p (s.full R) := by
  induction m with
  | pure a =>
    intro p s r p' s' h
    have h : some (Except.ok a, p, s) = some (r, p', s') := h
    cases h
    rw [Sem.wp_pure]; exact ⟨rfl, rfl, rfl⟩
  | raise e =>
    intro p s r p' s' h
    have h : some (Except.error e, p, s) = some (r, p', s') := h
    cases h
    rw [Sem.wp_raise]; exact ⟨rfl, rfl, rfl⟩
  | unsupported | finish | register | choose | os | newGen | genState | resume | yield | fork | await => intro p s r p' s' h; exact absurd h (by intro h; cases h)
  | rule _ k ih => intro p s r p' s' h; rw [Sem.wp_rule]; exact ih () p s r p' s' h
  | «at» q k ih => intro p s r p' s' h; rw [Sem.wp_at]; exact ih () q s r p' s' h
  | load a _ k ih =>
    intro p s r p' s' h
    obtain ⟨t, n, j⟩ := s
    rw [Sem.wp_load]
    have h : @Bool.rec (fun _ => EvR α) none (@Option.rec Obj (fun _ => EvR α) none (fun o => @Option.rec Obj (fun _ => EvR α) none (fun o' => evW Γ M.prog M.w.params cl (k o') p ⟨t, n, j⟩) (alive o)) (bget t a)) (Nat.blt a n) = some (r, p', s') := h
    cases hb : Nat.blt a n with
    | false => rw [hb] at h; cases h
    | true =>
      rw [hb, bget_eq] at h
      have lt : a < n := Nat.le_of_ble_eq_true hb
      cases hg : t.get a with
      | none => rw [hg] at h; cases h
      | some o =>
        rw [hg] at h
        cases ha : alive o with
        | none => simp only [ha] at h; cases h
        | some o' =>
          simp only [ha] at h
          refine ⟨o', ?_, ih o' p _ r p' s' h⟩
          show (absHeap t n R.life).get? a = _
          rw [abs_get lt hg, ha]
  | update a _ f k ih =>
    intro p s r p' s' h
    obtain ⟨t, n, j⟩ := s
    rw [Sem.wp_update]
    have h : @Bool.rec (fun _ => EvR α) none (@Option.rec Obj (fun _ => EvR α) none (fun o => @Option.rec Obj (fun _ => EvR α) none (fun _ => evW Γ M.prog M.w.params cl (k ()) p ⟨bset t a f, n, j⟩) (alive o)) (bget t a)) (Nat.blt a n) = some (r, p', s') := h
    cases hb : Nat.blt a n with
    | false => rw [hb] at h; cases h
    | true =>
      rw [hb, bget_eq] at h
      have lt : a < n := Nat.le_of_ble_eq_true hb
      cases hg : t.get a with
      | none => rw [hg] at h; cases h
      | some o =>
        rw [hg] at h
        cases ha : alive o with
        | none => simp only [ha] at h; cases h
        | some o' =>
          simp only [ha] at h
          have hs := ih () p _ r p' s' h
          refine ⟨?_, ?_⟩
          · show ((absHeap t n R.life).get? a).isSome = true
            rw [abs_get lt hg, ha]; rfl
          · have e : ({ (HS.full ⟨t, n, j⟩ R) with heap := (HS.full ⟨t, n, j⟩ R).heap.update a f } : Shared) = HS.full ⟨bset t a f, n, j⟩ R := by
              show (⟨(absHeap t n R.life).update a f, R.gens, R.drawn, j, R.os⟩ : Shared) = ⟨absHeap (bset t a f) n R.life, R.gens, R.drawn, j, R.os⟩
              rw [bset_eq, absHeap_set hg]
            rw [e]; exact hs
  | alloc o k ih =>
    intro p s r p' s' h
    obtain ⟨t, n, j⟩ := s
    rw [Sem.wp_alloc]
    have h : @Option.rec Obj (fun _ => EvR α) none (fun _ => evW Γ M.prog M.w.params cl (k n) p ⟨bins t n o, Nat.succ n, j⟩) (bget (bins t n o) n) = some (r, p', s') := h
    cases hg : bget (bins t n o) n with
    | none => rw [hg] at h; cases h
    | some o' =>
      rw [hg] at h
      have hs := ih n p _ r p' s' h
      rw [bget_eq, bins_eq] at hg
      have e : ({ (HS.full ⟨t, n, j⟩ R) with heap := (HS.full ⟨t, n, j⟩ R).heap.push o } : Shared) = HS.full ⟨bins t n o, Nat.succ n, j⟩ R := by
        show (⟨(absHeap t n R.life).push o, R.gens, R.drawn, j, R.os⟩ : Shared) = ⟨absHeap (bins t n o) (n + 1) R.life, R.gens, R.drawn, j, R.os⟩
        rw [bins_eq, absHeap_ins (by rw [hg]; rfl)]
      have e2 : (HS.full ⟨t, n, j⟩ R).heap.objs.size = n := absHeap_size t n R.life
      rw [e, e2]; exact hs
  | loadIfAlive a k ih =>
    intro p s r p' s' h
    obtain ⟨t, n, j⟩ := s
    rw [Sem.wp_loadIfAlive]
    have h : @Bool.rec (fun _ => EvR α) none (@Option.rec Obj (fun _ => EvR α) none (fun o => evW Γ M.prog M.w.params cl (k (alive o)) p ⟨t, n, j⟩) (bget t a)) (Nat.blt a n) = some (r, p', s') := h
    cases hb : Nat.blt a n with
    | false => rw [hb] at h; cases h
    | true =>
      rw [hb, bget_eq] at h
      have lt : a < n := Nat.le_of_ble_eq_true hb
      cases hg : t.get a with
      | none => rw [hg] at h; cases h
      | some o =>
        rw [hg] at h
        have e : (HS.full ⟨t, n, j⟩ R).heap.get? a = alive o := abs_get lt hg
        rw [e]; exact ih _ p _ r p' s' h
  | point _ k ih => intro p s r p' s' h; rw [Sem.wp_point]; exact ih () p s r p' s' h
  | fresh k ih =>
    intro p s r p' s' h
    obtain ⟨t, n, j⟩ := s
    rw [Sem.wp_fresh]
    exact ih j p ⟨t, n, Nat.succ j⟩ r p' s' h
  | ask k ih => intro p s r p' s' h; rw [Sem.wp_ask]; exact ih _ p s r p' s' h
  | call c hd g l k ih =>
    intro p s r p' s' h
    rw [Sem.wp_call]
    have h : @Option.rec (Result × HS) (fun _ => EvR α) none (fun x => @Prod.rec Result HS (fun _ => EvR α) (fun a s'' => evW Γ M.prog M.w.params cl (k a) p s'') x) (cl (Γ.enter c hd p) p s) = some (r, p', s') := h
    cases hx : cl (Γ.enter c hd p) p s with
    | none => rw [hx] at h; cases h
    | some x =>
      obtain ⟨a, s''⟩ := x
      rw [hx] at h
      refine wpCode_mono ?_ (hc _ _ _ _ _ hx)
      rintro r' t ⟨rfl, rfl⟩
      exact ih _ p s'' r p' s' h
  | handled own k ih =>
    intro p s r p' s' h
    rw [Sem.wp_handled]
    have e : (if own = true then Γ.own else Γ.handled) = @Bool.rec (fun _ => Option Value) Γ.handled Γ.own own := by cases own <;> rfl
    rw [e]; exact ih _ p s r p' s' h
  | stack k ih => intro p s r p' s' h; rw [Sem.wp_stack]; exact ih _ p s r p' s' h
  | thread k ih => intro p s r p' s' h; rw [Sem.wp_thread]; exact ih 0 p s r p' s' h

theorem evFin_sound {Γ : Ctx} {R : Rest} {next : Code → Pos → HS → Option (Result × HS)} {x : EvR Fin} {t : Sem Fin} {p : Pos} {s : HS} {r : Result} {s' : HS}
    (hx : ∀ r' p' s'', x = some (r', p', s'') → Sem.wp M Γ t (fun a q t => r' = .ok a ∧ q = p' ∧ t = s''.full R) (fun e q t => r' = .error e ∧ q = p' ∧ t = s''.full R) p (s.full R))
    (hn : ∀ c p' s'' r s', next c p' s'' = some (r, s') → c.quiet = true ∧ wpCode M (Γ.goto c) (fun r' t => r' = r ∧ t = s'.full R) p' (s''.full R))
    (h : evFin next x = some (r, s')) : Sem.wp M Γ t (Sem.finPost M Γ (fun r' t => r' = r ∧ t = s'.full R)) (fun e _ t => (Except.error e : Result) = r ∧ t = s'.full R) p (s.full R) := by
  cases x with
  | none => cases h
  | some y =>
    obtain ⟨a, p', s''⟩ := y
    cases a with
    | error e =>
      have h : some ((Except.error e : Result), s'') = some (r, s') := h
      cases h
      refine Sem.wp_mono M Γ t ?_ ?_ p _ (hx _ _ _ rfl)
      · rintro a q t ⟨e, _⟩; cases e
      · rintro e' q t ⟨e, _, rfl⟩; cases e; exact ⟨rfl, rfl⟩
    | ok f =>
      refine Sem.wp_mono M Γ t ?_ ?_ p _ (hx _ _ _ rfl)
      · rintro a q t ⟨e, rfl, rfl⟩
        cases e
        cases f with
        | done fl =>
          have h : some ((Except.ok fl : Result), s'') = some (r, s') := h
          cases h
          exact ⟨rfl, rfl⟩
        | again c => exact hn c q s'' r s' h
      · rintro e' q t ⟨e, _⟩; cases e

theorem evC_sound {R : Rest} {qt : Code → Bool} (hq : ∀ c, qt c = true → c.quiet = true) : ∀ n, CallOk M R (evC M.den qt M.prog M.w.params n)
  | 0 => fun Γ p s r s' h => by cases h
  | n + 1 => fun Γ p s r s' h => by
    have h : evFin (fun c p' s' => @Bool.rec (fun _ => Option (Result × HS)) none (evC M.den qt M.prog M.w.params n (Γ.goto c) p' s') (qt c)) (evW Γ M.prog M.w.params (evC M.den qt M.prog M.w.params n) (M.den Γ.code) p s) = some (r, s') := h
    rw [wpCode_iff_wp]
    refine evFin_sound (fun r' p' s'' hx => evW_sound (evC_sound hq n) _ _ _ _ _ _ hx) (fun c p' s'' r s' hn => ?_) h
    cases hc : qt c with
    | false => rw [hc] at hn; cases hn
    | true => rw [hc] at hn; exact ⟨hq c hc, evC_sound hq n _ _ _ _ _ hn⟩

end Mine
end

section
open PySem PySem.W PySem.Calls PyProof.Rows
set_option Elab.async false
namespace Mine

noncomputable abbrev setO (es : Array (Int × Value)) (ep : Nat) (t : SetTable) : Obj := { cls := .type "set", dict := none, data := .set es ep t }

theorem update_const {h : Heap} {a : Addr} {o : Obj} (f : Obj → Obj) (ho : h.get? a = some o) : h.update a f = h.update a (fun _ => f o) := by
  obtain ⟨objs, l⟩ := h
  show Heap.mk _ _ = Heap.mk _ _
  refine congrArg (Heap.mk · l) ?_
  apply Array.ext_getElem?
  intro i
  rw [Array.getElem?_modify, Array.getElem?_modify]
  by_cases e : a = i
  · subst e
    simp only [if_true]
    have : objs[a]? = some o := by
      unfold Heap.get? at ho
      simp only at ho
      split at ho
      · cases ho
      · exact ho
    rw [this]; rfl
  · simp only [e, if_false]
theorem update_update (h : Heap) (a : Addr) (f g : Obj → Obj) : (h.update a f).update a g = h.update a (fun o => g (f o)) := by
  obtain ⟨objs, l⟩ := h
  show Heap.mk _ _ = Heap.mk _ _
  refine congrArg (Heap.mk · l) ?_
  apply Array.ext_getElem?
  intro i
  rw [Array.getElem?_modify, Array.getElem?_modify, Array.getElem?_modify]
  by_cases e : a = i
  · subst e; simp only [if_true]; cases objs[a]? <;> rfl
  · simp only [e, if_false]
theorem push_update (h : Heap) (o o' : Obj) : (h.push o).update h.objs.size (fun _ => o') = h.push o' := by
  obtain ⟨objs, l⟩ := h
  show Heap.mk _ _ = Heap.mk _ _
  refine congrArg (Heap.mk · l) ?_
  apply Array.ext_getElem?
  intro i
  show ((objs.push o).modify objs.size _)[i]? = _
  rw [Array.getElem?_modify, Array.getElem?_push, Array.getElem?_push]
  by_cases e : objs.size = i
  · subst e; simp
  · have : ¬ i = objs.size := fun q => e q.symm
    simp [e, this]

section
variable {prog : Program} {w : World} {A : Around} {E : Value → Shared → Prop} {s : Shared}

structure Good (prog : Program) (w : World) (es : Array (Int × Value)) (t : SetTable) (S : Str → Bool) (n : Nat) : Prop where
  el : ElemsOf (strKind prog w) es.toList
  mem : ∀ k, S k = true ↔ ∃ e ∈ es.toList, (strKind prog w).is k e.2 = true
  fits : t.fits es.size = true
  size : es.size = n

theorem storeSet_exact {a : Addr} {es : Array (Int × Value)} {ep : Nat} {t : SetTable} {es' : Array (Int × Value)} {t' : SetTable} {Q : Unit → Shared → Prop}
    (ho : s.heap.get? a = some (setO es ep t)) (h : Q () { s with heap := s.heap.update a (fun _ => setO es' (ep + 1) t') }) (hz : es'.size < scanBound) :
    wpAny (model prog w) A (storeSet a es' t') Q E s := by
  refine wpAny_storeSet_of ho rfl ?_ (fits_of_scanBound hz)
  rw [update_const _ ho]; exact h

theorem get_update_const {h : Heap} {a : Addr} {o o' : Obj} (ho : h.get? a = some o) (hf : o'.isFreed = false) : (h.update a (fun _ => o')).get? a = some o' := Heap.get?_update_self (fun _ => o') ho hf

theorem addTail_exact {g : Bool → Sem Unit} (hg : ∀ (b : Bool) (s₁ : Shared) (Q' : Unit → Shared → Prop), Q' () s₁ → wpAny (model prog w) A (g b) Q' E s₁)
    {a : Addr} {es es1 : Array (Int × Value)} {ep : Nat} {t t2 : SetTable} {S : Str → Bool} {n : Nat} (ho : s.heap.get? a = some (setO es ep t)) (G : Good prog w es1 t2 S n) (hb : n < scanBound) {wasDummy : Bool} {R : Option Bool → Shared → Prop}
    (h : ∀ es' ep' t', Good prog w es' t' S n → R (some true) { s with heap := s.heap.update a (fun _ => setO es' ep' t') }) :
    wpAny (model prog w) A (do
        storeSet a es1 t2
        if (!wasDummy && t2.tooFull) = true then do
            g (relayAll t2 es1 (SetTable.grown es1.size)).2.2
            storeSet a (relayAll t2 es1 (SetTable.grown es1.size)).1 (relayAll t2 es1 (SetTable.grown es1.size)).2.1
            pure (some true)
          else pure (some true)) R E s := by
  refine wpAny_bind (storeSet_exact ho ?_ (by rw [G.size]; exact hb))
  split
  · have hp := relayAll_perm t2 es1 (SetTable.grown es1.size)
    have hfr := relayAll_fits t2 es1 (SetTable.grown es1.size)
    generalize relayAll t2 es1 (SetTable.grown es1.size) = Rl at hp hfr ⊢
    obtain ⟨es2, t3, gave2⟩ := Rl
    dsimp only at hp hfr ⊢
    have hsz : es2.size = n := by rw [← Array.length_toList, hp.length_eq, Array.length_toList, G.size]
    have G2 : Good prog w es2 t3 S n := ⟨G.el.perm hp, fun k' => (G.mem k').trans ⟨fun ⟨e, he, q⟩ => ⟨e, hp.mem_iff.mpr he, q⟩, fun ⟨e, he, q⟩ => ⟨e, hp.mem_iff.mp he, q⟩⟩, hfr, hsz⟩
    refine wpAny_bind (hg _ _ _ ?_)
    refine wpAny_bind (storeSet_exact (get_update_const ho rfl) ?_ (by rw [hsz]; exact hb))
    dsimp only
    rw [update_update]
    exact wpAny_pure (h _ _ _ G2)
  · exact wpAny_pure (h _ _ _ G)

theorem setAddHashed_exact {a : Addr} {es : Array (Int × Value)} {ep : Nat} {t : SetTable} {S : Str → Bool} {n : Nat} {k : Str} {x : Value} {Q : Bool → Shared → Prop}
    (hkey : (strKind prog w).is k x = true) (hsc : x.scannable = true) (ho : s.heap.get? a = some (setO es ep t)) (G : Good prog w es t S n) (hroom : n + 1 < scanBound) (hSk : S k = false)
    (h : ∀ es' ep' t', Good prog w es' t' (fun k' => S k' || decide (k' = k)) (n + 1) → Q true { s with heap := s.heap.update a (fun _ => setO es' ep' t') }) :
    wpAny (model prog w) A (setAddHashed a x ((strKind prog w).hash k)) Q E s := by
  obtain ⟨hel, hmem, hf, hn⟩ := G
  have hb : es.size < scanBound := by rw [hn]; omega
  unfold setAddHashed setAddHashedIn
  refine wpAny_holding (wpAny_bind (wpAny_setState_of ho rfl hf ?_))
  dsimp only
  rw [byScan_of hsc hb hel]
  simp only [↓reduceIte]
  unfold setAddByScan
  refine wpAny_bind ?_
  refine wpAny_bind (wpAny_rule ?_)
  refine wpAny_bind (wpAny_setScan_of hkey ho rfl hf hel ?_)
  cases hr : List.findIdx? (fun e => (strKind prog w).is k e.2) es.toList with
  | some j =>
    exfalso
    obtain ⟨hj, hpj, _⟩ := List.findIdx?_eq_some_iff_getElem.mp hr
    have : S k = true := (hmem k).mpr ⟨es.toList[j], List.getElem_mem hj, hpj⟩
    rw [hSk] at this; cases this
  | none =>
    dsimp only
    have hgw : ∀ (b : Bool) {s₁ : Shared} {Q' : Unit → Shared → Prop}, Q' () s₁ → wpAny (model prog w) A (match b with | true => rule "set.scan.the-table-gave-way" | false => pure ()) Q' E s₁ :=
      fun b s₁ Q' hq => by cases b <;> first | exact wpAny_pure hq | exact wpAny_rule hq
    have hperm := layNew_perm t es ((strKind prog w).hash k) x
    have hfits := layNew_fits t es ((strKind prog w).hash k) x
    generalize layNew t es ((strKind prog w).hash k) x = L at hperm hfits ⊢
    obtain ⟨es1, t1, wasDummy, gave⟩ := L
    dsimp only at hperm hfits ⊢
    rw [Array.toList_push] at hperm
    have hel1 : ElemsOf (strKind prog w) es1.toList := (hel.push hkey hsc).perm hperm
    have hmem1 : ∀ k', (S k' || decide (k' = k)) = true ↔ ∃ e ∈ es1.toList, (strKind prog w).is k' e.2 = true := mem_push_iff hkey hmem hperm
    have hsz1 : es1.size = n + 1 := by rw [← Array.length_toList, hperm.length_eq, List.length_append, Array.length_toList, hn]; rfl
    refine wpAny_bind (hgw _ ?_)
    split
    · refine wpAny_bind ?_
      rw [hashByValue_scannable 8 hsc]
      refine wpAny_pure ?_
      refine addTail_exact ?_ ho ⟨hel1, hmem1, ?_, hsz1⟩ hroom ?_
      · intro b s₁ Q' hq; cases b <;> first | exact wpAny_pure hq | exact wpAny_rule hq
      · split
        · exact hfits
        · exact SetTable.fits_plain_off hfits
      · intro es' ep' t' G'; dsimp only; exact wpAny_pure (h es' ep' t' G')
    · refine wpAny_bind (wpAny_pure ?_)
      simp only [↓reduceIte]
      refine addTail_exact ?_ ho ⟨hel1, hmem1, hfits, hsz1⟩ hroom ?_
      · intro b s₁ Q' hq; cases b <;> first | exact wpAny_pure hq | exact wpAny_rule hq
      · intro es' ep' t' G'; dsimp only; exact wpAny_pure (h es' ep' t' G')

theorem setAdd_exact {a : Addr} {es : Array (Int × Value)} {ep : Nat} {t : SetTable} {S : Str → Bool} {n : Nat} {k : Str} {tk : Tok} {Q : Bool → Shared → Prop}
    (ho : s.heap.get? a = some (setO es ep t)) (G : Good prog w es t S n) (hroom : n + 1 < scanBound) (hSk : S k = false)
    (h : ∀ es' ep' t', Good prog w es' t' (fun k' => S k' || decide (k' = k)) (n + 1) → Q true { s with heap := s.heap.update a (fun _ => setO es' ep' t'), toks := s.toks + 1 }) :
    wpAny (model prog w) A (setAdd a (.str k tk)) Q E s := by
  unfold setAdd
  refine wpAny_holding (wpAny_bind ((strKind prog w).pyHash (strKind_is prog w k tk) ?_))
  exact setAddHashed_exact (s := { s with toks := s.toks + 1 }) (strKind_is prog w k tk) rfl ho G hroom hSk h

theorem setUnled_exact {a : Addr} {es : Array (Int × Value)} {ep : Nat} {t : SetTable} {S : Str → Bool} {n : Nat} {Q : Unit → Shared → Prop}
    (ho : s.heap.get? a = some (setO es ep t)) (G : Good prog w es t S n) (hroom : n < scanBound)
    (h : ∀ ep' t', Good prog w es t' S n → Q () { s with heap := s.heap.update a (fun _ => setO es ep' t') }) :
    wpAny (model prog w) A (setUnled a) Q E s := by
  unfold setUnled
  refine wpAny_bind (wpAny_setState_of ho rfl G.fits ?_)
  dsimp only
  exact storeSet_exact ho (h _ _ ⟨G.el, G.mem, by have := G.fits; cases t; exact this, G.size⟩) (by rw [G.size]; exact hroom)

/-- fill a set with texts, one by one; then mark it -/
theorem fill_exact {a : Addr} {Q : Value → Shared → Prop} : ∀ (l : List (Str × Tok)) {s : Shared} {es : Array (Int × Value)} {ep : Nat} {t : SetTable} {S : Str → Bool} {n : Nat},
    s.heap.get? a = some (setO es ep t) → Good prog w es t S n → n + l.length < scanBound → (∀ x ∈ l, S x.1 = false) → (l.map (·.1)).Nodup →
    (∀ es' ep' t', Good prog w es' t' (fun k' => S k' || (l.map (·.1)).contains k') (n + l.length) → Q (.ref a) { s with heap := s.heap.update a (fun _ => setO es' ep' t'), toks := s.toks + l.length }) →
    KdsFill (model prog w) A E true a Q (l.map fun x => .str x.1 x.2) s
  | [], s, es, ep, t, S, n, ho, G, hn, hS, hd, h => by
    refine kds_fill_unled rfl (setUnled_exact ho G hn fun ep' t' G' => ?_)
    refine h es ep' t' ?_
    have e : (fun k' => S k' || (([] : List (Str × Tok)).map (·.1)).contains k') = S := by funext k; simp
    rw [e]; exact G'
  | x :: l, s, es, ep, t, S, n, ho, G, hn, hS, hd, h => by
    obtain ⟨k, tk⟩ := x
    rw [List.map_cons]
    rw [List.length_cons] at hn
    rw [List.map_cons, List.nodup_cons] at hd
    refine kds_fill_cons (setAdd_exact ho G (by omega) (hS (k, tk) (.head _)) fun es' ep' t' G' => ?_)
    refine fill_exact l (get_update_const ho rfl) G' (by omega) (fun y hy => ?_) hd.2 fun es2 ep2 t2 G2 => ?_
    · rw [hS y (.tail _ hy), Bool.false_or]
      exact decide_eq_false fun e => hd.1 (e ▸ List.mem_map_of_mem hy)
    · have hh := h es2 ep2 t2
      rw [List.length_cons] at hh
      dsimp only
      rw [update_update]
      have e1 : s.toks + 1 + l.length = s.toks + (l.length + 1) := by omega
      rw [e1]
      refine hh ?_
      have e2 : (fun k' => S k' || (((k, tk) :: l).map (·.1)).contains k') = (fun k' => (S k' || decide (k' = k)) || (l.map (·.1)).contains k') := by
        funext k'
        rw [List.map_cons, List.contains_cons, Bool.or_assoc]
        congr 2
      rw [e2, show n + (l.length + 1) = n + 1 + l.length by omega]
      exact G2

theorem good_new (led : Bool) : Good prog w #[] (.fresh 0 0 led) (fun _ => false) 0 :=
  ⟨fun e he => by simp at he, fun k => by simp, by rfl, rfl⟩

theorem consts_all {env : Env} (l : List (Str × Nat × Pos)) : ∀ {s : Shared} {Q : List Value → Shared → Prop},
    Q ((l.zipIdx s.toks).map fun x => .str x.1.1 x.2) { s with toks := s.toks + l.length } →
    KdsAll (model prog w) A E env (l.map fun x => PySem.Expr.Constant (.str x.1) x.2.1 x.2.2) Q s := by
  induction l with
  | nil => intro s Q h; exact h
  | cons x l ih =>
    intro s Q h
    refine wpAny_Constant_str ?_
    refine ih (s := { s with toks := s.toks + 1 }) ?_
    rw [List.zipIdx_cons, List.map_cons, List.length_cons] at h
    dsimp only
    have e : s.toks + 1 + l.length = s.toks + (l.length + 1) := by omega
    rw [e]; exact h

theorem display_exact {env : Env} {l : List (Str × Nat × Pos)} {pos : Pos} {c : Addr} {o : Obj} {vs : Array Value} {Q : Value → Shared → Prop}
    (hc : env.code = .ref c) (ho : s.heap.get? c = some o) (hd : o.data = .fields vs)
    (hroad : displayRoad 0 (l.map fun x => PySem.Expr.Constant (.str x.1) x.2.1 x.2.2) = .unsure) (hlen : l.length ≤ 30) (hnd : (l.map (·.1)).Nodup)
    (h : ∀ es ep t, Good prog w es t (fun k => (l.map (·.1)).contains k) l.length → Q (.ref s.heap.objs.size) { s with heap := s.heap.push (setO es ep t), toks := s.toks + l.length + l.length }) :
    wpAny (model prog w) A (eval (.Set (l.map fun x => PySem.Expr.Constant (.str x.1) x.2.1 x.2.2) 0 pos) env) Q E s := by
  rw [arm_eval_Set]
  refine wpAny_bind (wpAny_standAt ?_)
  have main : ∀ {Q : Bool → Shared → Prop}, (∀ b, Q b s) → wpAny (model prog w) A (inMainModule env) Q E s := fun {Q} h => by
    unfold inMainModule
    try dsimp only
    rw [hc]
    split
    · exact wpAny_pure (h _)
    · refine wpAny_bind (wpAny_fieldsOf ho hd ?_)
      split
      · exact wpAny_bind (wpAny_askSetting (wpAny_pure (h _)))
      · exact wpAny_pure (h _)
  refine wpAny_bind (main fun b => ?_)
  have hp : (l.map fun x => PySem.Expr.Constant (.str x.1) x.2.1 x.2.2).all kdsPlain = true := by
    rw [List.all_map, List.all_eq_true]; intro x _; rfl
  rw [kds_star _ hp, List.map_map]
  refine kds_core (ts := (evalEach (l.map fun x => PySem.Expr.Constant (.str x.1) x.2.1 x.2.2) env).map fun t => do let v ← t; standAt pos; pure v) (by rw [hroad]; rfl) ?_ ?_ ?_ fun led => ?_
  · refine List.findIdx?_eq_none_iff.mpr fun x hx => ?_
    obtain ⟨t, _, rfl⟩ := List.mem_map.mp hx
    rfl
  · rw [List.length_map, kds_len, List.length_map]; exact hlen
  · rw [List.map_map]; try rfl
  · refine kds_all pos _ _ _ (consts_all l ?_)
    dsimp only
    rw [hroad]
    have hb : scanBound = 4096 := rfl
    have e : ((l.zipIdx s.toks).map fun x => Value.str x.1.1 x.2) = ((l.zipIdx s.toks).map fun x => (x.1.1, x.2)).map fun x => .str x.1 x.2 := by rw [List.map_map]; rfl
    have e0 : ((l.zipIdx s.toks).map fun x => (x.1.1, x.2)).map (·.1) = l.map (·.1) := by
      rw [List.map_map]
      have : ((fun x : Str × Nat => x.1) ∘ fun x : (Str × Nat × Pos) × Nat => (x.1.1, x.2)) = (fun y : Str × Nat × Pos => y.1) ∘ Prod.fst := rfl
      rw [this, ← List.map_map, List.zipIdx_map_fst]
    have e1 : ((l.zipIdx s.toks).map fun x => (x.1.1, x.2)).length = l.length := by rw [List.length_map, List.length_zipIdx]
    rw [e]
    show KdsFill _ _ _ true _ _ _ _
    refine fill_exact _ (S := fun _ => false) (Heap.get?_push_size _ rfl) (good_new led) (by rw [e1]; omega) (fun _ _ => rfl) (by rw [e0]; exact hnd) fun es' ep' t' G' => ?_
    dsimp only
    rw [push_update, e1]
    rw [e0, e1, Nat.zero_add] at G'
    simp only [Bool.false_or] at G'
    exact h es' ep' t' G'
end
end Mine
end

section
open PySem PySem.W PySem.Calls PyProof.Rows
set_option Elab.async false
set_option maxRecDepth 100000
set_option linter.unusedVariables false
namespace Mine
/-- a look that makes the fast twin of the program's term -/
theorem mkTwin : opensWell PySem.Challenge.pw_ak0020_01 = true := by k_qdec
noncomputable abbrev pq : Program := PySem.W.Fast.tw18078827505035824111
theorem pq_eq : PySem.Challenge.pw_ak0020_01 = pq := PySem.W.Fast.te18078827505035824111
noncomputable abbrev denq : Code → Sem PySem.Fin := PySem.W.Fast.tw11892475500146522536 PySem.W.Fast.tw14364793385576792824
theorem denq_eq : denote table = denq := by
  rw [table_eq_tree, PySem.W.Fast.te14364793385576792824, PySem.W.Fast.te11892475500146522536]

noncomputable def nthS : List Stmt → Nat → Stmt
  | [], _ => .Pass ⟨0, 0, 0, 0⟩
  | s :: _, 0 => s
  | _ :: r, n + 1 => nthS r n
noncomputable def stArgs : Stmt → Arguments
  | .FunctionDef _ a _ _ _ _ _ _ _ _ => a
  | _ => ⟨[], [], none, [], [], none, []⟩
noncomputable def stBody : Stmt → List Stmt
  | .FunctionDef _ _ b _ _ _ _ _ _ _ => b
  | .ClassDef _ _ _ b _ _ _ _ _ _ _ => b
  | _ => []
noncomputable def stScope : Stmt → Scope
  | .FunctionDef _ _ _ _ _ _ sc _ _ _ => sc
  | .ClassDef _ _ _ _ _ _ sc _ _ _ _ => sc
  | _ => { kind := .module, names := [], isGenerator := false, isCoroutine := false, more := [] }
noncomputable def tb (i : Nat) : Stmt := nthS pq.main.body i
noncomputable def cb (i j : Nat) : Stmt := nthS (stBody (tb i)) j
noncomputable def fO (name qual : PySem.Str) (st : Stmt) (globals : Addr) (closure : List (PySem.Str × Addr)) (defaults kwdefaults doc pyModule : Value) (annotations : Option Addr) (code closureTuple : Value) (builtins : Addr) : FuncData :=
  { name, qualname := qual, params := stArgs st, body := .stmts (stBody st), scope := stScope st, globals, closure, defaults, kwdefaults, doc, pyModule, annotations, code, closureTuple, builtins }
noncomputable def kE (P : Params) (x : PySem.Str) (t : Tok) (v : Value) : DictEntry := ⟨PyData.keyHash P x, .str x t, v⟩
noncomputable def bootT (P : Params) : BT := (.node (boot_o_0 P) (.node (boot_o_1 P) (.node (boot_o_3 P) (.node (boot_o_7 P) .nil .nil) .nil) (.node (boot_o_5 P) (.node (boot_o_9 P) .nil .nil) .nil)) (.node (boot_o_2 P) (.node (boot_o_4 P) (.node (boot_o_8 P) .nil .nil) .nil) (.node (boot_o_6 P) (.node (boot_o_10 P) .nil .nil) .nil)))
noncomputable def z0 : PySem.Str := ⟨⟨[116, 121, 112, 101, 46, 95, 95, 115, 117, 98, 99, 108, 97, 115, 115, 101, 115, 95, 95, 46, 69, 120, 99, 101, 112, 116, 105, 111, 110, 46, 48]⟩⟩
noncomputable def z1 : PySem.Str := ⟨⟨[116, 121, 112, 101, 46, 95, 95, 115, 117, 98, 99, 108, 97, 115, 115, 101, 115, 95, 95, 46, 69, 120, 99, 101, 112, 116, 105, 111, 110, 46, 110]⟩⟩
noncomputable def z2 : PySem.Str := ⟨⟨[95, 95, 110, 97, 109, 101, 95, 95]⟩⟩
noncomputable def z3 : PySem.Str := ⟨⟨[108, 97, 119, 95, 97, 107, 48, 48, 50, 48, 95, 48, 49]⟩⟩
noncomputable def z4 : PySem.Str := ⟨⟨[95, 95, 100, 111, 99, 95, 95]⟩⟩
noncomputable def z5 : PySem.Str := ⟨⟨[95, 95, 112, 97, 99, 107, 97, 103, 101, 95, 95]⟩⟩
noncomputable def z6 : PySem.Str := ⟨⟨[95, 95, 108, 111, 97, 100, 101, 114, 95, 95]⟩⟩
noncomputable def z7 : PySem.Str := ⟨⟨[95, 95, 115, 112, 101, 99, 95, 95]⟩⟩
noncomputable def z8 : PySem.Str := ⟨⟨[95, 95, 97, 110, 110, 111, 116, 97, 116, 105, 111, 110, 115, 95, 95]⟩⟩
noncomputable def z9 : PySem.Str := ⟨⟨[95, 95, 98, 117, 105, 108, 116, 105, 110, 115, 95, 95]⟩⟩
noncomputable def z10 : PySem.Str := ⟨⟨[95, 95, 102, 105, 108, 101, 95, 95]⟩⟩
noncomputable def z11 : PySem.Str := ⟨⟨[47, 99, 108, 97, 105, 109, 47, 99, 117, 116, 46, 112, 121]⟩⟩
noncomputable def z12 : PySem.Str := ⟨⟨[95, 95, 99, 97, 99, 104, 101, 100, 95, 95]⟩⟩
noncomputable def z13 : PySem.Str := ⟨⟨[95, 119, 97, 108, 108]⟩⟩
noncomputable def z14 : PySem.Str := ⟨⟨[66, 97, 115, 101, 83, 116, 101, 109, 109, 101, 114]⟩⟩
noncomputable def z15 : PySem.Str := ⟨⟨[65, 109, 111, 110, 103]⟩⟩
noncomputable def z16 : PySem.Str := ⟨⟨[73, 114, 105, 115, 104, 83, 116, 101, 109, 109, 101, 114]⟩⟩
noncomputable def z17 : PySem.Str := ⟨⟨[108, 97, 98, 48]⟩⟩
noncomputable def z18 : PySem.Str := ⟨⟨[95, 108, 97, 119, 95, 108, 101, 116, 116, 101, 114, 115]⟩⟩
noncomputable def z19 : PySem.Str := ⟨⟨[97, 98, 99, 100, 101, 102, 103, 104, 105, 106, 107, 108, 109, 110, 111, 112, 113, 114, 115, 116, 117, 118, 119, 120, 121, 122, 225, 233, 237, 243, 250, 39, 45]⟩⟩
noncomputable def z20 : PySem.Str := ⟨⟨[95, 108, 97, 119, 95, 118, 111, 119, 101, 108, 115]⟩⟩
noncomputable def z21 : PySem.Str := ⟨⟨[97, 101, 105, 111, 117, 225, 233, 237, 243, 250]⟩⟩
noncomputable def z22 : PySem.Str := ⟨⟨[95, 108, 97, 119, 95, 115, 101, 99, 111, 110, 100]⟩⟩
noncomputable def z23 : PySem.Str := ⟨⟨[97, 101, 105, 111, 117, 225, 233, 237, 243, 250, 108, 114, 110]⟩⟩
noncomputable def z24 : PySem.Str := ⟨⟨[95, 108, 97, 119, 95, 111, 116, 104, 101, 114, 115]⟩⟩
noncomputable def z25 : PySem.Str := ⟨⟨[98, 99, 100, 102, 103, 104, 106, 107, 108, 109, 110, 112, 113, 114, 115, 116, 118, 119, 120, 121, 122]⟩⟩
noncomputable def z26 : PySem.Str := ⟨⟨[95, 108, 97, 119, 95, 108, 97, 115, 116]⟩⟩
noncomputable def z27 : PySem.Str := ⟨⟨[106, 107, 113, 118, 119, 120, 121, 122]⟩⟩
noncomputable def z28 : PySem.Str := ⟨⟨[95, 108, 97, 119, 95, 99, 104, 97, 110, 103, 101, 100]⟩⟩
noncomputable def z29 : PySem.Str := ⟨⟨[95, 108, 97, 119, 95, 110, 111, 117, 110, 115]⟩⟩
noncomputable def z30 : PySem.Str := ⟨⟨[95, 108, 97, 119, 95, 100, 101, 114, 105, 118, 105, 110, 103]⟩⟩
noncomputable def z31 : PySem.Str := ⟨⟨[95, 108, 97, 119, 95, 118, 101, 114, 98, 115]⟩⟩
noncomputable def z32 : PySem.Str := ⟨⟨[95, 108, 97, 119, 95, 108, 101, 97, 118, 105, 110, 103]⟩⟩
noncomputable def z33 : PySem.Str := ⟨⟨[95, 108, 97, 119, 95, 97, 116]⟩⟩
noncomputable def z34 : PySem.Str := ⟨⟨[95, 108, 97, 119, 95, 115, 105, 103, 110]⟩⟩
noncomputable def z35 : PySem.Str := ⟨⟨[95, 108, 97, 119, 95, 98, 101, 103, 105, 110, 110, 105, 110, 103, 115]⟩⟩
noncomputable def z36 : PySem.Str := ⟨⟨[95, 108, 97, 119, 95, 101, 110, 100, 105, 110, 103]⟩⟩
noncomputable def z37 : PySem.Str := ⟨⟨[108, 97, 119]⟩⟩
noncomputable def z38 : PySem.Str := ⟨⟨[60, 109, 111, 100, 117, 108, 101, 62]⟩⟩
noncomputable def z39 : PySem.Str := ⟨⟨[95, 95, 109, 97, 105, 110, 95, 95]⟩⟩
noncomputable def z40 : PySem.Str := ⟨⟨[107]⟩⟩
noncomputable def z41 : PySem.Str := ⟨⟨[95, 95, 109, 111, 100, 117, 108, 101, 95, 95]⟩⟩
noncomputable def z42 : PySem.Str := ⟨⟨[115, 110, 111, 119, 98, 97, 108, 108, 115, 116, 101, 109, 109, 101, 114, 46, 98, 97, 115, 101, 115, 116, 101, 109, 109, 101, 114]⟩⟩
noncomputable def z43 : PySem.Str := ⟨⟨[95, 95, 113, 117, 97, 108, 110, 97, 109, 101, 95, 95]⟩⟩
noncomputable def z44 : PySem.Str := ⟨⟨[95, 95, 102, 105, 114, 115, 116, 108, 105, 110, 101, 110, 111, 95, 95]⟩⟩
noncomputable def z45 : PySem.Str := ⟨⟨[95, 95, 105, 110, 105, 116, 95, 95]⟩⟩
noncomputable def z46 : PySem.Str := ⟨⟨[115, 101, 116, 95, 99, 117, 114, 114, 101, 110, 116]⟩⟩
noncomputable def z47 : PySem.Str := ⟨⟨[103, 101, 116, 95, 99, 117, 114, 114, 101, 110, 116]⟩⟩
noncomputable def z48 : PySem.Str := ⟨⟨[99, 111, 112, 121, 95, 102, 114, 111, 109]⟩⟩
noncomputable def z49 : PySem.Str := ⟨⟨[105, 110, 95, 103, 114, 111, 117, 112, 105, 110, 103]⟩⟩
noncomputable def z50 : PySem.Str := ⟨⟨[103, 111, 95, 105, 110, 95, 103, 114, 111, 117, 112, 105, 110, 103]⟩⟩
noncomputable def z51 : PySem.Str := ⟨⟨[105, 110, 95, 103, 114, 111, 117, 112, 105, 110, 103, 95, 98]⟩⟩
noncomputable def z52 : PySem.Str := ⟨⟨[103, 111, 95, 105, 110, 95, 103, 114, 111, 117, 112, 105, 110, 103, 95, 98]⟩⟩
noncomputable def z53 : PySem.Str := ⟨⟨[111, 117, 116, 95, 103, 114, 111, 117, 112, 105, 110, 103]⟩⟩
noncomputable def z54 : PySem.Str := ⟨⟨[103, 111, 95, 111, 117, 116, 95, 103, 114, 111, 117, 112, 105, 110, 103]⟩⟩
noncomputable def z55 : PySem.Str := ⟨⟨[111, 117, 116, 95, 103, 114, 111, 117, 112, 105, 110, 103, 95, 98]⟩⟩
noncomputable def z56 : PySem.Str := ⟨⟨[103, 111, 95, 111, 117, 116, 95, 103, 114, 111, 117, 112, 105, 110, 103, 95, 98]⟩⟩
noncomputable def z57 : PySem.Str := ⟨⟨[101, 113, 95, 115]⟩⟩
noncomputable def z58 : PySem.Str := ⟨⟨[101, 113, 95, 115, 95, 98]⟩⟩
noncomputable def z59 : PySem.Str := ⟨⟨[102, 105, 110, 100, 95, 97, 109, 111, 110, 103]⟩⟩
noncomputable def z60 : PySem.Str := ⟨⟨[102, 105, 110, 100, 95, 97, 109, 111, 110, 103, 95, 98]⟩⟩
noncomputable def z61 : PySem.Str := ⟨⟨[114, 101, 112, 108, 97, 99, 101, 95, 115]⟩⟩
noncomputable def z62 : PySem.Str := ⟨⟨[115, 108, 105, 99, 101, 95, 102, 114, 111, 109]⟩⟩
noncomputable def z63 : PySem.Str := ⟨⟨[115, 108, 105, 99, 101, 95, 100, 101, 108]⟩⟩
noncomputable def z64 : PySem.Str := ⟨⟨[105, 110, 115, 101, 114, 116]⟩⟩
noncomputable def z65 : PySem.Str := ⟨⟨[115, 108, 105, 99, 101, 95, 116, 111]⟩⟩
noncomputable def z66 : PySem.Str := ⟨⟨[97, 115, 115, 105, 103, 110, 95, 116, 111]⟩⟩
noncomputable def z67 : PySem.Str := ⟨⟨[115, 116, 101, 109, 87, 111, 114, 100]⟩⟩
noncomputable def z68 : PySem.Str := ⟨⟨[115, 116, 101, 109, 87, 111, 114, 100, 115]⟩⟩
noncomputable def z69 : PySem.Str := ⟨⟨[95, 95, 115, 116, 97, 116, 105, 99, 95, 97, 116, 116, 114, 105, 98, 117, 116, 101, 115, 95, 95]⟩⟩
noncomputable def z70 : PySem.Str := ⟨⟨[115, 101, 108, 102]⟩⟩
noncomputable def z71 : PySem.Str := ⟨⟨[66, 97, 115, 101, 83, 116, 101, 109, 109, 101, 114, 46, 95, 95, 105, 110, 105, 116, 95, 95]⟩⟩
noncomputable def z72 : PySem.Str := ⟨⟨[118, 97, 108, 117, 101]⟩⟩
noncomputable def z73 : PySem.Str := ⟨⟨[66, 97, 115, 101, 83, 116, 101, 109, 109, 101, 114, 46, 115, 101, 116, 95, 99, 117, 114, 114, 101, 110, 116]⟩⟩
noncomputable def z74 : PySem.Str := ⟨⟨[66, 97, 115, 101, 83, 116, 101, 109, 109, 101, 114, 46, 103, 101, 116, 95, 99, 117, 114, 114, 101, 110, 116]⟩⟩
noncomputable def z75 : PySem.Str := ⟨⟨[111, 116, 104, 101, 114]⟩⟩
noncomputable def z76 : PySem.Str := ⟨⟨[66, 97, 115, 101, 83, 116, 101, 109, 109, 101, 114, 46, 99, 111, 112, 121, 95, 102, 114, 111, 109]⟩⟩
noncomputable def z77 : PySem.Str := ⟨⟨[115]⟩⟩
noncomputable def z78 : PySem.Str := ⟨⟨[66, 97, 115, 101, 83, 116, 101, 109, 109, 101, 114, 46, 105, 110, 95, 103, 114, 111, 117, 112, 105, 110, 103]⟩⟩
noncomputable def z79 : PySem.Str := ⟨⟨[66, 97, 115, 101, 83, 116, 101, 109, 109, 101, 114, 46, 103, 111, 95, 105, 110, 95, 103, 114, 111, 117, 112, 105, 110, 103]⟩⟩
noncomputable def z80 : PySem.Str := ⟨⟨[66, 97, 115, 101, 83, 116, 101, 109, 109, 101, 114, 46, 105, 110, 95, 103, 114, 111, 117, 112, 105, 110, 103, 95, 98]⟩⟩
noncomputable def z81 : PySem.Str := ⟨⟨[66, 97, 115, 101, 83, 116, 101, 109, 109, 101, 114, 46, 103, 111, 95, 105, 110, 95, 103, 114, 111, 117, 112, 105, 110, 103, 95, 98]⟩⟩
noncomputable def z82 : PySem.Str := ⟨⟨[66, 97, 115, 101, 83, 116, 101, 109, 109, 101, 114, 46, 111, 117, 116, 95, 103, 114, 111, 117, 112, 105, 110, 103]⟩⟩
noncomputable def z83 : PySem.Str := ⟨⟨[66, 97, 115, 101, 83, 116, 101, 109, 109, 101, 114, 46, 103, 111, 95, 111, 117, 116, 95, 103, 114, 111, 117, 112, 105, 110, 103]⟩⟩
noncomputable def z84 : PySem.Str := ⟨⟨[66, 97, 115, 101, 83, 116, 101, 109, 109, 101, 114, 46, 111, 117, 116, 95, 103, 114, 111, 117, 112, 105, 110, 103, 95, 98]⟩⟩
noncomputable def z85 : PySem.Str := ⟨⟨[66, 97, 115, 101, 83, 116, 101, 109, 109, 101, 114, 46, 103, 111, 95, 111, 117, 116, 95, 103, 114, 111, 117, 112, 105, 110, 103, 95, 98]⟩⟩
noncomputable def z86 : PySem.Str := ⟨⟨[66, 97, 115, 101, 83, 116, 101, 109, 109, 101, 114, 46, 101, 113, 95, 115]⟩⟩
noncomputable def z87 : PySem.Str := ⟨⟨[66, 97, 115, 101, 83, 116, 101, 109, 109, 101, 114, 46, 101, 113, 95, 115, 95, 98]⟩⟩
noncomputable def z88 : PySem.Str := ⟨⟨[118]⟩⟩
noncomputable def z89 : PySem.Str := ⟨⟨[105]⟩⟩
noncomputable def z90 : PySem.Str := ⟨⟨[106]⟩⟩
noncomputable def z91 : PySem.Str := ⟨⟨[99]⟩⟩
noncomputable def z92 : PySem.Str := ⟨⟨[108]⟩⟩
noncomputable def z93 : PySem.Str := ⟨⟨[99, 111, 109, 109, 111, 110, 95, 105]⟩⟩
noncomputable def z94 : PySem.Str := ⟨⟨[99, 111, 109, 109, 111, 110, 95, 106]⟩⟩
noncomputable def z95 : PySem.Str := ⟨⟨[102, 105, 114, 115, 116, 95, 107, 101, 121, 95, 105, 110, 115, 112, 101, 99, 116, 101, 100]⟩⟩
noncomputable def z96 : PySem.Str := ⟨⟨[100, 105, 102, 102]⟩⟩
noncomputable def z97 : PySem.Str := ⟨⟨[99, 111, 109, 109, 111, 110]⟩⟩
noncomputable def z98 : PySem.Str := ⟨⟨[119]⟩⟩
noncomputable def z99 : PySem.Str := ⟨⟨[105, 50]⟩⟩
noncomputable def z100 : PySem.Str := ⟨⟨[66, 97, 115, 101, 83, 116, 101, 109, 109, 101, 114, 46, 102, 105, 110, 100, 95, 97, 109, 111, 110, 103]⟩⟩
noncomputable def z101 : PySem.Str := ⟨⟨[108, 98]⟩⟩
noncomputable def z102 : PySem.Str := ⟨⟨[66, 97, 115, 101, 83, 116, 101, 109, 109, 101, 114, 46, 102, 105, 110, 100, 95, 97, 109, 111, 110, 103, 95, 98]⟩⟩
noncomputable def z103 : PySem.Str := ⟨⟨[99, 95, 98, 114, 97]⟩⟩
noncomputable def z104 : PySem.Str := ⟨⟨[99, 95, 107, 101, 116]⟩⟩
noncomputable def z105 : PySem.Str := ⟨⟨[97, 100, 106, 117, 115, 116, 109, 101, 110, 116]⟩⟩
noncomputable def z106 : PySem.Str := ⟨⟨[66, 97, 115, 101, 83, 116, 101, 109, 109, 101, 114, 46, 114, 101, 112, 108, 97, 99, 101, 95, 115]⟩⟩
noncomputable def z107 : PySem.Str := ⟨⟨[66, 97, 115, 101, 83, 116, 101, 109, 109, 101, 114, 46, 115, 108, 105, 99, 101, 95, 102, 114, 111, 109]⟩⟩
noncomputable def z108 : PySem.Str := ⟨⟨[66, 97, 115, 101, 83, 116, 101, 109, 109, 101, 114, 46, 115, 108, 105, 99, 101, 95, 100, 101, 108]⟩⟩
noncomputable def z109 : PySem.Str := ⟨⟨[66, 97, 115, 101, 83, 116, 101, 109, 109, 101, 114, 46, 105, 110, 115, 101, 114, 116]⟩⟩
noncomputable def z110 : PySem.Str := ⟨⟨[66, 97, 115, 101, 83, 116, 101, 109, 109, 101, 114, 46, 115, 108, 105, 99, 101, 95, 116, 111]⟩⟩
noncomputable def z111 : PySem.Str := ⟨⟨[66, 97, 115, 101, 83, 116, 101, 109, 109, 101, 114, 46, 97, 115, 115, 105, 103, 110, 95, 116, 111]⟩⟩
noncomputable def z112 : PySem.Str := ⟨⟨[119, 111, 114, 100]⟩⟩
noncomputable def z113 : PySem.Str := ⟨⟨[66, 97, 115, 101, 83, 116, 101, 109, 109, 101, 114, 46, 115, 116, 101, 109, 87, 111, 114, 100]⟩⟩
noncomputable def z114 : PySem.Str := ⟨⟨[66, 97, 115, 101, 83, 116, 101, 109, 109, 101, 114, 46, 115, 116, 101, 109, 87, 111, 114, 100, 115]⟩⟩
noncomputable def z115 : PySem.Str := ⟨⟨[98, 114, 97]⟩⟩
noncomputable def z116 : PySem.Str := ⟨⟨[99, 117, 114, 114, 101, 110, 116]⟩⟩
noncomputable def z117 : PySem.Str := ⟨⟨[99, 117, 114, 115, 111, 114]⟩⟩
noncomputable def z118 : PySem.Str := ⟨⟨[107, 101, 116]⟩⟩
noncomputable def z119 : PySem.Str := ⟨⟨[108, 105, 109, 105, 116]⟩⟩
noncomputable def z120 : PySem.Str := ⟨⟨[108, 105, 109, 105, 116, 95, 98, 97, 99, 107, 119, 97, 114, 100]⟩⟩
noncomputable def z121 : PySem.Str := ⟨⟨[95, 95, 100, 105, 99, 116, 95, 95]⟩⟩
noncomputable def z122 : PySem.Str := ⟨⟨[95, 95, 119, 101, 97, 107, 114, 101, 102, 95, 95]⟩⟩
noncomputable def z123 : PySem.Str := ⟨⟨[115, 110, 111, 119, 98, 97, 108, 108, 115, 116, 101, 109, 109, 101, 114, 46, 97, 109, 111, 110, 103]⟩⟩
noncomputable def z124 : PySem.Str := ⟨⟨[115, 117, 98, 115, 116, 114, 105, 110, 103, 95, 105]⟩⟩
noncomputable def z125 : PySem.Str := ⟨⟨[114, 101, 115, 117, 108, 116]⟩⟩
noncomputable def z126 : PySem.Str := ⟨⟨[65, 109, 111, 110, 103, 46, 95, 95, 105, 110, 105, 116, 95, 95]⟩⟩
noncomputable def z127 : PySem.Str := ⟨⟨[115, 110, 111, 119, 98, 97, 108, 108, 115, 116, 101, 109, 109, 101, 114, 46, 105, 114, 105, 115, 104, 95, 115, 116, 101, 109, 109, 101, 114]⟩⟩
noncomputable def z128 : PySem.Str := ⟨⟨[103, 95, 118]⟩⟩
noncomputable def z129 : PySem.Str := ⟨⟨[73, 95, 112, 50]⟩⟩
noncomputable def z130 : PySem.Str := ⟨⟨[73, 95, 112, 49]⟩⟩
noncomputable def z131 : PySem.Str := ⟨⟨[73, 95, 112, 86]⟩⟩
noncomputable def z132 : PySem.Str := ⟨⟨[114, 95, 109, 97, 114, 107, 95, 114, 101, 103, 105, 111, 110, 115]⟩⟩
noncomputable def z133 : PySem.Str := ⟨⟨[114, 95, 105, 110, 105, 116, 105, 97, 108, 95, 109, 111, 114, 112, 104]⟩⟩
noncomputable def z134 : PySem.Str := ⟨⟨[114, 95, 82, 49]⟩⟩
noncomputable def z135 : PySem.Str := ⟨⟨[114, 95, 82, 50]⟩⟩
noncomputable def z136 : PySem.Str := ⟨⟨[114, 95, 110, 111, 117, 110, 95, 115, 102, 120]⟩⟩
noncomputable def z137 : PySem.Str := ⟨⟨[114, 95, 100, 101, 114, 105, 118]⟩⟩
noncomputable def z138 : PySem.Str := ⟨⟨[114, 95, 118, 101, 114, 98, 95, 115, 102, 120]⟩⟩
noncomputable def z139 : PySem.Str := ⟨⟨[95, 115, 116, 101, 109]⟩⟩
noncomputable def z140 : PySem.Str := ⟨⟨[97, 95, 48]⟩⟩
noncomputable def z141 : PySem.Str := ⟨⟨[97, 115, 95, 48]⟩⟩
noncomputable def z142 : PySem.Str := ⟨⟨[97, 95, 49]⟩⟩
noncomputable def z143 : PySem.Str := ⟨⟨[97, 95, 50]⟩⟩
noncomputable def z144 : PySem.Str := ⟨⟨[97, 95, 51]⟩⟩
noncomputable def z145 : PySem.Str := ⟨⟨[118, 95, 49]⟩⟩
noncomputable def z146 : PySem.Str := ⟨⟨[73, 114, 105, 115, 104, 83, 116, 101, 109, 109, 101, 114, 46, 114, 95, 109, 97, 114, 107, 95, 114, 101, 103, 105, 111, 110, 115]⟩⟩
noncomputable def z147 : PySem.Str := ⟨⟨[97, 109, 111, 110, 103, 95, 118, 97, 114]⟩⟩
noncomputable def z148 : PySem.Str := ⟨⟨[73, 114, 105, 115, 104, 83, 116, 101, 109, 109, 101, 114, 46, 114, 95, 105, 110, 105, 116, 105, 97, 108, 95, 109, 111, 114, 112, 104]⟩⟩
noncomputable def z149 : PySem.Str := ⟨⟨[73, 114, 105, 115, 104, 83, 116, 101, 109, 109, 101, 114, 46, 114, 95, 82, 49]⟩⟩
noncomputable def z150 : PySem.Str := ⟨⟨[73, 114, 105, 115, 104, 83, 116, 101, 109, 109, 101, 114, 46, 114, 95, 82, 50]⟩⟩
noncomputable def z151 : PySem.Str := ⟨⟨[73, 114, 105, 115, 104, 83, 116, 101, 109, 109, 101, 114, 46, 114, 95, 110, 111, 117, 110, 95, 115, 102, 120]⟩⟩
noncomputable def z152 : PySem.Str := ⟨⟨[73, 114, 105, 115, 104, 83, 116, 101, 109, 109, 101, 114, 46, 114, 95, 100, 101, 114, 105, 118]⟩⟩
noncomputable def z153 : PySem.Str := ⟨⟨[73, 114, 105, 115, 104, 83, 116, 101, 109, 109, 101, 114, 46, 114, 95, 118, 101, 114, 98, 95, 115, 102, 120]⟩⟩
noncomputable def z154 : PySem.Str := ⟨⟨[118, 95, 50]⟩⟩
noncomputable def z155 : PySem.Str := ⟨⟨[118, 95, 51]⟩⟩
noncomputable def z156 : PySem.Str := ⟨⟨[118, 95, 52]⟩⟩
noncomputable def z157 : PySem.Str := ⟨⟨[73, 114, 105, 115, 104, 83, 116, 101, 109, 109, 101, 114, 46, 95, 115, 116, 101, 109]⟩⟩
noncomputable def z158 : PySem.Str := ⟨⟨[98, 39]⟩⟩
noncomputable def z159 : PySem.Str := ⟨⟨[98, 104]⟩⟩
noncomputable def z160 : PySem.Str := ⟨⟨[98, 104, 102]⟩⟩
noncomputable def z161 : PySem.Str := ⟨⟨[98, 112]⟩⟩
noncomputable def z162 : PySem.Str := ⟨⟨[99, 104]⟩⟩
noncomputable def z163 : PySem.Str := ⟨⟨[100, 39]⟩⟩
noncomputable def z164 : PySem.Str := ⟨⟨[100, 39, 102, 104]⟩⟩
noncomputable def z165 : PySem.Str := ⟨⟨[100, 104]⟩⟩
noncomputable def z166 : PySem.Str := ⟨⟨[100, 116]⟩⟩
noncomputable def z167 : PySem.Str := ⟨⟨[102, 104]⟩⟩
noncomputable def z168 : PySem.Str := ⟨⟨[103, 99]⟩⟩
noncomputable def z169 : PySem.Str := ⟨⟨[103, 104]⟩⟩
noncomputable def z170 : PySem.Str := ⟨⟨[104, 45]⟩⟩
noncomputable def z171 : PySem.Str := ⟨⟨[109, 39]⟩⟩
noncomputable def z172 : PySem.Str := ⟨⟨[109, 98]⟩⟩
noncomputable def z173 : PySem.Str := ⟨⟨[109, 104]⟩⟩
noncomputable def z174 : PySem.Str := ⟨⟨[110, 45]⟩⟩
noncomputable def z175 : PySem.Str := ⟨⟨[110, 100]⟩⟩
noncomputable def z176 : PySem.Str := ⟨⟨[110, 103]⟩⟩
noncomputable def z177 : PySem.Str := ⟨⟨[112, 104]⟩⟩
noncomputable def z178 : PySem.Str := ⟨⟨[115, 104]⟩⟩
noncomputable def z179 : PySem.Str := ⟨⟨[116, 45]⟩⟩
noncomputable def z180 : PySem.Str := ⟨⟨[116, 104]⟩⟩
noncomputable def z181 : PySem.Str := ⟨⟨[116, 115]⟩⟩
noncomputable def z182 : PySem.Str := ⟨⟨[]⟩⟩
noncomputable def z183 : PySem.Str := ⟨⟨[102]⟩⟩
noncomputable def z184 : PySem.Str := ⟨⟨[98]⟩⟩
noncomputable def z185 : PySem.Str := ⟨⟨[100]⟩⟩
noncomputable def z186 : PySem.Str := ⟨⟨[103]⟩⟩
noncomputable def z187 : PySem.Str := ⟨⟨[112]⟩⟩
noncomputable def z188 : PySem.Str := ⟨⟨[116]⟩⟩
noncomputable def z189 : PySem.Str := ⟨⟨[109]⟩⟩
noncomputable def z190 : PySem.Str := ⟨⟨[237, 111, 99, 104, 116, 97]⟩⟩
noncomputable def z191 : PySem.Str := ⟨⟨[97, 237, 111, 99, 104, 116, 97]⟩⟩
noncomputable def z192 : PySem.Str := ⟨⟨[105, 114, 101]⟩⟩
noncomputable def z193 : PySem.Str := ⟨⟨[97, 105, 114, 101]⟩⟩
noncomputable def z194 : PySem.Str := ⟨⟨[97, 98, 104]⟩⟩
noncomputable def z195 : PySem.Str := ⟨⟨[101, 97, 98, 104]⟩⟩
noncomputable def z196 : PySem.Str := ⟨⟨[105, 98, 104]⟩⟩
noncomputable def z197 : PySem.Str := ⟨⟨[97, 105, 98, 104]⟩⟩
noncomputable def z198 : PySem.Str := ⟨⟨[97, 109, 104]⟩⟩
noncomputable def z199 : PySem.Str := ⟨⟨[101, 97, 109, 104]⟩⟩
noncomputable def z200 : PySem.Str := ⟨⟨[105, 109, 104]⟩⟩
noncomputable def z201 : PySem.Str := ⟨⟨[97, 105, 109, 104]⟩⟩
noncomputable def z202 : PySem.Str := ⟨⟨[237, 111, 99, 104, 116]⟩⟩
noncomputable def z203 : PySem.Str := ⟨⟨[97, 237, 111, 99, 104, 116]⟩⟩
noncomputable def z204 : PySem.Str := ⟨⟨[105, 114, 237]⟩⟩
noncomputable def z205 : PySem.Str := ⟨⟨[97, 105, 114, 237]⟩⟩
noncomputable def z206 : PySem.Str := ⟨⟨[243, 105, 100, 101, 97, 99, 104, 97]⟩⟩
noncomputable def z207 : PySem.Str := ⟨⟨[112, 97, 116, 97, 99, 104, 97]⟩⟩
noncomputable def z208 : PySem.Str := ⟨⟨[97, 99, 104, 116, 97]⟩⟩
noncomputable def z209 : PySem.Str := ⟨⟨[97, 114, 99, 97, 99, 104, 116, 97]⟩⟩
noncomputable def z210 : PySem.Str := ⟨⟨[101, 97, 99, 104, 116, 97]⟩⟩
noncomputable def z211 : PySem.Str := ⟨⟨[103, 114, 97, 102, 97, 237, 111, 99, 104, 116, 97]⟩⟩
noncomputable def z212 : PySem.Str := ⟨⟨[112, 97, 105, 116, 101]⟩⟩
noncomputable def z213 : PySem.Str := ⟨⟨[97, 99, 104]⟩⟩
noncomputable def z214 : PySem.Str := ⟨⟨[101, 97, 99, 104]⟩⟩
noncomputable def z215 : PySem.Str := ⟨⟨[243, 105, 100, 101, 97, 99, 104]⟩⟩
noncomputable def z216 : PySem.Str := ⟨⟨[103, 105, 110, 101, 97, 99, 104]⟩⟩
noncomputable def z217 : PySem.Str := ⟨⟨[112, 97, 116, 97, 99, 104]⟩⟩
noncomputable def z218 : PySem.Str := ⟨⟨[103, 114, 97, 102, 97, 237, 111, 99, 104]⟩⟩
noncomputable def z219 : PySem.Str := ⟨⟨[112, 97, 116, 97, 105, 103, 104]⟩⟩
noncomputable def z220 : PySem.Str := ⟨⟨[243, 105, 100, 105, 103, 104]⟩⟩
noncomputable def z221 : PySem.Str := ⟨⟨[97, 99, 104, 116, 250, 105, 108]⟩⟩
noncomputable def z222 : PySem.Str := ⟨⟨[101, 97, 99, 104, 116, 250, 105, 108]⟩⟩
noncomputable def z223 : PySem.Str := ⟨⟨[103, 105, 110, 101, 97, 115]⟩⟩
noncomputable def z224 : PySem.Str := ⟨⟨[103, 105, 110, 105, 115]⟩⟩
noncomputable def z225 : PySem.Str := ⟨⟨[97, 99, 104, 116]⟩⟩
noncomputable def z226 : PySem.Str := ⟨⟨[97, 114, 99, 97, 99, 104, 116]⟩⟩
noncomputable def z227 : PySem.Str := ⟨⟨[101, 97, 99, 104, 116]⟩⟩
noncomputable def z228 : PySem.Str := ⟨⟨[103, 114, 97, 102, 97, 237, 111, 99, 104, 116]⟩⟩
noncomputable def z229 : PySem.Str := ⟨⟨[97, 114, 99, 97, 99, 104, 116, 97, 237]⟩⟩
noncomputable def z230 : PySem.Str := ⟨⟨[103, 114, 97, 102, 97, 237, 111, 99, 104, 116, 97, 237]⟩⟩
noncomputable def z231 : PySem.Str := ⟨⟨[105, 109, 105, 100]⟩⟩
noncomputable def z232 : PySem.Str := ⟨⟨[97, 105, 109, 105, 100]⟩⟩
noncomputable def z233 : PySem.Str := ⟨⟨[237, 109, 105, 100]⟩⟩
noncomputable def z234 : PySem.Str := ⟨⟨[97, 237, 109, 105, 100]⟩⟩
noncomputable def z235 : PySem.Str := ⟨⟨[97, 100, 104]⟩⟩
noncomputable def z236 : PySem.Str := ⟨⟨[101, 97, 100, 104]⟩⟩
noncomputable def z237 : PySem.Str := ⟨⟨[102, 97, 105, 100, 104]⟩⟩
noncomputable def z238 : PySem.Str := ⟨⟨[102, 105, 100, 104]⟩⟩
noncomputable def z239 : PySem.Str := ⟨⟨[225, 105, 108]⟩⟩
noncomputable def z240 : PySem.Str := ⟨⟨[97, 105, 110]⟩⟩
noncomputable def z241 : PySem.Str := ⟨⟨[116, 101, 97, 114]⟩⟩
noncomputable def z242 : PySem.Str := ⟨⟨[116, 97, 114]⟩⟩
noncomputable def z243 : PySem.Str := ⟨⟨[115, 99, 114, 105, 112, 116]⟩⟩
noncomputable def z244 : PySem.Str := ⟨⟨[112, 108, 97, 99, 101]⟩⟩
noncomputable def z245 : PySem.Str := ⟨⟨[110, 117, 109, 98, 101, 114]⟩⟩
noncomputable def z246 : PySem.Str := ⟨⟨[110, 111, 117, 110]⟩⟩
noncomputable def z247 : PySem.Str := ⟨⟨[107, 105, 110, 100]⟩⟩
noncomputable def o2 (P : Params) : Obj := ⟨.none, none, .dict ⟨[kE P z0 1675 (.int 537 0), kE P z1 1676 (.int 1 0)]⟩ 2, ⟨[]⟩⟩
noncomputable def o3 (P : Params) : Obj := ⟨.type "dict", none, .dict ⟨[kE P z2 165 (.str z3 1679), kE P z4 166 (.none), kE P z5 167 (.none), kE P z6 168 (.builtin "__main__.__loader__#opaque"), kE P z7 169 (.none), kE P z8 170 (.ref 6), kE P z9 171 (.ref 4), kE P z10 173 (.str z11 172), kE P z12 174 (.none), kE P z13 193 (.ref 21), kE P z14 435 (.ref 197), kE P z15 470 (.ref 218), kE P z16 1658 (.ref 525), kE P z17 1678 (.ref 537), kE P z18 1682 (.str z19 1681), kE P z20 1684 (.str z21 1683), kE P z22 1686 (.str z23 1685), kE P z24 1688 (.str z25 1687), kE P z26 1690 (.str z27 1689), kE P z28 1696 (.ref 547), kE P z29 1702 (.ref 554), kE P z30 1708 (.ref 561), kE P z31 1714 (.ref 568), kE P z32 1720 (.ref 575), kE P z33 1728 (.ref 582), kE P z34 1736 (.ref 589), kE P z35 1742 (.ref 594), kE P z36 1751 (.ref 601), kE P z37 1757 (.ref 606)]⟩ 29, ⟨[]⟩⟩
noncomputable def o11 (P : Params) : Obj := ⟨.type "tuple", none, .seq ⟨[]⟩ 0, ⟨[]⟩⟩
noncomputable def o12 (P : Params) : Obj := ⟨.none, none, .fields ⟨[.int 1 0, .int 0 0, .ref 20, .int 5 0, .int 0 0, .ref 27, .int 190 0, .int 0 0, .ref 207, .int 197 0, .int 0 0, .ref 228, .int 321 0, .int 0 0, .ref 533, .int 329 0, .int 0 0, .ref 546, .int 331 0, .int 0 0, .ref 553, .int 333 0, .int 0 0, .ref 560, .int 335 0, .int 0 0, .ref 567, .int 337 0, .int 0 0, .ref 574, .int 339 0, .int 0 0, .ref 581, .int 341 0, .int 0 0, .ref 588, .int 344 0, .int 0 0, .ref 593, .int 350 0, .int 0 0, .ref 600, .int 356 0, .int 0 0, .ref 605]⟩, ⟨[]⟩⟩
noncomputable def o13 (P : Params) : Obj := ⟨.type "code", none, .fields ⟨[.str z38 182, .str z38 183, .str z11 184, .int 1 0, .int 0 0, .int 0 0, .int 0 0, .int 0 0, .ref 11, .bool false, .int 181 0, .ref 12, .none, .none, .none, .none, .int 185 0, .int 1 0, .str z11 186]⟩, ⟨[]⟩⟩
noncomputable def o14 (P : Params) : Obj := ⟨.type "frame", none, .plain, ⟨[(some (.ref 13)), (some (.ref 3)), (some (.ref 3)), none, (some (.str z39 164)), none, (some (.ref 0))]⟩⟩
noncomputable def o15 (P : Params) : Obj := ⟨.type "tuple", none, .seq ⟨[]⟩ 0, ⟨[]⟩⟩
noncomputable def o16 (P : Params) : Obj := ⟨.none, none, .fields ⟨[]⟩, ⟨[]⟩⟩
noncomputable def o17 (P : Params) : Obj := ⟨.type "tuple", none, .seq ⟨[.str z40 190]⟩ 0, ⟨[]⟩⟩
noncomputable def o18 (P : Params) : Obj := ⟨.type "tuple", none, .seq ⟨[]⟩ 0, ⟨[]⟩⟩
noncomputable def o19 (P : Params) : Obj := ⟨.none, none, .func (fO z13 z13 (tb 0) 0 [] (.none) (.none) (.none) (.none) none (.none) (.none) 0), ⟨[]⟩⟩
noncomputable def o20 (P : Params) : Obj := ⟨.type "code", none, .fields ⟨[.str z13 187, .str z13 188, .str z11 189, .int 1 0, .int 1 0, .int 0 0, .int 0 0, .int 3 0, .ref 15, .bool true, .int 181 0, .ref 16, .none, .ref 17, .ref 18, .ref 19, .int 191 0, .int 1 0, .str z11 192]⟩, ⟨[]⟩⟩
noncomputable def o21 (P : Params) : Obj := ⟨.type "function", none, .func (fO z13 z13 (tb 0) 3 [] (.none) (.none) (.none) (.str z39 164) none (.ref 20) (.none) 0), ⟨[]⟩⟩
noncomputable def o22 (P : Params) : Obj := ⟨.type "tuple", none, .seq ⟨[]⟩ 0, ⟨[]⟩⟩
noncomputable def o23 (P : Params) : Obj := ⟨.type "builtin_function_or_method", none, .fields ⟨[.builtin "type.__prepare__", .type "type"]⟩, ⟨[]⟩⟩
noncomputable def o24 (P : Params) : Obj := ⟨.type "dict", none, .dict ⟨[kE P z41 203 (.str z42 194), kE P z43 205 (.str z14 204), kE P z44 207 (.int 5 206), kE P z45 214 (.ref 35), kE P z46 222 (.ref 42), kE P z47 229 (.ref 49), kE P z48 237 (.ref 56), kE P z49 245 (.ref 63), kE P z50 253 (.ref 70), kE P z51 261 (.ref 77), kE P z52 269 (.ref 84), kE P z53 277 (.ref 91), kE P z54 285 (.ref 98), kE P z55 293 (.ref 105), kE P z56 301 (.ref 112), kE P z57 309 (.ref 119), kE P z58 317 (.ref 126), kE P z59 337 (.ref 133), kE P z60 357 (.ref 140), kE P z61 368 (.ref 147), kE P z62 376 (.ref 154), kE P z63 383 (.ref 161), kE P z64 393 (.ref 168), kE P z65 400 (.ref 175), kE P z66 407 (.ref 182), kE P z67 415 (.ref 189), kE P z68 421 (.ref 194), kE P z69 428 (.ref 195)]⟩ 28, ⟨[]⟩⟩
noncomputable def o25 (P : Params) : Obj := ⟨.type "tuple", none, .seq ⟨[]⟩ 0, ⟨[]⟩⟩
noncomputable def o26 (P : Params) : Obj := ⟨.none, none, .fields ⟨[.int 7 0, .int 4 0, .ref 34, .int 10 0, .int 4 0, .ref 41, .int 18 0, .int 4 0, .ref 48, .int 21 0, .int 4 0, .ref 55, .int 24 0, .int 4 0, .ref 62, .int 27 0, .int 4 0, .ref 69, .int 34 0, .int 4 0, .ref 76, .int 37 0, .int 4 0, .ref 83, .int 40 0, .int 4 0, .ref 90, .int 43 0, .int 4 0, .ref 97, .int 50 0, .int 4 0, .ref 104, .int 53 0, .int 4 0, .ref 111, .int 56 0, .int 4 0, .ref 118, .int 59 0, .int 4 0, .ref 125, .int 62 0, .int 4 0, .ref 132, .int 107 0, .int 4 0, .ref 139, .int 152 0, .int 4 0, .ref 146, .int 162 0, .int 4 0, .ref 153, .int 170 0, .int 4 0, .ref 160, .int 173 0, .int 4 0, .ref 167, .int 176 0, .int 4 0, .ref 174, .int 179 0, .int 4 0, .ref 181, .int 182 0, .int 4 0, .ref 188, .int 187 0, .int 4 0, .ref 193]⟩, ⟨[]⟩⟩
noncomputable def o27 (P : Params) : Obj := ⟨.type "code", none, .fields ⟨[.str z14 198, .str z14 199, .str z11 200, .int 5 0, .int 0 0, .int 0 0, .int 0 0, .int 0 0, .ref 25, .bool false, .int 181 0, .ref 26, .none, .none, .none, .none, .int 201 0, .int 5 0, .str z11 202]⟩, ⟨[]⟩⟩
noncomputable def o28 (P : Params) : Obj := ⟨.type "frame", none, .plain, ⟨[(some (.ref 27)), (some (.ref 3)), (some (.ref 24)), none, (some (.str z42 194)), none, (some (.ref 0))]⟩⟩
noncomputable def o29 (P : Params) : Obj := ⟨.type "tuple", none, .seq ⟨[]⟩ 0, ⟨[]⟩⟩
noncomputable def o30 (P : Params) : Obj := ⟨.none, none, .fields ⟨[]⟩, ⟨[]⟩⟩
noncomputable def o31 (P : Params) : Obj := ⟨.type "tuple", none, .seq ⟨[.str z70 211]⟩ 0, ⟨[]⟩⟩
noncomputable def o32 (P : Params) : Obj := ⟨.type "tuple", none, .seq ⟨[]⟩ 0, ⟨[]⟩⟩
noncomputable def o33 (P : Params) : Obj := ⟨.none, none, .func (fO z45 z71 (cb 2 0) 0 [] (.none) (.none) (.none) (.none) none (.none) (.none) 0), ⟨[]⟩⟩
noncomputable def o34 (P : Params) : Obj := ⟨.type "code", none, .fields ⟨[.str z45 208, .str z71 209, .str z11 210, .int 7 0, .int 1 0, .int 0 0, .int 0 0, .int 3 0, .ref 29, .bool true, .int 181 0, .ref 30, .none, .ref 31, .ref 32, .ref 33, .int 212 0, .int 7 0, .str z11 213]⟩, ⟨[]⟩⟩
noncomputable def o35 (P : Params) : Obj := ⟨.type "function", none, .func (fO z45 z71 (cb 2 0) 3 [] (.none) (.none) (.none) (.str z42 194) none (.ref 34) (.none) 0), ⟨[]⟩⟩
noncomputable def o36 (P : Params) : Obj := ⟨.type "tuple", none, .seq ⟨[]⟩ 0, ⟨[]⟩⟩
noncomputable def o37 (P : Params) : Obj := ⟨.none, none, .fields ⟨[]⟩, ⟨[]⟩⟩
noncomputable def o38 (P : Params) : Obj := ⟨.type "tuple", none, .seq ⟨[.str z70 218, .str z72 219]⟩ 0, ⟨[]⟩⟩
noncomputable def o39 (P : Params) : Obj := ⟨.type "tuple", none, .seq ⟨[]⟩ 0, ⟨[]⟩⟩
noncomputable def o40 (P : Params) : Obj := ⟨.none, none, .func (fO z46 z73 (cb 2 1) 0 [] (.none) (.none) (.none) (.none) none (.none) (.none) 0), ⟨[]⟩⟩
noncomputable def o41 (P : Params) : Obj := ⟨.type "code", none, .fields ⟨[.str z46 215, .str z73 216, .str z11 217, .int 10 0, .int 2 0, .int 0 0, .int 0 0, .int 3 0, .ref 36, .bool true, .int 181 0, .ref 37, .none, .ref 38, .ref 39, .ref 40, .int 220 0, .int 10 0, .str z11 221]⟩, ⟨[]⟩⟩
noncomputable def o42 (P : Params) : Obj := ⟨.type "function", none, .func (fO z46 z73 (cb 2 1) 3 [] (.none) (.none) (.none) (.str z42 194) none (.ref 41) (.none) 0), ⟨[]⟩⟩
noncomputable def o43 (P : Params) : Obj := ⟨.type "tuple", none, .seq ⟨[]⟩ 0, ⟨[]⟩⟩
noncomputable def o44 (P : Params) : Obj := ⟨.none, none, .fields ⟨[]⟩, ⟨[]⟩⟩
noncomputable def o45 (P : Params) : Obj := ⟨.type "tuple", none, .seq ⟨[.str z70 226]⟩ 0, ⟨[]⟩⟩
noncomputable def o46 (P : Params) : Obj := ⟨.type "tuple", none, .seq ⟨[]⟩ 0, ⟨[]⟩⟩
noncomputable def o47 (P : Params) : Obj := ⟨.none, none, .func (fO z47 z74 (cb 2 2) 0 [] (.none) (.none) (.none) (.none) none (.none) (.none) 0), ⟨[]⟩⟩
noncomputable def o48 (P : Params) : Obj := ⟨.type "code", none, .fields ⟨[.str z47 223, .str z74 224, .str z11 225, .int 18 0, .int 1 0, .int 0 0, .int 0 0, .int 3 0, .ref 43, .bool true, .int 181 0, .ref 44, .none, .ref 45, .ref 46, .ref 47, .int 227 0, .int 18 0, .str z11 228]⟩, ⟨[]⟩⟩
noncomputable def o49 (P : Params) : Obj := ⟨.type "function", none, .func (fO z47 z74 (cb 2 2) 3 [] (.none) (.none) (.none) (.str z42 194) none (.ref 48) (.none) 0), ⟨[]⟩⟩
noncomputable def o50 (P : Params) : Obj := ⟨.type "tuple", none, .seq ⟨[]⟩ 0, ⟨[]⟩⟩
noncomputable def o51 (P : Params) : Obj := ⟨.none, none, .fields ⟨[]⟩, ⟨[]⟩⟩
noncomputable def o52 (P : Params) : Obj := ⟨.type "tuple", none, .seq ⟨[.str z70 233, .str z75 234]⟩ 0, ⟨[]⟩⟩
noncomputable def o53 (P : Params) : Obj := ⟨.type "tuple", none, .seq ⟨[]⟩ 0, ⟨[]⟩⟩
noncomputable def o54 (P : Params) : Obj := ⟨.none, none, .func (fO z48 z76 (cb 2 3) 0 [] (.none) (.none) (.none) (.none) none (.none) (.none) 0), ⟨[]⟩⟩
noncomputable def o55 (P : Params) : Obj := ⟨.type "code", none, .fields ⟨[.str z48 230, .str z76 231, .str z11 232, .int 21 0, .int 2 0, .int 0 0, .int 0 0, .int 3 0, .ref 50, .bool true, .int 181 0, .ref 51, .none, .ref 52, .ref 53, .ref 54, .int 235 0, .int 21 0, .str z11 236]⟩, ⟨[]⟩⟩
noncomputable def o56 (P : Params) : Obj := ⟨.type "function", none, .func (fO z48 z76 (cb 2 3) 3 [] (.none) (.none) (.none) (.str z42 194) none (.ref 55) (.none) 0), ⟨[]⟩⟩
noncomputable def o57 (P : Params) : Obj := ⟨.type "tuple", none, .seq ⟨[]⟩ 0, ⟨[]⟩⟩
noncomputable def o58 (P : Params) : Obj := ⟨.none, none, .fields ⟨[]⟩, ⟨[]⟩⟩
noncomputable def o59 (P : Params) : Obj := ⟨.type "tuple", none, .seq ⟨[.str z70 241, .str z77 242]⟩ 0, ⟨[]⟩⟩
noncomputable def o60 (P : Params) : Obj := ⟨.type "tuple", none, .seq ⟨[]⟩ 0, ⟨[]⟩⟩
noncomputable def o61 (P : Params) : Obj := ⟨.none, none, .func (fO z49 z78 (cb 2 4) 0 [] (.none) (.none) (.none) (.none) none (.none) (.none) 0), ⟨[]⟩⟩
noncomputable def o62 (P : Params) : Obj := ⟨.type "code", none, .fields ⟨[.str z49 238, .str z78 239, .str z11 240, .int 24 0, .int 2 0, .int 0 0, .int 0 0, .int 3 0, .ref 57, .bool true, .int 181 0, .ref 58, .none, .ref 59, .ref 60, .ref 61, .int 243 0, .int 24 0, .str z11 244]⟩, ⟨[]⟩⟩
noncomputable def o63 (P : Params) : Obj := ⟨.type "function", none, .func (fO z49 z78 (cb 2 4) 3 [] (.none) (.none) (.none) (.str z42 194) none (.ref 62) (.none) 0), ⟨[]⟩⟩
noncomputable def o64 (P : Params) : Obj := ⟨.type "tuple", none, .seq ⟨[]⟩ 0, ⟨[]⟩⟩
noncomputable def o65 (P : Params) : Obj := ⟨.none, none, .fields ⟨[]⟩, ⟨[]⟩⟩
noncomputable def o66 (P : Params) : Obj := ⟨.type "tuple", none, .seq ⟨[.str z70 249, .str z77 250]⟩ 0, ⟨[]⟩⟩
noncomputable def o67 (P : Params) : Obj := ⟨.type "tuple", none, .seq ⟨[]⟩ 0, ⟨[]⟩⟩
noncomputable def o68 (P : Params) : Obj := ⟨.none, none, .func (fO z50 z79 (cb 2 5) 0 [] (.none) (.none) (.none) (.none) none (.none) (.none) 0), ⟨[]⟩⟩
noncomputable def o69 (P : Params) : Obj := ⟨.type "code", none, .fields ⟨[.str z50 246, .str z79 247, .str z11 248, .int 27 0, .int 2 0, .int 0 0, .int 0 0, .int 3 0, .ref 64, .bool true, .int 181 0, .ref 65, .none, .ref 66, .ref 67, .ref 68, .int 251 0, .int 27 0, .str z11 252]⟩, ⟨[]⟩⟩
noncomputable def o70 (P : Params) : Obj := ⟨.type "function", none, .func (fO z50 z79 (cb 2 5) 3 [] (.none) (.none) (.none) (.str z42 194) none (.ref 69) (.none) 0), ⟨[]⟩⟩
noncomputable def o71 (P : Params) : Obj := ⟨.type "tuple", none, .seq ⟨[]⟩ 0, ⟨[]⟩⟩
noncomputable def o72 (P : Params) : Obj := ⟨.none, none, .fields ⟨[]⟩, ⟨[]⟩⟩
noncomputable def o73 (P : Params) : Obj := ⟨.type "tuple", none, .seq ⟨[.str z70 257, .str z77 258]⟩ 0, ⟨[]⟩⟩
noncomputable def o74 (P : Params) : Obj := ⟨.type "tuple", none, .seq ⟨[]⟩ 0, ⟨[]⟩⟩
noncomputable def o75 (P : Params) : Obj := ⟨.none, none, .func (fO z51 z80 (cb 2 6) 0 [] (.none) (.none) (.none) (.none) none (.none) (.none) 0), ⟨[]⟩⟩
noncomputable def o76 (P : Params) : Obj := ⟨.type "code", none, .fields ⟨[.str z51 254, .str z80 255, .str z11 256, .int 34 0, .int 2 0, .int 0 0, .int 0 0, .int 3 0, .ref 71, .bool true, .int 181 0, .ref 72, .none, .ref 73, .ref 74, .ref 75, .int 259 0, .int 34 0, .str z11 260]⟩, ⟨[]⟩⟩
noncomputable def o77 (P : Params) : Obj := ⟨.type "function", none, .func (fO z51 z80 (cb 2 6) 3 [] (.none) (.none) (.none) (.str z42 194) none (.ref 76) (.none) 0), ⟨[]⟩⟩
noncomputable def o78 (P : Params) : Obj := ⟨.type "tuple", none, .seq ⟨[]⟩ 0, ⟨[]⟩⟩
noncomputable def o79 (P : Params) : Obj := ⟨.none, none, .fields ⟨[]⟩, ⟨[]⟩⟩
noncomputable def o80 (P : Params) : Obj := ⟨.type "tuple", none, .seq ⟨[.str z70 265, .str z77 266]⟩ 0, ⟨[]⟩⟩
noncomputable def o81 (P : Params) : Obj := ⟨.type "tuple", none, .seq ⟨[]⟩ 0, ⟨[]⟩⟩
noncomputable def o82 (P : Params) : Obj := ⟨.none, none, .func (fO z52 z81 (cb 2 7) 0 [] (.none) (.none) (.none) (.none) none (.none) (.none) 0), ⟨[]⟩⟩
noncomputable def o83 (P : Params) : Obj := ⟨.type "code", none, .fields ⟨[.str z52 262, .str z81 263, .str z11 264, .int 37 0, .int 2 0, .int 0 0, .int 0 0, .int 3 0, .ref 78, .bool true, .int 181 0, .ref 79, .none, .ref 80, .ref 81, .ref 82, .int 267 0, .int 37 0, .str z11 268]⟩, ⟨[]⟩⟩
noncomputable def o84 (P : Params) : Obj := ⟨.type "function", none, .func (fO z52 z81 (cb 2 7) 3 [] (.none) (.none) (.none) (.str z42 194) none (.ref 83) (.none) 0), ⟨[]⟩⟩
noncomputable def o85 (P : Params) : Obj := ⟨.type "tuple", none, .seq ⟨[]⟩ 0, ⟨[]⟩⟩
noncomputable def o86 (P : Params) : Obj := ⟨.none, none, .fields ⟨[]⟩, ⟨[]⟩⟩
noncomputable def o87 (P : Params) : Obj := ⟨.type "tuple", none, .seq ⟨[.str z70 273, .str z77 274]⟩ 0, ⟨[]⟩⟩
noncomputable def o88 (P : Params) : Obj := ⟨.type "tuple", none, .seq ⟨[]⟩ 0, ⟨[]⟩⟩
noncomputable def o89 (P : Params) : Obj := ⟨.none, none, .func (fO z53 z82 (cb 2 8) 0 [] (.none) (.none) (.none) (.none) none (.none) (.none) 0), ⟨[]⟩⟩
noncomputable def o90 (P : Params) : Obj := ⟨.type "code", none, .fields ⟨[.str z53 270, .str z82 271, .str z11 272, .int 40 0, .int 2 0, .int 0 0, .int 0 0, .int 3 0, .ref 85, .bool true, .int 181 0, .ref 86, .none, .ref 87, .ref 88, .ref 89, .int 275 0, .int 40 0, .str z11 276]⟩, ⟨[]⟩⟩
noncomputable def o91 (P : Params) : Obj := ⟨.type "function", none, .func (fO z53 z82 (cb 2 8) 3 [] (.none) (.none) (.none) (.str z42 194) none (.ref 90) (.none) 0), ⟨[]⟩⟩
noncomputable def o92 (P : Params) : Obj := ⟨.type "tuple", none, .seq ⟨[]⟩ 0, ⟨[]⟩⟩
noncomputable def o93 (P : Params) : Obj := ⟨.none, none, .fields ⟨[]⟩, ⟨[]⟩⟩
noncomputable def o94 (P : Params) : Obj := ⟨.type "tuple", none, .seq ⟨[.str z70 281, .str z77 282]⟩ 0, ⟨[]⟩⟩
noncomputable def o95 (P : Params) : Obj := ⟨.type "tuple", none, .seq ⟨[]⟩ 0, ⟨[]⟩⟩
noncomputable def o96 (P : Params) : Obj := ⟨.none, none, .func (fO z54 z83 (cb 2 9) 0 [] (.none) (.none) (.none) (.none) none (.none) (.none) 0), ⟨[]⟩⟩
noncomputable def o97 (P : Params) : Obj := ⟨.type "code", none, .fields ⟨[.str z54 278, .str z83 279, .str z11 280, .int 43 0, .int 2 0, .int 0 0, .int 0 0, .int 3 0, .ref 92, .bool true, .int 181 0, .ref 93, .none, .ref 94, .ref 95, .ref 96, .int 283 0, .int 43 0, .str z11 284]⟩, ⟨[]⟩⟩
noncomputable def o98 (P : Params) : Obj := ⟨.type "function", none, .func (fO z54 z83 (cb 2 9) 3 [] (.none) (.none) (.none) (.str z42 194) none (.ref 97) (.none) 0), ⟨[]⟩⟩
noncomputable def o99 (P : Params) : Obj := ⟨.type "tuple", none, .seq ⟨[]⟩ 0, ⟨[]⟩⟩
noncomputable def o100 (P : Params) : Obj := ⟨.none, none, .fields ⟨[]⟩, ⟨[]⟩⟩
noncomputable def o101 (P : Params) : Obj := ⟨.type "tuple", none, .seq ⟨[.str z70 289, .str z77 290]⟩ 0, ⟨[]⟩⟩
noncomputable def o102 (P : Params) : Obj := ⟨.type "tuple", none, .seq ⟨[]⟩ 0, ⟨[]⟩⟩
noncomputable def o103 (P : Params) : Obj := ⟨.none, none, .func (fO z55 z84 (cb 2 10) 0 [] (.none) (.none) (.none) (.none) none (.none) (.none) 0), ⟨[]⟩⟩
noncomputable def o104 (P : Params) : Obj := ⟨.type "code", none, .fields ⟨[.str z55 286, .str z84 287, .str z11 288, .int 50 0, .int 2 0, .int 0 0, .int 0 0, .int 3 0, .ref 99, .bool true, .int 181 0, .ref 100, .none, .ref 101, .ref 102, .ref 103, .int 291 0, .int 50 0, .str z11 292]⟩, ⟨[]⟩⟩
noncomputable def o105 (P : Params) : Obj := ⟨.type "function", none, .func (fO z55 z84 (cb 2 10) 3 [] (.none) (.none) (.none) (.str z42 194) none (.ref 104) (.none) 0), ⟨[]⟩⟩
noncomputable def o106 (P : Params) : Obj := ⟨.type "tuple", none, .seq ⟨[]⟩ 0, ⟨[]⟩⟩
noncomputable def o107 (P : Params) : Obj := ⟨.none, none, .fields ⟨[]⟩, ⟨[]⟩⟩
noncomputable def o108 (P : Params) : Obj := ⟨.type "tuple", none, .seq ⟨[.str z70 297, .str z77 298]⟩ 0, ⟨[]⟩⟩
noncomputable def o109 (P : Params) : Obj := ⟨.type "tuple", none, .seq ⟨[]⟩ 0, ⟨[]⟩⟩
noncomputable def o110 (P : Params) : Obj := ⟨.none, none, .func (fO z56 z85 (cb 2 11) 0 [] (.none) (.none) (.none) (.none) none (.none) (.none) 0), ⟨[]⟩⟩
noncomputable def o111 (P : Params) : Obj := ⟨.type "code", none, .fields ⟨[.str z56 294, .str z85 295, .str z11 296, .int 53 0, .int 2 0, .int 0 0, .int 0 0, .int 3 0, .ref 106, .bool true, .int 181 0, .ref 107, .none, .ref 108, .ref 109, .ref 110, .int 299 0, .int 53 0, .str z11 300]⟩, ⟨[]⟩⟩
noncomputable def o112 (P : Params) : Obj := ⟨.type "function", none, .func (fO z56 z85 (cb 2 11) 3 [] (.none) (.none) (.none) (.str z42 194) none (.ref 111) (.none) 0), ⟨[]⟩⟩
noncomputable def o113 (P : Params) : Obj := ⟨.type "tuple", none, .seq ⟨[]⟩ 0, ⟨[]⟩⟩
noncomputable def o114 (P : Params) : Obj := ⟨.none, none, .fields ⟨[]⟩, ⟨[]⟩⟩
noncomputable def o115 (P : Params) : Obj := ⟨.type "tuple", none, .seq ⟨[.str z70 305, .str z77 306]⟩ 0, ⟨[]⟩⟩
noncomputable def o116 (P : Params) : Obj := ⟨.type "tuple", none, .seq ⟨[]⟩ 0, ⟨[]⟩⟩
noncomputable def o117 (P : Params) : Obj := ⟨.none, none, .func (fO z57 z86 (cb 2 12) 0 [] (.none) (.none) (.none) (.none) none (.none) (.none) 0), ⟨[]⟩⟩
noncomputable def o118 (P : Params) : Obj := ⟨.type "code", none, .fields ⟨[.str z57 302, .str z86 303, .str z11 304, .int 56 0, .int 2 0, .int 0 0, .int 0 0, .int 3 0, .ref 113, .bool true, .int 181 0, .ref 114, .none, .ref 115, .ref 116, .ref 117, .int 307 0, .int 56 0, .str z11 308]⟩, ⟨[]⟩⟩
noncomputable def o119 (P : Params) : Obj := ⟨.type "function", none, .func (fO z57 z86 (cb 2 12) 3 [] (.none) (.none) (.none) (.str z42 194) none (.ref 118) (.none) 0), ⟨[]⟩⟩
noncomputable def o120 (P : Params) : Obj := ⟨.type "tuple", none, .seq ⟨[]⟩ 0, ⟨[]⟩⟩
noncomputable def o121 (P : Params) : Obj := ⟨.none, none, .fields ⟨[]⟩, ⟨[]⟩⟩
noncomputable def o122 (P : Params) : Obj := ⟨.type "tuple", none, .seq ⟨[.str z70 313, .str z77 314]⟩ 0, ⟨[]⟩⟩
noncomputable def o123 (P : Params) : Obj := ⟨.type "tuple", none, .seq ⟨[]⟩ 0, ⟨[]⟩⟩
noncomputable def o124 (P : Params) : Obj := ⟨.none, none, .func (fO z58 z87 (cb 2 13) 0 [] (.none) (.none) (.none) (.none) none (.none) (.none) 0), ⟨[]⟩⟩
noncomputable def o125 (P : Params) : Obj := ⟨.type "code", none, .fields ⟨[.str z58 310, .str z87 311, .str z11 312, .int 59 0, .int 2 0, .int 0 0, .int 0 0, .int 3 0, .ref 120, .bool true, .int 181 0, .ref 121, .none, .ref 122, .ref 123, .ref 124, .int 315 0, .int 59 0, .str z11 316]⟩, ⟨[]⟩⟩
noncomputable def o126 (P : Params) : Obj := ⟨.type "function", none, .func (fO z58 z87 (cb 2 13) 3 [] (.none) (.none) (.none) (.str z42 194) none (.ref 125) (.none) 0), ⟨[]⟩⟩
noncomputable def o127 (P : Params) : Obj := ⟨.type "tuple", none, .seq ⟨[]⟩ 0, ⟨[]⟩⟩
noncomputable def o128 (P : Params) : Obj := ⟨.none, none, .fields ⟨[]⟩, ⟨[]⟩⟩
noncomputable def o129 (P : Params) : Obj := ⟨.type "tuple", none, .seq ⟨[.str z70 321, .str z88 322, .str z89 323, .str z90 324, .str z91 325, .str z92 326, .str z93 327, .str z94 328, .str z95 329, .str z40 330, .str z96 331, .str z97 332, .str z98 333, .str z99 334]⟩ 0, ⟨[]⟩⟩
noncomputable def o130 (P : Params) : Obj := ⟨.type "tuple", none, .seq ⟨[]⟩ 0, ⟨[]⟩⟩
noncomputable def o131 (P : Params) : Obj := ⟨.none, none, .func (fO z59 z100 (cb 2 14) 0 [] (.none) (.none) (.none) (.none) none (.none) (.none) 0), ⟨[]⟩⟩
noncomputable def o132 (P : Params) : Obj := ⟨.type "code", none, .fields ⟨[.str z59 318, .str z100 319, .str z11 320, .int 62 0, .int 2 0, .int 0 0, .int 0 0, .int 3 0, .ref 127, .bool true, .int 181 0, .ref 128, .none, .ref 129, .ref 130, .ref 131, .int 335 0, .int 62 0, .str z11 336]⟩, ⟨[]⟩⟩
noncomputable def o133 (P : Params) : Obj := ⟨.type "function", none, .func (fO z59 z100 (cb 2 14) 3 [] (.none) (.none) (.none) (.str z42 194) none (.ref 132) (.none) 0), ⟨[]⟩⟩
noncomputable def o134 (P : Params) : Obj := ⟨.type "tuple", none, .seq ⟨[]⟩ 0, ⟨[]⟩⟩
noncomputable def o135 (P : Params) : Obj := ⟨.none, none, .fields ⟨[]⟩, ⟨[]⟩⟩
noncomputable def o136 (P : Params) : Obj := ⟨.type "tuple", none, .seq ⟨[.str z70 341, .str z88 342, .str z89 343, .str z90 344, .str z91 345, .str z101 346, .str z93 347, .str z94 348, .str z95 349, .str z40 350, .str z96 351, .str z97 352, .str z98 353, .str z99 354]⟩ 0, ⟨[]⟩⟩
noncomputable def o137 (P : Params) : Obj := ⟨.type "tuple", none, .seq ⟨[]⟩ 0, ⟨[]⟩⟩
noncomputable def o138 (P : Params) : Obj := ⟨.none, none, .func (fO z60 z102 (cb 2 15) 0 [] (.none) (.none) (.none) (.none) none (.none) (.none) 0), ⟨[]⟩⟩
noncomputable def o139 (P : Params) : Obj := ⟨.type "code", none, .fields ⟨[.str z60 338, .str z102 339, .str z11 340, .int 107 0, .int 2 0, .int 0 0, .int 0 0, .int 3 0, .ref 134, .bool true, .int 181 0, .ref 135, .none, .ref 136, .ref 137, .ref 138, .int 355 0, .int 107 0, .str z11 356]⟩, ⟨[]⟩⟩
noncomputable def o140 (P : Params) : Obj := ⟨.type "function", none, .func (fO z60 z102 (cb 2 15) 3 [] (.none) (.none) (.none) (.str z42 194) none (.ref 139) (.none) 0), ⟨[]⟩⟩
noncomputable def o141 (P : Params) : Obj := ⟨.type "tuple", none, .seq ⟨[]⟩ 0, ⟨[]⟩⟩
noncomputable def o142 (P : Params) : Obj := ⟨.none, none, .fields ⟨[]⟩, ⟨[]⟩⟩
noncomputable def o143 (P : Params) : Obj := ⟨.type "tuple", none, .seq ⟨[.str z70 361, .str z103 362, .str z104 363, .str z77 364, .str z105 365]⟩ 0, ⟨[]⟩⟩
noncomputable def o144 (P : Params) : Obj := ⟨.type "tuple", none, .seq ⟨[]⟩ 0, ⟨[]⟩⟩
noncomputable def o145 (P : Params) : Obj := ⟨.none, none, .func (fO z61 z106 (cb 2 16) 0 [] (.none) (.none) (.none) (.none) none (.none) (.none) 0), ⟨[]⟩⟩
noncomputable def o146 (P : Params) : Obj := ⟨.type "code", none, .fields ⟨[.str z61 358, .str z106 359, .str z11 360, .int 152 0, .int 4 0, .int 0 0, .int 0 0, .int 3 0, .ref 141, .bool true, .int 181 0, .ref 142, .none, .ref 143, .ref 144, .ref 145, .int 366 0, .int 152 0, .str z11 367]⟩, ⟨[]⟩⟩
noncomputable def o147 (P : Params) : Obj := ⟨.type "function", none, .func (fO z61 z106 (cb 2 16) 3 [] (.none) (.none) (.none) (.str z42 194) none (.ref 146) (.none) 0), ⟨[]⟩⟩
noncomputable def o148 (P : Params) : Obj := ⟨.type "tuple", none, .seq ⟨[]⟩ 0, ⟨[]⟩⟩
noncomputable def o149 (P : Params) : Obj := ⟨.none, none, .fields ⟨[]⟩, ⟨[]⟩⟩
noncomputable def o150 (P : Params) : Obj := ⟨.type "tuple", none, .seq ⟨[.str z70 372, .str z77 373]⟩ 0, ⟨[]⟩⟩
noncomputable def o151 (P : Params) : Obj := ⟨.type "tuple", none, .seq ⟨[]⟩ 0, ⟨[]⟩⟩
noncomputable def o152 (P : Params) : Obj := ⟨.none, none, .func (fO z62 z107 (cb 2 17) 0 [] (.none) (.none) (.none) (.none) none (.none) (.none) 0), ⟨[]⟩⟩
noncomputable def o153 (P : Params) : Obj := ⟨.type "code", none, .fields ⟨[.str z62 369, .str z107 370, .str z11 371, .int 162 0, .int 2 0, .int 0 0, .int 0 0, .int 3 0, .ref 148, .bool true, .int 181 0, .ref 149, .none, .ref 150, .ref 151, .ref 152, .int 374 0, .int 162 0, .str z11 375]⟩, ⟨[]⟩⟩
noncomputable def o154 (P : Params) : Obj := ⟨.type "function", none, .func (fO z62 z107 (cb 2 17) 3 [] (.none) (.none) (.none) (.str z42 194) none (.ref 153) (.none) 0), ⟨[]⟩⟩
noncomputable def o155 (P : Params) : Obj := ⟨.type "tuple", none, .seq ⟨[]⟩ 0, ⟨[]⟩⟩
noncomputable def o156 (P : Params) : Obj := ⟨.none, none, .fields ⟨[]⟩, ⟨[]⟩⟩
noncomputable def o157 (P : Params) : Obj := ⟨.type "tuple", none, .seq ⟨[.str z70 380]⟩ 0, ⟨[]⟩⟩
noncomputable def o158 (P : Params) : Obj := ⟨.type "tuple", none, .seq ⟨[]⟩ 0, ⟨[]⟩⟩
noncomputable def o159 (P : Params) : Obj := ⟨.none, none, .func (fO z63 z108 (cb 2 18) 0 [] (.none) (.none) (.none) (.none) none (.none) (.none) 0), ⟨[]⟩⟩
noncomputable def o160 (P : Params) : Obj := ⟨.type "code", none, .fields ⟨[.str z63 377, .str z108 378, .str z11 379, .int 170 0, .int 1 0, .int 0 0, .int 0 0, .int 3 0, .ref 155, .bool true, .int 181 0, .ref 156, .none, .ref 157, .ref 158, .ref 159, .int 381 0, .int 170 0, .str z11 382]⟩, ⟨[]⟩⟩
noncomputable def o161 (P : Params) : Obj := ⟨.type "function", none, .func (fO z63 z108 (cb 2 18) 3 [] (.none) (.none) (.none) (.str z42 194) none (.ref 160) (.none) 0), ⟨[]⟩⟩
noncomputable def o162 (P : Params) : Obj := ⟨.type "tuple", none, .seq ⟨[]⟩ 0, ⟨[]⟩⟩
noncomputable def o163 (P : Params) : Obj := ⟨.none, none, .fields ⟨[]⟩, ⟨[]⟩⟩
noncomputable def o164 (P : Params) : Obj := ⟨.type "tuple", none, .seq ⟨[.str z70 387, .str z103 388, .str z104 389, .str z77 390]⟩ 0, ⟨[]⟩⟩
noncomputable def o165 (P : Params) : Obj := ⟨.type "tuple", none, .seq ⟨[]⟩ 0, ⟨[]⟩⟩
noncomputable def o166 (P : Params) : Obj := ⟨.none, none, .func (fO z64 z109 (cb 2 19) 0 [] (.none) (.none) (.none) (.none) none (.none) (.none) 0), ⟨[]⟩⟩
noncomputable def o167 (P : Params) : Obj := ⟨.type "code", none, .fields ⟨[.str z64 384, .str z109 385, .str z11 386, .int 173 0, .int 4 0, .int 0 0, .int 0 0, .int 3 0, .ref 162, .bool true, .int 181 0, .ref 163, .none, .ref 164, .ref 165, .ref 166, .int 391 0, .int 173 0, .str z11 392]⟩, ⟨[]⟩⟩
noncomputable def o168 (P : Params) : Obj := ⟨.type "function", none, .func (fO z64 z109 (cb 2 19) 3 [] (.none) (.none) (.none) (.str z42 194) none (.ref 167) (.none) 0), ⟨[]⟩⟩
noncomputable def o169 (P : Params) : Obj := ⟨.type "tuple", none, .seq ⟨[]⟩ 0, ⟨[]⟩⟩
noncomputable def o170 (P : Params) : Obj := ⟨.none, none, .fields ⟨[]⟩, ⟨[]⟩⟩
noncomputable def o171 (P : Params) : Obj := ⟨.type "tuple", none, .seq ⟨[.str z70 397]⟩ 0, ⟨[]⟩⟩
noncomputable def o172 (P : Params) : Obj := ⟨.type "tuple", none, .seq ⟨[]⟩ 0, ⟨[]⟩⟩
noncomputable def o173 (P : Params) : Obj := ⟨.none, none, .func (fO z65 z110 (cb 2 20) 0 [] (.none) (.none) (.none) (.none) none (.none) (.none) 0), ⟨[]⟩⟩
noncomputable def o174 (P : Params) : Obj := ⟨.type "code", none, .fields ⟨[.str z65 394, .str z110 395, .str z11 396, .int 176 0, .int 1 0, .int 0 0, .int 0 0, .int 3 0, .ref 169, .bool true, .int 181 0, .ref 170, .none, .ref 171, .ref 172, .ref 173, .int 398 0, .int 176 0, .str z11 399]⟩, ⟨[]⟩⟩
noncomputable def o175 (P : Params) : Obj := ⟨.type "function", none, .func (fO z65 z110 (cb 2 20) 3 [] (.none) (.none) (.none) (.str z42 194) none (.ref 174) (.none) 0), ⟨[]⟩⟩
noncomputable def o176 (P : Params) : Obj := ⟨.type "tuple", none, .seq ⟨[]⟩ 0, ⟨[]⟩⟩
noncomputable def o177 (P : Params) : Obj := ⟨.none, none, .fields ⟨[]⟩, ⟨[]⟩⟩
noncomputable def o178 (P : Params) : Obj := ⟨.type "tuple", none, .seq ⟨[.str z70 404]⟩ 0, ⟨[]⟩⟩
noncomputable def o179 (P : Params) : Obj := ⟨.type "tuple", none, .seq ⟨[]⟩ 0, ⟨[]⟩⟩
noncomputable def o180 (P : Params) : Obj := ⟨.none, none, .func (fO z66 z111 (cb 2 21) 0 [] (.none) (.none) (.none) (.none) none (.none) (.none) 0), ⟨[]⟩⟩
noncomputable def o181 (P : Params) : Obj := ⟨.type "code", none, .fields ⟨[.str z66 401, .str z111 402, .str z11 403, .int 179 0, .int 1 0, .int 0 0, .int 0 0, .int 3 0, .ref 176, .bool true, .int 181 0, .ref 177, .none, .ref 178, .ref 179, .ref 180, .int 405 0, .int 179 0, .str z11 406]⟩, ⟨[]⟩⟩
noncomputable def o182 (P : Params) : Obj := ⟨.type "function", none, .func (fO z66 z111 (cb 2 21) 3 [] (.none) (.none) (.none) (.str z42 194) none (.ref 181) (.none) 0), ⟨[]⟩⟩
noncomputable def o183 (P : Params) : Obj := ⟨.type "tuple", none, .seq ⟨[]⟩ 0, ⟨[]⟩⟩
noncomputable def o184 (P : Params) : Obj := ⟨.none, none, .fields ⟨[]⟩, ⟨[]⟩⟩
noncomputable def o185 (P : Params) : Obj := ⟨.type "tuple", none, .seq ⟨[.str z70 411, .str z112 412]⟩ 0, ⟨[]⟩⟩
noncomputable def o186 (P : Params) : Obj := ⟨.type "tuple", none, .seq ⟨[]⟩ 0, ⟨[]⟩⟩
noncomputable def o187 (P : Params) : Obj := ⟨.none, none, .func (fO z67 z113 (cb 2 22) 0 [] (.none) (.none) (.none) (.none) none (.none) (.none) 0), ⟨[]⟩⟩
noncomputable def o188 (P : Params) : Obj := ⟨.type "code", none, .fields ⟨[.str z67 408, .str z113 409, .str z11 410, .int 182 0, .int 2 0, .int 0 0, .int 0 0, .int 3 0, .ref 183, .bool true, .int 181 0, .ref 184, .none, .ref 185, .ref 186, .ref 187, .int 413 0, .int 182 0, .str z11 414]⟩, ⟨[]⟩⟩
noncomputable def o189 (P : Params) : Obj := ⟨.type "function", none, .func (fO z67 z113 (cb 2 22) 3 [] (.none) (.none) (.none) (.str z42 194) none (.ref 188) (.none) 0), ⟨[]⟩⟩
noncomputable def o190 (P : Params) : Obj := ⟨.type "tuple", none, .seq ⟨[]⟩ 0, ⟨[]⟩⟩
noncomputable def o191 (P : Params) : Obj := ⟨.none, none, .fields ⟨[]⟩, ⟨[]⟩⟩
noncomputable def o192 (P : Params) : Obj := ⟨.none, none, .func (fO z68 z114 (cb 2 23) 0 [] (.none) (.none) (.none) (.none) none (.none) (.none) 0), ⟨[]⟩⟩
noncomputable def o193 (P : Params) : Obj := ⟨.type "code", none, .fields ⟨[.str z68 416, .str z114 417, .str z11 418, .int 187 0, .int 2 0, .int 0 0, .int 0 0, .int 3 0, .ref 190, .bool true, .int 181 0, .ref 191, .none, .none, .none, .ref 192, .int 419 0, .int 187 0, .str z11 420]⟩, ⟨[]⟩⟩
noncomputable def o194 (P : Params) : Obj := ⟨.type "function", none, .func (fO z68 z114 (cb 2 23) 3 [] (.none) (.none) (.none) (.str z42 194) none (.ref 193) (.none) 0), ⟨[]⟩⟩
noncomputable def o195 (P : Params) : Obj := ⟨.type "tuple", none, .seq ⟨[.str z115 422, .str z116 423, .str z117 424, .str z118 425, .str z119 426, .str z120 427]⟩ 0, ⟨[]⟩⟩
noncomputable def o196 (P : Params) : Obj := ⟨.type "dict", none, .dict ⟨[kE P z41 203 (.str z42 194), kE P z44 207 (.int 5 206), kE P z45 214 (.ref 35), kE P z46 222 (.ref 42), kE P z47 229 (.ref 49), kE P z48 237 (.ref 56), kE P z49 245 (.ref 63), kE P z50 253 (.ref 70), kE P z51 261 (.ref 77), kE P z52 269 (.ref 84), kE P z53 277 (.ref 91), kE P z54 285 (.ref 98), kE P z55 293 (.ref 105), kE P z56 301 (.ref 112), kE P z57 309 (.ref 119), kE P z58 317 (.ref 126), kE P z59 337 (.ref 133), kE P z60 357 (.ref 140), kE P z61 368 (.ref 147), kE P z62 376 (.ref 154), kE P z63 383 (.ref 161), kE P z64 393 (.ref 168), kE P z65 400 (.ref 175), kE P z66 407 (.ref 182), kE P z67 415 (.ref 189), kE P z68 421 (.ref 194), kE P z69 428 (.ref 195), kE P z121 430 (.ref 198), kE P z122 432 (.ref 199), kE P z4 433 (.none)]⟩ 4, ⟨[]⟩⟩
noncomputable def o197 (P : Params) : Obj := ⟨.type "type", none, .cls { name := z14, bases := [.type "object"], mro := [.ref 197, .type "object"], ns := 196, qualname := z14, hasDict := true, slotNames := [], subclasses := [.ref 525], abstract := false, collection := none, hasDel := false }, ⟨[none, none, (some (.str z14 196)), (some (.str z14 204)), (some (.builtin "object.__new__")), (some (.bool true))]⟩⟩
noncomputable def o198 (P : Params) : Obj := ⟨.type "getset_descriptor", none, .fields ⟨[.str z121 429, .ref 197, .builtin "function.__dict__", .builtin "function.__dict__#set"]⟩, ⟨[]⟩⟩
noncomputable def o199 (P : Params) : Obj := ⟨.type "getset_descriptor", none, .fields ⟨[.str z122 431, .ref 197, .builtin "ExceptionGroup.__weakref__", .none]⟩, ⟨[]⟩⟩
noncomputable def o200 (P : Params) : Obj := ⟨.type "super", none, .fields ⟨[.ref 197, .ref 197, .ref 197]⟩, ⟨[]⟩⟩
noncomputable def o201 (P : Params) : Obj := ⟨.type "builtin_function_or_method", none, .fields ⟨[.builtin "object.__init_subclass__", .ref 197]⟩, ⟨[]⟩⟩
noncomputable def o202 (P : Params) : Obj := ⟨.type "tuple", none, .seq ⟨[]⟩ 0, ⟨[]⟩⟩
noncomputable def o203 (P : Params) : Obj := ⟨.type "builtin_function_or_method", none, .fields ⟨[.builtin "type.__prepare__", .type "type"]⟩, ⟨[]⟩⟩
noncomputable def o204 (P : Params) : Obj := ⟨.type "dict", none, .dict ⟨[kE P z41 445 (.str z123 436), kE P z43 447 (.str z15 446), kE P z44 449 (.int 190 448), kE P z45 459 (.ref 215), kE P z69 463 (.ref 216)]⟩ 5, ⟨[]⟩⟩
noncomputable def o205 (P : Params) : Obj := ⟨.type "tuple", none, .seq ⟨[]⟩ 0, ⟨[]⟩⟩
noncomputable def o206 (P : Params) : Obj := ⟨.none, none, .fields ⟨[.int 192 0, .int 4 0, .ref 214]⟩, ⟨[]⟩⟩
noncomputable def o207 (P : Params) : Obj := ⟨.type "code", none, .fields ⟨[.str z15 440, .str z15 441, .str z11 442, .int 190 0, .int 0 0, .int 0 0, .int 0 0, .int 0 0, .ref 205, .bool false, .int 181 0, .ref 206, .none, .none, .none, .none, .int 443 0, .int 190 0, .str z11 444]⟩, ⟨[]⟩⟩
noncomputable def o208 (P : Params) : Obj := ⟨.type "frame", none, .plain, ⟨[(some (.ref 207)), (some (.ref 3)), (some (.ref 204)), none, (some (.str z123 436)), none, (some (.ref 0))]⟩⟩
noncomputable def o209 (P : Params) : Obj := ⟨.type "tuple", none, .seq ⟨[]⟩ 0, ⟨[]⟩⟩
noncomputable def o210 (P : Params) : Obj := ⟨.none, none, .fields ⟨[]⟩, ⟨[]⟩⟩
noncomputable def o211 (P : Params) : Obj := ⟨.type "tuple", none, .seq ⟨[.str z70 453, .str z77 454, .str z124 455, .str z125 456]⟩ 0, ⟨[]⟩⟩
noncomputable def o212 (P : Params) : Obj := ⟨.type "tuple", none, .seq ⟨[]⟩ 0, ⟨[]⟩⟩
noncomputable def o213 (P : Params) : Obj := ⟨.none, none, .func (fO z45 z126 (cb 4 0) 0 [] (.none) (.none) (.none) (.none) none (.none) (.none) 0), ⟨[]⟩⟩
noncomputable def o214 (P : Params) : Obj := ⟨.type "code", none, .fields ⟨[.str z45 450, .str z126 451, .str z11 452, .int 192 0, .int 4 0, .int 0 0, .int 0 0, .int 3 0, .ref 209, .bool true, .int 181 0, .ref 210, .none, .ref 211, .ref 212, .ref 213, .int 457 0, .int 192 0, .str z11 458]⟩, ⟨[]⟩⟩
noncomputable def o215 (P : Params) : Obj := ⟨.type "function", none, .func (fO z45 z126 (cb 4 0) 3 [] (.none) (.none) (.none) (.str z123 436) none (.ref 214) (.none) 0), ⟨[]⟩⟩
noncomputable def o216 (P : Params) : Obj := ⟨.type "tuple", none, .seq ⟨[.str z125 460, .str z77 461, .str z124 462]⟩ 0, ⟨[]⟩⟩
noncomputable def o217 (P : Params) : Obj := ⟨.type "dict", none, .dict ⟨[kE P z41 445 (.str z123 436), kE P z44 449 (.int 190 448), kE P z45 459 (.ref 215), kE P z69 463 (.ref 216), kE P z121 465 (.ref 219), kE P z122 467 (.ref 220), kE P z4 468 (.none)]⟩ 4, ⟨[]⟩⟩
noncomputable def o218 (P : Params) : Obj := ⟨.type "type", none, .cls { name := z15, bases := [.type "object"], mro := [.ref 218, .type "object"], ns := 217, qualname := z15, hasDict := true, slotNames := [], subclasses := [], abstract := false, collection := none, hasDel := false }, ⟨[none, none, (some (.str z15 438)), (some (.str z15 446)), (some (.builtin "object.__new__")), (some (.bool true))]⟩⟩
noncomputable def o219 (P : Params) : Obj := ⟨.type "getset_descriptor", none, .fields ⟨[.str z121 464, .ref 218, .builtin "function.__dict__", .builtin "function.__dict__#set"]⟩, ⟨[]⟩⟩
noncomputable def o220 (P : Params) : Obj := ⟨.type "getset_descriptor", none, .fields ⟨[.str z122 466, .ref 218, .builtin "ExceptionGroup.__weakref__", .none]⟩, ⟨[]⟩⟩
noncomputable def o221 (P : Params) : Obj := ⟨.type "super", none, .fields ⟨[.ref 218, .ref 218, .ref 218]⟩, ⟨[]⟩⟩
noncomputable def o222 (P : Params) : Obj := ⟨.type "builtin_function_or_method", none, .fields ⟨[.builtin "object.__init_subclass__", .ref 218]⟩, ⟨[]⟩⟩
noncomputable def o223 (P : Params) : Obj := ⟨.type "tuple", none, .seq ⟨[.ref 197]⟩ 0, ⟨[]⟩⟩
noncomputable def o224 (P : Params) : Obj := ⟨.type "builtin_function_or_method", none, .fields ⟨[.builtin "type.__prepare__", .type "type"]⟩, ⟨[]⟩⟩
noncomputable def o225 (P : Params) : Obj := ⟨.type "dict", none, .dict ⟨[kE P z41 480 (.str z127 471), kE P z43 482 (.str z16 481), kE P z44 484 (.int 197 483), kE P z128 505 (.ref 230), kE P z129 507 (.int 0 506), kE P z130 509 (.int 0 508), kE P z131 511 (.int 0 510), kE P z132 519 (.ref 237), kE P z133 527 (.ref 244), kE P z134 534 (.ref 251), kE P z135 541 (.ref 258), kE P z136 549 (.ref 265), kE P z137 557 (.ref 272), kE P z138 565 (.ref 279), kE P z139 576 (.ref 286), kE P z140 911 (.ref 359), kE P z141 922 (.ref 360), kE P z142 1139 (.ref 409), kE P z143 1481 (.ref 485), kE P z144 1647 (.ref 522), kE P z69 1655 (.ref 523)]⟩ 21, ⟨[]⟩⟩
noncomputable def o226 (P : Params) : Obj := ⟨.type "tuple", none, .seq ⟨[]⟩ 0, ⟨[]⟩⟩
noncomputable def o227 (P : Params) : Obj := ⟨.none, none, .fields ⟨[.int 203 0, .int 4 0, .ref 236, .int 229 0, .int 4 0, .ref 243, .int 238 0, .int 4 0, .ref 250, .int 241 0, .int 4 0, .ref 257, .int 244 0, .int 4 0, .ref 264, .int 260 0, .int 4 0, .ref 271, .int 282 0, .int 4 0, .ref 278, .int 298 0, .int 4 0, .ref 285]⟩, ⟨[]⟩⟩
noncomputable def o228 (P : Params) : Obj := ⟨.type "code", none, .fields ⟨[.str z16 475, .str z16 476, .str z11 477, .int 197 0, .int 0 0, .int 0 0, .int 0 0, .int 0 0, .ref 226, .bool false, .int 181 0, .ref 227, .none, .none, .none, .none, .int 478 0, .int 197 0, .str z11 479]⟩, ⟨[]⟩⟩
noncomputable def o229 (P : Params) : Obj := ⟨.type "frame", none, .plain, ⟨[(some (.ref 228)), (some (.ref 3)), (some (.ref 225)), none, (some (.str z127 471)), none, (some (.ref 0))]⟩⟩
noncomputable def o231 (P : Params) : Obj := ⟨.type "tuple", none, .seq ⟨[]⟩ 0, ⟨[]⟩⟩
noncomputable def o232 (P : Params) : Obj := ⟨.none, none, .fields ⟨[]⟩, ⟨[]⟩⟩
noncomputable def o233 (P : Params) : Obj := ⟨.type "tuple", none, .seq ⟨[.str z70 515, .str z145 516]⟩ 0, ⟨[]⟩⟩
noncomputable def o234 (P : Params) : Obj := ⟨.type "tuple", none, .seq ⟨[]⟩ 0, ⟨[]⟩⟩
noncomputable def o235 (P : Params) : Obj := ⟨.none, none, .func (fO z132 z146 (cb 6 4) 0 [] (.none) (.none) (.none) (.none) none (.none) (.none) 0), ⟨[]⟩⟩
noncomputable def o236 (P : Params) : Obj := ⟨.type "code", none, .fields ⟨[.str z132 512, .str z146 513, .str z11 514, .int 203 0, .int 1 0, .int 0 0, .int 0 0, .int 3 0, .ref 231, .bool true, .int 181 0, .ref 232, .none, .ref 233, .ref 234, .ref 235, .int 517 0, .int 203 0, .str z11 518]⟩, ⟨[]⟩⟩
noncomputable def o237 (P : Params) : Obj := ⟨.type "function", none, .func (fO z132 z146 (cb 6 4) 3 [] (.none) (.none) (.none) (.str z127 471) none (.ref 236) (.none) 0), ⟨[]⟩⟩
noncomputable def o238 (P : Params) : Obj := ⟨.type "tuple", none, .seq ⟨[]⟩ 0, ⟨[]⟩⟩
noncomputable def o239 (P : Params) : Obj := ⟨.none, none, .fields ⟨[]⟩, ⟨[]⟩⟩
noncomputable def o240 (P : Params) : Obj := ⟨.type "tuple", none, .seq ⟨[.str z70 523, .str z147 524]⟩ 0, ⟨[]⟩⟩
noncomputable def o241 (P : Params) : Obj := ⟨.type "tuple", none, .seq ⟨[]⟩ 0, ⟨[]⟩⟩
noncomputable def o242 (P : Params) : Obj := ⟨.none, none, .func (fO z133 z148 (cb 6 5) 0 [] (.none) (.none) (.none) (.none) none (.none) (.none) 0), ⟨[]⟩⟩
noncomputable def o243 (P : Params) : Obj := ⟨.type "code", none, .fields ⟨[.str z133 520, .str z148 521, .str z11 522, .int 229 0, .int 1 0, .int 0 0, .int 0 0, .int 3 0, .ref 238, .bool true, .int 181 0, .ref 239, .none, .ref 240, .ref 241, .ref 242, .int 525 0, .int 229 0, .str z11 526]⟩, ⟨[]⟩⟩
noncomputable def o244 (P : Params) : Obj := ⟨.type "function", none, .func (fO z133 z148 (cb 6 5) 3 [] (.none) (.none) (.none) (.str z127 471) none (.ref 243) (.none) 0), ⟨[]⟩⟩
noncomputable def o245 (P : Params) : Obj := ⟨.type "tuple", none, .seq ⟨[]⟩ 0, ⟨[]⟩⟩
noncomputable def o246 (P : Params) : Obj := ⟨.none, none, .fields ⟨[]⟩, ⟨[]⟩⟩
noncomputable def o247 (P : Params) : Obj := ⟨.type "tuple", none, .seq ⟨[.str z70 531]⟩ 0, ⟨[]⟩⟩
noncomputable def o248 (P : Params) : Obj := ⟨.type "tuple", none, .seq ⟨[]⟩ 0, ⟨[]⟩⟩
noncomputable def o249 (P : Params) : Obj := ⟨.none, none, .func (fO z134 z149 (cb 6 6) 0 [] (.none) (.none) (.none) (.none) none (.none) (.none) 0), ⟨[]⟩⟩
noncomputable def o250 (P : Params) : Obj := ⟨.type "code", none, .fields ⟨[.str z134 528, .str z149 529, .str z11 530, .int 238 0, .int 1 0, .int 0 0, .int 0 0, .int 3 0, .ref 245, .bool true, .int 181 0, .ref 246, .none, .ref 247, .ref 248, .ref 249, .int 532 0, .int 238 0, .str z11 533]⟩, ⟨[]⟩⟩
noncomputable def o251 (P : Params) : Obj := ⟨.type "function", none, .func (fO z134 z149 (cb 6 6) 3 [] (.none) (.none) (.none) (.str z127 471) none (.ref 250) (.none) 0), ⟨[]⟩⟩
noncomputable def o252 (P : Params) : Obj := ⟨.type "tuple", none, .seq ⟨[]⟩ 0, ⟨[]⟩⟩
noncomputable def o253 (P : Params) : Obj := ⟨.none, none, .fields ⟨[]⟩, ⟨[]⟩⟩
noncomputable def o254 (P : Params) : Obj := ⟨.type "tuple", none, .seq ⟨[.str z70 538]⟩ 0, ⟨[]⟩⟩
noncomputable def o255 (P : Params) : Obj := ⟨.type "tuple", none, .seq ⟨[]⟩ 0, ⟨[]⟩⟩
noncomputable def o256 (P : Params) : Obj := ⟨.none, none, .func (fO z135 z150 (cb 6 7) 0 [] (.none) (.none) (.none) (.none) none (.none) (.none) 0), ⟨[]⟩⟩
noncomputable def o257 (P : Params) : Obj := ⟨.type "code", none, .fields ⟨[.str z135 535, .str z150 536, .str z11 537, .int 241 0, .int 1 0, .int 0 0, .int 0 0, .int 3 0, .ref 252, .bool true, .int 181 0, .ref 253, .none, .ref 254, .ref 255, .ref 256, .int 539 0, .int 241 0, .str z11 540]⟩, ⟨[]⟩⟩
noncomputable def o258 (P : Params) : Obj := ⟨.type "function", none, .func (fO z135 z150 (cb 6 7) 3 [] (.none) (.none) (.none) (.str z127 471) none (.ref 257) (.none) 0), ⟨[]⟩⟩
noncomputable def o259 (P : Params) : Obj := ⟨.type "tuple", none, .seq ⟨[]⟩ 0, ⟨[]⟩⟩
noncomputable def o260 (P : Params) : Obj := ⟨.none, none, .fields ⟨[]⟩, ⟨[]⟩⟩
noncomputable def o261 (P : Params) : Obj := ⟨.type "tuple", none, .seq ⟨[.str z70 545, .str z147 546]⟩ 0, ⟨[]⟩⟩
noncomputable def o262 (P : Params) : Obj := ⟨.type "tuple", none, .seq ⟨[]⟩ 0, ⟨[]⟩⟩
noncomputable def o263 (P : Params) : Obj := ⟨.none, none, .func (fO z136 z151 (cb 6 8) 0 [] (.none) (.none) (.none) (.none) none (.none) (.none) 0), ⟨[]⟩⟩
noncomputable def o264 (P : Params) : Obj := ⟨.type "code", none, .fields ⟨[.str z136 542, .str z151 543, .str z11 544, .int 244 0, .int 1 0, .int 0 0, .int 0 0, .int 3 0, .ref 259, .bool true, .int 181 0, .ref 260, .none, .ref 261, .ref 262, .ref 263, .int 547 0, .int 244 0, .str z11 548]⟩, ⟨[]⟩⟩
noncomputable def o265 (P : Params) : Obj := ⟨.type "function", none, .func (fO z136 z151 (cb 6 8) 3 [] (.none) (.none) (.none) (.str z127 471) none (.ref 264) (.none) 0), ⟨[]⟩⟩
noncomputable def o266 (P : Params) : Obj := ⟨.type "tuple", none, .seq ⟨[]⟩ 0, ⟨[]⟩⟩
noncomputable def o267 (P : Params) : Obj := ⟨.none, none, .fields ⟨[]⟩, ⟨[]⟩⟩
noncomputable def o268 (P : Params) : Obj := ⟨.type "tuple", none, .seq ⟨[.str z70 553, .str z147 554]⟩ 0, ⟨[]⟩⟩
noncomputable def o269 (P : Params) : Obj := ⟨.type "tuple", none, .seq ⟨[]⟩ 0, ⟨[]⟩⟩
noncomputable def o270 (P : Params) : Obj := ⟨.none, none, .func (fO z137 z152 (cb 6 9) 0 [] (.none) (.none) (.none) (.none) none (.none) (.none) 0), ⟨[]⟩⟩
noncomputable def o271 (P : Params) : Obj := ⟨.type "code", none, .fields ⟨[.str z137 550, .str z152 551, .str z11 552, .int 260 0, .int 1 0, .int 0 0, .int 0 0, .int 3 0, .ref 266, .bool true, .int 181 0, .ref 267, .none, .ref 268, .ref 269, .ref 270, .int 555 0, .int 260 0, .str z11 556]⟩, ⟨[]⟩⟩
noncomputable def o272 (P : Params) : Obj := ⟨.type "function", none, .func (fO z137 z152 (cb 6 9) 3 [] (.none) (.none) (.none) (.str z127 471) none (.ref 271) (.none) 0), ⟨[]⟩⟩
noncomputable def o273 (P : Params) : Obj := ⟨.type "tuple", none, .seq ⟨[]⟩ 0, ⟨[]⟩⟩
noncomputable def o274 (P : Params) : Obj := ⟨.none, none, .fields ⟨[]⟩, ⟨[]⟩⟩
noncomputable def o275 (P : Params) : Obj := ⟨.type "tuple", none, .seq ⟨[.str z70 561, .str z147 562]⟩ 0, ⟨[]⟩⟩
noncomputable def o276 (P : Params) : Obj := ⟨.type "tuple", none, .seq ⟨[]⟩ 0, ⟨[]⟩⟩
noncomputable def o277 (P : Params) : Obj := ⟨.none, none, .func (fO z138 z153 (cb 6 10) 0 [] (.none) (.none) (.none) (.none) none (.none) (.none) 0), ⟨[]⟩⟩
noncomputable def o278 (P : Params) : Obj := ⟨.type "code", none, .fields ⟨[.str z138 558, .str z153 559, .str z11 560, .int 282 0, .int 1 0, .int 0 0, .int 0 0, .int 3 0, .ref 273, .bool true, .int 181 0, .ref 274, .none, .ref 275, .ref 276, .ref 277, .int 563 0, .int 282 0, .str z11 564]⟩, ⟨[]⟩⟩
noncomputable def o279 (P : Params) : Obj := ⟨.type "function", none, .func (fO z138 z153 (cb 6 10) 3 [] (.none) (.none) (.none) (.str z127 471) none (.ref 278) (.none) 0), ⟨[]⟩⟩
noncomputable def o280 (P : Params) : Obj := ⟨.type "tuple", none, .seq ⟨[]⟩ 0, ⟨[]⟩⟩
noncomputable def o281 (P : Params) : Obj := ⟨.none, none, .fields ⟨[]⟩, ⟨[]⟩⟩
noncomputable def o282 (P : Params) : Obj := ⟨.type "tuple", none, .seq ⟨[.str z70 569, .str z145 570, .str z154 571, .str z155 572, .str z156 573]⟩ 0, ⟨[]⟩⟩
noncomputable def o283 (P : Params) : Obj := ⟨.type "tuple", none, .seq ⟨[]⟩ 0, ⟨[]⟩⟩
noncomputable def o284 (P : Params) : Obj := ⟨.none, none, .func (fO z139 z157 (cb 6 11) 0 [] (.none) (.none) (.none) (.none) none (.none) (.none) 0), ⟨[]⟩⟩
noncomputable def o285 (P : Params) : Obj := ⟨.type "code", none, .fields ⟨[.str z139 566, .str z157 567, .str z11 568, .int 298 0, .int 1 0, .int 0 0, .int 0 0, .int 3 0, .ref 280, .bool true, .int 181 0, .ref 281, .none, .ref 282, .ref 283, .ref 284, .int 574 0, .int 298 0, .str z11 575]⟩, ⟨[]⟩⟩
noncomputable def o286 (P : Params) : Obj := ⟨.type "function", none, .func (fO z139 z157 (cb 6 11) 3 [] (.none) (.none) (.none) (.str z127 471) none (.ref 285) (.none) 0), ⟨[]⟩⟩
noncomputable def o287 (P : Params) : Obj := ⟨.type "dict", none, .dict ⟨[kE P z77 586 (.str z158 577), kE P z124 588 (.int (-1) 579), kE P z125 590 (.int 1 580)]⟩ 3, ⟨[]⟩⟩
noncomputable def o288 (P : Params) : Obj := ⟨.ref 218, (some (287)), .plain, ⟨[]⟩⟩
noncomputable def o289 (P : Params) : Obj := ⟨.type "frame", none, .dict ⟨[kE P z70 581 (.ref 288), kE P z77 582 (.str z158 577), kE P z124 583 (.int (-1) 579), kE P z125 584 (.int 1 580)]⟩ 4, ⟨[]⟩⟩
noncomputable def o290 (P : Params) : Obj := ⟨.type "dict", none, .dict ⟨[kE P z77 600 (.str z159 591), kE P z124 602 (.int (-1) 593), kE P z125 604 (.int 4 594)]⟩ 3, ⟨[]⟩⟩
noncomputable def o291 (P : Params) : Obj := ⟨.ref 218, (some (290)), .plain, ⟨[]⟩⟩
noncomputable def o292 (P : Params) : Obj := ⟨.type "frame", none, .dict ⟨[kE P z70 595 (.ref 291), kE P z77 596 (.str z159 591), kE P z124 597 (.int (-1) 593), kE P z125 598 (.int 4 594)]⟩ 4, ⟨[]⟩⟩
noncomputable def o293 (P : Params) : Obj := ⟨.type "dict", none, .dict ⟨[kE P z77 613 (.str z160 605), kE P z124 615 (.int 1 606), kE P z125 617 (.int 2 607)]⟩ 3, ⟨[]⟩⟩
noncomputable def o294 (P : Params) : Obj := ⟨.ref 218, (some (293)), .plain, ⟨[]⟩⟩
noncomputable def o295 (P : Params) : Obj := ⟨.type "frame", none, .dict ⟨[kE P z70 608 (.ref 294), kE P z77 609 (.str z160 605), kE P z124 610 (.int 1 606), kE P z125 611 (.int 2 607)]⟩ 4, ⟨[]⟩⟩
noncomputable def o296 (P : Params) : Obj := ⟨.type "dict", none, .dict ⟨[kE P z77 627 (.str z161 618), kE P z124 629 (.int (-1) 620), kE P z125 631 (.int 8 621)]⟩ 3, ⟨[]⟩⟩
noncomputable def o297 (P : Params) : Obj := ⟨.ref 218, (some (296)), .plain, ⟨[]⟩⟩
noncomputable def o298 (P : Params) : Obj := ⟨.type "frame", none, .dict ⟨[kE P z70 622 (.ref 297), kE P z77 623 (.str z161 618), kE P z124 624 (.int (-1) 620), kE P z125 625 (.int 8 621)]⟩ 4, ⟨[]⟩⟩
noncomputable def o299 (P : Params) : Obj := ⟨.type "dict", none, .dict ⟨[kE P z77 641 (.str z162 632), kE P z124 643 (.int (-1) 634), kE P z125 645 (.int 5 635)]⟩ 3, ⟨[]⟩⟩
noncomputable def o300 (P : Params) : Obj := ⟨.ref 218, (some (299)), .plain, ⟨[]⟩⟩
noncomputable def o301 (P : Params) : Obj := ⟨.type "frame", none, .dict ⟨[kE P z70 636 (.ref 300), kE P z77 637 (.str z162 632), kE P z124 638 (.int (-1) 634), kE P z125 639 (.int 5 635)]⟩ 4, ⟨[]⟩⟩
noncomputable def o302 (P : Params) : Obj := ⟨.type "dict", none, .dict ⟨[kE P z77 655 (.str z163 646), kE P z124 657 (.int (-1) 648), kE P z125 659 (.int 1 649)]⟩ 3, ⟨[]⟩⟩
noncomputable def o303 (P : Params) : Obj := ⟨.ref 218, (some (302)), .plain, ⟨[]⟩⟩
noncomputable def o304 (P : Params) : Obj := ⟨.type "frame", none, .dict ⟨[kE P z70 650 (.ref 303), kE P z77 651 (.str z163 646), kE P z124 652 (.int (-1) 648), kE P z125 653 (.int 1 649)]⟩ 4, ⟨[]⟩⟩
noncomputable def o305 (P : Params) : Obj := ⟨.type "dict", none, .dict ⟨[kE P z77 668 (.str z164 660), kE P z124 670 (.int 5 661), kE P z125 672 (.int 2 662)]⟩ 3, ⟨[]⟩⟩
noncomputable def o306 (P : Params) : Obj := ⟨.ref 218, (some (305)), .plain, ⟨[]⟩⟩
noncomputable def o307 (P : Params) : Obj := ⟨.type "frame", none, .dict ⟨[kE P z70 663 (.ref 306), kE P z77 664 (.str z164 660), kE P z124 665 (.int 5 661), kE P z125 666 (.int 2 662)]⟩ 4, ⟨[]⟩⟩
noncomputable def o308 (P : Params) : Obj := ⟨.type "dict", none, .dict ⟨[kE P z77 682 (.str z165 673), kE P z124 684 (.int (-1) 675), kE P z125 686 (.int 6 676)]⟩ 3, ⟨[]⟩⟩
noncomputable def o309 (P : Params) : Obj := ⟨.ref 218, (some (308)), .plain, ⟨[]⟩⟩
noncomputable def o310 (P : Params) : Obj := ⟨.type "frame", none, .dict ⟨[kE P z70 677 (.ref 309), kE P z77 678 (.str z165 673), kE P z124 679 (.int (-1) 675), kE P z125 680 (.int 6 676)]⟩ 4, ⟨[]⟩⟩
noncomputable def o311 (P : Params) : Obj := ⟨.type "dict", none, .dict ⟨[kE P z77 696 (.str z166 687), kE P z124 698 (.int (-1) 689), kE P z125 700 (.int 9 690)]⟩ 3, ⟨[]⟩⟩
noncomputable def o312 (P : Params) : Obj := ⟨.ref 218, (some (311)), .plain, ⟨[]⟩⟩
noncomputable def o313 (P : Params) : Obj := ⟨.type "frame", none, .dict ⟨[kE P z70 691 (.ref 312), kE P z77 692 (.str z166 687), kE P z124 693 (.int (-1) 689), kE P z125 694 (.int 9 690)]⟩ 4, ⟨[]⟩⟩
noncomputable def o314 (P : Params) : Obj := ⟨.type "dict", none, .dict ⟨[kE P z77 710 (.str z167 701), kE P z124 712 (.int (-1) 703), kE P z125 714 (.int 2 704)]⟩ 3, ⟨[]⟩⟩
noncomputable def o315 (P : Params) : Obj := ⟨.ref 218, (some (314)), .plain, ⟨[]⟩⟩
noncomputable def o316 (P : Params) : Obj := ⟨.type "frame", none, .dict ⟨[kE P z70 705 (.ref 315), kE P z77 706 (.str z167 701), kE P z124 707 (.int (-1) 703), kE P z125 708 (.int 2 704)]⟩ 4, ⟨[]⟩⟩
noncomputable def o317 (P : Params) : Obj := ⟨.type "dict", none, .dict ⟨[kE P z77 724 (.str z168 715), kE P z124 726 (.int (-1) 717), kE P z125 728 (.int 5 718)]⟩ 3, ⟨[]⟩⟩
noncomputable def o318 (P : Params) : Obj := ⟨.ref 218, (some (317)), .plain, ⟨[]⟩⟩
noncomputable def o319 (P : Params) : Obj := ⟨.type "frame", none, .dict ⟨[kE P z70 719 (.ref 318), kE P z77 720 (.str z168 715), kE P z124 721 (.int (-1) 717), kE P z125 722 (.int 5 718)]⟩ 4, ⟨[]⟩⟩
noncomputable def o320 (P : Params) : Obj := ⟨.type "dict", none, .dict ⟨[kE P z77 738 (.str z169 729), kE P z124 740 (.int (-1) 731), kE P z125 742 (.int 7 732)]⟩ 3, ⟨[]⟩⟩
noncomputable def o321 (P : Params) : Obj := ⟨.ref 218, (some (320)), .plain, ⟨[]⟩⟩
noncomputable def o322 (P : Params) : Obj := ⟨.type "frame", none, .dict ⟨[kE P z70 733 (.ref 321), kE P z77 734 (.str z169 729), kE P z124 735 (.int (-1) 731), kE P z125 736 (.int 7 732)]⟩ 4, ⟨[]⟩⟩
noncomputable def o323 (P : Params) : Obj := ⟨.type "dict", none, .dict ⟨[kE P z77 752 (.str z170 743), kE P z124 754 (.int (-1) 745), kE P z125 756 (.int 1 746)]⟩ 3, ⟨[]⟩⟩
noncomputable def o324 (P : Params) : Obj := ⟨.ref 218, (some (323)), .plain, ⟨[]⟩⟩
noncomputable def o325 (P : Params) : Obj := ⟨.type "frame", none, .dict ⟨[kE P z70 747 (.ref 324), kE P z77 748 (.str z170 743), kE P z124 749 (.int (-1) 745), kE P z125 750 (.int 1 746)]⟩ 4, ⟨[]⟩⟩
noncomputable def o326 (P : Params) : Obj := ⟨.type "dict", none, .dict ⟨[kE P z77 766 (.str z171 757), kE P z124 768 (.int (-1) 759), kE P z125 770 (.int 1 760)]⟩ 3, ⟨[]⟩⟩
noncomputable def o327 (P : Params) : Obj := ⟨.ref 218, (some (326)), .plain, ⟨[]⟩⟩
noncomputable def o328 (P : Params) : Obj := ⟨.type "frame", none, .dict ⟨[kE P z70 761 (.ref 327), kE P z77 762 (.str z171 757), kE P z124 763 (.int (-1) 759), kE P z125 764 (.int 1 760)]⟩ 4, ⟨[]⟩⟩
noncomputable def o329 (P : Params) : Obj := ⟨.type "dict", none, .dict ⟨[kE P z77 780 (.str z172 771), kE P z124 782 (.int (-1) 773), kE P z125 784 (.int 4 774)]⟩ 3, ⟨[]⟩⟩
noncomputable def o330 (P : Params) : Obj := ⟨.ref 218, (some (329)), .plain, ⟨[]⟩⟩
noncomputable def o331 (P : Params) : Obj := ⟨.type "frame", none, .dict ⟨[kE P z70 775 (.ref 330), kE P z77 776 (.str z172 771), kE P z124 777 (.int (-1) 773), kE P z125 778 (.int 4 774)]⟩ 4, ⟨[]⟩⟩
noncomputable def o332 (P : Params) : Obj := ⟨.type "dict", none, .dict ⟨[kE P z77 794 (.str z173 785), kE P z124 796 (.int (-1) 787), kE P z125 798 (.int 10 788)]⟩ 3, ⟨[]⟩⟩
noncomputable def o333 (P : Params) : Obj := ⟨.ref 218, (some (332)), .plain, ⟨[]⟩⟩
noncomputable def o334 (P : Params) : Obj := ⟨.type "frame", none, .dict ⟨[kE P z70 789 (.ref 333), kE P z77 790 (.str z173 785), kE P z124 791 (.int (-1) 787), kE P z125 792 (.int 10 788)]⟩ 4, ⟨[]⟩⟩
noncomputable def o335 (P : Params) : Obj := ⟨.type "dict", none, .dict ⟨[kE P z77 808 (.str z174 799), kE P z124 810 (.int (-1) 801), kE P z125 812 (.int 1 802)]⟩ 3, ⟨[]⟩⟩
noncomputable def o336 (P : Params) : Obj := ⟨.ref 218, (some (335)), .plain, ⟨[]⟩⟩
noncomputable def o337 (P : Params) : Obj := ⟨.type "frame", none, .dict ⟨[kE P z70 803 (.ref 336), kE P z77 804 (.str z174 799), kE P z124 805 (.int (-1) 801), kE P z125 806 (.int 1 802)]⟩ 4, ⟨[]⟩⟩
noncomputable def o338 (P : Params) : Obj := ⟨.type "dict", none, .dict ⟨[kE P z77 822 (.str z175 813), kE P z124 824 (.int (-1) 815), kE P z125 826 (.int 6 816)]⟩ 3, ⟨[]⟩⟩
noncomputable def o339 (P : Params) : Obj := ⟨.ref 218, (some (338)), .plain, ⟨[]⟩⟩
noncomputable def o340 (P : Params) : Obj := ⟨.type "frame", none, .dict ⟨[kE P z70 817 (.ref 339), kE P z77 818 (.str z175 813), kE P z124 819 (.int (-1) 815), kE P z125 820 (.int 6 816)]⟩ 4, ⟨[]⟩⟩
noncomputable def o341 (P : Params) : Obj := ⟨.type "dict", none, .dict ⟨[kE P z77 836 (.str z176 827), kE P z124 838 (.int (-1) 829), kE P z125 840 (.int 7 830)]⟩ 3, ⟨[]⟩⟩
noncomputable def o342 (P : Params) : Obj := ⟨.ref 218, (some (341)), .plain, ⟨[]⟩⟩
noncomputable def o343 (P : Params) : Obj := ⟨.type "frame", none, .dict ⟨[kE P z70 831 (.ref 342), kE P z77 832 (.str z176 827), kE P z124 833 (.int (-1) 829), kE P z125 834 (.int 7 830)]⟩ 4, ⟨[]⟩⟩
noncomputable def o344 (P : Params) : Obj := ⟨.type "dict", none, .dict ⟨[kE P z77 850 (.str z177 841), kE P z124 852 (.int (-1) 843), kE P z125 854 (.int 8 844)]⟩ 3, ⟨[]⟩⟩
noncomputable def o345 (P : Params) : Obj := ⟨.ref 218, (some (344)), .plain, ⟨[]⟩⟩
noncomputable def o346 (P : Params) : Obj := ⟨.type "frame", none, .dict ⟨[kE P z70 845 (.ref 345), kE P z77 846 (.str z177 841), kE P z124 847 (.int (-1) 843), kE P z125 848 (.int 8 844)]⟩ 4, ⟨[]⟩⟩
noncomputable def o347 (P : Params) : Obj := ⟨.type "dict", none, .dict ⟨[kE P z77 864 (.str z178 855), kE P z124 866 (.int (-1) 857), kE P z125 868 (.int 3 858)]⟩ 3, ⟨[]⟩⟩
noncomputable def o348 (P : Params) : Obj := ⟨.ref 218, (some (347)), .plain, ⟨[]⟩⟩
noncomputable def o349 (P : Params) : Obj := ⟨.type "frame", none, .dict ⟨[kE P z70 859 (.ref 348), kE P z77 860 (.str z178 855), kE P z124 861 (.int (-1) 857), kE P z125 862 (.int 3 858)]⟩ 4, ⟨[]⟩⟩
noncomputable def o350 (P : Params) : Obj := ⟨.type "dict", none, .dict ⟨[kE P z77 878 (.str z179 869), kE P z124 880 (.int (-1) 871), kE P z125 882 (.int 1 872)]⟩ 3, ⟨[]⟩⟩
noncomputable def o351 (P : Params) : Obj := ⟨.ref 218, (some (350)), .plain, ⟨[]⟩⟩
noncomputable def o352 (P : Params) : Obj := ⟨.type "frame", none, .dict ⟨[kE P z70 873 (.ref 351), kE P z77 874 (.str z179 869), kE P z124 875 (.int (-1) 871), kE P z125 876 (.int 1 872)]⟩ 4, ⟨[]⟩⟩
noncomputable def o353 (P : Params) : Obj := ⟨.type "dict", none, .dict ⟨[kE P z77 892 (.str z180 883), kE P z124 894 (.int (-1) 885), kE P z125 896 (.int 9 886)]⟩ 3, ⟨[]⟩⟩
noncomputable def o354 (P : Params) : Obj := ⟨.ref 218, (some (353)), .plain, ⟨[]⟩⟩
noncomputable def o355 (P : Params) : Obj := ⟨.type "frame", none, .dict ⟨[kE P z70 887 (.ref 354), kE P z77 888 (.str z180 883), kE P z124 889 (.int (-1) 885), kE P z125 890 (.int 9 886)]⟩ 4, ⟨[]⟩⟩
noncomputable def o356 (P : Params) : Obj := ⟨.type "dict", none, .dict ⟨[kE P z77 906 (.str z181 897), kE P z124 908 (.int (-1) 899), kE P z125 910 (.int 3 900)]⟩ 3, ⟨[]⟩⟩
noncomputable def o357 (P : Params) : Obj := ⟨.ref 218, (some (356)), .plain, ⟨[]⟩⟩
noncomputable def o358 (P : Params) : Obj := ⟨.type "frame", none, .dict ⟨[kE P z70 901 (.ref 357), kE P z77 902 (.str z181 897), kE P z124 903 (.int (-1) 899), kE P z125 904 (.int 3 900)]⟩ 4, ⟨[]⟩⟩
noncomputable def o359 (P : Params) : Obj := ⟨.type "list", none, .seq ⟨[.ref 288, .ref 291, .ref 294, .ref 297, .ref 300, .ref 303, .ref 306, .ref 309, .ref 312, .ref 315, .ref 318, .ref 321, .ref 324, .ref 327, .ref 330, .ref 333, .ref 336, .ref 339, .ref 342, .ref 345, .ref 348, .ref 351, .ref 354, .ref 357]⟩ 0, ⟨[]⟩⟩
noncomputable def o360 (P : Params) : Obj := ⟨.type "tuple", none, .seq ⟨[.str z182 912, .str z183 913, .str z77 914, .str z184 915, .str z91 916, .str z185 917, .str z186 918, .str z187 919, .str z188 920, .str z189 921]⟩ 0, ⟨[]⟩⟩
noncomputable def o361 (P : Params) : Obj := ⟨.type "dict", none, .dict ⟨[kE P z77 932 (.str z190 923), kE P z124 934 (.int (-1) 925), kE P z125 936 (.int 1 926)]⟩ 3, ⟨[]⟩⟩
noncomputable def o362 (P : Params) : Obj := ⟨.ref 218, (some (361)), .plain, ⟨[]⟩⟩
noncomputable def o363 (P : Params) : Obj := ⟨.type "frame", none, .dict ⟨[kE P z70 927 (.ref 362), kE P z77 928 (.str z190 923), kE P z124 929 (.int (-1) 925), kE P z125 930 (.int 1 926)]⟩ 4, ⟨[]⟩⟩
noncomputable def o364 (P : Params) : Obj := ⟨.type "dict", none, .dict ⟨[kE P z77 945 (.str z191 937), kE P z124 947 (.int 0 938), kE P z125 949 (.int 1 939)]⟩ 3, ⟨[]⟩⟩
noncomputable def o365 (P : Params) : Obj := ⟨.ref 218, (some (364)), .plain, ⟨[]⟩⟩
noncomputable def o366 (P : Params) : Obj := ⟨.type "frame", none, .dict ⟨[kE P z70 940 (.ref 365), kE P z77 941 (.str z191 937), kE P z124 942 (.int 0 938), kE P z125 943 (.int 1 939)]⟩ 4, ⟨[]⟩⟩
noncomputable def o367 (P : Params) : Obj := ⟨.type "dict", none, .dict ⟨[kE P z77 959 (.str z192 950), kE P z124 961 (.int (-1) 952), kE P z125 963 (.int 2 953)]⟩ 3, ⟨[]⟩⟩
noncomputable def o368 (P : Params) : Obj := ⟨.ref 218, (some (367)), .plain, ⟨[]⟩⟩
noncomputable def o369 (P : Params) : Obj := ⟨.type "frame", none, .dict ⟨[kE P z70 954 (.ref 368), kE P z77 955 (.str z192 950), kE P z124 956 (.int (-1) 952), kE P z125 957 (.int 2 953)]⟩ 4, ⟨[]⟩⟩
noncomputable def o370 (P : Params) : Obj := ⟨.type "dict", none, .dict ⟨[kE P z77 972 (.str z193 964), kE P z124 974 (.int 2 965), kE P z125 976 (.int 2 966)]⟩ 3, ⟨[]⟩⟩
noncomputable def o371 (P : Params) : Obj := ⟨.ref 218, (some (370)), .plain, ⟨[]⟩⟩
noncomputable def o372 (P : Params) : Obj := ⟨.type "frame", none, .dict ⟨[kE P z70 967 (.ref 371), kE P z77 968 (.str z193 964), kE P z124 969 (.int 2 965), kE P z125 970 (.int 2 966)]⟩ 4, ⟨[]⟩⟩
noncomputable def o373 (P : Params) : Obj := ⟨.type "dict", none, .dict ⟨[kE P z77 986 (.str z194 977), kE P z124 988 (.int (-1) 979), kE P z125 990 (.int 1 980)]⟩ 3, ⟨[]⟩⟩
noncomputable def o374 (P : Params) : Obj := ⟨.ref 218, (some (373)), .plain, ⟨[]⟩⟩
noncomputable def o375 (P : Params) : Obj := ⟨.type "frame", none, .dict ⟨[kE P z70 981 (.ref 374), kE P z77 982 (.str z194 977), kE P z124 983 (.int (-1) 979), kE P z125 984 (.int 1 980)]⟩ 4, ⟨[]⟩⟩
noncomputable def o376 (P : Params) : Obj := ⟨.type "dict", none, .dict ⟨[kE P z77 999 (.str z195 991), kE P z124 1001 (.int 4 992), kE P z125 1003 (.int 1 993)]⟩ 3, ⟨[]⟩⟩
noncomputable def o377 (P : Params) : Obj := ⟨.ref 218, (some (376)), .plain, ⟨[]⟩⟩
noncomputable def o378 (P : Params) : Obj := ⟨.type "frame", none, .dict ⟨[kE P z70 994 (.ref 377), kE P z77 995 (.str z195 991), kE P z124 996 (.int 4 992), kE P z125 997 (.int 1 993)]⟩ 4, ⟨[]⟩⟩
noncomputable def o379 (P : Params) : Obj := ⟨.type "dict", none, .dict ⟨[kE P z77 1013 (.str z196 1004), kE P z124 1015 (.int (-1) 1006), kE P z125 1017 (.int 1 1007)]⟩ 3, ⟨[]⟩⟩
noncomputable def o380 (P : Params) : Obj := ⟨.ref 218, (some (379)), .plain, ⟨[]⟩⟩
noncomputable def o381 (P : Params) : Obj := ⟨.type "frame", none, .dict ⟨[kE P z70 1008 (.ref 380), kE P z77 1009 (.str z196 1004), kE P z124 1010 (.int (-1) 1006), kE P z125 1011 (.int 1 1007)]⟩ 4, ⟨[]⟩⟩
noncomputable def o382 (P : Params) : Obj := ⟨.type "dict", none, .dict ⟨[kE P z77 1026 (.str z197 1018), kE P z124 1028 (.int 6 1019), kE P z125 1030 (.int 1 1020)]⟩ 3, ⟨[]⟩⟩
noncomputable def o383 (P : Params) : Obj := ⟨.ref 218, (some (382)), .plain, ⟨[]⟩⟩
noncomputable def o384 (P : Params) : Obj := ⟨.type "frame", none, .dict ⟨[kE P z70 1021 (.ref 383), kE P z77 1022 (.str z197 1018), kE P z124 1023 (.int 6 1019), kE P z125 1024 (.int 1 1020)]⟩ 4, ⟨[]⟩⟩
noncomputable def o385 (P : Params) : Obj := ⟨.type "dict", none, .dict ⟨[kE P z77 1040 (.str z198 1031), kE P z124 1042 (.int (-1) 1033), kE P z125 1044 (.int 1 1034)]⟩ 3, ⟨[]⟩⟩
noncomputable def o386 (P : Params) : Obj := ⟨.ref 218, (some (385)), .plain, ⟨[]⟩⟩
noncomputable def o387 (P : Params) : Obj := ⟨.type "frame", none, .dict ⟨[kE P z70 1035 (.ref 386), kE P z77 1036 (.str z198 1031), kE P z124 1037 (.int (-1) 1033), kE P z125 1038 (.int 1 1034)]⟩ 4, ⟨[]⟩⟩
noncomputable def o388 (P : Params) : Obj := ⟨.type "dict", none, .dict ⟨[kE P z77 1053 (.str z199 1045), kE P z124 1055 (.int 8 1046), kE P z125 1057 (.int 1 1047)]⟩ 3, ⟨[]⟩⟩
noncomputable def o389 (P : Params) : Obj := ⟨.ref 218, (some (388)), .plain, ⟨[]⟩⟩
noncomputable def o390 (P : Params) : Obj := ⟨.type "frame", none, .dict ⟨[kE P z70 1048 (.ref 389), kE P z77 1049 (.str z199 1045), kE P z124 1050 (.int 8 1046), kE P z125 1051 (.int 1 1047)]⟩ 4, ⟨[]⟩⟩
noncomputable def o391 (P : Params) : Obj := ⟨.type "dict", none, .dict ⟨[kE P z77 1067 (.str z200 1058), kE P z124 1069 (.int (-1) 1060), kE P z125 1071 (.int 1 1061)]⟩ 3, ⟨[]⟩⟩
noncomputable def o392 (P : Params) : Obj := ⟨.ref 218, (some (391)), .plain, ⟨[]⟩⟩
noncomputable def o393 (P : Params) : Obj := ⟨.type "frame", none, .dict ⟨[kE P z70 1062 (.ref 392), kE P z77 1063 (.str z200 1058), kE P z124 1064 (.int (-1) 1060), kE P z125 1065 (.int 1 1061)]⟩ 4, ⟨[]⟩⟩
noncomputable def o394 (P : Params) : Obj := ⟨.type "dict", none, .dict ⟨[kE P z77 1080 (.str z201 1072), kE P z124 1082 (.int 10 1073), kE P z125 1084 (.int 1 1074)]⟩ 3, ⟨[]⟩⟩
noncomputable def o395 (P : Params) : Obj := ⟨.ref 218, (some (394)), .plain, ⟨[]⟩⟩
noncomputable def o396 (P : Params) : Obj := ⟨.type "frame", none, .dict ⟨[kE P z70 1075 (.ref 395), kE P z77 1076 (.str z201 1072), kE P z124 1077 (.int 10 1073), kE P z125 1078 (.int 1 1074)]⟩ 4, ⟨[]⟩⟩
noncomputable def o397 (P : Params) : Obj := ⟨.type "dict", none, .dict ⟨[kE P z77 1094 (.str z202 1085), kE P z124 1096 (.int (-1) 1087), kE P z125 1098 (.int 1 1088)]⟩ 3, ⟨[]⟩⟩
noncomputable def o398 (P : Params) : Obj := ⟨.ref 218, (some (397)), .plain, ⟨[]⟩⟩
noncomputable def o399 (P : Params) : Obj := ⟨.type "frame", none, .dict ⟨[kE P z70 1089 (.ref 398), kE P z77 1090 (.str z202 1085), kE P z124 1091 (.int (-1) 1087), kE P z125 1092 (.int 1 1088)]⟩ 4, ⟨[]⟩⟩
noncomputable def o400 (P : Params) : Obj := ⟨.type "dict", none, .dict ⟨[kE P z77 1107 (.str z203 1099), kE P z124 1109 (.int 12 1100), kE P z125 1111 (.int 1 1101)]⟩ 3, ⟨[]⟩⟩
noncomputable def o401 (P : Params) : Obj := ⟨.ref 218, (some (400)), .plain, ⟨[]⟩⟩
noncomputable def o402 (P : Params) : Obj := ⟨.type "frame", none, .dict ⟨[kE P z70 1102 (.ref 401), kE P z77 1103 (.str z203 1099), kE P z124 1104 (.int 12 1100), kE P z125 1105 (.int 1 1101)]⟩ 4, ⟨[]⟩⟩
noncomputable def o403 (P : Params) : Obj := ⟨.type "dict", none, .dict ⟨[kE P z77 1121 (.str z204 1112), kE P z124 1123 (.int (-1) 1114), kE P z125 1125 (.int 2 1115)]⟩ 3, ⟨[]⟩⟩
noncomputable def o404 (P : Params) : Obj := ⟨.ref 218, (some (403)), .plain, ⟨[]⟩⟩
noncomputable def o405 (P : Params) : Obj := ⟨.type "frame", none, .dict ⟨[kE P z70 1116 (.ref 404), kE P z77 1117 (.str z204 1112), kE P z124 1118 (.int (-1) 1114), kE P z125 1119 (.int 2 1115)]⟩ 4, ⟨[]⟩⟩
noncomputable def o406 (P : Params) : Obj := ⟨.type "dict", none, .dict ⟨[kE P z77 1134 (.str z205 1126), kE P z124 1136 (.int 14 1127), kE P z125 1138 (.int 2 1128)]⟩ 3, ⟨[]⟩⟩
noncomputable def o407 (P : Params) : Obj := ⟨.ref 218, (some (406)), .plain, ⟨[]⟩⟩
noncomputable def o408 (P : Params) : Obj := ⟨.type "frame", none, .dict ⟨[kE P z70 1129 (.ref 407), kE P z77 1130 (.str z205 1126), kE P z124 1131 (.int 14 1127), kE P z125 1132 (.int 2 1128)]⟩ 4, ⟨[]⟩⟩
noncomputable def o409 (P : Params) : Obj := ⟨.type "list", none, .seq ⟨[.ref 362, .ref 365, .ref 368, .ref 371, .ref 374, .ref 377, .ref 380, .ref 383, .ref 386, .ref 389, .ref 392, .ref 395, .ref 398, .ref 401, .ref 404, .ref 407]⟩ 0, ⟨[]⟩⟩
noncomputable def o410 (P : Params) : Obj := ⟨.type "dict", none, .dict ⟨[kE P z77 1149 (.str z206 1140), kE P z124 1151 (.int (-1) 1142), kE P z125 1153 (.int 6 1143)]⟩ 3, ⟨[]⟩⟩
noncomputable def o411 (P : Params) : Obj := ⟨.ref 218, (some (410)), .plain, ⟨[]⟩⟩
noncomputable def o412 (P : Params) : Obj := ⟨.type "frame", none, .dict ⟨[kE P z70 1144 (.ref 411), kE P z77 1145 (.str z206 1140), kE P z124 1146 (.int (-1) 1142), kE P z125 1147 (.int 6 1143)]⟩ 4, ⟨[]⟩⟩
noncomputable def o413 (P : Params) : Obj := ⟨.type "dict", none, .dict ⟨[kE P z77 1163 (.str z207 1154), kE P z124 1165 (.int (-1) 1156), kE P z125 1167 (.int 5 1157)]⟩ 3, ⟨[]⟩⟩
noncomputable def o414 (P : Params) : Obj := ⟨.ref 218, (some (413)), .plain, ⟨[]⟩⟩
noncomputable def o415 (P : Params) : Obj := ⟨.type "frame", none, .dict ⟨[kE P z70 1158 (.ref 414), kE P z77 1159 (.str z207 1154), kE P z124 1160 (.int (-1) 1156), kE P z125 1161 (.int 5 1157)]⟩ 4, ⟨[]⟩⟩
noncomputable def o416 (P : Params) : Obj := ⟨.type "dict", none, .dict ⟨[kE P z77 1177 (.str z208 1168), kE P z124 1179 (.int (-1) 1170), kE P z125 1181 (.int 1 1171)]⟩ 3, ⟨[]⟩⟩
noncomputable def o417 (P : Params) : Obj := ⟨.ref 218, (some (416)), .plain, ⟨[]⟩⟩
noncomputable def o418 (P : Params) : Obj := ⟨.type "frame", none, .dict ⟨[kE P z70 1172 (.ref 417), kE P z77 1173 (.str z208 1168), kE P z124 1174 (.int (-1) 1170), kE P z125 1175 (.int 1 1171)]⟩ 4, ⟨[]⟩⟩
noncomputable def o419 (P : Params) : Obj := ⟨.type "dict", none, .dict ⟨[kE P z77 1190 (.str z209 1182), kE P z124 1192 (.int 2 1183), kE P z125 1194 (.int 2 1184)]⟩ 3, ⟨[]⟩⟩
noncomputable def o420 (P : Params) : Obj := ⟨.ref 218, (some (419)), .plain, ⟨[]⟩⟩
noncomputable def o421 (P : Params) : Obj := ⟨.type "frame", none, .dict ⟨[kE P z70 1185 (.ref 420), kE P z77 1186 (.str z209 1182), kE P z124 1187 (.int 2 1183), kE P z125 1188 (.int 2 1184)]⟩ 4, ⟨[]⟩⟩
noncomputable def o422 (P : Params) : Obj := ⟨.type "dict", none, .dict ⟨[kE P z77 1203 (.str z210 1195), kE P z124 1205 (.int 2 1196), kE P z125 1207 (.int 1 1197)]⟩ 3, ⟨[]⟩⟩
noncomputable def o423 (P : Params) : Obj := ⟨.ref 218, (some (422)), .plain, ⟨[]⟩⟩
noncomputable def o424 (P : Params) : Obj := ⟨.type "frame", none, .dict ⟨[kE P z70 1198 (.ref 423), kE P z77 1199 (.str z210 1195), kE P z124 1200 (.int 2 1196), kE P z125 1201 (.int 1 1197)]⟩ 4, ⟨[]⟩⟩
noncomputable def o425 (P : Params) : Obj := ⟨.type "dict", none, .dict ⟨[kE P z77 1217 (.str z211 1208), kE P z124 1219 (.int (-1) 1210), kE P z125 1221 (.int 4 1211)]⟩ 3, ⟨[]⟩⟩
noncomputable def o426 (P : Params) : Obj := ⟨.ref 218, (some (425)), .plain, ⟨[]⟩⟩
noncomputable def o427 (P : Params) : Obj := ⟨.type "frame", none, .dict ⟨[kE P z70 1212 (.ref 426), kE P z77 1213 (.str z211 1208), kE P z124 1214 (.int (-1) 1210), kE P z125 1215 (.int 4 1211)]⟩ 4, ⟨[]⟩⟩
noncomputable def o428 (P : Params) : Obj := ⟨.type "dict", none, .dict ⟨[kE P z77 1231 (.str z212 1222), kE P z124 1233 (.int (-1) 1224), kE P z125 1235 (.int 5 1225)]⟩ 3, ⟨[]⟩⟩
noncomputable def o429 (P : Params) : Obj := ⟨.ref 218, (some (428)), .plain, ⟨[]⟩⟩
noncomputable def o430 (P : Params) : Obj := ⟨.type "frame", none, .dict ⟨[kE P z70 1226 (.ref 429), kE P z77 1227 (.str z212 1222), kE P z124 1228 (.int (-1) 1224), kE P z125 1229 (.int 5 1225)]⟩ 4, ⟨[]⟩⟩
noncomputable def o431 (P : Params) : Obj := ⟨.type "dict", none, .dict ⟨[kE P z77 1245 (.str z213 1236), kE P z124 1247 (.int (-1) 1238), kE P z125 1249 (.int 1 1239)]⟩ 3, ⟨[]⟩⟩
noncomputable def o432 (P : Params) : Obj := ⟨.ref 218, (some (431)), .plain, ⟨[]⟩⟩
noncomputable def o433 (P : Params) : Obj := ⟨.type "frame", none, .dict ⟨[kE P z70 1240 (.ref 432), kE P z77 1241 (.str z213 1236), kE P z124 1242 (.int (-1) 1238), kE P z125 1243 (.int 1 1239)]⟩ 4, ⟨[]⟩⟩
noncomputable def o434 (P : Params) : Obj := ⟨.type "dict", none, .dict ⟨[kE P z77 1258 (.str z214 1250), kE P z124 1260 (.int 7 1251), kE P z125 1262 (.int 1 1252)]⟩ 3, ⟨[]⟩⟩
noncomputable def o435 (P : Params) : Obj := ⟨.ref 218, (some (434)), .plain, ⟨[]⟩⟩
noncomputable def o436 (P : Params) : Obj := ⟨.type "frame", none, .dict ⟨[kE P z70 1253 (.ref 435), kE P z77 1254 (.str z214 1250), kE P z124 1255 (.int 7 1251), kE P z125 1256 (.int 1 1252)]⟩ 4, ⟨[]⟩⟩
noncomputable def o437 (P : Params) : Obj := ⟨.type "dict", none, .dict ⟨[kE P z77 1271 (.str z215 1263), kE P z124 1273 (.int 8 1264), kE P z125 1275 (.int 6 1265)]⟩ 3, ⟨[]⟩⟩
noncomputable def o438 (P : Params) : Obj := ⟨.ref 218, (some (437)), .plain, ⟨[]⟩⟩
noncomputable def o439 (P : Params) : Obj := ⟨.type "frame", none, .dict ⟨[kE P z70 1266 (.ref 438), kE P z77 1267 (.str z215 1263), kE P z124 1268 (.int 8 1264), kE P z125 1269 (.int 6 1265)]⟩ 4, ⟨[]⟩⟩
noncomputable def o440 (P : Params) : Obj := ⟨.type "dict", none, .dict ⟨[kE P z77 1284 (.str z216 1276), kE P z124 1286 (.int 8 1277), kE P z125 1288 (.int 3 1278)]⟩ 3, ⟨[]⟩⟩
noncomputable def o441 (P : Params) : Obj := ⟨.ref 218, (some (440)), .plain, ⟨[]⟩⟩
noncomputable def o442 (P : Params) : Obj := ⟨.type "frame", none, .dict ⟨[kE P z70 1279 (.ref 441), kE P z77 1280 (.str z216 1276), kE P z124 1281 (.int 8 1277), kE P z125 1282 (.int 3 1278)]⟩ 4, ⟨[]⟩⟩
noncomputable def o443 (P : Params) : Obj := ⟨.type "dict", none, .dict ⟨[kE P z77 1297 (.str z217 1289), kE P z124 1299 (.int 7 1290), kE P z125 1301 (.int 5 1291)]⟩ 3, ⟨[]⟩⟩
noncomputable def o444 (P : Params) : Obj := ⟨.ref 218, (some (443)), .plain, ⟨[]⟩⟩
noncomputable def o445 (P : Params) : Obj := ⟨.type "frame", none, .dict ⟨[kE P z70 1292 (.ref 444), kE P z77 1293 (.str z217 1289), kE P z124 1294 (.int 7 1290), kE P z125 1295 (.int 5 1291)]⟩ 4, ⟨[]⟩⟩
noncomputable def o446 (P : Params) : Obj := ⟨.type "dict", none, .dict ⟨[kE P z77 1311 (.str z218 1302), kE P z124 1313 (.int (-1) 1304), kE P z125 1315 (.int 4 1305)]⟩ 3, ⟨[]⟩⟩
noncomputable def o447 (P : Params) : Obj := ⟨.ref 218, (some (446)), .plain, ⟨[]⟩⟩
noncomputable def o448 (P : Params) : Obj := ⟨.type "frame", none, .dict ⟨[kE P z70 1306 (.ref 447), kE P z77 1307 (.str z218 1302), kE P z124 1308 (.int (-1) 1304), kE P z125 1309 (.int 4 1305)]⟩ 4, ⟨[]⟩⟩
noncomputable def o449 (P : Params) : Obj := ⟨.type "dict", none, .dict ⟨[kE P z77 1325 (.str z219 1316), kE P z124 1327 (.int (-1) 1318), kE P z125 1329 (.int 5 1319)]⟩ 3, ⟨[]⟩⟩
noncomputable def o450 (P : Params) : Obj := ⟨.ref 218, (some (449)), .plain, ⟨[]⟩⟩
noncomputable def o451 (P : Params) : Obj := ⟨.type "frame", none, .dict ⟨[kE P z70 1320 (.ref 450), kE P z77 1321 (.str z219 1316), kE P z124 1322 (.int (-1) 1318), kE P z125 1323 (.int 5 1319)]⟩ 4, ⟨[]⟩⟩
noncomputable def o452 (P : Params) : Obj := ⟨.type "dict", none, .dict ⟨[kE P z77 1339 (.str z220 1330), kE P z124 1341 (.int (-1) 1332), kE P z125 1343 (.int 6 1333)]⟩ 3, ⟨[]⟩⟩
noncomputable def o453 (P : Params) : Obj := ⟨.ref 218, (some (452)), .plain, ⟨[]⟩⟩
noncomputable def o454 (P : Params) : Obj := ⟨.type "frame", none, .dict ⟨[kE P z70 1334 (.ref 453), kE P z77 1335 (.str z220 1330), kE P z124 1336 (.int (-1) 1332), kE P z125 1337 (.int 6 1333)]⟩ 4, ⟨[]⟩⟩
noncomputable def o455 (P : Params) : Obj := ⟨.type "dict", none, .dict ⟨[kE P z77 1353 (.str z221 1344), kE P z124 1355 (.int (-1) 1346), kE P z125 1357 (.int 1 1347)]⟩ 3, ⟨[]⟩⟩
noncomputable def o456 (P : Params) : Obj := ⟨.ref 218, (some (455)), .plain, ⟨[]⟩⟩
noncomputable def o457 (P : Params) : Obj := ⟨.type "frame", none, .dict ⟨[kE P z70 1348 (.ref 456), kE P z77 1349 (.str z221 1344), kE P z124 1350 (.int (-1) 1346), kE P z125 1351 (.int 1 1347)]⟩ 4, ⟨[]⟩⟩
noncomputable def o458 (P : Params) : Obj := ⟨.type "dict", none, .dict ⟨[kE P z77 1366 (.str z222 1358), kE P z124 1368 (.int 15 1359), kE P z125 1370 (.int 1 1360)]⟩ 3, ⟨[]⟩⟩
noncomputable def o459 (P : Params) : Obj := ⟨.ref 218, (some (458)), .plain, ⟨[]⟩⟩
noncomputable def o460 (P : Params) : Obj := ⟨.type "frame", none, .dict ⟨[kE P z70 1361 (.ref 459), kE P z77 1362 (.str z222 1358), kE P z124 1363 (.int 15 1359), kE P z125 1364 (.int 1 1360)]⟩ 4, ⟨[]⟩⟩
noncomputable def o461 (P : Params) : Obj := ⟨.type "dict", none, .dict ⟨[kE P z77 1380 (.str z223 1371), kE P z124 1382 (.int (-1) 1373), kE P z125 1384 (.int 3 1374)]⟩ 3, ⟨[]⟩⟩
noncomputable def o462 (P : Params) : Obj := ⟨.ref 218, (some (461)), .plain, ⟨[]⟩⟩
noncomputable def o463 (P : Params) : Obj := ⟨.type "frame", none, .dict ⟨[kE P z70 1375 (.ref 462), kE P z77 1376 (.str z223 1371), kE P z124 1377 (.int (-1) 1373), kE P z125 1378 (.int 3 1374)]⟩ 4, ⟨[]⟩⟩
noncomputable def o464 (P : Params) : Obj := ⟨.type "dict", none, .dict ⟨[kE P z77 1394 (.str z224 1385), kE P z124 1396 (.int (-1) 1387), kE P z125 1398 (.int 3 1388)]⟩ 3, ⟨[]⟩⟩
noncomputable def o465 (P : Params) : Obj := ⟨.ref 218, (some (464)), .plain, ⟨[]⟩⟩
noncomputable def o466 (P : Params) : Obj := ⟨.type "frame", none, .dict ⟨[kE P z70 1389 (.ref 465), kE P z77 1390 (.str z224 1385), kE P z124 1391 (.int (-1) 1387), kE P z125 1392 (.int 3 1388)]⟩ 4, ⟨[]⟩⟩
noncomputable def o467 (P : Params) : Obj := ⟨.type "dict", none, .dict ⟨[kE P z77 1408 (.str z225 1399), kE P z124 1410 (.int (-1) 1401), kE P z125 1412 (.int 1 1402)]⟩ 3, ⟨[]⟩⟩
noncomputable def o468 (P : Params) : Obj := ⟨.ref 218, (some (467)), .plain, ⟨[]⟩⟩
noncomputable def o469 (P : Params) : Obj := ⟨.type "frame", none, .dict ⟨[kE P z70 1403 (.ref 468), kE P z77 1404 (.str z225 1399), kE P z124 1405 (.int (-1) 1401), kE P z125 1406 (.int 1 1402)]⟩ 4, ⟨[]⟩⟩
noncomputable def o470 (P : Params) : Obj := ⟨.type "dict", none, .dict ⟨[kE P z77 1421 (.str z226 1413), kE P z124 1423 (.int 19 1414), kE P z125 1425 (.int 2 1415)]⟩ 3, ⟨[]⟩⟩
noncomputable def o471 (P : Params) : Obj := ⟨.ref 218, (some (470)), .plain, ⟨[]⟩⟩
noncomputable def o472 (P : Params) : Obj := ⟨.type "frame", none, .dict ⟨[kE P z70 1416 (.ref 471), kE P z77 1417 (.str z226 1413), kE P z124 1418 (.int 19 1414), kE P z125 1419 (.int 2 1415)]⟩ 4, ⟨[]⟩⟩
noncomputable def o473 (P : Params) : Obj := ⟨.type "dict", none, .dict ⟨[kE P z77 1434 (.str z227 1426), kE P z124 1436 (.int 19 1427), kE P z125 1438 (.int 1 1428)]⟩ 3, ⟨[]⟩⟩
noncomputable def o474 (P : Params) : Obj := ⟨.ref 218, (some (473)), .plain, ⟨[]⟩⟩
noncomputable def o475 (P : Params) : Obj := ⟨.type "frame", none, .dict ⟨[kE P z70 1429 (.ref 474), kE P z77 1430 (.str z227 1426), kE P z124 1431 (.int 19 1427), kE P z125 1432 (.int 1 1428)]⟩ 4, ⟨[]⟩⟩
noncomputable def o476 (P : Params) : Obj := ⟨.type "dict", none, .dict ⟨[kE P z77 1448 (.str z228 1439), kE P z124 1450 (.int (-1) 1441), kE P z125 1452 (.int 4 1442)]⟩ 3, ⟨[]⟩⟩
noncomputable def o477 (P : Params) : Obj := ⟨.ref 218, (some (476)), .plain, ⟨[]⟩⟩
noncomputable def o478 (P : Params) : Obj := ⟨.type "frame", none, .dict ⟨[kE P z70 1443 (.ref 477), kE P z77 1444 (.str z228 1439), kE P z124 1445 (.int (-1) 1441), kE P z125 1446 (.int 4 1442)]⟩ 4, ⟨[]⟩⟩
noncomputable def o479 (P : Params) : Obj := ⟨.type "dict", none, .dict ⟨[kE P z77 1462 (.str z229 1453), kE P z124 1464 (.int (-1) 1455), kE P z125 1466 (.int 2 1456)]⟩ 3, ⟨[]⟩⟩
noncomputable def o480 (P : Params) : Obj := ⟨.ref 218, (some (479)), .plain, ⟨[]⟩⟩
noncomputable def o481 (P : Params) : Obj := ⟨.type "frame", none, .dict ⟨[kE P z70 1457 (.ref 480), kE P z77 1458 (.str z229 1453), kE P z124 1459 (.int (-1) 1455), kE P z125 1460 (.int 2 1456)]⟩ 4, ⟨[]⟩⟩
noncomputable def o482 (P : Params) : Obj := ⟨.type "dict", none, .dict ⟨[kE P z77 1476 (.str z230 1467), kE P z124 1478 (.int (-1) 1469), kE P z125 1480 (.int 4 1470)]⟩ 3, ⟨[]⟩⟩
noncomputable def o483 (P : Params) : Obj := ⟨.ref 218, (some (482)), .plain, ⟨[]⟩⟩
noncomputable def o484 (P : Params) : Obj := ⟨.type "frame", none, .dict ⟨[kE P z70 1471 (.ref 483), kE P z77 1472 (.str z230 1467), kE P z124 1473 (.int (-1) 1469), kE P z125 1474 (.int 4 1470)]⟩ 4, ⟨[]⟩⟩
noncomputable def o485 (P : Params) : Obj := ⟨.type "list", none, .seq ⟨[.ref 411, .ref 414, .ref 417, .ref 420, .ref 423, .ref 426, .ref 429, .ref 432, .ref 435, .ref 438, .ref 441, .ref 444, .ref 447, .ref 450, .ref 453, .ref 456, .ref 459, .ref 462, .ref 465, .ref 468, .ref 471, .ref 474, .ref 477, .ref 480, .ref 483]⟩ 0, ⟨[]⟩⟩
noncomputable def o486 (P : Params) : Obj := ⟨.type "dict", none, .dict ⟨[kE P z77 1491 (.str z231 1482), kE P z124 1493 (.int (-1) 1484), kE P z125 1495 (.int 1 1485)]⟩ 3, ⟨[]⟩⟩
noncomputable def o487 (P : Params) : Obj := ⟨.ref 218, (some (486)), .plain, ⟨[]⟩⟩
noncomputable def o488 (P : Params) : Obj := ⟨.type "frame", none, .dict ⟨[kE P z70 1486 (.ref 487), kE P z77 1487 (.str z231 1482), kE P z124 1488 (.int (-1) 1484), kE P z125 1489 (.int 1 1485)]⟩ 4, ⟨[]⟩⟩
noncomputable def o489 (P : Params) : Obj := ⟨.type "dict", none, .dict ⟨[kE P z77 1504 (.str z232 1496), kE P z124 1506 (.int 0 1497), kE P z125 1508 (.int 1 1498)]⟩ 3, ⟨[]⟩⟩
noncomputable def o490 (P : Params) : Obj := ⟨.ref 218, (some (489)), .plain, ⟨[]⟩⟩
noncomputable def o491 (P : Params) : Obj := ⟨.type "frame", none, .dict ⟨[kE P z70 1499 (.ref 490), kE P z77 1500 (.str z232 1496), kE P z124 1501 (.int 0 1497), kE P z125 1502 (.int 1 1498)]⟩ 4, ⟨[]⟩⟩
noncomputable def o492 (P : Params) : Obj := ⟨.type "dict", none, .dict ⟨[kE P z77 1518 (.str z233 1509), kE P z124 1520 (.int (-1) 1511), kE P z125 1522 (.int 1 1512)]⟩ 3, ⟨[]⟩⟩
noncomputable def o493 (P : Params) : Obj := ⟨.ref 218, (some (492)), .plain, ⟨[]⟩⟩
noncomputable def o494 (P : Params) : Obj := ⟨.type "frame", none, .dict ⟨[kE P z70 1513 (.ref 493), kE P z77 1514 (.str z233 1509), kE P z124 1515 (.int (-1) 1511), kE P z125 1516 (.int 1 1512)]⟩ 4, ⟨[]⟩⟩
noncomputable def o495 (P : Params) : Obj := ⟨.type "dict", none, .dict ⟨[kE P z77 1531 (.str z234 1523), kE P z124 1533 (.int 2 1524), kE P z125 1535 (.int 1 1525)]⟩ 3, ⟨[]⟩⟩
noncomputable def o496 (P : Params) : Obj := ⟨.ref 218, (some (495)), .plain, ⟨[]⟩⟩
noncomputable def o497 (P : Params) : Obj := ⟨.type "frame", none, .dict ⟨[kE P z70 1526 (.ref 496), kE P z77 1527 (.str z234 1523), kE P z124 1528 (.int 2 1524), kE P z125 1529 (.int 1 1525)]⟩ 4, ⟨[]⟩⟩
noncomputable def o498 (P : Params) : Obj := ⟨.type "dict", none, .dict ⟨[kE P z77 1545 (.str z235 1536), kE P z124 1547 (.int (-1) 1538), kE P z125 1549 (.int 2 1539)]⟩ 3, ⟨[]⟩⟩
noncomputable def o499 (P : Params) : Obj := ⟨.ref 218, (some (498)), .plain, ⟨[]⟩⟩
noncomputable def o500 (P : Params) : Obj := ⟨.type "frame", none, .dict ⟨[kE P z70 1540 (.ref 499), kE P z77 1541 (.str z235 1536), kE P z124 1542 (.int (-1) 1538), kE P z125 1543 (.int 2 1539)]⟩ 4, ⟨[]⟩⟩
noncomputable def o501 (P : Params) : Obj := ⟨.type "dict", none, .dict ⟨[kE P z77 1558 (.str z236 1550), kE P z124 1560 (.int 4 1551), kE P z125 1562 (.int 2 1552)]⟩ 3, ⟨[]⟩⟩
noncomputable def o502 (P : Params) : Obj := ⟨.ref 218, (some (501)), .plain, ⟨[]⟩⟩
noncomputable def o503 (P : Params) : Obj := ⟨.type "frame", none, .dict ⟨[kE P z70 1553 (.ref 502), kE P z77 1554 (.str z236 1550), kE P z124 1555 (.int 4 1551), kE P z125 1556 (.int 2 1552)]⟩ 4, ⟨[]⟩⟩
noncomputable def o504 (P : Params) : Obj := ⟨.type "dict", none, .dict ⟨[kE P z77 1572 (.str z237 1563), kE P z124 1574 (.int (-1) 1565), kE P z125 1576 (.int 1 1566)]⟩ 3, ⟨[]⟩⟩
noncomputable def o505 (P : Params) : Obj := ⟨.ref 218, (some (504)), .plain, ⟨[]⟩⟩
noncomputable def o506 (P : Params) : Obj := ⟨.type "frame", none, .dict ⟨[kE P z70 1567 (.ref 505), kE P z77 1568 (.str z237 1563), kE P z124 1569 (.int (-1) 1565), kE P z125 1570 (.int 1 1566)]⟩ 4, ⟨[]⟩⟩
noncomputable def o507 (P : Params) : Obj := ⟨.type "dict", none, .dict ⟨[kE P z77 1586 (.str z238 1577), kE P z124 1588 (.int (-1) 1579), kE P z125 1590 (.int 1 1580)]⟩ 3, ⟨[]⟩⟩
noncomputable def o508 (P : Params) : Obj := ⟨.ref 218, (some (507)), .plain, ⟨[]⟩⟩
noncomputable def o509 (P : Params) : Obj := ⟨.type "frame", none, .dict ⟨[kE P z70 1581 (.ref 508), kE P z77 1582 (.str z238 1577), kE P z124 1583 (.int (-1) 1579), kE P z125 1584 (.int 1 1580)]⟩ 4, ⟨[]⟩⟩
noncomputable def o510 (P : Params) : Obj := ⟨.type "dict", none, .dict ⟨[kE P z77 1600 (.str z239 1591), kE P z124 1602 (.int (-1) 1593), kE P z125 1604 (.int 2 1594)]⟩ 3, ⟨[]⟩⟩
noncomputable def o511 (P : Params) : Obj := ⟨.ref 218, (some (510)), .plain, ⟨[]⟩⟩
noncomputable def o512 (P : Params) : Obj := ⟨.type "frame", none, .dict ⟨[kE P z70 1595 (.ref 511), kE P z77 1596 (.str z239 1591), kE P z124 1597 (.int (-1) 1593), kE P z125 1598 (.int 2 1594)]⟩ 4, ⟨[]⟩⟩
noncomputable def o513 (P : Params) : Obj := ⟨.type "dict", none, .dict ⟨[kE P z77 1614 (.str z240 1605), kE P z124 1616 (.int (-1) 1607), kE P z125 1618 (.int 2 1608)]⟩ 3, ⟨[]⟩⟩
noncomputable def o514 (P : Params) : Obj := ⟨.ref 218, (some (513)), .plain, ⟨[]⟩⟩
noncomputable def o515 (P : Params) : Obj := ⟨.type "frame", none, .dict ⟨[kE P z70 1609 (.ref 514), kE P z77 1610 (.str z240 1605), kE P z124 1611 (.int (-1) 1607), kE P z125 1612 (.int 2 1608)]⟩ 4, ⟨[]⟩⟩
noncomputable def o516 (P : Params) : Obj := ⟨.type "dict", none, .dict ⟨[kE P z77 1628 (.str z241 1619), kE P z124 1630 (.int (-1) 1621), kE P z125 1632 (.int 2 1622)]⟩ 3, ⟨[]⟩⟩
noncomputable def o517 (P : Params) : Obj := ⟨.ref 218, (some (516)), .plain, ⟨[]⟩⟩
noncomputable def o518 (P : Params) : Obj := ⟨.type "frame", none, .dict ⟨[kE P z70 1623 (.ref 517), kE P z77 1624 (.str z241 1619), kE P z124 1625 (.int (-1) 1621), kE P z125 1626 (.int 2 1622)]⟩ 4, ⟨[]⟩⟩
noncomputable def o519 (P : Params) : Obj := ⟨.type "dict", none, .dict ⟨[kE P z77 1642 (.str z242 1633), kE P z124 1644 (.int (-1) 1635), kE P z125 1646 (.int 2 1636)]⟩ 3, ⟨[]⟩⟩
noncomputable def o520 (P : Params) : Obj := ⟨.ref 218, (some (519)), .plain, ⟨[]⟩⟩
noncomputable def o521 (P : Params) : Obj := ⟨.type "frame", none, .dict ⟨[kE P z70 1637 (.ref 520), kE P z77 1638 (.str z242 1633), kE P z124 1639 (.int (-1) 1635), kE P z125 1640 (.int 2 1636)]⟩ 4, ⟨[]⟩⟩
noncomputable def o522 (P : Params) : Obj := ⟨.type "list", none, .seq ⟨[.ref 487, .ref 490, .ref 493, .ref 496, .ref 499, .ref 502, .ref 505, .ref 508, .ref 511, .ref 514, .ref 517, .ref 520]⟩ 0, ⟨[]⟩⟩
noncomputable def o523 (P : Params) : Obj := ⟨.type "tuple", none, .seq ⟨[.str z130 1648, .str z129 1649, .str z131 1650, .str z115 1651, .str z117 1652, .str z118 1653, .str z120 1654]⟩ 0, ⟨[]⟩⟩
noncomputable def o524 (P : Params) : Obj := ⟨.type "dict", none, .dict ⟨[kE P z41 480 (.str z127 471), kE P z44 484 (.int 197 483), kE P z128 505 (.ref 230), kE P z129 507 (.int 0 506), kE P z130 509 (.int 0 508), kE P z131 511 (.int 0 510), kE P z132 519 (.ref 237), kE P z133 527 (.ref 244), kE P z134 534 (.ref 251), kE P z135 541 (.ref 258), kE P z136 549 (.ref 265), kE P z137 557 (.ref 272), kE P z138 565 (.ref 279), kE P z139 576 (.ref 286), kE P z140 911 (.ref 359), kE P z141 922 (.ref 360), kE P z142 1139 (.ref 409), kE P z143 1481 (.ref 485), kE P z144 1647 (.ref 522), kE P z69 1655 (.ref 523), kE P z4 1656 (.none)]⟩ 2, ⟨[]⟩⟩
noncomputable def o525 (P : Params) : Obj := ⟨.type "type", none, .cls { name := z16, bases := [.ref 197], mro := [.ref 525, .ref 197, .type "object"], ns := 524, qualname := z16, hasDict := true, slotNames := [], subclasses := [], abstract := false, collection := none, hasDel := false }, ⟨[(some (.ref 223)), none, (some (.str z16 473)), (some (.str z16 481)), (some (.builtin "object.__new__")), (some (.bool true))]⟩⟩
noncomputable def o526 (P : Params) : Obj := ⟨.type "super", none, .fields ⟨[.ref 525, .ref 525, .ref 525]⟩, ⟨[]⟩⟩
noncomputable def o527 (P : Params) : Obj := ⟨.type "builtin_function_or_method", none, .fields ⟨[.builtin "object.__init_subclass__", .ref 525]⟩, ⟨[]⟩⟩
noncomputable def o528 (P : Params) : Obj := ⟨.type "tuple", none, .seq ⟨[.type "Exception"]⟩ 0, ⟨[]⟩⟩
noncomputable def o529 (P : Params) : Obj := ⟨.type "builtin_function_or_method", none, .fields ⟨[.builtin "type.__prepare__", .type "type"]⟩, ⟨[]⟩⟩
noncomputable def o530 (P : Params) : Obj := ⟨.type "dict", none, .dict ⟨[kE P z41 1666 (.str z127 471), kE P z43 1668 (.str z17 1667), kE P z44 1670 (.int 321 1669), kE P z69 1671 (.ref 535)]⟩ 4, ⟨[]⟩⟩
noncomputable def o531 (P : Params) : Obj := ⟨.type "tuple", none, .seq ⟨[]⟩ 0, ⟨[]⟩⟩
noncomputable def o532 (P : Params) : Obj := ⟨.none, none, .fields ⟨[]⟩, ⟨[]⟩⟩
noncomputable def o533 (P : Params) : Obj := ⟨.type "code", none, .fields ⟨[.str z17 1661, .str z17 1662, .str z11 1663, .int 321 0, .int 0 0, .int 0 0, .int 0 0, .int 0 0, .ref 531, .bool false, .int 181 0, .ref 532, .none, .none, .none, .none, .int 1664 0, .int 321 0, .str z11 1665]⟩, ⟨[]⟩⟩
noncomputable def o534 (P : Params) : Obj := ⟨.type "frame", none, .plain, ⟨[(some (.ref 533)), (some (.ref 3)), (some (.ref 530)), none, (some (.str z127 471)), none, (some (.ref 0))]⟩⟩
noncomputable def o535 (P : Params) : Obj := ⟨.type "tuple", none, .seq ⟨[]⟩ 0, ⟨[]⟩⟩
noncomputable def o536 (P : Params) : Obj := ⟨.type "dict", none, .dict ⟨[kE P z41 1666 (.str z127 471), kE P z44 1670 (.int 321 1669), kE P z69 1671 (.ref 535), kE P z122 1673 (.ref 538), kE P z4 1674 (.none)]⟩ 3, ⟨[]⟩⟩
noncomputable def o537 (P : Params) : Obj := ⟨.type "type", none, .cls { name := z17, bases := [.type "Exception"], mro := [.ref 537, .type "Exception", .type "BaseException", .type "object"], ns := 536, qualname := z17, hasDict := true, slotNames := [], subclasses := [], abstract := false, collection := none, hasDel := false }, ⟨[(some (.ref 528)), none, (some (.str z17 1659)), (some (.str z17 1667)), (some (.builtin "Exception.__new__")), (some (.bool true))]⟩⟩
noncomputable def o538 (P : Params) : Obj := ⟨.type "getset_descriptor", none, .fields ⟨[.str z122 1672, .ref 537, .builtin "ExceptionGroup.__weakref__", .none]⟩, ⟨[]⟩⟩
noncomputable def o539 (P : Params) : Obj := ⟨.type "super", none, .fields ⟨[.ref 537, .ref 537, .ref 537]⟩, ⟨[]⟩⟩
noncomputable def o540 (P : Params) : Obj := ⟨.type "builtin_function_or_method", none, .fields ⟨[.builtin "object.__init_subclass__", .ref 537]⟩, ⟨[]⟩⟩
noncomputable def o541 (P : Params) : Obj := ⟨.type "tuple", none, .seq ⟨[]⟩ 0, ⟨[]⟩⟩
noncomputable def o542 (P : Params) : Obj := ⟨.none, none, .fields ⟨[]⟩, ⟨[]⟩⟩
noncomputable def o543 (P : Params) : Obj := ⟨.type "tuple", none, .seq ⟨[]⟩ 0, ⟨[]⟩⟩
noncomputable def o544 (P : Params) : Obj := ⟨.type "tuple", none, .seq ⟨[]⟩ 0, ⟨[]⟩⟩
noncomputable def o545 (P : Params) : Obj := ⟨.none, none, .func (fO z28 z28 (tb 14) 0 [] (.none) (.none) (.none) (.none) none (.none) (.none) 0), ⟨[]⟩⟩
noncomputable def o546 (P : Params) : Obj := ⟨.type "code", none, .fields ⟨[.str z28 1691, .str z28 1692, .str z11 1693, .int 329 0, .int 0 0, .int 0 0, .int 0 0, .int 3 0, .ref 541, .bool true, .int 181 0, .ref 542, .none, .ref 543, .ref 544, .ref 545, .int 1694 0, .int 329 0, .str z11 1695]⟩, ⟨[]⟩⟩
noncomputable def o547 (P : Params) : Obj := ⟨.type "function", none, .func (fO z28 z28 (tb 14) 3 [] (.none) (.none) (.none) (.str z3 1679) none (.ref 546) (.none) 0), ⟨[]⟩⟩
noncomputable def o548 (P : Params) : Obj := ⟨.type "tuple", none, .seq ⟨[]⟩ 0, ⟨[]⟩⟩
noncomputable def o549 (P : Params) : Obj := ⟨.none, none, .fields ⟨[]⟩, ⟨[]⟩⟩
noncomputable def o550 (P : Params) : Obj := ⟨.type "tuple", none, .seq ⟨[]⟩ 0, ⟨[]⟩⟩
noncomputable def o551 (P : Params) : Obj := ⟨.type "tuple", none, .seq ⟨[]⟩ 0, ⟨[]⟩⟩
noncomputable def o552 (P : Params) : Obj := ⟨.none, none, .func (fO z29 z29 (tb 15) 0 [] (.none) (.none) (.none) (.none) none (.none) (.none) 0), ⟨[]⟩⟩
noncomputable def o553 (P : Params) : Obj := ⟨.type "code", none, .fields ⟨[.str z29 1697, .str z29 1698, .str z11 1699, .int 331 0, .int 0 0, .int 0 0, .int 0 0, .int 3 0, .ref 548, .bool true, .int 181 0, .ref 549, .none, .ref 550, .ref 551, .ref 552, .int 1700 0, .int 331 0, .str z11 1701]⟩, ⟨[]⟩⟩
noncomputable def o554 (P : Params) : Obj := ⟨.type "function", none, .func (fO z29 z29 (tb 15) 3 [] (.none) (.none) (.none) (.str z3 1679) none (.ref 553) (.none) 0), ⟨[]⟩⟩
noncomputable def o555 (P : Params) : Obj := ⟨.type "tuple", none, .seq ⟨[]⟩ 0, ⟨[]⟩⟩
noncomputable def o556 (P : Params) : Obj := ⟨.none, none, .fields ⟨[]⟩, ⟨[]⟩⟩
noncomputable def o557 (P : Params) : Obj := ⟨.type "tuple", none, .seq ⟨[]⟩ 0, ⟨[]⟩⟩
noncomputable def o558 (P : Params) : Obj := ⟨.type "tuple", none, .seq ⟨[]⟩ 0, ⟨[]⟩⟩
noncomputable def o559 (P : Params) : Obj := ⟨.none, none, .func (fO z30 z30 (tb 16) 0 [] (.none) (.none) (.none) (.none) none (.none) (.none) 0), ⟨[]⟩⟩
noncomputable def o560 (P : Params) : Obj := ⟨.type "code", none, .fields ⟨[.str z30 1703, .str z30 1704, .str z11 1705, .int 333 0, .int 0 0, .int 0 0, .int 0 0, .int 3 0, .ref 555, .bool true, .int 181 0, .ref 556, .none, .ref 557, .ref 558, .ref 559, .int 1706 0, .int 333 0, .str z11 1707]⟩, ⟨[]⟩⟩
noncomputable def o561 (P : Params) : Obj := ⟨.type "function", none, .func (fO z30 z30 (tb 16) 3 [] (.none) (.none) (.none) (.str z3 1679) none (.ref 560) (.none) 0), ⟨[]⟩⟩
noncomputable def o562 (P : Params) : Obj := ⟨.type "tuple", none, .seq ⟨[]⟩ 0, ⟨[]⟩⟩
noncomputable def o563 (P : Params) : Obj := ⟨.none, none, .fields ⟨[]⟩, ⟨[]⟩⟩
noncomputable def o564 (P : Params) : Obj := ⟨.type "tuple", none, .seq ⟨[]⟩ 0, ⟨[]⟩⟩
noncomputable def o565 (P : Params) : Obj := ⟨.type "tuple", none, .seq ⟨[]⟩ 0, ⟨[]⟩⟩
noncomputable def o566 (P : Params) : Obj := ⟨.none, none, .func (fO z31 z31 (tb 17) 0 [] (.none) (.none) (.none) (.none) none (.none) (.none) 0), ⟨[]⟩⟩
noncomputable def o567 (P : Params) : Obj := ⟨.type "code", none, .fields ⟨[.str z31 1709, .str z31 1710, .str z11 1711, .int 335 0, .int 0 0, .int 0 0, .int 0 0, .int 3 0, .ref 562, .bool true, .int 181 0, .ref 563, .none, .ref 564, .ref 565, .ref 566, .int 1712 0, .int 335 0, .str z11 1713]⟩, ⟨[]⟩⟩
noncomputable def o568 (P : Params) : Obj := ⟨.type "function", none, .func (fO z31 z31 (tb 17) 3 [] (.none) (.none) (.none) (.str z3 1679) none (.ref 567) (.none) 0), ⟨[]⟩⟩
noncomputable def o569 (P : Params) : Obj := ⟨.type "tuple", none, .seq ⟨[]⟩ 0, ⟨[]⟩⟩
noncomputable def o570 (P : Params) : Obj := ⟨.none, none, .fields ⟨[]⟩, ⟨[]⟩⟩
noncomputable def o571 (P : Params) : Obj := ⟨.type "tuple", none, .seq ⟨[]⟩ 0, ⟨[]⟩⟩
noncomputable def o572 (P : Params) : Obj := ⟨.type "tuple", none, .seq ⟨[]⟩ 0, ⟨[]⟩⟩
noncomputable def o573 (P : Params) : Obj := ⟨.none, none, .func (fO z32 z32 (tb 18) 0 [] (.none) (.none) (.none) (.none) none (.none) (.none) 0), ⟨[]⟩⟩
noncomputable def o574 (P : Params) : Obj := ⟨.type "code", none, .fields ⟨[.str z32 1715, .str z32 1716, .str z11 1717, .int 337 0, .int 0 0, .int 0 0, .int 0 0, .int 3 0, .ref 569, .bool true, .int 181 0, .ref 570, .none, .ref 571, .ref 572, .ref 573, .int 1718 0, .int 337 0, .str z11 1719]⟩, ⟨[]⟩⟩
noncomputable def o575 (P : Params) : Obj := ⟨.type "function", none, .func (fO z32 z32 (tb 18) 3 [] (.none) (.none) (.none) (.str z3 1679) none (.ref 574) (.none) 0), ⟨[]⟩⟩
noncomputable def o576 (P : Params) : Obj := ⟨.type "tuple", none, .seq ⟨[]⟩ 0, ⟨[]⟩⟩
noncomputable def o577 (P : Params) : Obj := ⟨.none, none, .fields ⟨[]⟩, ⟨[]⟩⟩
noncomputable def o578 (P : Params) : Obj := ⟨.type "tuple", none, .seq ⟨[.str z243 1724, .str z244 1725]⟩ 0, ⟨[]⟩⟩
noncomputable def o579 (P : Params) : Obj := ⟨.type "tuple", none, .seq ⟨[]⟩ 0, ⟨[]⟩⟩
noncomputable def o580 (P : Params) : Obj := ⟨.none, none, .func (fO z33 z33 (tb 19) 0 [] (.none) (.none) (.none) (.none) none (.none) (.none) 0), ⟨[]⟩⟩
noncomputable def o581 (P : Params) : Obj := ⟨.type "code", none, .fields ⟨[.str z33 1721, .str z33 1722, .str z11 1723, .int 339 0, .int 2 0, .int 0 0, .int 0 0, .int 3 0, .ref 576, .bool true, .int 181 0, .ref 577, .none, .ref 578, .ref 579, .ref 580, .int 1726 0, .int 339 0, .str z11 1727]⟩, ⟨[]⟩⟩
noncomputable def o582 (P : Params) : Obj := ⟨.type "function", none, .func (fO z33 z33 (tb 19) 3 [] (.none) (.none) (.none) (.str z3 1679) none (.ref 581) (.none) 0), ⟨[]⟩⟩
noncomputable def o583 (P : Params) : Obj := ⟨.type "tuple", none, .seq ⟨[]⟩ 0, ⟨[]⟩⟩
noncomputable def o584 (P : Params) : Obj := ⟨.none, none, .fields ⟨[]⟩, ⟨[]⟩⟩
noncomputable def o585 (P : Params) : Obj := ⟨.type "tuple", none, .seq ⟨[.str z245 1732, .str z40 1733]⟩ 0, ⟨[]⟩⟩
noncomputable def o586 (P : Params) : Obj := ⟨.type "tuple", none, .seq ⟨[]⟩ 0, ⟨[]⟩⟩
noncomputable def o587 (P : Params) : Obj := ⟨.none, none, .func (fO z34 z34 (tb 20) 0 [] (.none) (.none) (.none) (.none) none (.none) (.none) 0), ⟨[]⟩⟩
noncomputable def o588 (P : Params) : Obj := ⟨.type "code", none, .fields ⟨[.str z34 1729, .str z34 1730, .str z11 1731, .int 341 0, .int 1 0, .int 0 0, .int 0 0, .int 3 0, .ref 583, .bool true, .int 181 0, .ref 584, .none, .ref 585, .ref 586, .ref 587, .int 1734 0, .int 341 0, .str z11 1735]⟩, ⟨[]⟩⟩
noncomputable def o589 (P : Params) : Obj := ⟨.type "function", none, .func (fO z34 z34 (tb 20) 3 [] (.none) (.none) (.none) (.str z3 1679) none (.ref 588) (.none) 0), ⟨[]⟩⟩
noncomputable def o590 (P : Params) : Obj := ⟨.type "tuple", none, .seq ⟨[]⟩ 0, ⟨[]⟩⟩
noncomputable def o591 (P : Params) : Obj := ⟨.none, none, .fields ⟨[]⟩, ⟨[]⟩⟩
noncomputable def o592 (P : Params) : Obj := ⟨.none, none, .func (fO z35 z35 (tb 21) 0 [] (.none) (.none) (.none) (.none) none (.none) (.none) 0), ⟨[]⟩⟩
noncomputable def o593 (P : Params) : Obj := ⟨.type "code", none, .fields ⟨[.str z35 1737, .str z35 1738, .str z11 1739, .int 344 0, .int 1 0, .int 0 0, .int 0 0, .int 3 0, .ref 590, .bool true, .int 181 0, .ref 591, .none, .none, .none, .ref 592, .int 1740 0, .int 344 0, .str z11 1741]⟩, ⟨[]⟩⟩
noncomputable def o594 (P : Params) : Obj := ⟨.type "function", none, .func (fO z35 z35 (tb 21) 3 [] (.none) (.none) (.none) (.str z3 1679) none (.ref 593) (.none) 0), ⟨[]⟩⟩
noncomputable def o595 (P : Params) : Obj := ⟨.type "tuple", none, .seq ⟨[]⟩ 0, ⟨[]⟩⟩
noncomputable def o596 (P : Params) : Obj := ⟨.none, none, .fields ⟨[]⟩, ⟨[]⟩⟩
noncomputable def o597 (P : Params) : Obj := ⟨.type "tuple", none, .seq ⟨[.str z245 1746, .str z246 1747, .str z247 1748]⟩ 0, ⟨[]⟩⟩
noncomputable def o598 (P : Params) : Obj := ⟨.type "tuple", none, .seq ⟨[]⟩ 0, ⟨[]⟩⟩
noncomputable def o599 (P : Params) : Obj := ⟨.none, none, .func (fO z36 z36 (tb 22) 0 [] (.none) (.none) (.none) (.none) none (.none) (.none) 0), ⟨[]⟩⟩
noncomputable def o600 (P : Params) : Obj := ⟨.type "code", none, .fields ⟨[.str z36 1743, .str z36 1744, .str z11 1745, .int 350 0, .int 1 0, .int 0 0, .int 0 0, .int 3 0, .ref 595, .bool true, .int 181 0, .ref 596, .none, .ref 597, .ref 598, .ref 599, .int 1749 0, .int 350 0, .str z11 1750]⟩, ⟨[]⟩⟩
noncomputable def o601 (P : Params) : Obj := ⟨.type "function", none, .func (fO z36 z36 (tb 22) 3 [] (.none) (.none) (.none) (.str z3 1679) none (.ref 600) (.none) 0), ⟨[]⟩⟩
noncomputable def o602 (P : Params) : Obj := ⟨.type "tuple", none, .seq ⟨[]⟩ 0, ⟨[]⟩⟩
noncomputable def o603 (P : Params) : Obj := ⟨.none, none, .fields ⟨[]⟩, ⟨[]⟩⟩
noncomputable def o604 (P : Params) : Obj := ⟨.none, none, .func (fO z37 z37 (tb 23) 0 [] (.none) (.none) (.none) (.none) none (.none) (.none) 0), ⟨[]⟩⟩
noncomputable def o605 (P : Params) : Obj := ⟨.type "code", none, .fields ⟨[.str z37 1752, .str z37 1753, .str z11 1754, .int 356 0, .int 1 0, .int 0 0, .int 0 0, .int 3 0, .ref 602, .bool true, .int 181 0, .ref 603, .none, .none, .none, .ref 604, .int 1755 0, .int 356 0, .str z11 1756]⟩, ⟨[]⟩⟩
noncomputable def o606 (P : Params) : Obj := ⟨.type "function", none, .func (fO z37 z37 (tb 23) 3 [] (.none) (.none) (.none) (.str z3 1679) none (.ref 605) (.none) 0), ⟨[]⟩⟩
noncomputable def finT (P : Params) (so : Obj) : BT := (.node (boot_o_0 P) (.node (boot_o_1 P) (.node (o3 P) (.node (boot_o_7 P) (.node (o15 P) (.node (o31 P) (.node (o63 P) (.node (o127 P) (.node (o255 P) (.node (o511 P) .nil .nil) .nil) (.node (o383 P) .nil .nil)) (.node (o191 P) (.node (o319 P) (.node (o575 P) .nil .nil) .nil) (.node (o447 P) .nil .nil))) (.node (o95 P) (.node (o159 P) (.node (o287 P) (.node (o543 P) .nil .nil) .nil) (.node (o415 P) .nil .nil)) (.node (o223 P) (.node (o351 P) .nil .nil) (.node (o479 P) .nil .nil)))) (.node (o47 P) (.node (o79 P) (.node (o143 P) (.node (o271 P) (.node (o527 P) .nil .nil) .nil) (.node (o399 P) .nil .nil)) (.node (o207 P) (.node (o335 P) (.node (o591 P) .nil .nil) .nil) (.node (o463 P) .nil .nil))) (.node (o111 P) (.node (o175 P) (.node (o303 P) (.node (o559 P) .nil .nil) .nil) (.node (o431 P) .nil .nil)) (.node (o239 P) (.node (o367 P) .nil .nil) (.node (o495 P) .nil .nil))))) (.node (o23 P) (.node (o39 P) (.node (o71 P) (.node (o135 P) (.node (o263 P) (.node (o519 P) .nil .nil) .nil) (.node (o391 P) .nil .nil)) (.node (o199 P) (.node (o327 P) (.node (o583 P) .nil .nil) .nil) (.node (o455 P) .nil .nil))) (.node (o103 P) (.node (o167 P) (.node (o295 P) (.node (o551 P) .nil .nil) .nil) (.node (o423 P) .nil .nil)) (.node (o231 P) (.node (o359 P) .nil .nil) (.node (o487 P) .nil .nil)))) (.node (o55 P) (.node (o87 P) (.node (o151 P) (.node (o279 P) (.node (o535 P) .nil .nil) .nil) (.node (o407 P) .nil .nil)) (.node (o215 P) (.node (o343 P) (.node (o599 P) .nil .nil) .nil) (.node (o471 P) .nil .nil))) (.node (o119 P) (.node (o183 P) (.node (o311 P) (.node (o567 P) .nil .nil) .nil) (.node (o439 P) .nil .nil)) (.node (o247 P) (.node (o375 P) .nil .nil) (.node (o503 P) .nil .nil)))))) (.node (o11 P) (.node (o19 P) (.node (o35 P) (.node (o67 P) (.node (o131 P) (.node (o259 P) (.node (o515 P) .nil .nil) .nil) (.node (o387 P) .nil .nil)) (.node (o195 P) (.node (o323 P) (.node (o579 P) .nil .nil) .nil) (.node (o451 P) .nil .nil))) (.node (o99 P) (.node (o163 P) (.node (o291 P) (.node (o547 P) .nil .nil) .nil) (.node (o419 P) .nil .nil)) (.node (o227 P) (.node (o355 P) .nil .nil) (.node (o483 P) .nil .nil)))) (.node (o51 P) (.node (o83 P) (.node (o147 P) (.node (o275 P) (.node (o531 P) .nil .nil) .nil) (.node (o403 P) .nil .nil)) (.node (o211 P) (.node (o339 P) (.node (o595 P) .nil .nil) .nil) (.node (o467 P) .nil .nil))) (.node (o115 P) (.node (o179 P) (.node (o307 P) (.node (o563 P) .nil .nil) .nil) (.node (o435 P) .nil .nil)) (.node (o243 P) (.node (o371 P) .nil .nil) (.node (o499 P) .nil .nil))))) (.node (o27 P) (.node (o43 P) (.node (o75 P) (.node (o139 P) (.node (o267 P) (.node (o523 P) .nil .nil) .nil) (.node (o395 P) .nil .nil)) (.node (o203 P) (.node (o331 P) (.node (o587 P) .nil .nil) .nil) (.node (o459 P) .nil .nil))) (.node (o107 P) (.node (o171 P) (.node (o299 P) (.node (o555 P) .nil .nil) .nil) (.node (o427 P) .nil .nil)) (.node (o235 P) (.node (o363 P) .nil .nil) (.node (o491 P) .nil .nil)))) (.node (o59 P) (.node (o91 P) (.node (o155 P) (.node (o283 P) (.node (o539 P) .nil .nil) .nil) (.node (o411 P) .nil .nil)) (.node (o219 P) (.node (o347 P) (.node (o603 P) .nil .nil) .nil) (.node (o475 P) .nil .nil))) (.node (o123 P) (.node (o187 P) (.node (o315 P) (.node (o571 P) .nil .nil) .nil) (.node (o443 P) .nil .nil)) (.node (o251 P) (.node (o379 P) .nil .nil) (.node (o507 P) .nil .nil))))))) (.node (boot_o_5 P) (.node (boot_o_9 P) (.node (o17 P) (.node (o33 P) (.node (o65 P) (.node (o129 P) (.node (o257 P) (.node (o513 P) .nil .nil) .nil) (.node (o385 P) .nil .nil)) (.node (o193 P) (.node (o321 P) (.node (o577 P) .nil .nil) .nil) (.node (o449 P) .nil .nil))) (.node (o97 P) (.node (o161 P) (.node (o289 P) (.node (o545 P) .nil .nil) .nil) (.node (o417 P) .nil .nil)) (.node (o225 P) (.node (o353 P) .nil .nil) (.node (o481 P) .nil .nil)))) (.node (o49 P) (.node (o81 P) (.node (o145 P) (.node (o273 P) (.node (o529 P) .nil .nil) .nil) (.node (o401 P) .nil .nil)) (.node (o209 P) (.node (o337 P) (.node (o593 P) .nil .nil) .nil) (.node (o465 P) .nil .nil))) (.node (o113 P) (.node (o177 P) (.node (o305 P) (.node (o561 P) .nil .nil) .nil) (.node (o433 P) .nil .nil)) (.node (o241 P) (.node (o369 P) .nil .nil) (.node (o497 P) .nil .nil))))) (.node (o25 P) (.node (o41 P) (.node (o73 P) (.node (o137 P) (.node (o265 P) (.node (o521 P) .nil .nil) .nil) (.node (o393 P) .nil .nil)) (.node (o201 P) (.node (o329 P) (.node (o585 P) .nil .nil) .nil) (.node (o457 P) .nil .nil))) (.node (o105 P) (.node (o169 P) (.node (o297 P) (.node (o553 P) .nil .nil) .nil) (.node (o425 P) .nil .nil)) (.node (o233 P) (.node (o361 P) .nil .nil) (.node (o489 P) .nil .nil)))) (.node (o57 P) (.node (o89 P) (.node (o153 P) (.node (o281 P) (.node (o537 P) .nil .nil) .nil) (.node (o409 P) .nil .nil)) (.node (o217 P) (.node (o345 P) (.node (o601 P) .nil .nil) .nil) (.node (o473 P) .nil .nil))) (.node (o121 P) (.node (o185 P) (.node (o313 P) (.node (o569 P) .nil .nil) .nil) (.node (o441 P) .nil .nil)) (.node (o249 P) (.node (o377 P) .nil .nil) (.node (o505 P) .nil .nil)))))) (.node (o13 P) (.node (o21 P) (.node (o37 P) (.node (o69 P) (.node (o133 P) (.node (o261 P) (.node (o517 P) .nil .nil) .nil) (.node (o389 P) .nil .nil)) (.node (o197 P) (.node (o325 P) (.node (o581 P) .nil .nil) .nil) (.node (o453 P) .nil .nil))) (.node (o101 P) (.node (o165 P) (.node (o293 P) (.node (o549 P) .nil .nil) .nil) (.node (o421 P) .nil .nil)) (.node (o229 P) (.node (o357 P) .nil .nil) (.node (o485 P) .nil .nil)))) (.node (o53 P) (.node (o85 P) (.node (o149 P) (.node (o277 P) (.node (o533 P) .nil .nil) .nil) (.node (o405 P) .nil .nil)) (.node (o213 P) (.node (o341 P) (.node (o597 P) .nil .nil) .nil) (.node (o469 P) .nil .nil))) (.node (o117 P) (.node (o181 P) (.node (o309 P) (.node (o565 P) .nil .nil) .nil) (.node (o437 P) .nil .nil)) (.node (o245 P) (.node (o373 P) .nil .nil) (.node (o501 P) .nil .nil))))) (.node (o29 P) (.node (o45 P) (.node (o77 P) (.node (o141 P) (.node (o269 P) (.node (o525 P) .nil .nil) .nil) (.node (o397 P) .nil .nil)) (.node (o205 P) (.node (o333 P) (.node (o589 P) .nil .nil) .nil) (.node (o461 P) .nil .nil))) (.node (o109 P) (.node (o173 P) (.node (o301 P) (.node (o557 P) .nil .nil) .nil) (.node (o429 P) .nil .nil)) (.node (o237 P) (.node (o365 P) .nil .nil) (.node (o493 P) .nil .nil)))) (.node (o61 P) (.node (o93 P) (.node (o157 P) (.node (o285 P) (.node (o541 P) .nil .nil) .nil) (.node (o413 P) .nil .nil)) (.node (o221 P) (.node (o349 P) (.node (o605 P) .nil .nil) .nil) (.node (o477 P) .nil .nil))) (.node (o125 P) (.node (o189 P) (.node (o317 P) (.node (o573 P) .nil .nil) .nil) (.node (o445 P) .nil .nil)) (.node (o253 P) (.node (o381 P) .nil .nil) (.node (o509 P) .nil .nil)))))))) (.node (o2 P) (.node (boot_o_4 P) (.node (boot_o_8 P) (.node (o16 P) (.node (o32 P) (.node (o64 P) (.node (o128 P) (.node (o256 P) (.node (o512 P) .nil .nil) .nil) (.node (o384 P) .nil .nil)) (.node (o192 P) (.node (o320 P) (.node (o576 P) .nil .nil) .nil) (.node (o448 P) .nil .nil))) (.node (o96 P) (.node (o160 P) (.node (o288 P) (.node (o544 P) .nil .nil) .nil) (.node (o416 P) .nil .nil)) (.node (o224 P) (.node (o352 P) .nil .nil) (.node (o480 P) .nil .nil)))) (.node (o48 P) (.node (o80 P) (.node (o144 P) (.node (o272 P) (.node (o528 P) .nil .nil) .nil) (.node (o400 P) .nil .nil)) (.node (o208 P) (.node (o336 P) (.node (o592 P) .nil .nil) .nil) (.node (o464 P) .nil .nil))) (.node (o112 P) (.node (o176 P) (.node (o304 P) (.node (o560 P) .nil .nil) .nil) (.node (o432 P) .nil .nil)) (.node (o240 P) (.node (o368 P) .nil .nil) (.node (o496 P) .nil .nil))))) (.node (o24 P) (.node (o40 P) (.node (o72 P) (.node (o136 P) (.node (o264 P) (.node (o520 P) .nil .nil) .nil) (.node (o392 P) .nil .nil)) (.node (o200 P) (.node (o328 P) (.node (o584 P) .nil .nil) .nil) (.node (o456 P) .nil .nil))) (.node (o104 P) (.node (o168 P) (.node (o296 P) (.node (o552 P) .nil .nil) .nil) (.node (o424 P) .nil .nil)) (.node (o232 P) (.node (o360 P) .nil .nil) (.node (o488 P) .nil .nil)))) (.node (o56 P) (.node (o88 P) (.node (o152 P) (.node (o280 P) (.node (o536 P) .nil .nil) .nil) (.node (o408 P) .nil .nil)) (.node (o216 P) (.node (o344 P) (.node (o600 P) .nil .nil) .nil) (.node (o472 P) .nil .nil))) (.node (o120 P) (.node (o184 P) (.node (o312 P) (.node (o568 P) .nil .nil) .nil) (.node (o440 P) .nil .nil)) (.node (o248 P) (.node (o376 P) .nil .nil) (.node (o504 P) .nil .nil)))))) (.node (o12 P) (.node (o20 P) (.node (o36 P) (.node (o68 P) (.node (o132 P) (.node (o260 P) (.node (o516 P) .nil .nil) .nil) (.node (o388 P) .nil .nil)) (.node (o196 P) (.node (o324 P) (.node (o580 P) .nil .nil) .nil) (.node (o452 P) .nil .nil))) (.node (o100 P) (.node (o164 P) (.node (o292 P) (.node (o548 P) .nil .nil) .nil) (.node (o420 P) .nil .nil)) (.node (o228 P) (.node (o356 P) .nil .nil) (.node (o484 P) .nil .nil)))) (.node (o52 P) (.node (o84 P) (.node (o148 P) (.node (o276 P) (.node (o532 P) .nil .nil) .nil) (.node (o404 P) .nil .nil)) (.node (o212 P) (.node (o340 P) (.node (o596 P) .nil .nil) .nil) (.node (o468 P) .nil .nil))) (.node (o116 P) (.node (o180 P) (.node (o308 P) (.node (o564 P) .nil .nil) .nil) (.node (o436 P) .nil .nil)) (.node (o244 P) (.node (o372 P) .nil .nil) (.node (o500 P) .nil .nil))))) (.node (o28 P) (.node (o44 P) (.node (o76 P) (.node (o140 P) (.node (o268 P) (.node (o524 P) .nil .nil) .nil) (.node (o396 P) .nil .nil)) (.node (o204 P) (.node (o332 P) (.node (o588 P) .nil .nil) .nil) (.node (o460 P) .nil .nil))) (.node (o108 P) (.node (o172 P) (.node (o300 P) (.node (o556 P) .nil .nil) .nil) (.node (o428 P) .nil .nil)) (.node (o236 P) (.node (o364 P) .nil .nil) (.node (o492 P) .nil .nil)))) (.node (o60 P) (.node (o92 P) (.node (o156 P) (.node (o284 P) (.node (o540 P) .nil .nil) .nil) (.node (o412 P) .nil .nil)) (.node (o220 P) (.node (o348 P) (.node (o604 P) .nil .nil) .nil) (.node (o476 P) .nil .nil))) (.node (o124 P) (.node (o188 P) (.node (o316 P) (.node (o572 P) .nil .nil) .nil) (.node (o444 P) .nil .nil)) (.node (o252 P) (.node (o380 P) .nil .nil) (.node (o508 P) .nil .nil))))))) (.node (boot_o_6 P) (.node (boot_o_10 P) (.node (o18 P) (.node (o34 P) (.node (o66 P) (.node (o130 P) (.node (o258 P) (.node (o514 P) .nil .nil) .nil) (.node (o386 P) .nil .nil)) (.node (o194 P) (.node (o322 P) (.node (o578 P) .nil .nil) .nil) (.node (o450 P) .nil .nil))) (.node (o98 P) (.node (o162 P) (.node (o290 P) (.node (o546 P) .nil .nil) .nil) (.node (o418 P) .nil .nil)) (.node (o226 P) (.node (o354 P) .nil .nil) (.node (o482 P) .nil .nil)))) (.node (o50 P) (.node (o82 P) (.node (o146 P) (.node (o274 P) (.node (o530 P) .nil .nil) .nil) (.node (o402 P) .nil .nil)) (.node (o210 P) (.node (o338 P) (.node (o594 P) .nil .nil) .nil) (.node (o466 P) .nil .nil))) (.node (o114 P) (.node (o178 P) (.node (o306 P) (.node (o562 P) .nil .nil) .nil) (.node (o434 P) .nil .nil)) (.node (o242 P) (.node (o370 P) .nil .nil) (.node (o498 P) .nil .nil))))) (.node (o26 P) (.node (o42 P) (.node (o74 P) (.node (o138 P) (.node (o266 P) (.node (o522 P) .nil .nil) .nil) (.node (o394 P) .nil .nil)) (.node (o202 P) (.node (o330 P) (.node (o586 P) .nil .nil) .nil) (.node (o458 P) .nil .nil))) (.node (o106 P) (.node (o170 P) (.node (o298 P) (.node (o554 P) .nil .nil) .nil) (.node (o426 P) .nil .nil)) (.node (o234 P) (.node (o362 P) .nil .nil) (.node (o490 P) .nil .nil)))) (.node (o58 P) (.node (o90 P) (.node (o154 P) (.node (o282 P) (.node (o538 P) .nil .nil) .nil) (.node (o410 P) .nil .nil)) (.node (o218 P) (.node (o346 P) (.node (o602 P) .nil .nil) .nil) (.node (o474 P) .nil .nil))) (.node (o122 P) (.node (o186 P) (.node (o314 P) (.node (o570 P) .nil .nil) .nil) (.node (o442 P) .nil .nil)) (.node (o250 P) (.node (o378 P) .nil .nil) (.node (o506 P) .nil .nil)))))) (.node (o14 P) (.node (o22 P) (.node (o38 P) (.node (o70 P) (.node (o134 P) (.node (o262 P) (.node (o518 P) .nil .nil) .nil) (.node (o390 P) .nil .nil)) (.node (o198 P) (.node (o326 P) (.node (o582 P) .nil .nil) .nil) (.node (o454 P) .nil .nil))) (.node (o102 P) (.node (o166 P) (.node (o294 P) (.node (o550 P) .nil .nil) .nil) (.node (o422 P) .nil .nil)) (.node so (.node (o358 P) .nil .nil) (.node (o486 P) .nil .nil)))) (.node (o54 P) (.node (o86 P) (.node (o150 P) (.node (o278 P) (.node (o534 P) .nil .nil) .nil) (.node (o406 P) .nil .nil)) (.node (o214 P) (.node (o342 P) (.node (o598 P) .nil .nil) .nil) (.node (o470 P) .nil .nil))) (.node (o118 P) (.node (o182 P) (.node (o310 P) (.node (o566 P) .nil .nil) .nil) (.node (o438 P) .nil .nil)) (.node (o246 P) (.node (o374 P) .nil .nil) (.node (o502 P) .nil .nil))))) (.node (o30 P) (.node (o46 P) (.node (o78 P) (.node (o142 P) (.node (o270 P) (.node (o526 P) .nil .nil) .nil) (.node (o398 P) .nil .nil)) (.node (o206 P) (.node (o334 P) (.node (o590 P) .nil .nil) .nil) (.node (o462 P) .nil .nil))) (.node (o110 P) (.node (o174 P) (.node (o302 P) (.node (o558 P) .nil .nil) .nil) (.node (o430 P) .nil .nil)) (.node (o238 P) (.node (o366 P) .nil .nil) (.node (o494 P) .nil .nil)))) (.node (o62 P) (.node (o94 P) (.node (o158 P) (.node (o286 P) (.node (o542 P) .nil .nil) .nil) (.node (o414 P) .nil .nil)) (.node (o222 P) (.node (o350 P) (.node (o606 P) .nil .nil) .nil) (.node (o478 P) .nil .nil))) (.node (o126 P) (.node (o190 P) (.node (o318 P) (.node (o574 P) .nil .nil) .nil) (.node (o446 P) .nil .nil)) (.node (o254 P) (.node (o382 P) .nil .nil) (.node (o510 P) .nil .nil)))))))))
noncomputable def finL (P : Params) (so : Obj) : List Obj := [(boot_o_0 P), (boot_o_1 P), (o2 P), (o3 P), (boot_o_4 P), (boot_o_5 P), (boot_o_6 P), (boot_o_7 P), (boot_o_8 P), (boot_o_9 P), (boot_o_10 P), (o11 P), (o12 P), (o13 P), (o14 P), (o15 P), (o16 P), (o17 P), (o18 P), (o19 P), (o20 P), (o21 P), (o22 P), (o23 P), (o24 P), (o25 P), (o26 P), (o27 P), (o28 P), (o29 P), (o30 P), (o31 P), (o32 P), (o33 P), (o34 P), (o35 P), (o36 P), (o37 P), (o38 P), (o39 P), (o40 P), (o41 P), (o42 P), (o43 P), (o44 P), (o45 P), (o46 P), (o47 P), (o48 P), (o49 P), (o50 P), (o51 P), (o52 P), (o53 P), (o54 P), (o55 P), (o56 P), (o57 P), (o58 P), (o59 P), (o60 P), (o61 P), (o62 P), (o63 P), (o64 P), (o65 P), (o66 P), (o67 P), (o68 P), (o69 P), (o70 P), (o71 P), (o72 P), (o73 P), (o74 P), (o75 P), (o76 P), (o77 P), (o78 P), (o79 P), (o80 P), (o81 P), (o82 P), (o83 P), (o84 P), (o85 P), (o86 P), (o87 P), (o88 P), (o89 P), (o90 P), (o91 P), (o92 P), (o93 P), (o94 P), (o95 P), (o96 P), (o97 P), (o98 P), (o99 P), (o100 P), (o101 P), (o102 P), (o103 P), (o104 P), (o105 P), (o106 P), (o107 P), (o108 P), (o109 P), (o110 P), (o111 P), (o112 P), (o113 P), (o114 P), (o115 P), (o116 P), (o117 P), (o118 P), (o119 P), (o120 P), (o121 P), (o122 P), (o123 P), (o124 P), (o125 P), (o126 P), (o127 P), (o128 P), (o129 P), (o130 P), (o131 P), (o132 P), (o133 P), (o134 P), (o135 P), (o136 P), (o137 P), (o138 P), (o139 P), (o140 P), (o141 P), (o142 P), (o143 P), (o144 P), (o145 P), (o146 P), (o147 P), (o148 P), (o149 P), (o150 P), (o151 P), (o152 P), (o153 P), (o154 P), (o155 P), (o156 P), (o157 P), (o158 P), (o159 P), (o160 P), (o161 P), (o162 P), (o163 P), (o164 P), (o165 P), (o166 P), (o167 P), (o168 P), (o169 P), (o170 P), (o171 P), (o172 P), (o173 P), (o174 P), (o175 P), (o176 P), (o177 P), (o178 P), (o179 P), (o180 P), (o181 P), (o182 P), (o183 P), (o184 P), (o185 P), (o186 P), (o187 P), (o188 P), (o189 P), (o190 P), (o191 P), (o192 P), (o193 P), (o194 P), (o195 P), (o196 P), (o197 P), (o198 P), (o199 P), (o200 P), (o201 P), (o202 P), (o203 P), (o204 P), (o205 P), (o206 P), (o207 P), (o208 P), (o209 P), (o210 P), (o211 P), (o212 P), (o213 P), (o214 P), (o215 P), (o216 P), (o217 P), (o218 P), (o219 P), (o220 P), (o221 P), (o222 P), (o223 P), (o224 P), (o225 P), (o226 P), (o227 P), (o228 P), (o229 P), so, (o231 P), (o232 P), (o233 P), (o234 P), (o235 P), (o236 P), (o237 P), (o238 P), (o239 P), (o240 P), (o241 P), (o242 P), (o243 P), (o244 P), (o245 P), (o246 P), (o247 P), (o248 P), (o249 P), (o250 P), (o251 P), (o252 P), (o253 P), (o254 P), (o255 P), (o256 P), (o257 P), (o258 P), (o259 P), (o260 P), (o261 P), (o262 P), (o263 P), (o264 P), (o265 P), (o266 P), (o267 P), (o268 P), (o269 P), (o270 P), (o271 P), (o272 P), (o273 P), (o274 P), (o275 P), (o276 P), (o277 P), (o278 P), (o279 P), (o280 P), (o281 P), (o282 P), (o283 P), (o284 P), (o285 P), (o286 P), (o287 P), (o288 P), (o289 P), (o290 P), (o291 P), (o292 P), (o293 P), (o294 P), (o295 P), (o296 P), (o297 P), (o298 P), (o299 P), (o300 P), (o301 P), (o302 P), (o303 P), (o304 P), (o305 P), (o306 P), (o307 P), (o308 P), (o309 P), (o310 P), (o311 P), (o312 P), (o313 P), (o314 P), (o315 P), (o316 P), (o317 P), (o318 P), (o319 P), (o320 P), (o321 P), (o322 P), (o323 P), (o324 P), (o325 P), (o326 P), (o327 P), (o328 P), (o329 P), (o330 P), (o331 P), (o332 P), (o333 P), (o334 P), (o335 P), (o336 P), (o337 P), (o338 P), (o339 P), (o340 P), (o341 P), (o342 P), (o343 P), (o344 P), (o345 P), (o346 P), (o347 P), (o348 P), (o349 P), (o350 P), (o351 P), (o352 P), (o353 P), (o354 P), (o355 P), (o356 P), (o357 P), (o358 P), (o359 P), (o360 P), (o361 P), (o362 P), (o363 P), (o364 P), (o365 P), (o366 P), (o367 P), (o368 P), (o369 P), (o370 P), (o371 P), (o372 P), (o373 P), (o374 P), (o375 P), (o376 P), (o377 P), (o378 P), (o379 P), (o380 P), (o381 P), (o382 P), (o383 P), (o384 P), (o385 P), (o386 P), (o387 P), (o388 P), (o389 P), (o390 P), (o391 P), (o392 P), (o393 P), (o394 P), (o395 P), (o396 P), (o397 P), (o398 P), (o399 P), (o400 P), (o401 P), (o402 P), (o403 P), (o404 P), (o405 P), (o406 P), (o407 P), (o408 P), (o409 P), (o410 P), (o411 P), (o412 P), (o413 P), (o414 P), (o415 P), (o416 P), (o417 P), (o418 P), (o419 P), (o420 P), (o421 P), (o422 P), (o423 P), (o424 P), (o425 P), (o426 P), (o427 P), (o428 P), (o429 P), (o430 P), (o431 P), (o432 P), (o433 P), (o434 P), (o435 P), (o436 P), (o437 P), (o438 P), (o439 P), (o440 P), (o441 P), (o442 P), (o443 P), (o444 P), (o445 P), (o446 P), (o447 P), (o448 P), (o449 P), (o450 P), (o451 P), (o452 P), (o453 P), (o454 P), (o455 P), (o456 P), (o457 P), (o458 P), (o459 P), (o460 P), (o461 P), (o462 P), (o463 P), (o464 P), (o465 P), (o466 P), (o467 P), (o468 P), (o469 P), (o470 P), (o471 P), (o472 P), (o473 P), (o474 P), (o475 P), (o476 P), (o477 P), (o478 P), (o479 P), (o480 P), (o481 P), (o482 P), (o483 P), (o484 P), (o485 P), (o486 P), (o487 P), (o488 P), (o489 P), (o490 P), (o491 P), (o492 P), (o493 P), (o494 P), (o495 P), (o496 P), (o497 P), (o498 P), (o499 P), (o500 P), (o501 P), (o502 P), (o503 P), (o504 P), (o505 P), (o506 P), (o507 P), (o508 P), (o509 P), (o510 P), (o511 P), (o512 P), (o513 P), (o514 P), (o515 P), (o516 P), (o517 P), (o518 P), (o519 P), (o520 P), (o521 P), (o522 P), (o523 P), (o524 P), (o525 P), (o526 P), (o527 P), (o528 P), (o529 P), (o530 P), (o531 P), (o532 P), (o533 P), (o534 P), (o535 P), (o536 P), (o537 P), (o538 P), (o539 P), (o540 P), (o541 P), (o542 P), (o543 P), (o544 P), (o545 P), (o546 P), (o547 P), (o548 P), (o549 P), (o550 P), (o551 P), (o552 P), (o553 P), (o554 P), (o555 P), (o556 P), (o557 P), (o558 P), (o559 P), (o560 P), (o561 P), (o562 P), (o563 P), (o564 P), (o565 P), (o566 P), (o567 P), (o568 P), (o569 P), (o570 P), (o571 P), (o572 P), (o573 P), (o574 P), (o575 P), (o576 P), (o577 P), (o578 P), (o579 P), (o580 P), (o581 P), (o582 P), (o583 P), (o584 P), (o585 P), (o586 P), (o587 P), (o588 P), (o589 P), (o590 P), (o591 P), (o592 P), (o593 P), (o594 P), (o595 P), (o596 P), (o597 P), (o598 P), (o599 P), (o600 P), (o601 P), (o602 P), (o603 P), (o604 P), (o605 P), (o606 P)]

structure StopR (α : Type) where
  c : Code
  h : Option Value
  k : Result → Sem α
  p : Pos
  s : HS
noncomputable abbrev ToR (α : Type) := Option (StopR α)
/-- evaluate up to the first call at this level that `stop` knows -/
noncomputable def evTo (stop : Code → Bool) (Γ : Ctx) (prog : Program) (P : Params) (cl : Ctx → Pos → HS → Option (Result × HS)) {α : Type} (m : Sem α) : Pos → HS → ToR α :=
  @Sem.rec α (fun _ => Pos → HS → ToR α)
    (pure := fun _ _ _ => none)
    (raise := fun _ _ _ => none)
    (unsupported := fun _ _ _ => none)
    (finish := fun _ _ _ => none)
    (rule := fun _ _ ih p s => ih () p s)
    («at» := fun q _ ih _ s => ih () q s)
    (load := fun a _ _ ih p s => @HS.rec (fun _ => ToR α) (fun t n k => @Bool.rec (fun _ => ToR α) none (@Option.rec Obj (fun _ => ToR α) none (fun o => @Option.rec Obj (fun _ => ToR α) none (fun o' => ih o' p ⟨t, n, k⟩) (alive o)) (bget t a)) (Nat.blt a n)) s)
    (update := fun a _ f _ ih p s => @HS.rec (fun _ => ToR α) (fun t n k => @Bool.rec (fun _ => ToR α) none (@Option.rec Obj (fun _ => ToR α) none (fun o => @Option.rec Obj (fun _ => ToR α) none (fun _ => ih () p ⟨bset t a f, n, k⟩) (alive o)) (bget t a)) (Nat.blt a n)) s)
    (alloc := fun o _ ih p s => @HS.rec (fun _ => ToR α) (fun t n k => @Option.rec Obj (fun _ => ToR α) none (fun _ => ih n p ⟨bins t n o, Nat.succ n, k⟩) (bget (bins t n o) n)) s)
    (loadIfAlive := fun a _ ih p s => @HS.rec (fun _ => ToR α) (fun t n k => @Bool.rec (fun _ => ToR α) none (@Option.rec Obj (fun _ => ToR α) none (fun o => ih (alive o) p ⟨t, n, k⟩) (bget t a)) (Nat.blt a n)) s)
    (point := fun _ _ ih p s => ih () p s)
    (register := fun _ _ _ _ _ => none)
    (fresh := fun _ ih p s => @HS.rec (fun _ => ToR α) (fun t n k => ih k p ⟨t, n, Nat.succ k⟩) s)
    (ask := fun _ ih p s => ih ⟨prog, P⟩ p s)
    (choose := fun _ _ _ _ _ _ => none)
    (os := fun _ _ _ _ _ _ => none)
    (call := fun c h _ _ k ih p s => @Bool.rec (fun _ => ToR α) (@Option.rec (Result × HS) (fun _ => ToR α) none (fun r => @Prod.rec Result HS (fun _ => ToR α) (fun a s' => ih a p s') r) (cl (Γ.enter c h p) p s)) (some ⟨c, h, k, p, s⟩) (stop c))
    (handled := fun own _ ih p s => ih (@Bool.rec (fun _ => Option Value) Γ.handled Γ.own own) p s)
    (newGen := fun _ _ _ _ _ => none)
    (genState := fun _ _ _ _ _ => none)
    (resume := fun _ _ _ _ _ _ _ => none)
    (yield := fun _ _ _ _ _ _ _ => none)
    (stack := fun _ ih p s => ih ((Γ.code, p) :: Γ.below) p s)
    (fork := fun _ _ _ _ _ => none)
    (thread := fun _ ih p s => ih 0 p s)
    (await := fun _ _ _ _ _ _ _ _ => none) m

theorem evTo_sound {M : Model} {stop : Code → Bool} {Γ : Ctx} {R : Rest} {cl : Ctx → Pos → HS → Option (Result × HS)} (hc : CallOk M R cl) {α : Type} (m : Sem α) {Q : α → Pos → Shared → Prop} {E : Value → Pos → Shared → Prop} :
    ∀ (p : Pos) (s : HS) (r : StopR α), evTo stop Γ M.prog M.w.params cl m p s = some r →
      wpCode M (Γ.enter r.c r.h r.p) (fun a t => Sem.wp M Γ (r.k a) Q E r.p t) r.p (r.s.full R) → Sem.wp M Γ m Q E p (s.full R) := by
  induction m with
  | pure | raise | unsupported | finish | register | choose | os | newGen | genState | resume | yield | fork | await => intro p s r h; exact absurd h (by intro h; cases h)
  | rule _ k ih => intro p s r h hr; rw [Sem.wp_rule]; exact ih () p s r h hr
  | «at» q k ih => intro p s r h hr; rw [Sem.wp_at]; exact ih () q s r h hr
  | load a _ k ih =>
    intro p s r h hr
    obtain ⟨t, n, j⟩ := s
    rw [Sem.wp_load]
    have h : @Bool.rec (fun _ => ToR α) none (@Option.rec Obj (fun _ => ToR α) none (fun o => @Option.rec Obj (fun _ => ToR α) none (fun o' => evTo stop Γ M.prog M.w.params cl (k o') p ⟨t, n, j⟩) (alive o)) (bget t a)) (Nat.blt a n) = some r := h
    cases hb : Nat.blt a n with
    | false => rw [hb] at h; cases h
    | true =>
      rw [hb, bget_eq] at h
      have lt : a < n := Nat.le_of_ble_eq_true hb
      cases hg : t.get a with
      | none => rw [hg] at h; cases h
      | some o =>
        rw [hg] at h
        cases ha : alive o with
        | none => simp only [ha] at h; cases h
        | some o' =>
          simp only [ha] at h
          refine ⟨o', ?_, ih o' p _ r h hr⟩
          show (absHeap t n R.life).get? a = _
          rw [abs_get lt hg, ha]
  | update a _ f k ih =>
    intro p s r h hr
    obtain ⟨t, n, j⟩ := s
    rw [Sem.wp_update]
    have h : @Bool.rec (fun _ => ToR α) none (@Option.rec Obj (fun _ => ToR α) none (fun o => @Option.rec Obj (fun _ => ToR α) none (fun _ => evTo stop Γ M.prog M.w.params cl (k ()) p ⟨bset t a f, n, j⟩) (alive o)) (bget t a)) (Nat.blt a n) = some r := h
    cases hb : Nat.blt a n with
    | false => rw [hb] at h; cases h
    | true =>
      rw [hb, bget_eq] at h
      have lt : a < n := Nat.le_of_ble_eq_true hb
      cases hg : t.get a with
      | none => rw [hg] at h; cases h
      | some o =>
        rw [hg] at h
        cases ha : alive o with
        | none => simp only [ha] at h; cases h
        | some o' =>
          simp only [ha] at h
          have hs := ih () p _ r h hr
          refine ⟨?_, ?_⟩
          · show ((absHeap t n R.life).get? a).isSome = true
            rw [abs_get lt hg, ha]; rfl
          · have e : ({ (HS.full ⟨t, n, j⟩ R) with heap := (HS.full ⟨t, n, j⟩ R).heap.update a f } : Shared) = HS.full ⟨bset t a f, n, j⟩ R := by
              show (⟨(absHeap t n R.life).update a f, R.gens, R.drawn, j, R.os⟩ : Shared) = ⟨absHeap (bset t a f) n R.life, R.gens, R.drawn, j, R.os⟩
              rw [bset_eq, absHeap_set hg]
            rw [e]; exact hs
  | alloc o k ih =>
    intro p s r h hr
    obtain ⟨t, n, j⟩ := s
    rw [Sem.wp_alloc]
    have h : @Option.rec Obj (fun _ => ToR α) none (fun _ => evTo stop Γ M.prog M.w.params cl (k n) p ⟨bins t n o, Nat.succ n, j⟩) (bget (bins t n o) n) = some r := h
    cases hg : bget (bins t n o) n with
    | none => rw [hg] at h; cases h
    | some o' =>
      rw [hg] at h
      have hs := ih n p _ r h hr
      rw [bget_eq, bins_eq] at hg
      have e : ({ (HS.full ⟨t, n, j⟩ R) with heap := (HS.full ⟨t, n, j⟩ R).heap.push o } : Shared) = HS.full ⟨bins t n o, Nat.succ n, j⟩ R := by
        show (⟨(absHeap t n R.life).push o, R.gens, R.drawn, j, R.os⟩ : Shared) = ⟨absHeap (bins t n o) (n + 1) R.life, R.gens, R.drawn, j, R.os⟩
        rw [bins_eq, absHeap_ins (by rw [hg]; rfl)]
      have e2 : (HS.full ⟨t, n, j⟩ R).heap.objs.size = n := absHeap_size t n R.life
      rw [e, e2]; exact hs
  | loadIfAlive a k ih =>
    intro p s r h hr
    obtain ⟨t, n, j⟩ := s
    rw [Sem.wp_loadIfAlive]
    have h : @Bool.rec (fun _ => ToR α) none (@Option.rec Obj (fun _ => ToR α) none (fun o => evTo stop Γ M.prog M.w.params cl (k (alive o)) p ⟨t, n, j⟩) (bget t a)) (Nat.blt a n) = some r := h
    cases hb : Nat.blt a n with
    | false => rw [hb] at h; cases h
    | true =>
      rw [hb, bget_eq] at h
      have lt : a < n := Nat.le_of_ble_eq_true hb
      cases hg : t.get a with
      | none => rw [hg] at h; cases h
      | some o =>
        rw [hg] at h
        have e : (HS.full ⟨t, n, j⟩ R).heap.get? a = alive o := abs_get lt hg
        rw [e]; exact ih _ p _ r h hr
  | point _ k ih => intro p s r h hr; rw [Sem.wp_point]; exact ih () p s r h hr
  | fresh k ih =>
    intro p s r h hr
    obtain ⟨t, n, j⟩ := s
    rw [Sem.wp_fresh]
    exact ih j p ⟨t, n, Nat.succ j⟩ r h hr
  | ask k ih => intro p s r h hr; rw [Sem.wp_ask]; exact ih _ p s r h hr
  | call c hd g l k ih =>
    intro p s r h hr
    rw [Sem.wp_call]
    have h : @Bool.rec (fun _ => ToR α) (@Option.rec (Result × HS) (fun _ => ToR α) none (fun x => @Prod.rec Result HS (fun _ => ToR α) (fun a s'' => evTo stop Γ M.prog M.w.params cl (k a) p s'') x) (cl (Γ.enter c hd p) p s)) (some ⟨c, hd, k, p, s⟩) (stop c) = some r := h
    cases hst : stop c with
    | true =>
      rw [hst] at h
      cases h
      exact hr
    | false =>
      rw [hst] at h
      simp only at h
      cases hx : cl (Γ.enter c hd p) p s with
      | none => rw [hx] at h; cases h
      | some x =>
        obtain ⟨a, s''⟩ := x
        rw [hx] at h
        refine wpCode_mono ?_ (hc _ _ _ _ _ hx)
        rintro r' t ⟨rfl, rfl⟩
        exact ih _ p s'' r h hr
  | handled own k ih =>
    intro p s r h hr
    rw [Sem.wp_handled]
    have e : (if own = true then Γ.own else Γ.handled) = @Bool.rec (fun _ => Option Value) Γ.handled Γ.own own := by cases own <;> rfl
    rw [e]; exact ih _ p s r h hr
  | stack k ih => intro p s r h hr; rw [Sem.wp_stack]; exact ih _ p s r h hr
  | thread k ih => intro p s r h hr; rw [Sem.wp_thread]; exact ih 0 p s r h hr

noncomputable def Γ0 : Ctx := ⟨.builtin "claim.caller" {}, none, none, [], none⟩
noncomputable def stopAt (a : Addr) (c : Code) : Bool := match c with
  | .body _ e => Nat.beq e.locals a
  | _ => false
noncomputable def gl : List (PySem.Str × Nat × Pos) := [(⟨⟨[97]⟩⟩, 0, ⟨198, 11, 198, 14⟩), (⟨⟨[101]⟩⟩, 0, ⟨198, 16, 198, 19⟩), (⟨⟨[105]⟩⟩, 0, ⟨198, 21, 198, 24⟩), (⟨⟨[111]⟩⟩, 0, ⟨198, 26, 198, 29⟩), (⟨⟨[117]⟩⟩, 0, ⟨198, 31, 198, 34⟩),
  (⟨⟨[225]⟩⟩, 0, ⟨198, 36, 198, 40⟩), (⟨⟨[233]⟩⟩, 0, ⟨198, 42, 198, 46⟩), (⟨⟨[237]⟩⟩, 0, ⟨198, 48, 198, 52⟩), (⟨⟨[243]⟩⟩, 0, ⟨198, 54, 198, 58⟩), (⟨⟨[250]⟩⟩, 0, ⟨198, 60, 198, 64⟩)]
noncomputable def gvName : PySem.Str := ⟨⟨[103, 95, 118]⟩⟩
noncomputable def gvSet : PySem.Expr := .Set (gl.map fun x => PySem.Expr.Constant (.str x.1) x.2.1 x.2.2) 0 ⟨198, 10, 198, 65⟩
noncomputable def gvS : Stmt := .Assign [.Name gvName ⟨198, 4, 198, 7⟩] gvSet ⟨198, 4, 198, 65⟩
noncomputable def restS : List Stmt := (stBody (tb 6)).tail
theorem clsB_eq : stBody (tb 6) = gvS :: restS := by kernel_rfl
noncomputable def cenv : Env := { scope := stScope (tb 6), locals := 225, globals := 3, cells := [], qual := ⟨⟨[73, 114, 105, 115, 104, 83, 116, 101, 109, 109, 101, 114, 46]⟩⟩, func := none, code := .ref 228, frame := some 229, builtins := 0 }
noncomputable def D3 (v : Value) : Sem Flow := do
  standAt ⟨198, 4, 198, 7⟩
  bindName cenv gvName v
  execs restS cenv
noncomputable def S0 (P : Params) : HS := ⟨bootT P, 11, 181⟩
noncomputable def cl (P : Params) : Ctx → Pos → HS → Option (Result × HS) := evC denq Code.quiet pq P 200
/-- the whole run of the top, the set display given; its looks on the way -/
noncomputable def chain (P : Params) (so : Obj) (q : Pos) : Option ((Code × Nat × Nat × Option Obj × Option Obj) × Except Value Flow × Except Value PySem.Fin × Except Value PySem.Fin × HS) :=
  (evTo (stopAt 3) Γ0 pq P (cl P) (topStub pq).cur default (S0 P)).bind fun r1 =>
  (evTo (stopAt 225) (Γ0.enter r1.c r1.h r1.p) pq P (cl P) (denq r1.c) r1.p r1.s).bind fun r2 =>
  (evW ((Γ0.enter r1.c r1.h r1.p).enter r2.c r2.h r2.p) pq P (cl P) (D3 (.ref 230)) q ⟨bins r2.s.tree 230 so, 231, 505⟩).bind fun r3 =>
  (evW (Γ0.enter r1.c r1.h r1.p) pq P (cl P) (r2.k (.ok .next)) r2.p r3.2.2).bind fun r4 =>
  (evW Γ0 pq P (cl P) (r1.k (.ok .next)) r1.p r4.2.2).map fun r5 => ((r2.c, r2.s.n, r2.s.toks, bget r2.s.tree 228, bget (bins r2.s.tree 230 so) 230), r3.1, r4.1, r5.1, r5.2.2)

set_option maxHeartbeats 0 in
theorem chain_is (P : Params) (es : Array (Int × Value)) (ep : Nat) (t : SetTable) (q : Pos) :
    chain P (setO es ep t) q = some ((.body (stBody (tb 6)) cenv, 230, 485, some (o228 P), some (setO es ep t)), .ok .next, .ok (.done .next), .ok (.done (.ret .none)), ⟨finT P (setO es ep t), 607, 1758⟩) := by kernel_rfl
end Mine
end

section
open PySem PySem.W PySem.Calls PyProof.Rows
set_option Elab.async false
set_option maxRecDepth 100000
set_option linter.unusedVariables false
namespace Mine
noncomputable abbrev pw : Program := PySem.Challenge.pw_ak0020_01
noncomputable def isV (k : PySem.Str) : Bool := (gl.map (·.1)).contains k
noncomputable abbrev GoodV (w : World) (es : Array (Int × Value)) (t : SetTable) : Prop := Good pw w es t isV 10

theorem callOk (w : World) (R : Rest) : CallOk (model pw w) R (cl w.params) := by
  have h := evC_sound (M := model pw w) (R := R) (qt := Code.quiet) (fun _ h => h) 200
  have e1 : (model pw w).den = denq := denq_eq
  have e2 : (model pw w).prog = pq := pq_eq
  rw [e1, e2] at h
  exact h
theorem evWs {w : World} {Γ : Ctx} {R : Rest} {α : Type} {m : Sem α} {p : Pos} {s : HS} {r : Except Value α × Pos × HS} (h : evW Γ pq w.params (cl w.params) m p s = some r) :
    Sem.wp (model pw w) Γ m (fun a q t => r.1 = .ok a ∧ q = r.2.1 ∧ t = r.2.2.full R) (fun e q t => r.1 = .error e ∧ q = r.2.1 ∧ t = r.2.2.full R) p (s.full R) := by
  have e2 : (model pw w).prog = pq := pq_eq
  refine evW_sound (callOk w R) m p s r.1 r.2.1 r.2.2 ?_
  rw [e2]; exact h
theorem evTos {w : World} {stop : Code → Bool} {Γ : Ctx} {R : Rest} {α : Type} {m : Sem α} {p : Pos} {s : HS} {r : StopR α} {Q : α → Pos → Shared → Prop} {E : Value → Pos → Shared → Prop} (h : evTo stop Γ pq w.params (cl w.params) m p s = some r)
    (hr : wpCode (model pw w) (Γ.enter r.c r.h r.p) (fun a t => Sem.wp (model pw w) Γ (r.k a) Q E r.p t) r.p (r.s.full R)) : Sem.wp (model pw w) Γ m Q E p (s.full R) := by
  have e2 : (model pw w).prog = pq := pq_eq
  refine evTo_sound (stop := stop) (callOk w R) m p s r ?_ hr
  rw [e2]; exact h

theorem hs_push {t : BT} {n k : Nat} {R : Rest} {o : Obj} (g : (bget (bins t n o) n).isSome = true) : ({ (HS.full ⟨t, n, k⟩ R) with heap := (HS.full ⟨t, n, k⟩ R).heap.push o } : Shared) = HS.full ⟨bins t n o, n + 1, k⟩ R := by
  show (⟨(absHeap t n R.life).push o, R.gens, R.drawn, k, R.os⟩ : Shared) = ⟨absHeap (bins t n o) (n + 1) R.life, R.gens, R.drawn, k, R.os⟩
  rw [bget_eq] at g
  rw [bins_eq] at g ⊢
  rw [absHeap_ins g]

noncomputable def aroundOf (Γ : Ctx) : Around := ⟨Γ.handled, frameCount Γ.below + Γ.code.weight, none, none, Γ.units⟩
theorem aroundOf_in (Γ : Ctx) : Γ.In (aroundOf Γ) := ⟨rfl, Nat.le_refl _, (fun l (h : none = some l) => nomatch h), (fun l (h : none = some l) => nomatch h), Nat.le_refl _⟩

theorem swaps_gv : swapsWith gvSet (some (.Name gvName ⟨198, 4, 198, 7⟩)) (198 : Nat) cenv = pure false := by rfl
theorem road_gv : displayRoad 0 (gl.map fun x => PySem.Expr.Constant (.str x.1) x.2.1 x.2.2) = .unsure := by kernel_rfl
theorem hasAnns_cls : hasAnns (gvS :: restS) = false := by rw [← clsB_eq]; kernel_rfl
theorem docOf_cls : docOf (gvS :: restS) = none := by rfl

theorem start_cls : blockStart (gvS :: restS) cenv = pure () := by
  unfold blockStart
  rw [hasAnns_cls, docOf_cls]
  cases interactive cenv <;> rfl

/-- the run of the top -/
theorem top_wp (w : World) (R : Rest) :
    Sem.wp (model pw w) Γ0 (topStub pw).cur (fun a _ s' => a = .done (.ret .none) ∧ ∃ es ep t, GoodV w es t ∧ s' = HS.full ⟨finT w.params (setO es ep t), 607, 1758⟩ R) (fun _ _ _ => False) default ((S0 w.params).full R) := by
  obtain ⟨r1, h1, hb1⟩ := Option.bind_eq_some_iff.mp (chain_is w.params #[] 0 default default)
  obtain ⟨r2, h2, hb2⟩ := Option.bind_eq_some_iff.mp hb1
  obtain ⟨_, _, hb3⟩ := Option.bind_eq_some_iff.mp hb2
  obtain ⟨_, _, hb4⟩ := Option.bind_eq_some_iff.mp hb3
  obtain ⟨_, _, he⟩ := Option.map_eq_some_iff.mp hb4
  clear hb1 hb2 hb3 hb4
  have hc : r2.c = .body (stBody (tb 6)) cenv := congrArg (·.1.1) he
  have hn : r2.s.n = 230 := congrArg (·.1.2.1) he
  have ht : r2.s.toks = 485 := congrArg (·.1.2.2.1) he
  have ho : bget r2.s.tree 228 = some (o228 w.params) := congrArg (·.1.2.2.2.1) he
  clear he
  rw [show (topStub pw).cur = (topStub pq).cur from congrArg (fun p => (topStub p).cur) pq_eq]
  refine evTos h1 ?_
  rw [wpCode_iff_wp]
  rw [show (model pw w).den (Γ0.enter r1.c r1.h r1.p).code = denq r1.c from congrFun denq_eq r1.c]
  refine evTos h2 ?_
  rw [wpCode_iff_wp]
  generalize hΓ2 : (Γ0.enter r1.c r1.h r1.p).enter r2.c r2.h r2.p = Γ2
  have hden : (model pw w).den Γ2.code = (blockStart (gvS :: restS) cenv >>= fun _ => ((execs (gvS :: restS) cenv).onRaise (leaving cenv)) >>= fun f => pure (PySem.Fin.done f)) := by
    rw [← hΓ2]
    show denote table r2.c = _
    rw [hc, clsB_eq]; rfl
  rw [hden, start_cls, Sem.wp_bind', Sem.wp_pure', Sem.wp_bind', Sem.wp_onRaise, execs_cons, Sem.wp_bind']
  rw [show gvS = Stmt.Assign [.Name gvName ⟨198, 4, 198, 7⟩] gvSet ⟨198, 4, 198, 65⟩ from rfl]
  rw [exec_Assign_Name cenv gvName _ gvSet _ swaps_gv]
  rw [Sem.wp_bind', Sem.wp_cmd_standAt, Sem.wp_bind']
  obtain ⟨c2, hh2, kk2, p2, ⟨T2, n2, k2⟩⟩ := r2
  dsimp only at hc hn ht ho h2 hΓ2 ⊢
  subst hn ht
  have hsz : (HS.full ⟨T2, 230, 485⟩ R).heap.objs.size = 230 := absHeap_size ..
  have hg : (HS.full ⟨T2, 230, 485⟩ R).heap.get? 228 = some (o228 w.params) := by
    show (absHeap T2 230 R.life).get? 228 = _
    rw [bget_eq] at ho
    rw [abs_get (by decide) ho]; rfl
  have key : ∀ es ep t q, ∃ r3 r4 r5, bget (bins T2 230 (setO es ep t)) 230 = some (setO es ep t) ∧
      evW Γ2 pq w.params (cl w.params) (D3 (.ref 230)) q ⟨bins T2 230 (setO es ep t), 231, 505⟩ = some r3 ∧
      evW (Γ0.enter r1.c r1.h r1.p) pq w.params (cl w.params) (kk2 (.ok .next)) p2 r3.2.2 = some r4 ∧
      evW Γ0 pq w.params (cl w.params) (r1.k (.ok .next)) r1.p r4.2.2 = some r5 ∧ r3.1 = .ok .next ∧ r4.1 = .ok (.done .next) ∧ r5.1 = .ok (.done (.ret .none)) ∧ r5.2.2 = ⟨finT w.params (setO es ep t), 607, 1758⟩ := by
    intro es ep t q
    obtain ⟨r1', h1', hx1⟩ := Option.bind_eq_some_iff.mp (chain_is w.params es ep t q)
    obtain rfl : r1' = r1 := Option.some.inj (h1'.symm.trans h1)
    obtain ⟨r2', h2', hx2⟩ := Option.bind_eq_some_iff.mp hx1
    obtain rfl : r2' = _ := Option.some.inj (h2'.symm.trans h2)
    obtain ⟨r3, h3, hx3⟩ := Option.bind_eq_some_iff.mp hx2
    obtain ⟨r4, h4, hx4⟩ := Option.bind_eq_some_iff.mp hx3
    obtain ⟨r5, h5, he⟩ := Option.map_eq_some_iff.mp hx4
    refine ⟨r3, r4, r5, congrArg (·.1.2.2.2.2) he, ?_, h4, h5, congrArg (·.2.1) he, congrArg (·.2.2.1) he, congrArg (·.2.2.2.1) he, congrArg (·.2.2.2.2) he⟩
    rw [← hΓ2]; exact h3
  have hd := display_exact (prog := pw) (w := w) (A := aroundOf Γ2) (E := fun _ _ => False) (s := HS.full ⟨T2, 230, 485⟩ R) (env := cenv) (l := gl) (pos := ⟨198, 10, 198, 65⟩) (c := 228) (o := o228 w.params)
    (Q := fun v s' => ∃ es ep t, GoodV w es t ∧ v = .ref 230 ∧ s' = HS.full ⟨bins T2 230 (setO es ep t), 231, 505⟩ R) rfl hg rfl road_gv (by decide) (by decide +kernel) (fun es ep t G => by
      obtain ⟨r3, r4, r5, hi, _⟩ := key es ep t default
      refine ⟨es, ep, t, G, by rw [hsz], ?_⟩
      have := hs_push (t := T2) (n := 230) (k := 485) (R := R) (o := setO es ep t) (by rw [hi]; rfl)
      show ({ ({ (HS.full ⟨T2, 230, 485⟩ R) with heap := (HS.full ⟨T2, 230, 485⟩ R).heap.push (setO es ep t) } : Shared) with toks := 505 } : Shared) = _
      rw [this]; rfl)
  refine Sem.wp_mono _ _ _ (fun v p' s' h => ?_) (fun _ _ _ h => h.elim) _ _ (hd Γ2 _ (aroundOf_in Γ2))
  obtain ⟨es, ep, t, G, rfl, rfl⟩ := h
  obtain ⟨r3, r4, r5, _, h3, h4, h5, e3, e4, e5, e6⟩ := key es ep t p'
  have w3 := evWs (R := R) h3
  unfold D3 at w3
  rw [Sem.wp_bind', Sem.wp_cmd_standAt, Sem.wp_bind'] at w3
  rw [Sem.wp_bind', Sem.wp_cmd_standAt, Sem.wp_bind']
  refine Sem.wp_mono _ _ _ (fun _ p5 s5 h => ?_) (fun e _ _ h => ?_) _ _ w3
  · rw [Sem.wp_pure']
    refine Sem.wp_mono _ _ _ (fun f p6 s6 h => ?_) (fun e _ _ h => ?_) _ _ h
    · obtain ⟨e, _, rfl⟩ := h
      rw [e3] at e
      cases e
      rw [Sem.wp_pure']
      show Sem.wp _ _ _ _ _ _ _
      refine Sem.wp_mono _ _ _ (fun a p7 s7 h => ?_) (fun e _ _ h => ?_) _ _ (evWs (R := R) h4)
      · obtain ⟨e, _, rfl⟩ := h
        rw [e4] at e
        cases e
        show Sem.wp _ _ _ _ _ _ _
        refine Sem.wp_mono _ _ _ (fun a p8 s8 h => ?_) (fun e _ _ h => ?_) _ _ (evWs (R := R) h5)
        · obtain ⟨e, _, rfl⟩ := h
          rw [e5] at e
          cases e
          exact ⟨rfl, es, ep, t, G, by rw [e6]⟩
        · obtain ⟨e, _⟩ := h; rw [e5] at e; cases e
      · obtain ⟨e, _⟩ := h; rw [e4] at e; cases e
    · obtain ⟨e, _⟩ := h; rw [e3] at e; cases e
  · obtain ⟨e, _⟩ := h; rw [e3] at e; cases e
end Mine
end

section
open PySem PySem.W PySem.Calls PyProof.Rows
set_option Elab.async false
set_option maxRecDepth 100000
set_option linter.unusedVariables false
namespace Mine

noncomputable def finH (P : Params) (so : Obj) : Heap := ⟨⟨finL P so⟩, {}⟩
theorem finH_abs (P : Params) (so : Obj) : absHeap (finT P so) 607 {} = finH P so := by kernel_rfl
theorem bootH_abs (P : Params) : absHeap (bootT P) 11 {} = boot_heap P := by kernel_rfl

noncomputable abbrev bootS (w : World) (os : OsState) : Shared := ⟨boot_heap w.params, #[], boot_drawn, boot_toks, os⟩
noncomputable abbrev finS (w : World) (os : OsState) (so : Obj) : Shared := ⟨finH w.params so, #[], boot_drawn, 1758, os⟩

theorem pred_of_halt {den : Code → Sem PySem.Fin} {prog : Program} {w : World} {f : Flow} {s'' : Shared} : ∀ {n : Nat} {s : Shared} {t : Thread}, runN den prog w n s t = .halted (.done f) s'' →
    ∃ m t', runN den prog w m s t = .running s'' t' ∧ through t' = true
  | 0, s, t, h => by cases h
  | n + 1, s, t, h => by
    simp only [runN] at h
    cases hs : step den prog w s t with
    | go s₁ t₁ =>
      rw [hs] at h
      obtain ⟨m, t', hm, ht⟩ := pred_of_halt h
      exact ⟨m + 1, t', by simp only [runN, hs]; exact hm, ht⟩
    | halt o s₁ =>
      rw [hs] at h
      have h : Run.halted o s₁ = .halted (.done f) s'' := h
      injection h with h1 h2
      subst h1 h2
      refine ⟨0, t, ?_, ?_⟩
      · obtain rfl := step_halt_same den prog w s s₁ t _ hs
        rfl
      · obtain ⟨heap, gens, drawn, toks, os⟩ := s
        obtain ⟨cur, code, pos, stack⟩ := t
        cases cur with
        | pure fin =>
          cases fin with
          | done f' =>
            cases stack with
            | nil => rfl
            | cons fr r => cases fr <;> (delta step at hs; dsimp only at hs; cases hs)
          | again c => delta step at hs; dsimp only at hs; cases hs
        | raise e =>
          cases stack with
          | nil => delta step finish at hs; dsimp only at hs; split at hs <;> cases hs
          | cons fr r => cases fr <;> (delta step at hs; dsimp only at hs; cases hs)
        | _ => (delta step at hs; dsimp only at hs) <;> (repeat' split at hs) <;> cases hs

theorem top_sched (w : World) (os : OsState) : ∃ es ep t, GoodV w es t ∧
    ∃ n th, schedN (denote table) pw w n (.single (bootS w os) (topStub pw)) = .running (.single (finS w os (setO es ep t)) th) ∧ through th = true := by
  have hwp := top_wp w ⟨{}, #[], boot_drawn, os⟩
  have e0 : (S0 w.params).full ⟨{}, #[], boot_drawn, os⟩ = bootS w os := by
    show (⟨absHeap (bootT w.params) 11 {}, #[], boot_drawn, 181, os⟩ : Shared) = _
    rw [bootH_abs]; rfl
  rw [e0] at hwp
  obtain ⟨n, r, s', hn, hR, hf⟩ := (wp_iff_halts (M := model pw w) (c := .builtin "claim.caller" {}) (topStub pw).cur
    (fun r s' => r = .ok (.ret .none) ∧ ∃ es ep t, GoodV w es t ∧ s' = HS.full ⟨finT w.params (setO es ep t), 607, 1758⟩ ⟨{}, #[], boot_drawn, os⟩) default (bootS w os)).mp (by
      refine Sem.wp_mono _ _ _ (fun a p' s' h => ?_) (fun _ _ _ h => h.elim) _ _ hwp
      obtain ⟨rfl, es, ep, t, G, rfl⟩ := h
      exact ⟨⟨rfl, es, ep, t, G, rfl⟩, by simp [leftWithCleanup, HS.full]⟩)
  obtain ⟨es, ep, t, G, rfl⟩ := hf
  subst hR
  obtain ⟨s'', hr, hfo, hc⟩ := runNI_real (model pw w).den (model pw w).prog w hn rfl
  obtain rfl := Shared.eq_of_forget_eq hfo rfl
  have e1 : HS.full ⟨finT w.params (setO es ep t), 607, 1758⟩ ⟨{}, #[], boot_drawn, os⟩ = finS w os (setO es ep t) := by
    show (⟨absHeap (finT w.params (setO es ep t)) 607 {}, #[], boot_drawn, 1758, os⟩ : Shared) = _
    rw [finH_abs]
  obtain ⟨m, th, hm, ht⟩ := pred_of_halt hr
  rw [e1] at hm
  refine ⟨es, ep, t, G, m, th, ?_, ht⟩
  have hz : (bootS w os).asleep := ⟨rfl, rfl⟩
  have hne : ∀ k s₂, runN (model pw w).den (model pw w).prog w k (bootS w os) ⟨(topStub pw).cur, .builtin "claim.caller" {}, default, []⟩ ≠ .halted (.unsupported "lifetime:generator-with-cleanup-left-suspended") s₂ := by
    intro k s₂ hk
    have a := runN_mono (model pw w).den (model pw w).prog w n k _ _ _ _ hr
    have b := runN_mono (model pw w).den (model pw w).prog w k n _ _ _ _ hk
    rw [Nat.add_comm, b] at a
    injection a with a1 _
    cases a1
  have hsch := schedN_eq_runN (model pw w).den (model pw w).prog w (bootS w os) ⟨(topStub pw).cur, .builtin "claim.caller" {}, default, []⟩ hz ⟨hc, hne⟩ m
  exact hsch.trans (congrArg Run.lift hm)
end Mine
end

section
open PySem PySem.W PySem.Calls PyProof.Rows
set_option Elab.async false
set_option maxRecDepth 100000
set_option linter.unusedVariables false
namespace Mine
theorem mods_nil : importedModules pw.main.body = [] := by rw [show pw = pq from pq_eq]; kernel_rfl
section
variable (P : Params) (es : Array (Int × Value)) (ep : Nat) (t : SetTable)
theorem ok_acc : (finH P (setO es ep t)).accountedOkI [] = true := by kernel_rfl
theorem ok_stat : staticsOk [] (boot_heap P) (finH P (setO es ep t)) = true := by kernel_rfl
theorem ok_names : namesBound pw (finH P (setO es ep t)) = true := by rw [show pw = pq from pq_eq]; kernel_rfl
theorem ok_laid : laidKept (boot_heap P) (finH P (setO es ep t)) = true := by kernel_rfl
theorem ok_main : (finH P (setO es ep t)).isNs mainGlobals = true := by kernel_rfl
theorem ok_bns : (finH P (setO es ep t)).isNs builtinsNs = true := by kernel_rfl
theorem ok_blt : (finH P (setO es ep t)).bltView = bltViewBooted := by kernel_rfl
theorem ok_ann : globalOf (boot_heap P) "__annotations__" = some (.ref 6) := by kernel_rfl
theorem ok_life : (boot_heap P).life = {} := rfl
theorem ok_old (b : Addr) (o : Obj) (h : (boot_heap P).get? b = some o) (hb : b ≠ 3) (hc : b ≠ 2) (hd : b ≠ 6) : (finH P (setO es ep t)).get? b = some o := by
  have lt : b < 11 := Heap.lt_size h
  rw [← h]
  rcases b with _ | _ | _ | _ | _ | _ | _ | _ | _ | _ | _ | b <;> first | rfl | exact absurd rfl hb | exact absurd rfl hc | exact absurd rfl hd | exact absurd lt (Nat.not_lt.mpr (Nat.le_add_left 11 b))
theorem ok_bm : ∃ bm o, globalOf (finH P (setO es ep t)) "__builtins__" = some (.ref bm) ∧ (finH P (setO es ep t)).get? bm = some o ∧ o.cls = .type "module" ∧ o.dict = some builtinsNs :=
  ⟨4, boot_o_4 P, by kernel_rfl, rfl, rfl, rfl⟩
theorem ok_law : isTheDefsW pw (finH P (setO es ep t)) "law" := by
  rw [show pw = pq from pq_eq]
  refine ⟨606, o606 P, _, stArgs (tb 23), stBody (tb 23), stScope (tb 23), by kernel_rfl, rfl, rfl, by kernel_rfl, by kernel_rfl, by kernel_rfl, rfl, rfl, rfl, rfl, rfl, rfl, ?_⟩
  exact ⟨.inl ⟨by kernel_rfl, rfl⟩, [], by kernel_rfl, .inl ⟨rfl, rfl⟩⟩
end
theorem topRan (w : World) (os : OsState) : ∃ es ep t, GoodV w es t ∧ TopRan pw w (bootS w os) (finS w os (setO es ep t)) := by
  obtain ⟨es, ep, t, G, n, th, hn, ht⟩ := top_sched w os
  refine ⟨es, ep, t, G, ⟨n, th, hn, ht⟩, rfl, rfl, fun b o hb hn => ?_, ?_, ?_, ?_, ?_, ?_, fun g hg => by simp at hg, names_of_bound (ok_names w.params es ep t), laid_of_kept (ok_laid w.params es ep t)⟩
  · exact ok_old w.params es ep t b o hb (fun q => hn (.inl q)) (fun q => hn (.inr (.inl q))) (fun q => hn (.inr (.inr ((ok_ann w.params).trans (by rw [q])))))
  · rw [mods_nil]; exact Heap.accountedI_of_ok (ok_acc w.params es ep t)
  · rw [mods_nil]; exact statics_of_ok (ok_stat w.params es ep t)
  · exact Pin.keysAreStrs_of (ok_main w.params es ep t)
  · exact fun x hx => (Pin.builtinOf_eq (ok_bns w.params es ep t) x).trans (Heap.of_bltView (ok_bns w.params es ep t) (ok_blt w.params es ep t) x hx)
  · exact ok_bm w.params es ep t
end Mine
end

section
open PySem PySem.W PySem.Calls PyProof.Rows
set_option Elab.async false
set_option maxRecDepth 100000
set_option linter.unusedVariables false
namespace Mine
noncomputable abbrev rw' : OpenLaw := PySem.Challenge.rw_ak0020_01

/-- what the walk of the law's call has to show -/
noncomputable def WalkP : Prop := ∀ (w : World) (es : Array (Int × Value)) (ep : Nat) (t : SetTable), GoodV w es t → ∀ (s : Shared) (l : Addr) (vs : List Value) (ns : List Int),
  (∀ b o, (finH w.params (setO es ep t)).get? b = some o → s.heap.get? b = some o) → s.heap.get? l = some { cls := .type "list", data := .seq vs.toArray } → WellAll w.params s.heap vs (ns.map .int) →
  607 ≤ l → ns.length ≤ 63 → WData.layableAll [.list (ns.map .int)] = true →
  wpAny (model pw w) callerA (PySem.call (.ref 606) [.ref l]) (fun v s' => v = .bool true ∧ (∃ h tk, s' = { s with heap := h, toks := tk }) ∧ ∀ b o, s.heap.get? b = some o → s'.heap.get? b = some o) (fun _ _ => False) s

theorem ints_of {R : WRecords} : ∀ xs : List WData, WShape.hasItems R xs .int = true → ∃ ns : List Int, xs = ns.map .int
  | [], _ => ⟨[], rfl⟩
  | x :: xs, h => by
    have h : (WShape.has R x .int && WShape.hasItems R xs .int) = true := h
    obtain ⟨h1, h2⟩ := Bool.and_eq_true_iff.mp h
    obtain ⟨ns, rfl⟩ := ints_of xs h2
    obtain ⟨n, rfl⟩ := hasW_int h1
    exact ⟨n :: ns, rfl⟩

theorem pre_open {args : List WData} (h : rw'.row.toRowW.claim.pre args = true) : ∃ ns : List Int, args = [.list (ns.map .int)] ∧ ns.length ≤ 63 := by
  obtain ⟨h1, h2⟩ := Bool.and_eq_true_iff.mp h
  have h1 : WShape.hasAll [] args [.list .int] = true := h1
  cases args with
  | nil => cases h1
  | cons x xs =>
    have h1 : (WShape.has [] x (.list .int) && WShape.hasAll [] xs []) = true := h1
    obtain ⟨h3, h4⟩ := Bool.and_eq_true_iff.mp h1
    cases xs with
    | cons y ys => cases h4
    | nil =>
      obtain ⟨xs, rfl, h5⟩ := hasW_list h3
      obtain ⟨ns, rfl⟩ := ints_of xs h5
      refine ⟨ns, rfl, ?_⟩
      have h2 : WTm.holds [] (.and (.not (.lt (.lit (.int 63)) (.len (.arg 0)))) (.lit (.bool true))) { args := [.list (ns.map .int)] } = true := h2
      apply Decidable.byContradiction
      intro hc
      have hv : WTm.value [] (.and (.not (.lt (.lit (.int 63)) (.len (.arg 0)))) (.lit (.bool true))) { args := [WData.list (ns.map .int)] } ≠ some (.bool true) := by
        have hl : (63 : Int) < (ns.length : Int) := by omega
        have hq : less? (WData.int 63) (WData.int (ns.length : Int)) = some true := by
          show some (decide ((63 : Int) < (ns.length : Int))) = _
          rw [decide_eq_true hl]
        simp [WTm.value, hq]
      unfold WTm.holds at h2
      split at h2
      · rename_i e; exact hv e
      · cases h2

theorem whole : PySem.Challenge.pw_ak0020_01.tablesWhole = true := by k_qdec
theorem said : rw'.wellSaid = true := by k_qdec
theorem opens : opening pw = plainProg pw.main.scope.names := by rfl
theorem fences (s : Shared) : fenceModules? pw s = some s := by rfl

theorem stub_walk {w : World} {s : Shared} {vs : List Value} {mg : Str → Option Value} {f : Value} {Q : PySem.Fin → Shared → Prop} {E : Value → Shared → Prop} (hg : s.heap.Ns mainGlobals mg) (hf : mg "law" = some f)
    (h : wpAny (model pw w) callerA (PySem.call f vs) (fun v s' => Q (.done (.ret v)) s') E s) :
    wpAny (model pw w) callerA (do match ← nsGet mainNs ("law" : Str) with
      | some f => do ret (← PySem.call f vs)
      | none => unsupported "claim.caller:no-such-global") Q E s :=
  wpAny_bind (wpAny_nsGet hg (by rw [hf]; exact wpAny_bind (wpAny_mono h (fun _ _ x => wpAny_pure x) fun _ _ x => x)))

theorem main_ns (P : Params) (so : Obj) : (finH P so).Ns mainGlobals ((finH P so).nsMap mainGlobals) := Heap.Ns.of_isNs (by kernel_rfl)

theorem holds_of_walk (W : WalkP) : rw'.Holds := by
  refine ⟨said, row_said said, ⟨[.list []], by decide +kernel, by decide +kernel⟩, ⟨⟨rfl, rfl, rfl, rfl, rfl, whole⟩, mkTwin, rfl⟩, ⟨[.list []], by decide +kernel, by decide +kernel⟩, fun w => ?_⟩
  have hb := boot_open (p := pw) (N := 600) opens (by decide) fences w
  rw [← table_eq_tree] at hb
  obtain ⟨s₀, h0, hv⟩ := Option.map_eq_some_iff.mp hb
  obtain ⟨s, h4, h5⟩ := Option.bind_eq_some_iff.mp h0
  have A := AfterImport.of_importEnds h4
  refine ⟨⟨s, A⟩, fun s' hs' => ?_⟩
  obtain rfl : s' = s := AfterImport.unique hs' A
  have e0 : s₀ = bootS w s₀.os := by
    obtain ⟨hp, gn, dr, tk, os⟩ := s₀
    simp only [Prod.mk.injEq] at hv
    obtain ⟨rfl, rfl, rfl, rfl⟩ := hv
    rfl
  obtain ⟨es, ep, t, G, T⟩ := topRan w s₀.os
  rw [← e0] at T
  refine ⟨s₀, h5, by rw [e0], _, T, fun n hn => ?_, fun x hx => (nomatch hx), fun x hx => (nomatch hx), ?_⟩
  · have hn : n ∈ [("law" : Str)] := hn
    rw [List.mem_singleton] at hn
    subst hn
    exact ok_law w.params es ep t
  refine ClaimW.callFrom_of_specG (c := rw'.row.toRowW.claim) ⟨rfl, rfl⟩ rfl fun args hpre hlay ord hord => ?_
  obtain ⟨ns, rfl, hlen⟩ := pre_open hpre
  obtain ⟨⟨vs, s₁⟩, hlaid⟩ := Option.isSome_iff_exists.mp (layAllW_isSome (R := []) (cl := classAt (finH w.params (setO es ep t))) (P := w.params) (ord := ord) (fun c hc => (nomatch hc)) [.list (ns.map .int)] [.list .int] (finS w s₀.os (setO es ep t)) (pre_splitW hpre).1)
  have keeps := layAllW_keeps _ _ _ hlaid
  have hal := layAllW_rest _ _ _ hlaid
  obtain ⟨as, hrd, hin, hold⟩ := reads_layAllW hord _ _ _ hlaid hlay s₁.heap (fun _ _ e => e)
  have L : Laid [] w (finS w s₀.os (setO es ep t)) s₁ [.list (ns.map .int)] vs as := ⟨⟨ord, hord, hlaid⟩, hrd, hin, hold, keeps, hal.1, hal.2.2.1⟩
  have WA := L.well
  cases WA with
  | cons W1 W2 =>
    cases W2
    cases W1 with
    | list hl hw =>
      rename_i l vs'
      refine ⟨_, s₁, hlaid, ?_⟩
      refine stub_walk (f := .ref 606) ((main_ns w.params (setO es ep t)).keeps keeps) (by kernel_rfl) ?_
      have hll : 607 ≤ l := by
        have hm : l ∈ as := by
          cases hrd with
          | cons r1 r2 => cases r1 with
            | list => simp
        exact (hin.2.2 l hm).1
      refine wpAny_mono (W w es ep t G s₁ l vs' ns keeps hl hw hll hlen hlay) (fun v s' h => ?_) fun _ _ h => h.elim
      obtain ⟨rfl, ⟨h', tk, rfl⟩, hk⟩ := h
      refine ⟨_, rfl, ?_⟩
      obtain ⟨hsame, hu, ha, hap, hm⟩ := frees_parts (r := rw'.row.toRowW) (by decide)
      have g : GoodWG rw'.row.toRowW.claim (classAt (finS w s₀.os (setO es ep t)).heap) (ExcName.means (finS w s₀.os (setO es ep t)).heap) [.list (ns.map .int)] s₁ (.ok (.ret (.bool true))) { s₁ with heap := h', toks := tk } :=
        ⟨.inl ⟨.bool true, .bool true, [], rfl, fun _ => rfl, .bool true, by kernel_rfl, fun _ => ⟨.nil, fun a ha => nomatch ha⟩⟩, OldK.of_keep hk, rfl, .of_eq hal.1⟩
      have z := g.laid hsame rfl (ident_freeW hu ha hap) L
      exact ⟨z.1, z.2.1, z.2.2, fun q => by cases q⟩
end Mine
end

section
open PySem PySem.W PySem.Calls PyProof.Rows
set_option Elab.async false
set_option maxRecDepth 100000
set_option linter.unusedVariables false
namespace Mine

/-- the values of the pure reading -/
inductive PV where
  | none | bool (b : Bool) | int (i : Int) | str (s : List Nat) | ref (a : Addr) | bi (id : String) | tup (xs : List PV) | lst (xs : List PV) | lstAt (a : Addr) (xs : List PV)

mutual
noncomputable def VR (h : Heap) : PV → Value → Prop
  | .none, v => v = .none
  | .bool b, v => v = .bool b
  | .int i, v => ∃ t, v = .int i t
  | .str s, v => ∃ t, v = .str ⟨⟨s⟩⟩ t
  | .ref a, v => v = .ref a
  | .bi id, v => v = .builtin id
  | .tup xs, v => ∃ a vs n, v = .ref a ∧ h.get? a = some { cls := .type "tuple", data := .seq (List.toArray vs) n } ∧ VRs h xs vs
  | .lst xs, v => ∃ a vs n, v = .ref a ∧ h.get? a = some { cls := .type "list", data := .seq (List.toArray vs) n } ∧ VRs h xs vs
  | .lstAt a xs, v => ∃ vs n, v = .ref a ∧ h.get? a = some { cls := .type "list", data := .seq (List.toArray vs) n } ∧ VRs h xs vs
noncomputable def VRs (h : Heap) : List PV → List Value → Prop
  | [], vs => vs = []
  | x :: xs, vs => ∃ v r, vs = v :: r ∧ VR h x v ∧ VRs h xs r
end

/-- two heaps: what holds a row of values in the first holds it in the second -/
noncomputable def SeqKeep (h h' : Heap) : Prop := ∀ a c vs n, h.get? a = some { cls := c, data := .seq vs n } → h'.get? a = some { cls := c, data := .seq vs n }

mutual
theorem VR.keep {h h' : Heap} (k : SeqKeep h h') : ∀ (p : PV) (v : Value), VR h p v → VR h' p v
  | .none, v, e => by simpa only [VR] using e
  | .bool b, v, e => by simpa only [VR] using e
  | .int i, v, e => by simpa only [VR] using e
  | .str s, v, e => by simpa only [VR] using e
  | .ref a, v, e => by simpa only [VR] using e
  | .bi i, v, e => by simpa only [VR] using e
  | .tup xs, v, e => by
    simp only [VR] at e ⊢
    obtain ⟨a, vs, n, e1, e2, e3⟩ := e
    exact ⟨a, vs, n, e1, k _ _ _ _ e2, VRs.keep k xs vs e3⟩
  | .lst xs, v, e => by
    simp only [VR] at e ⊢
    obtain ⟨a, vs, n, e1, e2, e3⟩ := e
    exact ⟨a, vs, n, e1, k _ _ _ _ e2, VRs.keep k xs vs e3⟩
  | .lstAt a xs, v, e => by
    simp only [VR] at e ⊢
    obtain ⟨vs, n, e1, e2, e3⟩ := e
    exact ⟨vs, n, e1, k _ _ _ _ e2, VRs.keep k xs vs e3⟩
theorem VRs.keep {h h' : Heap} (k : SeqKeep h h') : ∀ (ps : List PV) (vs : List Value), VRs h ps vs → VRs h' ps vs
  | [], vs, e => by simpa only [VRs] using e
  | x :: xs, vs, e => by
    simp only [VRs] at e ⊢
    obtain ⟨v, r, e1, e2, e3⟩ := e
    exact ⟨v, r, e1, VR.keep k x v e2, VRs.keep k xs r e3⟩
end

noncomputable def lk : List (PySem.Str × PV) → PySem.Str → Option PV
  | [], _ => .none
  | (n, v) :: r, x => bif n.cps.toList == x.cps.toList then some v else lk r x
noncomputable def putA : List (PySem.Str × PV) → PySem.Str → PV → List (PySem.Str × PV)
  | [], x, v => [(x, v)]
  | (n, u) :: r, x, v => bif n.cps.toList == x.cps.toList then (n, v) :: r else (n, u) :: putA r x v

theorem strEq {a b : PySem.Str} : (a.cps.toList == b.cps.toList) = true ↔ a = b := by
  rw [beq_iff_eq]
  constructor
  · intro h
    obtain ⟨⟨a⟩⟩ := a
    obtain ⟨⟨b⟩⟩ := b
    cases h; rfl
  · rintro rfl; rfl
theorem strNe {a b : PySem.Str} (h : a ≠ b) : (a.cps.toList == b.cps.toList) = false := by
  rw [← Bool.not_eq_true, strEq]; exact h

theorem lk_cons (n x : PySem.Str) (v : PV) (r) : lk ((n, v) :: r) x = if n = x then some v else lk r x := by
  show (bif n.cps.toList == x.cps.toList then some v else lk r x) = _
  by_cases h : n = x
  · rw [if_pos h, strEq.mpr h]; rfl
  · rw [if_neg h, strNe h]; rfl

theorem lk_putA (x y : PySem.Str) (v : PV) : ∀ l, lk (putA l x v) y = if y = x then some v else lk l y
  | [] => by
    show lk [(x, v)] y = _
    rw [lk_cons]
    by_cases h : x = y
    · rw [if_pos h, if_pos h.symm]
    · rw [if_neg h, if_neg (Ne.symm h)]
  | (n, u) :: r => by
    unfold putA
    by_cases h : n = x
    · rw [strEq.mpr h]
      show lk ((n, v) :: r) y = _
      rw [lk_cons, lk_cons]
      subst h
      by_cases h' : n = y
      · rw [if_pos h', if_pos h'.symm]
      · rw [if_neg h', if_neg (Ne.symm h'), if_neg h']
    · rw [strNe h]
      show lk ((n, u) :: putA r x v) y = _
      rw [lk_cons, lk_cons, lk_putA x y v r]
      by_cases h' : n = y
      · rw [if_pos h', if_pos h', if_neg (by rintro rfl; exact h h')]
      · rw [if_neg h', if_neg h']

/-- the state of the pure reading: the function's names, and the stemmer's fields -/
structure St where
  loc : List (PySem.Str × PV)
  fld : Option (List (PySem.Str × PV))

structure Cx where
  w : World
  es : Array (Int × Value)
  ep : Nat
  t : SetTable
  G : GoodV w es t
  A : Around
  hA : A.handled = none
  fa : Addr
  L : Addr
  x : Addr
  dx : Addr

noncomputable def Cx.B (c : Cx) : Heap := finH c.w.params (setO c.es c.ep c.t)

/-- the stemmer's dict -/
noncomputable def FR (h : Heap) : List (PySem.Str × PV) → List DictEntry → Prop
  | [], es => es = []
  | (n, p) :: f, es => ∃ e r, es = e :: r ∧ (∃ t, e.key = .str n t) ∧ VR h p e.val ∧ FR h f r

structure InstR (c : Cx) (f : List (PySem.Str × PV)) (h : Heap) : Prop where
  at_ : h.get? c.x = some (instObj 525 c.dx)
  dL : c.dx ≠ c.L
  xL : c.x ≠ c.L
  xd : c.dx ≠ c.x
  Bd : c.B.get? c.dx = .none
  d : ∃ es n, h.get? c.dx = some (dictOf es n) ∧ FR h f es

structure Rel (c : Cx) (S : St) (s : Shared) : Prop where
  keepB : ∀ b o, c.B.get? b = some o → s.heap.get? b = some o
  BL : c.B.get? c.L = .none
  loc : ∃ m, s.heap.Ns c.L m ∧ ∀ n pv, lk S.loc n = some pv → ∃ v, m n = some v ∧ VR s.heap pv v
  inst : ∀ f, S.fld = some f → InstR c f s.heap

structure Fr (c : Cx) (s s' : Shared) : Prop where
  same : ∃ h tk, s' = { s with heap := h, toks := tk }
  keep : ∀ b o, b ≠ c.L → b ≠ c.dx → s.heap.get? b = some o → s'.heap.get? b = some o

theorem Fr.refl (c : Cx) (s : Shared) : Fr c s s := ⟨⟨s.heap, s.toks, rfl⟩, fun _ _ _ _ e => e⟩
theorem Fr.trans {c : Cx} {s s' s'' : Shared} (a : Fr c s s') (b : Fr c s' s'') : Fr c s s'' := by
  obtain ⟨h, tk, rfl⟩ := a.same
  obtain ⟨h', tk', e⟩ := b.same
  exact ⟨⟨h', tk', e⟩, fun x o h1 h2 h3 => b.keep x o h1 h2 (a.keep x o h1 h2 h3)⟩

theorem Ns.notSeq {h : Heap} {a : Addr} {m} (x : h.Ns a m) {c vs n} : h.get? a ≠ some { cls := c, data := .seq vs n } := by
  obtain ⟨o, es, ep, e, d, _⟩ := x
  intro z
  rw [e] at z
  cases z
  cases d

noncomputable def SOk (c : Cx) (S : St) : Prop := S.fld = .none → c.dx = c.L

theorem Rel.seqKeep {c : Cx} {S : St} {s s' : Shared} (r : Rel c S s) (k : SOk c S) (f : Fr c s s') : SeqKeep s.heap s'.heap := by
  intro a k' vs n e
  obtain ⟨m, hm, -⟩ := r.loc
  refine f.keep _ _ (fun z => Ns.notSeq hm (z ▸ e)) (fun z => ?_) e
  cases hf : S.fld with
  | none => exact Ns.notSeq hm ((k hf) ▸ z ▸ e)
  | some fl =>
    obtain ⟨es, n, hd, -⟩ := (r.inst _ hf).d
    rw [z, hd] at e
    cases e

inductive PFlow where
  | next | brk | cont | ret (v : PV)
noncomputable def FlR (h : Heap) : PFlow → Flow → Prop
  | .next, f => f = .next
  | .brk, f => f = .brk
  | .cont, f => f = .cont
  | .ret p, f => ∃ v, f = .ret v ∧ VR h p v

noncomputable abbrev NoE : Value → Shared → Prop := fun _ _ => False

structure WE (c : Cx) (fd : FuncData) (S : St) (e : Expr) (Q : PV → St → Prop) : Prop where
  run : ∀ s, Rel c S s → SOk c S → wpAny (model pw c.w) c.A (eval e (callEnv fd c.L c.fa)) (fun v s' => ∃ p S', VR s'.heap p v ∧ Rel c S' s' ∧ SOk c S' ∧ Fr c s s' ∧ Q p S') NoE s
structure WB (c : Cx) (fd : FuncData) (S : St) (e : Expr) (Q : Bool → St → Prop) : Prop where
  run : ∀ s, Rel c S s → SOk c S → wpAny (model pw c.w) c.A (PySem.isTrue e (callEnv fd c.L c.fa) (eval e (callEnv fd c.L c.fa))) (fun b s' => ∃ S', Rel c S' s' ∧ SOk c S' ∧ Fr c s s' ∧ Q b S') NoE s
structure WX (c : Cx) (fd : FuncData) (S : St) (b : List Stmt) (Q : PFlow → St → Prop) : Prop where
  run : ∀ s, Rel c S s → SOk c S → wpAny (model pw c.w) c.A (execs b (callEnv fd c.L c.fa)) (fun f s' => ∃ p S', FlR s'.heap p f ∧ Rel c S' s' ∧ SOk c S' ∧ Fr c s s' ∧ Q p S') NoE s
structure W1 (c : Cx) (fd : FuncData) (S : St) (b : Stmt) (Q : PFlow → St → Prop) : Prop where
  run : ∀ s, Rel c S s → SOk c S → wpAny (model pw c.w) c.A (exec b (callEnv fd c.L c.fa)) (fun f s' => ∃ p S', FlR s'.heap p f ∧ Rel c S' s' ∧ SOk c S' ∧ Fr c s s' ∧ Q p S') NoE s

variable {c : Cx} {fd : FuncData} {S : St}

theorem WE.mono {e : Expr} {Q Q' : PV → St → Prop} (h : WE c fd S e Q) (q : ∀ p S, Q p S → Q' p S) : WE c fd S e Q' :=
  ⟨fun s r k => wpAny_mono (h.run s r k) (fun v s' ⟨p, S', a, b, d, f, g⟩ => ⟨p, S', a, b, d, f, q _ _ g⟩) fun _ _ x => x⟩
theorem WX.mono {e : List Stmt} {Q Q' : PFlow → St → Prop} (h : WX c fd S e Q) (q : ∀ p S, Q p S → Q' p S) : WX c fd S e Q' :=
  ⟨fun s r k => wpAny_mono (h.run s r k) (fun v s' ⟨p, S', a, b, d, f, g⟩ => ⟨p, S', a, b, d, f, q _ _ g⟩) fun _ _ x => x⟩

theorem W1.mono {e : Stmt} {Q Q' : PFlow → St → Prop} (h : W1 c fd S e Q) (q : ∀ p S, Q p S → Q' p S) : W1 c fd S e Q' :=
  ⟨fun s r k => wpAny_mono (h.run s r k) (fun v s' ⟨p, S', a, b, d, f, g⟩ => ⟨p, S', a, b, d, f, q _ _ g⟩) fun _ _ x => x⟩

/-- toks alone -/
theorem Rel.tok {s : Shared} (r : Rel c S s) (t : Nat) : Rel c S { s with toks := t } := ⟨r.keepB, r.BL, r.loc, r.inst⟩
theorem Fr.tok {s : Shared} (t : Nat) : Fr c s { s with toks := t } := ⟨⟨s.heap, t, rfl⟩, fun _ _ _ _ e => e⟩

theorem wx_nil {Q} (h : Q .next S) : WX c fd S [] Q := ⟨fun s r k => wpAny_execs_nil ⟨.next, S, rfl, r, k, .refl _ _, h⟩⟩
/-- what is left to show behind one statement -/
noncomputable abbrev Then (c : Cx) (fd : FuncData) (rest : List Stmt) (Q : PFlow → St → Prop) : PFlow → St → Prop := fun p S' => match p with | .next => WX c fd S' rest Q | p => Q p S'
theorem wx_cons {st rest} {Q : PFlow → St → Prop} (h : W1 c fd S st (Then c fd rest Q)) : WX c fd S (st :: rest) Q := by
  refine ⟨fun s r k => ?_⟩
  refine wpAny_execs_cons (wpAny_mono (h.run s r k) (fun f s' z => ?_) fun _ _ x => x)
  obtain ⟨p, S', a, b, d, e, g⟩ := z
  cases p with
  | next =>
    obtain rfl : f = .next := a
    exact wpAny_mono (g.run s' b d) (fun f s'' ⟨p, S'', a', b', d', e', g'⟩ => ⟨p, S'', a', b', d', e.trans e', g'⟩) fun _ _ x => x
  | brk => obtain rfl : f = .brk := a; exact ⟨.brk, S', rfl, b, d, e, g⟩
  | cont => obtain rfl : f = .cont := a; exact ⟨.cont, S', rfl, b, d, e, g⟩
  | ret p => obtain ⟨v, rfl, z⟩ := a; exact ⟨.ret p, S', ⟨v, rfl, z⟩, b, d, e, g⟩

theorem we_cint {i k pos} {Q} (h : Q (.int i) S) : WE c fd S (.Constant (.int i) k pos) Q :=
  ⟨fun s r k => wpAny_Constant_int ⟨.int i, S, (by simp only [VR]; exact ⟨_, rfl⟩), r.tok _, k, .tok _, h⟩⟩

theorem we_name {x : PySem.Str} {pos} {Q} {p : PV} (hk : fd.scope.kind = .function) (hx : fd.scope.names.lookup x = some .local) (hl : lk S.loc x = some p) (h : Q p S) (hd : (x == ("__debug__" : PySem.Str)) = false := by decide) : WE c fd S (.Name x pos) Q := by
  refine ⟨fun s r k => ?_⟩
  obtain ⟨m, hm, hv⟩ := r.loc
  obtain ⟨v, e1, e2⟩ := hv x p hl
  exact wpAny_Name (wpAny_loadName_local (env := callEnv fd c.L c.fa) hk hx hm e1 ⟨p, S, e2, r, k, .refl _ _, h⟩) hd

end Mine
end

section
open PySem PySem.W PySem.Calls PyProof.Rows
set_option Elab.async false
set_option maxRecDepth 100000
set_option linter.unusedVariables false
namespace Mine
variable {c : Cx} {fd : FuncData} {S : St}

noncomputable abbrev Post (c : Cx) (s : Shared) (Q : PV → St → Prop) : Value → Shared → Prop :=
  fun v s' => ∃ p S', VR s'.heap p v ∧ Rel c S' s' ∧ SOk c S' ∧ Fr c s s' ∧ Q p S'

theorem SeqKeep.of {h h' : Heap} (k : ∀ b o, h.get? b = some o → h'.get? b = some o) : SeqKeep h h' := fun a _ _ _ e => k a _ e

theorem FR.keep {h h' : Heap} (k : SeqKeep h h') : ∀ {f es} (r : FR h f es), FR h' f es
  | [], es, r => r
  | (n, p) :: f, es, r => by
    obtain ⟨e, r', e1, e2, e3, e4⟩ := r
    exact ⟨e, r', e1, e2, VR.keep k _ _ e3, e4.keep k⟩

/-- a heap that keeps all the old -/
theorem Rel.grow {s : Shared} (r : Rel c S s) {h' : Heap} {tk : Nat} (k : ∀ b o, s.heap.get? b = some o → h'.get? b = some o) : Rel c S { s with heap := h', toks := tk } := by
  obtain ⟨m, hm, hv⟩ := r.loc
  refine ⟨fun b o e => k _ _ (r.keepB b o e), r.BL, ⟨m, hm.keeps k, fun n pv e => ?_⟩, fun f e => ?_⟩
  · obtain ⟨v, e1, e2⟩ := hv n pv e
    exact ⟨v, e1, VR.keep (.of k) _ _ e2⟩
  · obtain ⟨a, b, d, e', g, es, n, e1, e2⟩ := r.inst f e
    exact ⟨k _ _ a, b, d, e', g, es, n, k _ _ e1, e2.keep (.of k)⟩
theorem Fr.grow {s : Shared} {h' : Heap} {tk : Nat} (k : ∀ b o, s.heap.get? b = some o → h'.get? b = some o) : Fr c s { s with heap := h', toks := tk } :=
  ⟨⟨h', tk, rfl⟩, fun b o _ _ e => k b o e⟩

theorem post_tok {s : Shared} (r : Rel c S s) (k : SOk c S) {tk : Nat} {p : PV} {v : Value} {Q} (hv : VR s.heap p v) (q : Q p S) : Post c s Q v { s with toks := tk } :=
  ⟨p, S, hv, r.tok _, k, .tok _, q⟩
theorem post_grow {s : Shared} (r : Rel c S s) (k : SOk c S) {h' : Heap} {tk : Nat} (g : ∀ b o, s.heap.get? b = some o → h'.get? b = some o) {p : PV} {v : Value} {Q} (hv : VR h' p v) (q : Q p S) :
    Post c s Q v { s with heap := h', toks := tk } :=
  ⟨p, S, hv, r.grow g, k, .grow g, q⟩

theorem Post.trans {s s₁ : Shared} {Q} {v : Value} {s₂ : Shared} (f : Fr c s s₁) (h : Post c s₁ Q v s₂) : Post c s Q v s₂ := by
  obtain ⟨p, S', a, b, d, e, g⟩ := h
  exact ⟨p, S', a, b, d, f.trans e, g⟩

theorem vr_int {h : Heap} {i : Int} {t : Tok} : VR h (.int i) (.int i t) := by simp only [VR]; exact ⟨_, rfl⟩
theorem vr_str {h : Heap} {i : List Nat} {t : Tok} : VR h (.str i) (.str ⟨⟨i⟩⟩ t) := by simp only [VR]; exact ⟨_, rfl⟩
theorem vr_bool {h : Heap} {i : Bool} : VR h (.bool i) (.bool i) := by simp only [VR]
theorem vr_none {h : Heap} : VR h .none .none := by simp only [VR]
theorem vr_ref {h : Heap} {a : Addr} : VR h (.ref a) (.ref a) := by simp only [VR]
theorem vr_bi {h : Heap} {a : String} : VR h (.bi a) (.builtin a) := by simp only [VR]

theorem we_cstr {x : List Nat} {k pos} {Q} (h : Q (.str x) S) : WE c fd S (.Constant (.str ⟨⟨x⟩⟩) k pos) Q :=
  ⟨fun s r ok => wpAny_Constant_str (post_tok r ok vr_str h)⟩
theorem we_cbool {x : Bool} {k pos} {Q} (h : Q (.bool x) S) : WE c fd S (.Constant (.bool x) k pos) Q :=
  ⟨fun s r ok => wpAny_Constant_bool (post_tok (tk := s.toks) r ok vr_bool h)⟩
theorem we_cnone {k pos} {Q} (h : Q .none S) : WE c fd S (.Constant .none k pos) Q :=
  ⟨fun s r ok => wpAny_Constant_none (post_tok (tk := s.toks) r ok vr_none h)⟩

/-- a name of the text's top -/
theorem we_glob {x : PySem.Str} {pos} {v : Value} {p : PV} {Q} (hg : c.B.nsMap mainGlobals x = some v) (hv : VR c.B p v) (hk : fd.scope.kind = .function) (hG : fd.globals = mainGlobals)
    (hx : fd.scope.names.lookup x = some .globalImplicit) (h : Q p S) (hd : (x == ("__debug__" : PySem.Str)) = false := by decide) : WE c fd S (.Name x pos) Q := by
  refine ⟨fun s r ok => ?_⟩
  have hm : s.heap.Ns (callEnv fd c.L c.fa).globals (c.B.nsMap mainGlobals) := by
    show s.heap.Ns fd.globals _
    rw [hG]; exact (main_ns _ _).keeps r.keepB
  exact Name_function_global (env := callEnv fd c.L c.fa) hk hx (loadGlobal_global hm hg (post_tok (tk := s.toks) r ok (VR.keep (.of r.keepB) _ _ hv) h)) hd

theorem bi_ns (P : Params) (so : Obj) : (finH P so).Ns 0 ((finH P so).nsMap 0) := Heap.Ns.of_isNs (by kernel_rfl)

/-- a name of the builtins -/
theorem we_bi {x : PySem.Str} {pos} {v : Value} {p : PV} {Q} (hn : c.B.nsMap mainGlobals x = .none) (hg : c.B.nsMap 0 x = some v) (hv : VR c.B p v) (hk : fd.scope.kind = .function) (hG : fd.globals = mainGlobals) (hB : fd.builtins = 0)
    (hx : fd.scope.names.lookup x = some .globalImplicit) (h : Q p S) (hd : (x == ("__debug__" : PySem.Str)) = false := by decide) : WE c fd S (.Name x pos) Q := by
  refine ⟨fun s r ok => ?_⟩
  have hm : s.heap.Ns (callEnv fd c.L c.fa).globals (c.B.nsMap mainGlobals) := by
    show s.heap.Ns fd.globals _
    rw [hG]; exact (main_ns _ _).keeps r.keepB
  have hb : s.heap.Ns (callEnv fd c.L c.fa).builtins (c.B.nsMap 0) := by
    show s.heap.Ns fd.builtins _
    rw [hB]; exact (bi_ns _ _).keeps r.keepB
  exact Name_function_global (env := callEnv fd c.L c.fa) hk hx (loadGlobal_builtin hm hn hb hg (post_tok (tk := s.toks) r ok (VR.keep (.of r.keepB) _ _ hv) h)) hd

/-- an operation on two values -/
structure BinR (c : Cx) (S : St) (op : Operator) (a b : PV) (Q : PV → St → Prop) : Prop where
  run : ∀ s u v, Rel c S s → SOk c S → VR s.heap a u → VR s.heap b v → wpAny (model pw c.w) c.A (binaryOp op u v) (Post c s Q) NoE s
structure IopR (c : Cx) (S : St) (op : Operator) (a b : PV) (Q : PV → St → Prop) : Prop where
  run : ∀ s u v, Rel c S s → SOk c S → VR s.heap a u → VR s.heap b v → wpAny (model pw c.w) c.A (inplaceOp op u v) (Post c s Q) NoE s
structure CmpR (c : Cx) (S : St) (op : CmpOp) (a b : PV) (Q : Bool → Prop) : Prop where
  run : ∀ s u v, Rel c S s → SOk c S → VR s.heap a u → VR s.heap b v → wpAny (model pw c.w) c.A (compareOp op u v) (fun r s' => ∃ bb h tk, r = .bool bb ∧ s' = { s with heap := h, toks := tk } ∧ (∀ b o, s.heap.get? b = some o → h.get? b = some o) ∧ Q bb) NoE s

theorem we_bin {l op r pos Q} (h : WE c fd S l (fun a S1 => WE c fd S1 r (fun b S2 => BinR c S2 op a b Q))) : WE c fd S (.BinOp l op r pos) Q := by
  refine ⟨fun s rl ok => ?_⟩
  refine wpAny_BinOp (wpAny_mono (h.run s rl ok) (fun u s₁ z => ?_) fun _ _ x => x)
  obtain ⟨a, S1, a1, a2, a3, a4, a5⟩ := z
  refine wpAny_mono (a5.run s₁ a2 a3) (fun v s₂ z => ?_) fun _ _ x => x
  obtain ⟨b, S2, b1, b2, b3, b4, b5⟩ := z
  exact wpAny_mono (b5.run s₂ u v b2 b3 (VR.keep (a2.seqKeep a3 b4) _ _ a1) b1) (fun v s₃ z => z.trans (a4.trans b4)) fun _ _ x => x

theorem we_cmp {l op r pos} {Q : PV → St → Prop} (h : WE c fd S l (fun a S1 => WE c fd S1 r (fun b S2 => CmpR c S2 op a b (fun bb => Q (.bool bb) S2)))) (hb : behindInMarks op r = false := by rfl) : WE c fd S (.Compare l [op] [r] pos) Q := by
  refine ⟨fun s rl ok => ?_⟩
  refine wpAny_Compare1 (wpAny_mono (h.run s rl ok) (fun u s₁ z => ?_) fun _ _ x => x) hb
  obtain ⟨a, S1, a1, a2, a3, a4, a5⟩ := z
  refine wpAny_mono (a5.run s₁ a2 a3) (fun v s₂ z => ?_) fun _ _ x => x
  obtain ⟨b, S2, b1, b2, b3, b4, b5⟩ := z
  refine wpAny_mono (b5.run s₂ u v b2 b3 (VR.keep (a2.seqKeep a3 b4) _ _ a1) b1) (fun v s₃ z => ?_) fun _ _ x => x
  obtain ⟨bb, h', tk, rfl, rfl, hk, q⟩ := z
  exact (post_grow (c := c) b2 b3 hk vr_bool q).trans (a4.trans b4)

theorem wb_cmp {l op r pos} {Q : Bool → St → Prop} (h : WE c fd S l (fun a S1 => WE c fd S1 r (fun b S2 => CmpR c S2 op a b (fun bb => Q bb S2)))) (hb : behindInMarks op r = false := by rfl) : WB c fd S (.Compare l [op] [r] pos) Q := by
  refine ⟨fun s rl ok => ?_⟩
  refine wpAny_isTrue_Compare1 (wpAny_mono (h.run s rl ok) (fun u s₁ z => ?_) fun _ _ x => x) hb
  obtain ⟨a, S1, a1, a2, a3, a4, a5⟩ := z
  refine wpAny_mono (a5.run s₁ a2 a3) (fun v s₂ z => ?_) fun _ _ x => x
  obtain ⟨b, S2, b1, b2, b3, b4, b5⟩ := z
  refine wpAny_mono (b5.run s₂ u v b2 b3 (VR.keep (a2.seqKeep a3 b4) _ _ a1) b1) (fun v s₃ z => ?_) fun _ _ x => x
  obtain ⟨bb, h', tk, rfl, rfl, hk, q⟩ := z
  exact wpAny_truthy_bool ⟨S2, b2.grow hk, b3, (a4.trans b4).trans (.grow hk), q⟩

theorem wb_not {x pos} {Q : Bool → St → Prop} (h : WB c fd S x (fun b S1 => Q (!b) S1)) : WB c fd S (.UnaryOp .Not x pos) Q := by
  refine ⟨fun s rl ok => ?_⟩
  exact wpAny_isTrue_Not (wpAny_mono (h.run s rl ok) (fun b s₁ ⟨S1, a, b, d, e⟩ => ⟨S1, a, b, d, e⟩) fun _ _ x => x)

/-- a test that is a value -/
theorem wb_val {e} {Q : Bool → St → Prop} (h : WE c fd S e (fun p S1 => ∃ b, p = .bool b ∧ Q b S1))
    (hp : ∀ env whole, PySem.isTrue e env whole = (do let v ← whole; standAt e.pos; holding [v] (truthy v)) := by intros; rfl) : WB c fd S e Q := by
  refine ⟨fun s rl ok => ?_⟩
  refine isTrue_plain (wpAny_mono (h.run s rl ok) (fun v s₁ z => ?_) fun _ _ x => x) (hp _ _)
  obtain ⟨p, S1, a1, a2, a3, a4, b, rfl, q⟩ := z
  simp only [VR] at a1
  subst a1
  exact wpAny_truthy_bool ⟨S1, a2, a3, a4, q⟩

theorem we_ifexp {t b o pos Q} (h : WB c fd S t (fun x S1 => if x = true then WE c fd S1 b Q else WE c fd S1 o Q)) : WE c fd S (.IfExp t b o pos) Q := by
  refine ⟨fun s rl ok => ?_⟩
  refine wpAny_IfExp (wpAny_mono (h.run s rl ok) (fun b s₁ z => ?_) fun _ _ x => x)
  obtain ⟨S1, a2, a3, a4, q⟩ := z
  split
  · rename_i hb
    rw [if_pos hb] at q
    exact wpAny_mono (q.run _ a2 a3) (fun _ _ z => Post.trans a4 z) fun _ _ x => x
  · rename_i hb
    rw [if_neg hb] at q
    exact wpAny_mono (q.run _ a2 a3) (fun _ _ z => Post.trans a4 z) fun _ _ x => x

theorem we_neg {x pos i} {Q : PV → St → Prop} (h : WE c fd S x (fun p S1 => p = .int i ∧ Q (.int (-i)) S1)) : WE c fd S (.UnaryOp .USub x pos) Q := by
  refine ⟨fun s rl ok => ?_⟩
  refine wpAny_UnaryOp (wpAny_mono (h.run s rl ok) (fun v s₁ z => ?_) fun _ _ x => x)
  obtain ⟨p, S1, a1, a2, a3, a4, rfl, q⟩ := z
  simp only [VR] at a1
  obtain ⟨t, rfl⟩ := a1
  exact neg_int ((post_tok a2 a3 vr_int q).trans a4)

theorem bin_add {a b : Int} {Q} (h : Q (.int (a + b)) S) : BinR c S .Add (.int a) (.int b) Q := by
  refine ⟨fun s u v r ok hu hv => ?_⟩
  simp only [VR] at hu hv
  obtain ⟨t, rfl⟩ := hu; obtain ⟨t', rfl⟩ := hv
  exact add_int (post_tok r ok vr_int h)
theorem bin_sub {a b : Int} {Q} (h : Q (.int (a - b)) S) : BinR c S .Sub (.int a) (.int b) Q := by
  refine ⟨fun s u v r ok hu hv => ?_⟩
  simp only [VR] at hu hv
  obtain ⟨t, rfl⟩ := hu; obtain ⟨t', rfl⟩ := hv
  exact sub_int (post_tok r ok vr_int h)
theorem bin_shr {a b : Int} {Q} (hb : 0 ≤ b) (h : Q (.int (a.fdiv (2 ^ b.toNat))) S) : BinR c S .RShift (.int a) (.int b) Q := by
  refine ⟨fun s u v r ok hu hv => ?_⟩
  simp only [VR] at hu hv
  obtain ⟨t, rfl⟩ := hu; obtain ⟨t', rfl⟩ := hv
  exact rshift_int hb (post_tok r ok vr_int h)
theorem bin_mod {a b : Int} {Q} (hb : b ≠ 0) (h : Q (.int (a.fmod b)) S) : BinR c S .Mod (.int a) (.int b) Q := by
  refine ⟨fun s u v r ok hu hv => ?_⟩
  simp only [VR] at hu hv
  obtain ⟨t, rfl⟩ := hu; obtain ⟨t', rfl⟩ := hv
  exact mod_int' hb (post_tok r ok vr_int h)
theorem bin_adds {a b : List Nat} {Q} (h : Q (.str (a ++ b)) S) (hz : a.length + b.length ≤ sizeLine) : BinR c S .Add (.str a) (.str b) Q := by
  refine ⟨fun s u v r ok hu hv => ?_⟩
  simp only [VR] at hu hv
  obtain ⟨t, rfl⟩ := hu; obtain ⟨t', rfl⟩ := hv
  have e : (⟨⟨a⟩⟩ : PySem.Str) ++ (⟨⟨b⟩⟩ : PySem.Str) = ⟨⟨a ++ b⟩⟩ := by show (⟨(⟨a⟩ : Array Nat) ++ ⟨b⟩⟩ : PySem.Str) = _; simp
  exact add_str (fun _ _ => by rw [e]; exact post_tok r ok vr_str h) hz

theorem iop_add {a b : Int} {Q} (h : Q (.int (a + b)) S) : IopR c S .Add (.int a) (.int b) Q := by
  refine ⟨fun s u v r ok hu hv => ?_⟩
  simp only [VR] at hu hv
  obtain ⟨t, rfl⟩ := hu; obtain ⟨t', rfl⟩ := hv
  exact iadd_int (post_tok r ok vr_int h)

theorem cmp_tok {s : Shared} {Q : Bool → Prop} {b : Bool} {tk : Nat} (q : Q b) : ∃ bb h tk', Value.bool b = .bool bb ∧ ({ s with toks := tk } : Shared) = { s with heap := h, toks := tk' } ∧ (∀ b o, s.heap.get? b = some o → h.get? b = some o) ∧ Q bb :=
  ⟨b, s.heap, tk, rfl, rfl, fun _ _ e => e, q⟩

theorem cmp_eq {a b : Int} {Q : Bool → Prop} (h : Q (a == b)) : CmpR c S .Eq (.int a) (.int b) Q := by
  refine ⟨fun s u v r ok hu hv => ?_⟩
  simp only [VR] at hu hv
  obtain ⟨t, rfl⟩ := hu; obtain ⟨t', rfl⟩ := hv
  exact eq_int (cmp_tok (tk := s.toks) h)
theorem cmp_ne {a b : Int} {Q : Bool → Prop} (h : Q (a != b)) : CmpR c S .NotEq (.int a) (.int b) Q := by
  refine ⟨fun s u v r ok hu hv => ?_⟩
  simp only [VR] at hu hv
  obtain ⟨t, rfl⟩ := hu; obtain ⟨t', rfl⟩ := hv
  exact ne_int (cmp_tok (tk := s.toks) h)
theorem cmp_lt {a b : Int} {Q : Bool → Prop} (h : Q (decide (a < b))) : CmpR c S .Lt (.int a) (.int b) Q := by
  refine ⟨fun s u v r ok hu hv => ?_⟩
  simp only [VR] at hu hv
  obtain ⟨t, rfl⟩ := hu; obtain ⟨t', rfl⟩ := hv
  exact lt_int (cmp_tok (tk := s.toks) h)
theorem cmp_le {a b : Int} {Q : Bool → Prop} (h : Q (decide (a ≤ b))) : CmpR c S .LtE (.int a) (.int b) Q := by
  refine ⟨fun s u v r ok hu hv => ?_⟩
  simp only [VR] at hu hv
  obtain ⟨t, rfl⟩ := hu; obtain ⟨t', rfl⟩ := hv
  exact le_int (cmp_tok (tk := s.toks) h)
theorem cmp_gt {a b : Int} {Q : Bool → Prop} (h : Q (decide (a > b))) : CmpR c S .Gt (.int a) (.int b) Q := by
  refine ⟨fun s u v r ok hu hv => ?_⟩
  simp only [VR] at hu hv
  obtain ⟨t, rfl⟩ := hu; obtain ⟨t', rfl⟩ := hv
  exact gt_int (cmp_tok (tk := s.toks) h)
theorem cmp_ge {a b : Int} {Q : Bool → Prop} (h : Q (decide (a ≥ b))) : CmpR c S .GtE (.int a) (.int b) Q := by
  refine ⟨fun s u v r ok hu hv => ?_⟩
  simp only [VR] at hu hv
  obtain ⟨t, rfl⟩ := hu; obtain ⟨t', rfl⟩ := hv
  exact ge_int (cmp_tok (tk := s.toks) h)

/-- the class's set of vowels -/
theorem gv_set {s : Shared} (r : Rel c S s) : Heap.SetOf (PySem.strKind pw c.w) s.heap 230 isV 10 := by
  obtain ⟨g1, g2, g3, g4⟩ := c.G
  exact ⟨setO c.es c.ep c.t, c.es, c.ep, c.t, r.keepB _ _ (by kernel_rfl), ⟨rfl, rfl, rfl⟩, rfl, g1, g2, by rw [g4]; decide, g3, g4⟩
theorem cmp_in {a : List Nat} {Q : Bool → Prop} (h : Q (isV ⟨⟨a⟩⟩)) : CmpR c S .In (.str a) (.ref 230) Q := by
  refine ⟨fun s u v r ok hu hv => ?_⟩
  simp only [VR] at hu hv
  obtain ⟨t, rfl⟩ := hu; subst hv
  exact wpAny_inSet_of (knd := PySem.strKind pw c.w) (strKind_is pw c.w ⟨⟨a⟩⟩ t) rfl (gv_set r) (cmp_tok h)
theorem cmp_notin {a : List Nat} {Q : Bool → Prop} (h : Q (!isV ⟨⟨a⟩⟩)) : CmpR c S .NotIn (.str a) (.ref 230) Q := by
  refine ⟨fun s u v r ok hu hv => ?_⟩
  simp only [VR] at hu hv
  obtain ⟨t, rfl⟩ := hu; subst hv
  exact wpAny_notInSet_of (knd := PySem.strKind pw c.w) (strKind_is pw c.w ⟨⟨a⟩⟩ t) rfl (gv_set r) (cmp_tok h)
end Mine
end

section
open PySem PySem.W PySem.Calls PyProof.Rows
set_option Elab.async false
set_option maxRecDepth 100000
set_option linter.unusedVariables false
namespace Mine
variable {c : Cx} {fd : FuncData} {S : St}

/-- the head's objects as a row -/
noncomputable def KF (P : Params) (so : Obj) : Frag := (List.range 607).zip (finL P so)
theorem zip_lookup : ∀ (L : List Obj) (n k a : Nat) (o : Obj), List.lookup a ((List.range' k n).zip L) = some o → k ≤ a ∧ L[a - k]? = some o
  | [], n, k, a, o, h => by rw [List.zip_nil_right] at h; cases h
  | x :: L, 0, k, a, o, h => by cases h
  | x :: L, n + 1, k, a, o, h => by
    rw [List.range'_succ, List.zip_cons_cons, List.lookup_cons] at h
    by_cases e : a = k
    · subst e
      rw [show (a == a) = true from beq_self_eq_true a] at h
      rw [Nat.sub_self]
      exact ⟨Nat.le_refl _, h⟩
    · rw [show (a == k) = false from by rw [← Bool.not_eq_true, beq_iff_eq]; exact e] at h
      obtain ⟨h1, h2⟩ := zip_lookup L n (k + 1) a o h
      refine ⟨by omega, ?_⟩
      rw [show a - k = (a - (k + 1)) + 1 by omega, List.getElem?_cons_succ]
      exact h2
theorem KF_in (P : Params) (es ep t) : (KF P (setO es ep t)).In (finH P (setO es ep t)) := by
  intro a o h
  unfold KF at h
  rw [List.range_eq_range'] at h
  have h2 := (zip_lookup _ _ _ _ _ h).2
  rw [Nat.sub_zero] at h2
  have hf : ((finL P (setO es ep t)).all fun o => !o.isFreed) = true := by kernel_rfl
  have hf := List.all_eq_true.mp hf o (List.mem_of_getElem? h2)
  refine Heap.get?_some_iff.mpr ⟨?_, by simpa using hf⟩
  show (finL P (setO es ep t)).toArray[a]? = some o
  rw [List.getElem?_toArray]
  exact h2
noncomputable abbrev Cx.K (c : Cx) : Frag := KF c.w.params (setO c.es c.ep c.t)

noncomputable abbrev nCur : PySem.Str := ⟨⟨[99, 117, 114, 114, 101, 110, 116]⟩⟩
noncomputable abbrev nC : PySem.Str := ⟨⟨[99, 117, 114, 115, 111, 114]⟩⟩
noncomputable abbrev nL : PySem.Str := ⟨⟨[108, 105, 109, 105, 116]⟩⟩
noncomputable abbrev nLb : PySem.Str := ⟨⟨[108, 105, 109, 105, 116, 95, 98, 97, 99, 107, 119, 97, 114, 100]⟩⟩
noncomputable abbrev nBr : PySem.Str := ⟨⟨[98, 114, 97]⟩⟩
noncomputable abbrev nKe : PySem.Str := ⟨⟨[107, 101, 116]⟩⟩
noncomputable abbrev nPV : PySem.Str := ⟨⟨[73, 95, 112, 86]⟩⟩
noncomputable abbrev nP1 : PySem.Str := ⟨⟨[73, 95, 112, 49]⟩⟩
noncomputable abbrev nP2 : PySem.Str := ⟨⟨[73, 95, 112, 50]⟩⟩
noncomputable def fieldNames : List PySem.Str := [nCur, nC, nL, nLb, nBr, nKe, nPV, nP1, nP2]
noncomputable def isF (n : PySem.Str) : Bool := fieldNames.any fun x => x.cps.toList == n.cps.toList
theorem isF_mem {n : PySem.Str} (h : isF n = true) : n ∈ fieldNames := by
  obtain ⟨x, hx, e⟩ := List.any_eq_true.mp h
  exact strEq.mp e ▸ hx
structure IsFld (P : Params) (so : Obj) (n : PySem.Str) : Prop where
  own : ((findIn (KF P so) (.ref 525) n).any fun a => noGet (KF P so) a) = true
  taker : takerIn (KF P so) 525 n = some none
theorem isFld (P : Params) (es ep t) : ∀ n ∈ fieldNames, IsFld P (setO es ep t) n := by
  intro n hn
  simp only [fieldNames, List.mem_cons, List.not_mem_nil, or_false] at hn
  rcases hn with rfl | rfl | rfl | rfl | rfl | rfl | rfl | rfl | rfl
  all_goals exact ⟨by kernel_rfl, by kernel_rfl⟩
theorem ga_irish (P : Params) (es ep t) : findIn (KF P (setO es ep t)) (.ref 525) "__getattribute__" = some (some (.builtin "object.__getattribute__")) := by kernel_rfl
theorem gx_irish (P : Params) (es ep t) : findIn (KF P (setO es ep t)) (.ref 525) "__getattr__" = some none := by kernel_rfl
theorem sa_irish (P : Params) (es ep t) : findIn (KF P (setO es ep t)) (.ref 525) "__setattr__" = some (some (.builtin "object.__setattr__")) := by kernel_rfl
theorem hd_irish (P : Params) (es ep t) : hasDictIn (KF P (setO es ep t)) 525 = true := by kernel_rfl
theorem po_irish (P : Params) (es ep t) : plainOver (KF P (setO es ep t)) 525 = true := by kernel_rfl
end Mine
end

section
open PySem PySem.W PySem.Calls PyProof.Rows
set_option Elab.async false
set_option maxRecDepth 100000
set_option linter.unusedVariables false
namespace Mine
variable {c : Cx} {fd : FuncData} {S : St}

theorem isStr_str (n x : PySem.Str) (t : Tok) : (Value.str n t).isStr x = (n == x) := rfl
theorem keyIs {n x : PySem.Str} {e : DictEntry} (h : ∃ t, e.key = .str n t) : e.key.isStr x = (n.cps.toList == x.cps.toList) := by
  obtain ⟨t, e1⟩ := h
  rw [e1, isStr_str, toList_beq]
theorem FR.noRef {h : Heap} : ∀ {f : List (PySem.Str × PV)} {es : List DictEntry}, FR h f es → es.any (·.refKey) = false
  | [], es, r => by obtain rfl : es = [] := r; rfl
  | (n, p) :: f, es, r => by
    obtain ⟨e, r', rfl, ⟨t, e2⟩, -, e4⟩ := r
    rw [List.any_cons, e4.noRef]
    simp [DictEntry.refKey, e2]
theorem FR.get {h : Heap} {x : PySem.Str} {p : PV} : ∀ {f : List (PySem.Str × PV)} {es : List DictEntry}, FR h f es → lk f x = some p → ∃ v, (es.find? (·.key.isStr x)).map (·.val) = some v ∧ VR h p v
  | [], es, r, e => by cases e
  | (n, q) :: f, es, r, e => by
    obtain ⟨e', r', rfl, e2, e3, e4⟩ := r
    rw [lk_cons] at e
    rw [List.find?_cons, keyIs e2]
    by_cases hn : n = x
    · rw [if_pos hn] at e
      cases e
      rw [strEq.mpr hn]
      exact ⟨_, rfl, e3⟩
    · rw [if_neg hn] at e
      rw [strNe hn]
      exact FR.get e4 e
theorem FR.none {h : Heap} {x : PySem.Str} : ∀ {f : List (PySem.Str × PV)} {es : List DictEntry}, FR h f es → lk f x = .none → es.find? (·.key.isStr x) = .none
  | [], es, r, e => by obtain rfl : es = [] := r; rfl
  | (n, q) :: f, es, r, e => by
    obtain ⟨e', r', rfl, e2, e3, e4⟩ := r
    rw [lk_cons] at e
    rw [List.find?_cons, keyIs e2]
    by_cases hn : n = x
    · rw [if_pos hn] at e; cases e
    · rw [if_neg hn] at e
      rw [strNe hn]
      exact FR.none e4 e
theorem FR.len {h : Heap} : ∀ {f : List (PySem.Str × PV)} {es : List DictEntry}, FR h f es → es.length = f.length
  | [], es, r => by obtain rfl : es = [] := r; rfl
  | (n, p) :: f, es, r => by
    obtain ⟨e, r', rfl, -, -, e4⟩ := r
    simp [e4.len]
theorem FR.getL {h : Heap} {x : PySem.Str} {p : PV} {f : List (PySem.Str × PV)} {es : List DictEntry} (r : FR h f es) (e : lk f x = some p) : ∃ v, PySem.W.getL x es = some (some v) ∧ VR h p v := by
  obtain ⟨v, e1, e2⟩ := r.get e
  refine ⟨v, ?_, e2⟩
  unfold PySem.W.getL
  cases hf : es.find? (·.key.isStr x) with
  | none => rw [hf] at e1; cases e1
  | some y => rw [hf] at e1; cases e1; rfl
theorem FR.getN {h : Heap} {x : PySem.Str} {f : List (PySem.Str × PV)} {es : List DictEntry} (r : FR h f es) (e : lk f x = .none) : PySem.W.getL x es = some .none := by
  unfold PySem.W.getL
  rw [r.none e]
  simp [r.noRef]
theorem FR.put {h : Heap} {x : PySem.Str} {p : PV} {v : Value} {hs : Int} {t : Tok} (hv : VR h p v) : ∀ {f : List (PySem.Str × PV)} {es : List DictEntry}, FR h f es → FR h (putA f x p) (putL x hs (.str x t) v es)
  | [], es, r => by
    obtain rfl : es = [] := r
    exact ⟨⟨hs, .str x t, v⟩, [], rfl, ⟨t, rfl⟩, hv, rfl⟩
  | (n, q) :: f, es, r => by
    obtain ⟨e', r', rfl, e2, e3, e4⟩ := r
    unfold putA putL
    rw [keyIs e2]
    by_cases hn : n = x
    · rw [strEq.mpr hn]
      exact ⟨_, r', rfl, e2, hv, e4⟩
    · rw [strNe hn]
      exact ⟨_, _, rfl, e2, e3, FR.put hv e4⟩
theorem putA_len (x : PySem.Str) (p : PV) : ∀ f, (putA f x p).length ≤ f.length + 1
  | [] => Nat.le_refl _
  | (n, q) :: f => by
    unfold putA
    cases n.cps.toList == x.cps.toList
    · simp [putA_len x p f]
    · simp

noncomputable def PV.plain : PV → Bool
  | .int _ => true
  | .str _ => true
  | .bool _ => true
  | .none => true
  | .ref _ => true
  | _ => false
theorem handed {h : Heap} {p : PV} {v : Value} (hp : p.plain = true) (r : VR h p v) : handedIn v = true := by
  cases p <;> simp only [VR] at r
  · subst r; rfl
  · subst r; rfl
  · obtain ⟨t, rfl⟩ := r; rfl
  · obtain ⟨t, rfl⟩ := r; rfl
  · subst r; rfl
  · cases hp
  · cases hp
  · cases hp
  · cases hp

theorem Rel.kin {s : Shared} (r : Rel c S s) : c.K.In s.heap := (KF_in _ _ _ _).keeps r.keepB

/-- a field of the instance -/
theorem fld_read {f : List (PySem.Str × PV)} {n : PySem.Str} {p : PV} {expr : Bool} {Q : PV → St → Prop} (hf : S.fld = some f) (hn : n ∈ fieldNames) (hl : lk f n = some p) (hp : p.plain = true) (h : Q p S) :
    ∀ s, Rel c S s → SOk c S → wpAny (model pw c.w) c.A (getAttr (.ref c.x) n expr) (Post c s Q) NoE s := by
  intro s r ok
  obtain ⟨a1, a2, a3, a4, a5, es, m, a6, a7⟩ := r.inst f hf
  obtain ⟨v, e1, e2⟩ := a7.getL hl
  have fl := isFld c.w.params c.es c.ep c.t n hn
  obtain ⟨attr, b1, b2⟩ := any_some fl.own
  refine get_value (od := some (dictOf es m)) r.kin ⟨a1, rfl, rfl, a6⟩ (ga_irish _ _ _ _) (findObj_own (hd_irish _ _ _ _) b1 b2 e1) (handed hp e2) (post_tok r ok e2 h)
theorem sok_some {l f} : SOk c ⟨l, some f⟩ := fun z => nomatch z
theorem Rel.upd {s : Shared} (r : Rel c S s) {f : List (PySem.Str × PV)} (hf : S.fld = some f) {es es' : List DictEntry} {m m' : Nat} {F : Obj → Obj} {f' : List (PySem.Str × PV)} {tk : Nat} (ok : SOk c S)
    (hd : s.heap.get? c.dx = some (dictOf es m)) (e : F (dictOf es m) = dictOf es' m') (h : ∀ h', SeqKeep s.heap h' → FR h' f' es') :
    Rel c { S with fld := some f' } { s with heap := s.heap.update c.dx F, toks := tk } ∧ Fr c s { s with heap := s.heap.update c.dx F, toks := tk } := by
  obtain ⟨a1, a2, a3, a4, a5, es0, m0, a6, a7⟩ := r.inst f hf
  obtain ⟨l, hl, hv⟩ := r.loc
  have up : (s.heap.update c.dx F).get? c.dx = some (dictOf es' m') := by
    rw [Heap.get?_update_self F hd (by rw [e]; rfl), e]
  have oth : ∀ b o, b ≠ c.dx → s.heap.get? b = some o → (s.heap.update c.dx F).get? b = some o := fun b o h1 h2 => Heap.get?_update_of_ne F (Ne.symm h1) h2
  have fr : Fr c s { s with heap := s.heap.update c.dx F, toks := tk } := ⟨⟨_, _, rfl⟩, fun b o _ h2 h3 => oth b o h2 h3⟩
  have sk := r.seqKeep ok fr
  refine ⟨⟨fun b o q => oth b o (fun z => by rw [← z, q] at a5; cases a5) (r.keepB b o q), r.BL, ⟨l, hl.at fun o q => oth _ _ (Ne.symm a2) q, fun n pv q => ?_⟩, fun g hg => ?_⟩, fr⟩
  · obtain ⟨v, q1, q2⟩ := hv n pv q
    exact ⟨v, q1, VR.keep sk _ _ q2⟩
  · cases hg
    exact ⟨oth _ _ (Ne.symm a4) a1, a2, a3, a4, a5, es', m', up, h _ sk⟩

theorem fld_write {f : List (PySem.Str × PV)} {n : PySem.Str} {p : PV} {Q : St → Prop} (hf : S.fld = some f) (hn : n ∈ fieldNames) (hz : f.length ≤ 100) (h : Q { S with fld := some (putA f n p) }) :
    ∀ s v, Rel c S s → SOk c S → VR s.heap p v → wpAny (model pw c.w) c.A (setAttr (.ref c.x) n v) (fun _ s' => ∃ S', Rel c S' s' ∧ SOk c S' ∧ Fr c s s' ∧ Q S') NoE s := by
  intro s v r ok hv
  obtain ⟨a1, a2, a3, a4, a5, es, m, a6, a7⟩ := r.inst f hf
  have fl := isFld c.w.params c.es c.ep c.t n hn
  have I : W.InstAt s.heap c.x (instObj 525 c.dx) 525 (some (dictOf es m)) := ⟨a1, rfl, rfl, a6⟩
  refine set_plain r.kin I (sa_irish _ _ _ _) ?_
  have K1 : c.K.In ({ s with toks := s.toks + 1 } : Shared).heap := r.kin
  refine osa_open K1 I (po_irish _ _ _ _) fl.taker fun b => ?_
  obtain ⟨cd, hc, hd'⟩ := any_some (hd_irish c.w.params c.es c.ep c.t)
  refine wpAny_bind (wpAny_pure (wpAny_bind (wpAny_bind (wpAny_loadPart (show ({ s with toks := s.toks + 1 } : Shared).heap.get? c.x = _ from a1) (wpAny_bind ((looks_clsIn K1 hc).here ?_))))))
  rw [hd']
  refine wpAny_pure (a := some c.dx) (wpAny_bind (wpAny_pure (wpAny_bind ?_)))
  unfold nsSet
  refine wpAny_bind (wpAny_bind (wpAny_askSetting (wpAny_pure (wpAny_bind (wpAny_mkText (wpAny_bind (wpAny_loadPart (show ({ s with toks := s.toks + 1 } : Shared).heap.get? c.dx = _ from a6) ?_)))))))
  dsimp only
  have e0 : aRefKeyMayBeTheName n es.toArray = false := by
    rw [aRefKeyMayBeTheName_at, ← Array.any_toList, ← Array.any_toList]
    simp [a7.noRef]
  rw [e0]
  obtain ⟨u1, u2⟩ := r.upd (f' := putA f n p) (tk := s.toks + 1 + 1) hf ok a6 (putName_dict n (PyData.keyHash c.w.params n) (.str n (s.toks + 1)) v es m) (fun h' sk => FR.put (VR.keep sk _ _ hv) (a7.keep sk))
  obtain ⟨-, -, -, -, -, es1, m1, b6, b7⟩ := u1.inst _ rfl
  refine wpAny_updatePart (show ({ s with toks := s.toks + 1 } : Shared).heap.get? c.dx = _ from a6) ?_
  refine wpAny_bind (wpAny_lookBehind b6 (pastItsLine_dict ?_) ?_)
  · rw [List.size_toArray, b7.len, sizeLine_eq]
    have := putA_len n p f
    omega
  · exact wpAny_pure ⟨_, u1, sok_some, u2, h⟩
end Mine
end

section
open PySem PySem.W PySem.Calls PyProof.Rows
set_option Elab.async false
set_option maxRecDepth 100000
set_option linter.unusedVariables false
namespace Mine
variable {c : Cx} {fd : FuncData} {S : St}

structure GetR (c : Cx) (S : St) (a b : PV) (Q : PV → St → Prop) : Prop where
  run : ∀ s u v, Rel c S s → SOk c S → VR s.heap a u → VR s.heap b v → ∃ T id, s.TypeIs u T ∧ typeLookup (.type T) "__getitem__" = pure (some (.builtin id)) ∧ wpAny (model pw c.w) c.A (getItem u v) (Post c s Q) NoE s

theorem we_sub {value slice pos} {Q : PV → St → Prop} (h : WE c fd S value (fun a S1 => WE c fd S1 slice (fun b S2 => GetR c S2 a b Q)))
    (hs : ∀ o i, subscripted slice false o i = operate [o, i] (getItem o i) := by intros; with_unfolding_all rfl) : WE c fd S (.Subscript value slice pos) Q := by
  refine ⟨fun s rl ok => ?_⟩
  refine Subscript_ (wpAny_mono (h.run s rl ok) (fun u s₁ z => ?_) fun _ _ x => x)
  obtain ⟨a, S1, a1, a2, a3, a4, a5⟩ := z
  refine wpAny_mono (a5.run s₁ a2 a3) (fun v s₂ z => ?_) fun _ _ x => x
  obtain ⟨b, S2, b1, b2, b3, b4, b5⟩ := z
  obtain ⟨T, id, t1, t2, t3⟩ := b5.run s₂ u v b2 b3 (VR.keep (a2.seqKeep a3 b4) _ _ a1) b1
  exact tail_any t1 t2 (wpAny_mono t3 (fun _ _ z => Post.trans (a4.trans b4) z) fun _ _ x => x) (hs _ _)

theorem VRs.get {h : Heap} : ∀ {xs : List PV} {vs : List Value} {i : Nat} {p : PV}, VRs h xs vs → xs[i]? = some p → ∃ v, vs[i]? = some v ∧ VR h p v
  | [], vs, i, p, r, e => by cases e
  | x :: xs, vs, i, p, r, e => by
    simp only [VRs] at r
    obtain ⟨v, r', rfl, r1, r2⟩ := r
    cases i with
    | zero => cases e; exact ⟨v, rfl, r1⟩
    | succ i => obtain ⟨w, w1, w2⟩ := VRs.get (xs := xs) (vs := r') (i := i) r2 e; exact ⟨w, w1, w2⟩
theorem VRs.len {h : Heap} : ∀ {xs : List PV} {vs : List Value}, VRs h xs vs → vs.length = xs.length
  | [], vs, r => by simp only [VRs] at r; rw [r]; rfl
  | x :: xs, vs, r => by
    simp only [VRs] at r
    obtain ⟨v, r', rfl, r1, r2⟩ := r
    simp [r2.len]

theorem get_lst {xs : List PV} {k : Int} {p : PV} {Q} (h0 : 0 ≤ k) (hz : xs.length ≤ 1000000) (e : xs[k.toNat]? = some p) (h : Q p S) : GetR c S (.lst xs) (.int k) Q := by
  refine ⟨fun s u v r ok hu hv => ?_⟩
  simp only [VR] at hu hv
  obtain ⟨a, vs, n, rfl, ha, hvs⟩ := hu
  obtain ⟨t, rfl⟩ := hv
  obtain ⟨x, e1, e2⟩ := hvs.get e
  have hk : k.toNat < xs.length := by
    rcases Nat.lt_or_ge k.toNat xs.length with q | q
    · exact q
    · rw [List.getElem?_eq_none q] at e; cases e
  exact ⟨"list", _, ⟨_, ha, rfl⟩, slot_list_getitem.lookup, wpAny_getItem_list (items := vs.toArray) ⟨_, ha, rfl, _, rfl⟩ h0 (by omega) (by simpa using e1) (post_tok (tk := s.toks) r ok e2 h)⟩

theorem get_tup {xs : List PV} {k : Int} {p : PV} {Q} (h0 : 0 ≤ k) (hz : xs.length ≤ 1000000) (e : xs[k.toNat]? = some p) (h : Q p S) : GetR c S (.tup xs) (.int k) Q := by
  refine ⟨fun s u v r ok hu hv => ?_⟩
  simp only [VR] at hu hv
  obtain ⟨a, vs, n, rfl, ha, hvs⟩ := hu
  obtain ⟨t, rfl⟩ := hv
  obtain ⟨x, e1, e2⟩ := hvs.get e
  have hk : k.toNat < xs.length := by
    rcases Nat.lt_or_ge k.toNat xs.length with q | q
    · exact q
    · rw [List.getElem?_eq_none q] at e; cases e
  have hl := hvs.len
  exact ⟨"tuple", _, ⟨_, ha, rfl⟩, slot_tuple_getitem.lookup, PyProof.Rows.getItem_tuple (items := vs.toArray) (j := k.toNat) (x := x) ⟨_, ha, rfl, _, rfl⟩ (by omega) (by omega) (by simp [seqIndex?]; omega) (by simpa using e1) (post_tok (tk := s.toks) r ok e2 h)⟩

theorem get_str {l : List Nat} {k : Int} {ch : Nat} {Q} (h0 : 0 ≤ k) (hz : l.length ≤ 1000000) (e : l[k.toNat]? = some ch) (h : Q (.str [ch]) S) : GetR c S (.str l) (.int k) Q := by
  refine ⟨fun s u v r ok hu hv => ?_⟩
  simp only [VR] at hu hv
  obtain ⟨t, rfl⟩ := hu
  obtain ⟨t', rfl⟩ := hv
  have hk : k.toNat < l.length := by
    rcases Nat.lt_or_ge k.toNat l.length with q | q
    · exact q
    · rw [List.getElem?_eq_none q] at e; cases e
  refine ⟨"str", _, typeIs_str _ _ _, F.slot_str_getitem.lookup, P.getItem_str (c := ch) (by rw [decide_eq_false (by omega), decide_eq_false (by omega)]; rfl) ?_ (post_tok r ok vr_str h)⟩
  have e1 : seqIndex? k (PySem.Str.length ⟨⟨l⟩⟩) = some k.toNat := by
    show seqIndex? k l.length = _
    unfold seqIndex?
    have q : (if k < 0 then k + (l.length : Int) else k) = k := if_neg (by omega)
    simp only [q]
    rw [if_pos (by rw [decide_eq_true h0, decide_eq_true (show k < (l.length : Int) by omega)]; rfl)]
  rw [e1]
  simpa using e
end Mine
end

section
open PySem PySem.W PySem.Calls PyProof.Rows
set_option Elab.async false
set_option maxRecDepth 100000
set_option linter.unusedVariables false
namespace Mine
variable {c : Cx} {fd : FuncData} {S : St}

/-- a name of the function is set -/
theorem name_write {x : PySem.Str} {p : PV} {v : Value} {s : Shared} {Q : Unit → Shared → Prop} (hk : fd.scope.kind = .function) (hx : fd.scope.names.lookup x = some .local) (r : Rel c S s) (ok : SOk c S) (hv : VR s.heap p v)
    (h : ∀ s', Rel c { S with loc := (x, p) :: S.loc } s' → Fr c s s' → Q () s') : wpAny (model pw c.w) c.A (storeName (callEnv fd c.L c.fa) x v) Q NoE s := by
  obtain ⟨m, hm, hl⟩ := r.loc
  refine wpAny_storeName_local (env := callEnv fd c.L c.fa) hx hm (fun h' hn hs => ?_) (by show ((fd.scope.kind == _ || (fd.scope.kind == _ && _)) = false); rw [hk]; rfl)
  have fr : Fr c s { s with heap := h', toks := s.toks + 1 } := ⟨⟨_, _, rfl⟩, fun b o h1 _ e => (hs.2 b h1).trans e⟩
  have sk := r.seqKeep ok fr
  refine h _ ⟨fun b o e => (hs.2 b (fun z => by have := r.BL; rw [← show b = c.L from z, e] at this; cases this)).trans (r.keepB b o e), r.BL, ⟨_, hn, fun n pv e => ?_⟩, fun f hf => ?_⟩ fr
  · rw [lk_cons] at e
    by_cases hx : x = n
    · rw [if_pos hx] at e
      cases e
      exact ⟨v, if_pos hx.symm, VR.keep sk _ _ hv⟩
    · rw [if_neg hx] at e
      obtain ⟨u, e1, e2⟩ := hl n pv e
      exact ⟨u, (if_neg (Ne.symm hx)).trans e1, VR.keep sk _ _ e2⟩
  · obtain ⟨a1, a2, a3, a4, a5, es, n, a6, a7⟩ := r.inst f hf
    exact ⟨(hs.2 _ a3).trans a1, a2, a3, a4, a5, es, n, (hs.2 _ a2).trans a6, a7.keep sk⟩

theorem w1_assign {x pos' value pos} {Q : PFlow → St → Prop} (hk : fd.scope.kind = .function) (hx : fd.scope.names.lookup x = some .local)
    (h : WE c fd S value (fun p S1 => Q .next { S1 with loc := (x, p) :: S1.loc })) (hs : swapsWith value (some (.Name x pos')) pos.line (callEnv fd c.L c.fa) = pure false := by rfl) :
    W1 c fd S (.Assign [.Name x pos'] value pos) Q := by
  refine ⟨fun s r ok => ?_⟩
  refine wpAny_Assign_Name (wpAny_mono (h.run s r ok) (fun v s₁ z => ?_) fun _ _ x => x) hs
  obtain ⟨p, S1, a1, a2, a3, a4, a5⟩ := z
  exact name_write hk hx a2 a3 a1 fun s' r' fr' => ⟨.next, _, rfl, r', a3, a4.trans fr', a5⟩

theorem w1_aug {x pos' op value pos p} {Q : PFlow → St → Prop} (hk : fd.scope.kind = .function) (hx : fd.scope.names.lookup x = some .local) (hl : lk S.loc x = some p)
    (h : WE c fd S value (fun b S1 => IopR c S1 op p b (fun q S2 => Q .next { S2 with loc := (x, q) :: S2.loc }))) :
    W1 c fd S (.AugAssign (.Name x pos') op value pos) Q := by
  refine ⟨fun s r ok => ?_⟩
  obtain ⟨m, hm, hv⟩ := r.loc
  obtain ⟨u, e1, e2⟩ := hv x p hl
  refine wpAny_AugAssign_Name (wpAny_loadName_local (env := callEnv fd c.L c.fa) hk hx hm e1 ?_)
  refine wpAny_mono (h.run s r ok) (fun v s₁ z => ?_) fun _ _ x => x
  obtain ⟨b, S1, a1, a2, a3, a4, a5⟩ := z
  refine wpAny_mono (a5.run s₁ u v a2 a3 (VR.keep (r.seqKeep ok a4) _ _ e2) a1) (fun v s₂ z => ?_) fun _ _ x => x
  obtain ⟨q, S2, b1, b2, b3, b4, b5⟩ := z
  exact name_write hk hx b2 b3 b1 fun s' r' fr' => ⟨.next, _, rfl, r', b3, (a4.trans b4).trans fr', b5⟩

/-- self.NAME -/
theorem we_self {x xp attr pos p f} {Q : PV → St → Prop} (hk : fd.scope.kind = .function) (hx : fd.scope.names.lookup x = some .local) (hl : lk S.loc x = some (.ref c.x)) (hf : S.fld = some f) (hn : isF attr = true) (hp : lk f attr = some p)
    (hpp : p.plain = true) (h : Q p S) (hd : (x == ("__debug__" : PySem.Str)) = false := by decide) : WE c fd S (.Attribute (.Name x xp) attr pos) Q := by
  refine ⟨fun s r ok => ?_⟩
  obtain ⟨m, hm, hv⟩ := r.loc
  obtain ⟨u, e1, e2⟩ := hv x _ hl
  simp only [VR] at e2
  subst e2
  exact Attribute_Name_ (wpAny_Name (wpAny_loadName_local (env := callEnv fd c.L c.fa) hk hx hm e1 (fld_read hf (isF_mem hn) hp hpp h s r ok)) hd)

theorem w1_selfset {x xp attr pos' value pos} {Q : PFlow → St → Prop} (hk : fd.scope.kind = .function) (hx : fd.scope.names.lookup x = some .local) (hn : isF attr = true)
    (h : WE c fd S value (fun p S1 => lk S1.loc x = some (.ref c.x) ∧ ∃ f, S1.fld = some f ∧ f.length ≤ 100 ∧ Q .next { S1 with fld := some (putA f attr p) }))
    (hs : swapsWith value (some (.Attribute (.Name x xp) attr pos')) pos.line (callEnv fd c.L c.fa) = pure false := by rfl) (hd : (x == ("__debug__" : PySem.Str)) = false := by decide) :
    W1 c fd S (.Assign [.Attribute (.Name x xp) attr pos'] value pos) Q := by
  refine ⟨fun s r ok => ?_⟩
  refine plainObj_wpAny_Assign_Attribute (wpAny_mono (h.run s r ok) (fun v s₁ z => ?_) fun _ _ x => x) hs
  obtain ⟨p, S1, a1, a2, a3, a4, hl, f, hf, hz, a5⟩ := z
  obtain ⟨m, hm, hv⟩ := a2.loc
  obtain ⟨u, e1, e2⟩ := hv x _ hl
  simp only [VR] at e2
  subst e2
  refine wpAny_Name (wpAny_loadName_local (env := callEnv fd c.L c.fa) hk hx hm e1 ?_) hd
  refine wpAny_mono (fld_write (Q := fun S' => Q .next S') hf (isF_mem hn) hz a5 s₁ v a2 a3 a1) (fun _ s₂ z => ?_) fun _ _ x => x
  obtain ⟨S2, b1, b2, b3, b4⟩ := z
  exact ⟨.next, S2, rfl, b1, b2, a4.trans b3, b4⟩

theorem w1_selfaug {x xp attr pos' op value pos f p} {Q : PFlow → St → Prop} (hk : fd.scope.kind = .function) (hx : fd.scope.names.lookup x = some .local) (hl : lk S.loc x = some (.ref c.x)) (hn : isF attr = true)
    (hf : S.fld = some f) (hp : lk f attr = some p) (hpp : p.plain = true)
    (h : WE c fd S value (fun b S1 => IopR c S1 op p b (fun q S2 => ∃ g, S2.fld = some g ∧ g.length ≤ 100 ∧ Q .next { S2 with fld := some (putA g attr q) }))) (hd : (x == ("__debug__" : PySem.Str)) = false := by decide) :
    W1 c fd S (.AugAssign (.Attribute (.Name x xp) attr pos') op value pos) Q := by
  refine ⟨fun s r ok => ?_⟩
  obtain ⟨m, hm, hv⟩ := r.loc
  obtain ⟨u, e1, e2⟩ := hv x _ hl
  simp only [VR] at e2
  subst e2
  refine wpAny_AugAssign_AttributeAny (wpAny_Name (wpAny_loadName_local (env := callEnv fd c.L c.fa) hk hx hm e1 ?_) hd)
  refine wpAny_mono (fld_read (Q := fun q S' => q = p ∧ S' = S) hf (isF_mem hn) hp hpp ⟨rfl, rfl⟩ s r ok) (fun old s₁ z => ?_) fun _ _ x => x
  obtain ⟨q, S', a1, a2, a3, a4, rfl, rfl⟩ := z
  refine wpAny_mono (h.run s₁ a2 a3) (fun v s₂ z => ?_) fun _ _ x => x
  obtain ⟨b, S1, b1, b2, b3, b4, b5⟩ := z
  refine wpAny_mono (b5.run s₂ old v b2 b3 (VR.keep (a2.seqKeep a3 b4) _ _ a1) b1) (fun v s₃ z => ?_) fun _ _ x => x
  obtain ⟨q', S2, d1, d2, d3, d4, g, hg, hz, d5⟩ := z
  refine wpAny_mono (fld_write (Q := fun S' => Q .next S') hg (isF_mem hn) hz d5 s₃ v d2 d3 d1) (fun _ s₂ z => ?_) fun _ _ x => x
  obtain ⟨S3, f1, f2, f3, f4⟩ := z
  exact ⟨.next, S3, rfl, f1, f2, ((a4.trans b4).trans d4).trans f3, f4⟩

theorem w1_if {test body orelse pos} {Q : PFlow → St → Prop} (h : WB c fd S test (fun b S1 => if b = true then WX c fd S1 body Q else WX c fd S1 orelse Q)) : W1 c fd S (.If test body orelse pos) Q := by
  refine ⟨fun s r ok => ?_⟩
  refine wpAny_If (wpAny_mono (h.run s r ok) (fun b s₁ z => ?_) fun _ _ x => x)
  obtain ⟨S1, a2, a3, a4, q⟩ := z
  split
  · rename_i hb
    rw [if_pos hb] at q
    exact wpAny_mono (q.run _ a2 a3) (fun f s' ⟨p, S'', a', b', d', e', g'⟩ => ⟨p, S'', a', b', d', a4.trans e', g'⟩) fun _ _ x => x
  · rename_i hb
    rw [if_neg hb] at q
    exact wpAny_mono (q.run _ a2 a3) (fun f s' ⟨p, S'', a', b', d', e', g'⟩ => ⟨p, S'', a', b', d', a4.trans e', g'⟩) fun _ _ x => x

theorem w1_ret {e pos} {Q : PFlow → St → Prop} (h : WE c fd S e (fun p S1 => Q (.ret p) S1)) : W1 c fd S (.Return (some e) pos) Q := by
  refine ⟨fun s r ok => ?_⟩
  refine wpAny_Return_some (wpAny_mono (h.run s r ok) (fun v s₁ z => ?_) fun _ _ x => x)
  obtain ⟨p, S1, a1, a2, a3, a4, a5⟩ := z
  exact ⟨.ret p, S1, ⟨v, rfl, a1⟩, a2, a3, a4, a5⟩

noncomputable def PV.still : PV → Bool
  | .none => true
  | .bool _ => true
  | .int _ => true
  | .str _ => true
  | _ => false
theorem w1_expr {e pos} {Q : PFlow → St → Prop} (h : WE c fd S e (fun p S1 => p.still = true ∧ Q .next S1)) (hi : interactive (callEnv fd c.L c.fa) = false := by rfl) (hs : swapsWith e none pos.line (callEnv fd c.L c.fa) = pure false := by rfl) : W1 c fd S (.Expr e pos) Q := by
  refine ⟨fun s r ok => ?_⟩
  refine wpAny_Expr (wpAny_mono (h.run s r ok) (fun v s₁ z => ?_) fun _ _ x => x) hi hs
  obtain ⟨p, S1, a1, a2, a3, a4, hp, a5⟩ := z
  cases p <;> simp only [VR] at a1 <;> first | cases hp | skip
  · subst a1; exact ⟨.next, S1, rfl, a2, a3, a4, a5⟩
  · subst a1; exact ⟨.next, S1, rfl, a2, a3, a4, a5⟩
  · obtain ⟨t, rfl⟩ := a1; exact ⟨.next, S1, rfl, a2, a3, a4, a5⟩
  · obtain ⟨t, rfl⟩ := a1; exact ⟨.next, S1, rfl, a2, a3, a4, a5⟩

theorem w1_assert {test msg pos} {Q : PFlow → St → Prop} (h : WB c fd S test (fun b S1 => b = true ∧ Q .next S1)) : W1 c fd S (.Assert test msg pos) Q := by
  refine ⟨fun s r ok => ?_⟩
  refine wpAny_Assert_holds (wpAny_mono (h.run s r ok) (fun b s₁ z => ?_) fun _ _ x => x)
  obtain ⟨S1, a2, a3, a4, hb, q⟩ := z
  exact ⟨hb, .next, S1, rfl, a2, a3, a4, q⟩

theorem w1_break {pos} {Q : PFlow → St → Prop} (h : Q .brk S) : W1 c fd S (.Break pos) Q := ⟨fun s r ok => wpAny_Break ⟨.brk, S, rfl, r, ok, .refl _ _, h⟩⟩
theorem w1_pass {pos} {Q : PFlow → St → Prop} (h : Q .next S) : W1 c fd S (.Pass pos) Q := ⟨fun s r ok => wpAny_Pass ⟨.next, S, rfl, r, ok, .refl _ _, h⟩⟩

theorem w1_try {body h₀ hs pos} {Q : PFlow → St → Prop} (h : WX c fd S body Q) : W1 c fd S (.Try body (h₀ :: hs) [] [] pos) Q := by
  refine ⟨fun s r ok => ?_⟩
  refine wpAny_Try_except (wpAny_mono (h.run s r ok) (fun f s₁ z => ?_) fun _ _ x => x.elim)
  obtain ⟨p, S1, a1, a2, a3, a4, a5⟩ := z
  cases p with
  | next => obtain rfl : f = .next := a1; exact wpAny_execs_nil ⟨.next, S1, rfl, a2, a3, a4, a5⟩
  | brk => obtain rfl : f = .brk := a1; exact ⟨.brk, S1, rfl, a2, a3, a4, a5⟩
  | cont => obtain rfl : f = .cont := a1; exact ⟨.cont, S1, rfl, a2, a3, a4, a5⟩
  | ret p => obtain ⟨v, rfl, z⟩ := a1; exact ⟨.ret p, S1, ⟨v, rfl, z⟩, a2, a3, a4, a5⟩

/-- what is left to show behind a round of a loop -/
noncomputable abbrev Loop (N : St → Prop) (Q : PFlow → St → Prop) : PFlow → St → Prop := fun f S2 => match f with
  | .next => N S2
  | .cont => N S2
  | .brk => Q .next S2
  | .ret v => Q (.ret v) S2
theorem w1_while {test body pos} {Q : PFlow → St → Prop} (I : Nat → St → Prop)
    (step : ∀ n S, I n S → WB c fd S test (fun b S1 => if b = true then WX c fd S1 body (Loop (fun S2 => ∃ m, m < n ∧ I m S2) Q) else Q .next S1)) (n : Nat) (h : I n S) : W1 c fd S (.While test body [] pos) Q := by
  refine ⟨fun s r ok => ?_⟩
  refine wpAny_While (codeAny_whileLoop (fun n s' => ∃ S', I n S' ∧ Rel c S' s' ∧ SOk c S' ∧ Fr c s s') (fun n s' z => ?_) n ⟨S, h, r, ok, .refl _ _⟩)
  obtain ⟨S', hI, r', ok', fr'⟩ := z
  refine wpAny_mono ((step n S' hI).run s' r' ok') (fun b s₁ z => ?_) fun _ _ x => x.elim
  obtain ⟨S1, a2, a3, a4, q⟩ := z
  split
  · rename_i hb
    rw [if_pos hb] at q
    refine wpAny_mono (q.run _ a2 a3) (fun f s₂ z => ?_) fun _ _ x => x.elim
    obtain ⟨p, S2, b1, b2, b3, b4, b5⟩ := z
    cases p with
    | next =>
      obtain rfl : f = .next := b1
      obtain ⟨m, hm, hI'⟩ := b5
      exact ⟨m, hm, S2, hI', b2, b3, (fr'.trans a4).trans b4⟩
    | cont =>
      obtain rfl : f = .cont := b1
      obtain ⟨m, hm, hI'⟩ := b5
      exact ⟨m, hm, S2, hI', b2, b3, (fr'.trans a4).trans b4⟩
    | brk => obtain rfl : f = .brk := b1; exact ⟨.next, S2, rfl, b2, b3, (fr'.trans a4).trans b4, b5⟩
    | ret p => obtain ⟨v, rfl, z⟩ := b1; exact ⟨.ret p, S2, ⟨v, rfl, z⟩, b2, b3, (fr'.trans a4).trans b4, b5⟩
  · rename_i hb
    rw [if_neg hb] at q
    exact wpAny_execs_nil ⟨.next, S1, rfl, a2, a3, fr'.trans a4, q⟩

end Mine
end

section
open PySem PySem.W PySem.Calls PyProof.Rows
set_option Elab.async false
set_option maxRecDepth 100000
set_option linter.unusedVariables false
namespace Mine
variable {c : Cx} {fd : FuncData} {S : St}

/-- the arguments of a call -/
structure WA (c : Cx) (fd : FuncData) (S : St) (pos : Pos) (args : List Expr) (Q : List PV → St → Prop) : Prop where
  run : ∀ s, Rel c S s → SOk c S → wpAny (model pw c.w) c.A (spliced (backTo pos (starEach args (callEnv fd c.L c.fa)))) (fun vs s' => ∃ ps S', VRs s'.heap ps vs ∧ Rel c S' s' ∧ SOk c S' ∧ Fr c s s' ∧ Q ps S') NoE s

theorem wa_nil {pos} {Q : List PV → St → Prop} (h : Q [] S) : WA c fd S pos [] Q := ⟨fun s r ok => args_nil ⟨[], S, (by simp only [VRs]), r, ok, .refl _ _, h⟩⟩
theorem wa_cons {pos e rest} {Q : List PV → St → Prop} (h : WE c fd S e (fun p S1 => WA c fd S1 pos rest (fun ps S2 => Q (p :: ps) S2)))
    (he : ∀ env, starEach (e :: rest) env = (false, eval e env) :: starEach rest env := by intros; rfl) : WA c fd S pos (e :: rest) Q := by
  refine ⟨fun s r ok => ?_⟩
  refine args_cons (wpAny_mono (h.run s r ok) (fun v s₁ z => ?_) fun _ _ x => x) (he _)
  obtain ⟨p, S1, a1, a2, a3, a4, a5⟩ := z
  refine wpAny_mono (a5.run s₁ a2 a3) (fun vs s₂ z => ?_) fun _ _ x => x
  obtain ⟨ps, S2, b1, b2, b3, b4, b5⟩ := z
  exact ⟨p :: ps, S2, (by simp only [VRs]; exact ⟨v, vs, rfl, VR.keep (a2.seqKeep a3 b4) _ _ a1, b1⟩), b2, b3, a4.trans b4, b5⟩

/-- the flow's value -/
noncomputable def PFlow.val : PFlow → PV
  | .ret p => p
  | _ => .none

inductive PL (h : Heap) : List (PySem.Str × PV) → List (PySem.Str × Value) → Prop
  | nil : PL h [] []
  | cons {n p v l m} : VR h p v → PL h l m → PL h ((n, p) :: l) ((n, v) :: m)
theorem PL.append {h : Heap} {l m l' m'} (a : PL h l m) (b : PL h l' m') : PL h (l ++ l') (m ++ m') := by
  induction a with
  | nil => exact b
  | cons x _ ih => exact .cons x ih
theorem PL.reverse {h : Heap} {l m} (a : PL h l m) : PL h l.reverse m.reverse := by
  induction a with
  | nil => exact .nil
  | cons x _ ih => rw [List.reverse_cons, List.reverse_cons]; exact ih.append (.cons x .nil)
theorem PL.lookup {h : Heap} {l m} (a : PL h l m) {n : PySem.Str} {p : PV} (e : lk l n = some p) : ∃ v, m.lookup n = some v ∧ VR h p v := by
  induction a with
  | nil => cases e
  | @cons n' p' v' l m x _ ih =>
    rw [lk_cons] at e
    by_cases hn : n' = n
    · rw [if_pos hn] at e
      cases e
      exact ⟨v', by rw [List.lookup_cons, beq_iff_eq.mpr hn.symm], x⟩
    · rw [if_neg hn] at e
      obtain ⟨v, e1, e2⟩ := ih e
      refine ⟨v, ?_, e2⟩
      have : (n == n') = false := by rw [← Bool.not_eq_true, beq_iff_eq]; exact fun z => hn z.symm
      rw [List.lookup_cons, this]; exact e1
theorem PL.zip {h : Heap} : ∀ {ns : List PySem.Str} {ps : List PV} {vs : List Value}, VRs h ps vs → PL h (ns.zip ps) (ns.zip vs)
  | [], _, _, _ => .nil
  | n :: ns, [], vs, r => by simp only [VRs] at r; subst r; exact .nil
  | n :: ns, p :: ps, vs, r => by
    simp only [VRs] at r
    obtain ⟨v, r', rfl, r1, r2⟩ := r
    exact .cons r1 (PL.zip r2)
theorem PL.keep {h h' : Heap} (k : SeqKeep h h') {l m} (a : PL h l m) : PL h' l m := by
  induction a with
  | nil => exact .nil
  | cons x _ ih => exact .cons (VR.keep k _ _ x) ih

/-- what a function of the text does: its arguments and the fields before, its answer and the fields behind -/
noncomputable def Spec (w : World) (fd : FuncData) (names : List PySem.Str) (body : List Stmt) (k : Nat) (args : Addr → List PV) (f : Option (List (PySem.Str × PV))) (Q : PV → Option (List (PySem.Str × PV)) → Prop) : Prop :=
  ∀ c : Cx, c.w = w → c.A.depth + k ≤ recursionLimit → WX c fd ⟨(names.zip (args c.x)).reverse, f⟩ body (fun fl S => Q fl.val S.fld)

theorem Spec.mono {w : World} {fd : FuncData} {names : List PySem.Str} {body : List Stmt} {k : Nat} {args : Addr → List PV} {f : Option (List (PySem.Str × PV))} {Q Q' : PV → Option (List (PySem.Str × PV)) → Prop} (h : Spec w fd names body k args f Q) (q : ∀ p f, Q p f → Q' p f) : Spec w fd names body k args f Q' :=
  fun c hw hd => (h c hw hd).mono fun _ _ z => q _ _ z

/-- the head's facts of a function -/
structure FnAt (P : Params) (so : Obj) (fa : Addr) (fd : FuncData) (names : List PySem.Str) (body : List Stmt) : Prop where
  at_ : ∃ o, (finH P so).get? fa = some o ∧ o.data = .func fd
  code : (finH P so).CodeRec fd.code fd.qualname
  body : fd.body = .stmts body
  binds : ∀ vs : List Value, vs.length = names.length → bindArgs fd { pos := vs } = pure (names.zip vs)
  cells : ∀ x ∈ fd.scope.names, x.2 ≠ .cell
  loc : ∀ n ∈ names, fd.scope.names.lookup n = some .local
  co : fd.scope.isCoroutine = false
  gen : fd.scope.isGenerator = false
  kind : fd.scope.kind = .function

theorem nolimit (P : Params) (so : Obj) : (finH P so).NoLimit := ⟨_, Heap.Ns.of_isNs (by kernel_rfl), by kernel_rfl⟩

noncomputable def fval : Flow → Value
  | .ret v => v
  | _ => .none
theorem FlR.val {h : Heap} {p : PFlow} {f : Flow} (r : FlR h p f) : VR h p.val (fval f) := by
  cases p with
  | next => obtain rfl : f = .next := r; exact vr_none
  | brk => obtain rfl : f = .brk := r; exact vr_none
  | cont => obtain rfl : f = .cont := r; exact vr_none
  | ret p => obtain ⟨v, rfl, z⟩ := r; exact z

theorem call_fn2 {fd' : FuncData} {fa : Addr} {names : List PySem.Str} {body : List Stmt} {k : Nat} {args : Addr → List PV} {R : PV → Option (List (PySem.Str × PV)) → Prop} {vs : List Value} {s : Shared}
    (F : FnAt c.w.params (setO c.es c.ep c.t) fa fd' names body)
    (r : Rel c S s) (ok : SOk c S) (hk : c.A.depth + (k + 1) ≤ recursionLimit) (hv : VRs s.heap (args c.x) vs) (hlen : (args c.x).length = names.length)
    (sp : Spec c.w fd' names body k args S.fld R) :
    wpAny (model pw c.w) c.A (PySem.call (.ref fa) vs) (fun v s' => ∃ p f, VR s'.heap p v ∧ Rel c { S with fld := f } s' ∧ SOk c { S with fld := f } ∧ Fr c s s' ∧ (∀ b o, (S.fld ≠ .none → b ≠ c.dx) → s.heap.get? b = some o → s'.heap.get? b = some o) ∧ R p f) NoE s := by
  obtain ⟨o, ho, hd⟩ := F.at_
  have hvl : vs.length = names.length := hv.len.trans hlen
  refine wpAny_call (codeAny_call_def (body := body) (binds := names.zip vs) (by omega) (r.keepB _ _ ho) hd ((nolimit _ _).keeps r.keepB) (F.code.keeps r.keepB) F.body (.of_eq (F.binds vs hvl)) F.cells ?_ ?_ F.co F.gen F.kind)
  · intro x hx
    exact F.loc _ (List.of_mem_zip hx).1
  intro h₀ hn hkp
  have hL : ∀ b o, s.heap.get? b = some o → b ≠ s.heap.objs.size := fun b o e => Nat.ne_of_lt (Heap.lt_size e)
  have hB : c.B.get? s.heap.objs.size = .none := by
    cases q : c.B.get? s.heap.objs.size with
    | none => rfl
    | some o => exact absurd rfl (hL _ _ (r.keepB _ _ q))
  obtain ⟨mL, hmL, hvL⟩ := r.loc
  obtain ⟨oL, esL, epL, eL, rL⟩ := id hmL
  let c' : Cx := { c with A := c.A.deeper (callEnv fd' s.heap.objs.size fa), hA := c.hA, fa := fa, L := s.heap.objs.size, dx := match S.fld with | .none => s.heap.objs.size | some _ => c.dx }
  have r' : Rel c' ⟨(names.zip (args c.x)).reverse, S.fld⟩ { s with heap := h₀, toks := s.toks + (names.zip vs).length } := by
    refine ⟨fun b o e => hkp _ _ (r.keepB _ _ e), hB, ⟨_, hn, fun n pv e => ((PL.zip hv).reverse.keep (.of hkp)).lookup e⟩, fun f hf => ?_⟩
    obtain ⟨a1, a2, a3, a4, a5, es, n, a6, a7⟩ := r.inst f hf
    have e1 : c'.dx = c.dx := by show (match S.fld with | .none => _ | some _ => _) = _; rw [show S.fld = some f from hf]
    refine ⟨?_, ?_, ?_, ?_, ?_, es, n, ?_, a7.keep (.of hkp)⟩
    · rw [e1]; exact hkp _ _ a1
    · rw [e1]; exact hL _ _ a6
    · exact hL _ _ a1
    · rw [e1]; exact a4
    · rw [e1]; exact a5
    · rw [e1]; exact hkp _ _ a6
  have ok' : SOk c' ⟨(names.zip (args c.x)).reverse, S.fld⟩ := fun z => by
    show (match S.fld with | .none => _ | some _ => _) = _
    rw [show S.fld = .none from z]
  refine wpAny_mono ((sp c' rfl (by show c.A.depth + 1 + k ≤ _; omega)).run _ r' ok') (fun f s' z => ?_) fun _ _ x => x.elim
  obtain ⟨p, S2, b1, b2, b3, b4, b5⟩ := z
  obtain ⟨⟨h2, tk2, rfl⟩, k2⟩ := b4
  have kA : ∀ b o, (S.fld ≠ .none → b ≠ c.dx) → s.heap.get? b = some o → h2.get? b = some o := fun b o h1 e => k2 b o (hL _ _ e) (by
    show b ≠ (match S.fld with | .none => _ | some _ => _)
    cases hf : S.fld with
    | none => exact hL _ _ e
    | some f => exact h1 (by rw [hf]; exact fun z => nomatch z)) (hkp _ _ e)
  have kL : ∀ b o, b ≠ c.dx → s.heap.get? b = some o → h2.get? b = some o := fun b o h1 e => kA b o (fun _ => h1) e
  have frc : Fr c s { s with heap := h2, toks := tk2 } := ⟨⟨_, _, rfl⟩, fun b o _ h2 e => kL b o h2 e⟩
  have fnone : S.fld = .none → S2.fld = .none := fun hf => by
    cases q : S2.fld with
    | none => rfl
    | some f =>
      have := (b2.inst f q).dL
      exact absurd (show (match S.fld with | .none => _ | some _ => _) = _ by rw [hf]) this
  have sk : SeqKeep s.heap h2 := r.seqKeep ok frc
  refine ⟨p.val, S2.fld, (by have := b1.val; cases f <;> exact this), ⟨b2.keepB, r.BL, ⟨mL, ?_, fun n pv e => ?_⟩, fun f hf => ?_⟩, fun z => ?_, frc, kA, b5⟩
  · refine hmL.at fun o e => ?_
    cases hf : S.fld with
    | none => exact k2 _ o (hL _ _ e) (by show _ ≠ (match S.fld with | .none => _ | some _ => _); rw [hf]; exact hL _ _ e) (hkp _ _ e)
    | some f => exact kL _ o (Ne.symm (r.inst f hf).dL) e
  · obtain ⟨v, e1, e2⟩ := hvL n pv e
    exact ⟨v, e1, VR.keep sk _ _ e2⟩
  · cases hs : S.fld with
    | none => have := fnone hs; rw [this] at hf; cases hf
    | some f0 =>
      have e1 : c'.dx = c.dx := by show (match S.fld with | .none => _ | some _ => _) = _; rw [hs]
      obtain ⟨a1, a2, a3, a4, a5, es, n, a6, a7⟩ := b2.inst f hf
      obtain ⟨d1, d2, d3, d4, d5, d6⟩ := r.inst f0 hs
      rw [e1] at a1 a6
      exact ⟨a1, d2, d3, d4, d5, es, n, a6, a7⟩
  · cases hs : S.fld with
    | none => exact ok hs
    | some f0 =>
      exfalso
      have q : S2.fld = .none := z
      have := b3 q
      have e1 : c'.dx = c.dx := by show (match S.fld with | .none => _ | some _ => _) = _; rw [hs]
      rw [e1] at this
      obtain ⟨d1, d2, d3, d4, d5, es, n, d6, d7⟩ := r.inst f0 hs
      exact hL _ _ d6 this

theorem call_fn {fd' : FuncData} {fa : Addr} {names : List PySem.Str} {body : List Stmt} {k : Nat} {args : Addr → List PV} {R : PV → Option (List (PySem.Str × PV)) → Prop} {vs : List Value} {s : Shared}
    (F : FnAt c.w.params (setO c.es c.ep c.t) fa fd' names body)
    (r : Rel c S s) (ok : SOk c S) (hk : c.A.depth + (k + 1) ≤ recursionLimit) (hv : VRs s.heap (args c.x) vs) (hlen : (args c.x).length = names.length)
    (sp : Spec c.w fd' names body k args S.fld R) :
    wpAny (model pw c.w) c.A (PySem.call (.ref fa) vs) (fun v s' => ∃ p f, VR s'.heap p v ∧ Rel c { S with fld := f } s' ∧ SOk c { S with fld := f } ∧ Fr c s s' ∧ R p f) NoE s :=
  wpAny_mono (call_fn2 F r ok hk hv hlen sp) (fun v s' ⟨p, f, a, b, d, e, _, g⟩ => ⟨p, f, a, b, d, e, g⟩) fun _ _ x => x

/-- a call of a function of the text by its name, with arguments -/
theorem we_call {x xp pos e rest} {fd' : FuncData} {fa : Addr} {names : List PySem.Str} {body : List Stmt} {k : Nat} {Q : PV → St → Prop}
    (F : FnAt c.w.params (setO c.es c.ep c.t) fa fd' names body)
    (hk : fd.scope.kind = .function) (hG : fd.globals = mainGlobals) (hx : fd.scope.names.lookup x = some .globalImplicit) (hg : c.B.nsMap mainGlobals x = some (.ref fa)) (hd : c.A.depth + (k + 1) ≤ recursionLimit)
    (h : WA c fd S pos (e :: rest) (fun ps S1 => ps.length = names.length ∧ Spec c.w fd' names body k (fun _ => ps) S1.fld (fun p f => Q p { S1 with fld := f })))
    (he : ∀ env, starEach (e :: rest) env = (false, eval e env) :: starEach rest env := by intros; rfl)
    (hc : ∀ env, eval (.Call (.Name x xp) (e :: rest) [] pos) env = (do let f ← eval (.Name x xp) env; callWith pos f [] (backTo pos (starEach (e :: rest) env)) []) := by intros; rfl)
    (hdb : (x == ("__debug__" : PySem.Str)) = false := by decide) : WE c fd S (.Call (.Name x xp) (e :: rest) [] pos) Q := by
  refine ⟨fun s r ok => ?_⟩
  rw [hc]
  refine wpAny_bind (wpAny_mono (we_glob (Q := fun p S' => p = .ref fa ∧ S' = S) hg vr_ref hk hG hx ⟨rfl, rfl⟩ hdb |>.run s r ok) (fun f s₁ z => ?_) fun _ _ x => x)
  obtain ⟨p, S', a1, a2, a3, a4, rfl, rfl⟩ := z
  simp only [VR] at a1
  subst a1
  obtain ⟨o, ho, hdd⟩ := F.at_
  refine callWith_function (o := o) (fd := fd') ?_
  have hw := h.run s₁ a2 a3
  rw [he] at hw ⊢
  refine evalArgs_plain (wpAny_mono hw (fun vs s₂ z => ?_) fun _ _ x => x)
  obtain ⟨ps, S1, b1, b2, b3, b4, b5, b6⟩ := z
  refine ⟨⟨b2.keepB _ _ ho, hdd⟩, ?_⟩
  refine wpAny_mono (call_fn F b2 b3 hd b1 b5 b6) (fun v s₃ z => ?_) fun _ _ x => x
  obtain ⟨p, f, d1, d2, d3, d4, d5⟩ := z
  exact ⟨p, _, d1, d2, d3, (a4.trans b4).trans d4, d5⟩

theorem we_call0 {x xp pos} {fd' : FuncData} {fa : Addr} {names : List PySem.Str} {body : List Stmt} {k : Nat} {Q : PV → St → Prop}
    (F : FnAt c.w.params (setO c.es c.ep c.t) fa fd' names body)
    (hk : fd.scope.kind = .function) (hG : fd.globals = mainGlobals) (hx : fd.scope.names.lookup x = some .globalImplicit) (hg : c.B.nsMap mainGlobals x = some (.ref fa)) (hd : c.A.depth + (k + 1) ≤ recursionLimit) (hn : names = [])
    (h : Spec c.w fd' names body k (fun _ => []) S.fld (fun p f => Q p { S with fld := f }))
    (hc : ∀ env, eval (.Call (.Name x xp) [] [] pos) env = (do let f ← eval (.Name x xp) env; callWith pos f [] (backTo pos (starEach [] env)) []) := by intros; rfl)
    (hdb : (x == ("__debug__" : PySem.Str)) = false := by decide) : WE c fd S (.Call (.Name x xp) [] [] pos) Q := by
  refine ⟨fun s r ok => ?_⟩
  rw [hc]
  refine wpAny_bind (wpAny_mono (we_glob (Q := fun p S' => p = .ref fa ∧ S' = S) hg vr_ref hk hG hx ⟨rfl, rfl⟩ hdb |>.run s r ok) (fun f s₁ z => ?_) fun _ _ x => x)
  obtain ⟨p, S', a1, a2, a3, a4, rfl, rfl⟩ := z
  simp only [VR] at a1
  subst a1
  obtain ⟨o, ho, hdd⟩ := F.at_
  refine callWith_function (o := o) (fd := fd') ?_
  refine PySem.evalArgs_none ?_
  refine ⟨⟨a2.keepB _ _ ho, hdd⟩, ?_⟩
  refine wpAny_mono (call_fn F a2 a3 hd (args := fun _ => []) (vs := []) (by simp only [VRs]) (by rw [hn]; rfl) h) (fun v s₃ z => ?_) fun _ _ x => x
  obtain ⟨p, f, d1, d2, d3, d4, d5⟩ := z
  exact ⟨p, _, d1, d2, d3, a4.trans d4, d5⟩

/-- the facts of a method -/
structure MethAt (P : Params) (so : Obj) (name : PySem.Str) (fa : Addr) : Prop where
  find : findIn (KF P so) (.ref 525) name = some (some (.ref fa))
  ty : typeIn (KF P so) (.ref fa) = some (.type "function")

theorem meth_of {f : List (PySem.Str × PV)} {name : PySem.Str} {fa : Addr} {pl : Sem Bool} {Q : Value × List Value → Shared → Prop} {s : Shared} (M : MethAt c.w.params (setO c.es c.ep c.t) name fa) (r : Rel c S s) (hf : S.fld = some f) (hl : lk f name = .none)
    (h : Q (.ref fa, [.ref c.x]) s) : wpAny (model pw c.w) c.A (getMethod (.ref c.x) name pl) Q NoE s := by
  obtain ⟨a1, a2, a3, a4, a5, es, n, a6, a7⟩ := r.inst f hf
  exact method_fn (od := some (dictOf es n)) r.kin ⟨a1, rfl, rfl, a6⟩ (ga_irish _ _ _ _) (gx_irish _ _ _ _) M.find M.ty (by
    show (lookIn name (dictOf es n)).map (·.isSome) = some false
    rw [lookIn_dict, a7.getN hl]; rfl) h

/-- self.NAME(..) -/
theorem we_meth {x xp name apos pos e rest} {fd' : FuncData} {fa : Addr} {names : List PySem.Str} {body : List Stmt} {k : Nat} {f : List (PySem.Str × PV)} {Q : PV → St → Prop}
    (F : FnAt c.w.params (setO c.es c.ep c.t) fa fd' names body) (M : MethAt c.w.params (setO c.es c.ep c.t) name fa)
    (hk : fd.scope.kind = .function) (hx : fd.scope.names.lookup x = some .local) (hl : lk S.loc x = some (.ref c.x)) (hf : S.fld = some f) (hn : lk f name = .none) (hd : c.A.depth + (k + 1) ≤ recursionLimit)
    (h : WA c fd S pos (e :: rest) (fun ps S1 => ps.length + 1 = names.length ∧ Spec c.w fd' names body k (fun a => .ref a :: ps) S1.fld (fun p f => Q p { S1 with fld := f })))
    (pl : Env → Sem Bool)
    (hc : ∀ env, eval (.Call (.Attribute (.Name x xp) name apos) (e :: rest) [] pos) env = (do
        let ov ← eval (.Name x xp) env
        standAt apos.atName
        let __x ← holding [ov] (getMethod ov name (pl env))
        match __x with
          | (f, first) => callWith pos f first (backTo pos (starEach (e :: rest) env)) []))
    (he : ∀ env, starEach (e :: rest) env = (false, eval e env) :: starEach rest env := by intros; rfl)
    (hdb : (x == ("__debug__" : PySem.Str)) = false := by decide) : WE c fd S (.Call (.Attribute (.Name x xp) name apos) (e :: rest) [] pos) Q := by
  refine ⟨fun s r ok => ?_⟩
  obtain ⟨m, hm, hv⟩ := r.loc
  obtain ⟨u, e1, e2⟩ := hv x _ hl
  simp only [VR] at e2
  subst e2
  refine MethodCall_ (pl := pl _) (wpAny_Name (wpAny_loadName_local (env := callEnv fd c.L c.fa) hk hx hm e1 ?_) hdb) (hc _)
  refine meth_of M r hf hn ?_
  obtain ⟨o, ho, hdd⟩ := F.at_
  refine callWith_function (o := o) (fd := fd') ?_
  have hw := h.run s r ok
  rw [he] at hw ⊢
  refine evalArgs_plain (wpAny_mono hw (fun vs s₂ z => ?_) fun _ _ x => x)
  obtain ⟨ps, S1, b1, b2, b3, b4, b5, b6⟩ := z
  refine ⟨⟨b2.keepB _ _ ho, hdd⟩, ?_⟩
  refine wpAny_mono (call_fn F b2 b3 hd (args := fun a => .ref a :: ps) (vs := .ref c.x :: vs) (by simp only [VRs]; exact ⟨_, _, rfl, vr_ref, b1⟩) b5 b6) (fun v s₃ z => ?_) fun _ _ x => x
  obtain ⟨p, f, d1, d2, d3, d4, d5⟩ := z
  exact ⟨p, _, d1, d2, d3, b4.trans d4, d5⟩

theorem we_meth0 {x xp name apos pos} {fd' : FuncData} {fa : Addr} {names : List PySem.Str} {body : List Stmt} {k : Nat} {f : List (PySem.Str × PV)} {Q : PV → St → Prop}
    (F : FnAt c.w.params (setO c.es c.ep c.t) fa fd' names body) (M : MethAt c.w.params (setO c.es c.ep c.t) name fa)
    (hk : fd.scope.kind = .function) (hx : fd.scope.names.lookup x = some .local) (hl : lk S.loc x = some (.ref c.x)) (hf : S.fld = some f) (hn : lk f name = .none) (hd : c.A.depth + (k + 1) ≤ recursionLimit) (hnm : names.length = 1)
    (h : Spec c.w fd' names body k (fun a => [.ref a]) S.fld (fun p f => Q p { S with fld := f }))
    (pl : Env → Sem Bool)
    (hc : ∀ env, eval (.Call (.Attribute (.Name x xp) name apos) [] [] pos) env = (do
        let ov ← eval (.Name x xp) env
        standAt apos.atName
        let __x ← holding [ov] (getMethod ov name (pl env))
        match __x with
          | (f, first) => callWith pos f first (backTo pos (starEach [] env)) []))
    (hdb : (x == ("__debug__" : PySem.Str)) = false := by decide) : WE c fd S (.Call (.Attribute (.Name x xp) name apos) [] [] pos) Q := by
  refine ⟨fun s r ok => ?_⟩
  obtain ⟨m, hm, hv⟩ := r.loc
  obtain ⟨u, e1, e2⟩ := hv x _ hl
  simp only [VR] at e2
  subst e2
  refine MethodCall_ (pl := pl _) (wpAny_Name (wpAny_loadName_local (env := callEnv fd c.L c.fa) hk hx hm e1 ?_) hdb) (hc _)
  refine meth_of M r hf hn ?_
  obtain ⟨o, ho, hdd⟩ := F.at_
  refine callWith_function (o := o) (fd := fd') ?_
  refine PySem.evalArgs_none ?_
  refine ⟨⟨r.keepB _ _ ho, hdd⟩, ?_⟩
  refine wpAny_mono (call_fn F r ok hd (args := fun a => [.ref a]) (vs := [.ref c.x]) (by simp only [VRs]; exact ⟨_, _, rfl, vr_ref, rfl⟩) hnm.symm h) (fun v s₃ z => ?_) fun _ _ x => x
  obtain ⟨p, f, d1, d2, d3, d4, d5⟩ := z
  exact ⟨p, _, d1, d2, d3, d4, d5⟩
end Mine
end

section
open PySem PySem.W PySem.Calls PyProof.Rows
set_option Elab.async false
set_option maxRecDepth 100000
set_option linter.unusedVariables false
namespace Mine
variable {c : Cx} {fd : FuncData} {S : St}

structure BuiR (c : Cx) (S : St) (id : String) (args : List PV) (Q : PV → St → Prop) : Prop where
  run : ∀ s vs, Rel c S s → SOk c S → VRs s.heap args vs → wpAny (model pw c.w) c.A (PySem.call (.builtin id) vs) (Post c s Q) NoE s

theorem name_bi {x : PySem.Str} {pos : Pos} {v : Value} {s : Shared} {Q : Value → Shared → Prop} (r : Rel c S s) (hn : c.B.nsMap mainGlobals x = .none) (hg : c.B.nsMap 0 x = some v) (hk : fd.scope.kind = .function) (hG : fd.globals = mainGlobals) (hB : fd.builtins = 0)
    (hx : fd.scope.names.lookup x = some .globalImplicit) (h : Q v s) (hd : (x == ("__debug__" : PySem.Str)) = false := by decide) : wpAny (model pw c.w) c.A (eval (.Name x pos) (callEnv fd c.L c.fa)) Q NoE s := by
  have hm : s.heap.Ns (callEnv fd c.L c.fa).globals (c.B.nsMap mainGlobals) := by
    show s.heap.Ns fd.globals _
    rw [hG]; exact (main_ns _ _).keeps r.keepB
  have hb : s.heap.Ns (callEnv fd c.L c.fa).builtins (c.B.nsMap 0) := by
    show s.heap.Ns fd.builtins _
    rw [hB]; exact (bi_ns _ _).keeps r.keepB
  exact Name_function_global (env := callEnv fd c.L c.fa) hk hx (loadGlobal_builtin hm hn hb hg h) hd

theorem we_bcall {x xp pos e rest id} {Q : PV → St → Prop} (hn : c.B.nsMap mainGlobals x = .none) (hg : c.B.nsMap 0 x = some (.builtin id)) (hk : fd.scope.kind = .function) (hG : fd.globals = mainGlobals) (hB : fd.builtins = 0)
    (hx : fd.scope.names.lookup x = some .globalImplicit)
    (h : WA c fd S pos (e :: rest) (fun ps S1 => BuiR c S1 id ps Q))
    (hst : ∀ env, (backTo pos (starEach (e :: rest) env)).any (·.1) = false := by intros; rfl)
    (he : ∀ env, starEach (e :: rest) env = (false, eval e env) :: starEach rest env := by intros; rfl)
    (hc : ∀ env, eval (.Call (.Name x xp) (e :: rest) [] pos) env = (do let f ← eval (.Name x xp) env; callWith pos f [] (backTo pos (starEach (e :: rest) env)) []) := by intros; rfl)
    (hdb : (x == ("__debug__" : PySem.Str)) = false := by decide) : WE c fd S (.Call (.Name x xp) (e :: rest) [] pos) Q := by
  refine ⟨fun s r ok => ?_⟩
  rw [hc]
  refine wpAny_bind (name_bi r hn hg hk hG hB hx ?_ hdb)
  refine callWith_builtin (hst _) ?_
  have hw := h.run s r ok
  rw [he] at hw ⊢
  refine evalArgs_plain (wpAny_mono hw (fun vs s₂ z => ?_) fun _ _ x => x)
  obtain ⟨ps, S1, b1, b2, b3, b4, b5⟩ := z
  exact wpAny_mono (b5.run s₂ vs b2 b3 b1) (fun v s₃ z => Post.trans b4 z) fun _ _ x => x

theorem bui_len_str {l : List Nat} {Q : PV → St → Prop} (hz : l.length ≤ 1000000) (h : Q (.int l.length) S) : BuiR c S "len" [.str l] Q := by
  refine ⟨fun s vs r ok hv => ?_⟩
  simp only [VRs, VR] at hv
  obtain ⟨v, r', rfl, ⟨t, rfl⟩, rfl⟩ := hv
  exact P.len_str (by show ¬ (l.length : Int) ≥ _; omega) (post_tok r ok vr_int h)
theorem bui_len_lst {l : List PV} {Q : PV → St → Prop} (hz : l.length ≤ 1000000) (h : Q (.int l.length) S) : BuiR c S "len" [.lst l] Q := by
  refine ⟨fun s vs r ok hv => ?_⟩
  simp only [VRs, VR] at hv
  obtain ⟨v, r', rfl, ⟨a, ws, n, rfl, ha, hws⟩, rfl⟩ := hv
  have e := hws.len
  exact call_len_list (items := ws.toArray) ⟨_, ha, rfl, _, rfl⟩ (by simp; omega) (by rw [List.size_toArray, e]; exact post_tok r ok vr_int h)
theorem bui_ord {n : Nat} {Q : PV → St → Prop} (h : Q (.int n) S) : BuiR c S "ord" [.str [n]] Q := by
  refine ⟨fun s vs r ok hv => ?_⟩
  simp only [VRs, VR] at hv
  obtain ⟨v, r', rfl, ⟨t, rfl⟩, rfl⟩ := hv
  exact P.ord_of_char (post_tok r ok vr_int h)
theorem bui_chr {i : Int} {Q : PV → St → Prop} (h0 : 0 ≤ i) (h1 : i ≤ 1114111) (h : Q (.str [i.toNat]) S) : BuiR c S "chr" [.int i] Q := by
  refine ⟨fun s vs r ok hv => ?_⟩
  simp only [VRs, VR] at hv
  obtain ⟨v, r', rfl, ⟨t, rfl⟩, rfl⟩ := hv
  exact chr_of_range h0 h1 (post_tok r ok vr_str h)
theorem bui_abs {i : Int} {Q : PV → St → Prop} (h : Q (.int (if i < 0 then -i else i)) S) : BuiR c S "abs" [.int i] Q := by
  refine ⟨fun s vs r ok hv => ?_⟩
  simp only [VRs, VR] at hv
  obtain ⟨v, r', rfl, ⟨t, rfl⟩, rfl⟩ := hv
  exact call_abs_int (fun _ _ => post_tok r ok vr_int h)
theorem bui_min {a b : Int} {Q : PV → St → Prop} (h : Q (.int (if b < a then b else a)) S) : BuiR c S "min" [.int a, .int b] Q := by
  refine ⟨fun s vs r ok hv => ?_⟩
  simp only [VRs, VR] at hv
  obtain ⟨v, r', rfl, ⟨t, rfl⟩, w, r'', rfl, ⟨t', rfl⟩, rfl⟩ := hv
  refine min_two_ints c.hA (fun h' tk hk => ?_)
  by_cases q : b < a
  · rw [if_pos q] at h ⊢; exact post_grow r ok hk vr_int h
  · rw [if_neg q] at h ⊢; exact post_grow r ok hk vr_int h

/-- text[i:j] -/
theorem we_slice {value lo hi sp pos} {Q : PV → St → Prop} (h : WE c fd S value (fun a S1 => WE c fd S1 lo (fun b S2 => WE c fd S2 hi (fun d S3 =>
      ∃ l i j, a = .str l ∧ b = .int i ∧ d = .int j ∧ 0 ≤ i ∧ i ≤ j ∧ j ≤ l.length ∧ l.length ≤ 1000000 ∧ Q (.str ((l.drop i.toNat).take (j - i).toNat)) S3))))
    (hs : ∀ (x : PySem.Str) t o, subscripted (.Slice (some lo) (some hi) .none sp) false (.str x t) (.ref o) = operate [.ref o, .str x t] (getItem (.str x t) (.ref o)) := by intros; with_unfolding_all rfl)
     : WE c fd S (.Subscript value (.Slice (some lo) (some hi) .none sp) pos) Q := by
  refine ⟨fun s r ok => ?_⟩
  refine Subscript_ (wpAny_mono (h.run s r ok) (fun u s₁ z => ?_) fun _ _ x => x)
  obtain ⟨a, S1, a1, a2, a3, a4, a5⟩ := z
  refine wpAny_Slice (evalPart_some_step (wpAny_mono (a5.run s₁ a2 a3) (fun v s₂ z => ?_) fun _ _ x => x))
  obtain ⟨b, S2, b1, b2, b3, b4, b5⟩ := z
  refine evalPart_some_step (wpAny_mono (b5.run s₂ b2 b3) (fun w s₃ z => ?_) fun _ _ x => x)
  obtain ⟨d, S3, d1, d2, d3, d4, l, i, j, rfl, rfl, rfl, h0, h1, h2, h3, q⟩ := z
  refine evalPart_none_step ?_
  simp only [VR] at a1 b1 d1
  obtain ⟨t1, rfl⟩ := a1
  obtain ⟨t2, rfl⟩ := b1
  obtain ⟨t3, rfl⟩ := d1
  have key := SBH.sliceItem_ss (prog := pw) (w := c.w) (A := c.A) (E := NoE) (s := s₃) (x := ⟨⟨l⟩⟩) (t := t1) (i := i) (ui := t2) (j := j) (uj := t3) (P := fun h => ∀ b o, s₃.heap.get? b = some o → h.get? b = some o)
    (Q := Post c s Q) (fun h ob hp b o e => Heap.get?_push_of_some ob (hp b o e)) (fun _ _ e => e) (fun h' t' k hp => by
      have e1 := slice_closesL (x := ⟨⟨l⟩⟩) h0 h1 h2
      rw [beq_iff_eq] at e1
      rw [e1]
      exact Post.trans ((a4.trans b4).trans d4) (post_grow d2 d3 hp vr_str q)) (by show l.length ≤ _; rw [sizeLine_eq]; omega)
  obtain ⟨T, id, hl, hT, hg⟩ := key
  exact tail_any hT hl hg (hs _ _ _)

/-- text[i:] -/
theorem we_slice_from {value lo sp pos} {Q : PV → St → Prop} (h : WE c fd S value (fun a S1 => WE c fd S1 lo (fun b S2 =>
      ∃ l i, a = .str l ∧ b = .int i ∧ 0 ≤ i ∧ i ≤ l.length ∧ l.length ≤ 1000000 ∧ Q (.str (l.drop i.toNat)) S2)))
    (hs : ∀ (x : PySem.Str) t o, subscripted (.Slice (some lo) .none .none sp) false (.str x t) (.ref o) = operate [.ref o, .str x t] (getItem (.str x t) (.ref o)) := by intros; with_unfolding_all rfl)
     : WE c fd S (.Subscript value (.Slice (some lo) .none .none sp) pos) Q := by
  refine ⟨fun s r ok => ?_⟩
  refine Subscript_ (wpAny_mono (h.run s r ok) (fun u s₁ z => ?_) fun _ _ x => x)
  obtain ⟨a, S1, a1, a2, a3, a4, a5⟩ := z
  refine wpAny_Slice (evalPart_some_step (wpAny_mono (a5.run s₁ a2 a3) (fun v s₂ z => ?_) fun _ _ x => x))
  obtain ⟨b, S2, b1, b2, b3, b4, l, i, rfl, rfl, h0, h1, h3, q⟩ := z
  refine evalPart_none_step (evalPart_none_step ?_)
  simp only [VR] at a1 b1
  obtain ⟨t1, rfl⟩ := a1
  obtain ⟨t2, rfl⟩ := b1
  have key := SBH.sliceItem_sn (prog := pw) (w := c.w) (A := c.A) (E := NoE) (s := s₂) (x := ⟨⟨l⟩⟩) (t := t1) (i := i) (ui := t2) (P := fun h => ∀ b o, s₂.heap.get? b = some o → h.get? b = some o)
    (Q := Post c s Q) (fun h ob hp b o e => Heap.get?_push_of_some ob (hp b o e)) (fun _ _ e => e) (fun h' t' k hp => by
      have e1 := slice_from_eq (x := ⟨⟨l⟩⟩) h0 h1 rfl
      have e2 : (l.drop i.toNat).take (((l.length : Nat) : Int) - i).toNat = l.drop i.toNat := List.take_of_length_le (by rw [List.length_drop]; omega)
      have e3 := e1.trans (congrArg (fun z => (⟨⟨z⟩⟩ : PySem.Str)) e2)
      rw [e3]
      exact Post.trans (a4.trans b4) (post_grow b2 b3 hp vr_str q)) (by show l.length ≤ _; rw [sizeLine_eq]; omega)
  obtain ⟨T, id, hl, hT, hg⟩ := key
  exact tail_any hT hl hg (hs _ _ _)

/-- what range(..) makes -/
structure WI (c : Cx) (fd : FuncData) (S : St) (iter : Expr) (Q : Int → Int → Int → St → Prop) : Prop where
  run : ∀ s, Rel c S s → SOk c S → wpAny (model pw c.w) c.A (eval iter (callEnv fd c.L c.fa)) (fun v s' => ∃ r a b k t u v' S', v = .ref r ∧ IsRange s'.heap r a b k t u v' ∧ Rel c S' s' ∧ SOk c S' ∧ Fr c s s' ∧ Q a b k S') NoE s

theorem wi_range {x xp pos e rest} {Q : Int → Int → Int → St → Prop} (hn : c.B.nsMap mainGlobals x = .none) (hg : c.B.nsMap 0 x = some (.type "range")) (hk : fd.scope.kind = .function) (hG : fd.globals = mainGlobals) (hB : fd.builtins = 0)
    (hx : fd.scope.names.lookup x = some .globalImplicit)
    (h : WA c fd S pos (e :: rest) (fun ps S1 => (∃ b, ps = [.int b] ∧ Q 0 b 1 S1) ∨ (∃ a b, ps = [.int a, .int b] ∧ Q a b 1 S1) ∨ (∃ a b k, ps = [.int a, .int b, .int k] ∧ k ≠ 0 ∧ (∃ (_ : True), Builtin.divisionGoesByPylong (b - a) k = false) ∧ Q a b k S1)))
    (hst : ∀ env, (backTo pos (starEach (e :: rest) env)).any (·.1) = false := by intros; rfl)
    (he : ∀ env, starEach (e :: rest) env = (false, eval e env) :: starEach rest env := by intros; rfl)
    (hc : ∀ env, eval (.Call (.Name x xp) (e :: rest) [] pos) env = (do let f ← eval (.Name x xp) env; callWith pos f [] (backTo pos (starEach (e :: rest) env)) []) := by intros; rfl)
    (hdb : (x == ("__debug__" : PySem.Str)) = false := by decide) : WI c fd S (.Call (.Name x xp) (e :: rest) [] pos) Q := by
  refine ⟨fun s r ok => ?_⟩
  rw [hc]
  refine wpAny_bind (name_bi r hn hg hk hG hB hx ?_ hdb)
  refine PyProof.Rows.callWith_type (hst _) ?_
  have hw := h.run s r ok
  rw [he] at hw ⊢
  refine evalArgs_plain (wpAny_mono hw (fun vs s₂ z => ?_) fun _ _ x => x)
  obtain ⟨ps, S1, b1, b2, b3, b4, ⟨b, rfl, q⟩ | ⟨a, b, rfl, q⟩ | ⟨a, b, k, rfl, k0, ⟨-, kp⟩, q⟩⟩ := z
  · simp only [VRs, VR] at b1
    obtain ⟨v, r', rfl, ⟨t, rfl⟩, rfl⟩ := b1
    refine call_range_1 ⟨_, _, _, _, _, _, _, S1, rfl, IsRange.new .., b2.grow fun _ _ e => Heap.get?_push_of_some _ e, b3, b4.trans (.grow fun _ _ e => Heap.get?_push_of_some _ e), q⟩
  · simp only [VRs, VR] at b1
    obtain ⟨v, r', rfl, ⟨t, rfl⟩, w, r'', rfl, ⟨t', rfl⟩, rfl⟩ := b1
    refine call_range_2 ⟨_, _, _, _, _, _, _, S1, rfl, IsRange.new .., b2.grow fun _ _ e => Heap.get?_push_of_some _ e, b3, b4.trans (.grow fun _ _ e => Heap.get?_push_of_some _ e), q⟩
  · simp only [VRs, VR] at b1
    obtain ⟨v, r', rfl, ⟨t, rfl⟩, w, r'', rfl, ⟨t', rfl⟩, y, r3, rfl, ⟨t3, rfl⟩, rfl⟩ := b1
    exact call_range_3 k0 ⟨_, _, _, _, _, _, _, S1, rfl, IsRange.new .., b2.grow fun _ _ e => Heap.get?_push_of_some _ e, b3, b4.trans (.grow fun _ _ e => Heap.get?_push_of_some _ e), q⟩ (.inl kp)

/-- the loop's iterator moves, the rest stays -/
theorem Rel.step {s : Shared} {I : Addr} {h' : Heap} {tk : Nat} (r : Rel c S s) (ok : SOk c S) (hI : c.B.get? I = .none) (hL : I ≠ c.L) (hd : I ≠ c.dx) (hx : S.fld ≠ .none → I ≠ c.x) (hq : ∀ k vs n, s.heap.get? I ≠ some { cls := k, data := .seq vs n })
    (k : ∀ b o, b ≠ I → s.heap.get? b = some o → h'.get? b = some o) : Rel c S { s with heap := h', toks := tk } := by
  have sk : SeqKeep s.heap h' := fun a cl vs n e => k a _ (fun z => hq cl vs n (z ▸ e)) e
  obtain ⟨m, hm, hv⟩ := r.loc
  refine ⟨fun b o e => k _ _ (fun z => by rw [← z, e] at hI; cases hI) (r.keepB b o e), r.BL, ⟨m, hm.at fun o e => k _ o (Ne.symm hL) e, fun n pv e => ?_⟩, fun f e => ?_⟩
  · obtain ⟨v, e1, e2⟩ := hv n pv e
    exact ⟨v, e1, VR.keep sk _ _ e2⟩
  · obtain ⟨a1, a2, a3, a4, a5, es, n, a6, a7⟩ := r.inst f e
    exact ⟨k _ _ (Ne.symm (hx (by rw [e]; exact fun z => nomatch z))) a1, a2, a3, a4, a5, es, n, k _ _ (Ne.symm hd) a6, a7.keep sk⟩

theorem rangeSize_nonneg (a b k : Int) : 0 ≤ Builtin.Range.rangeSize a b k := by
  unfold Builtin.Range.rangeSize
  split <;> split <;> first | omega | (have := Int.ediv_nonneg (a := b - a - 1) (b := k) (by omega) (by omega); omega) | (have := Int.ediv_nonneg (a := a - b - 1) (b := -k) (by omega) (by omega); omega)

theorem w1_for {x px iter body pos} {Q : PFlow → St → Prop} (J : Nat → St → Prop) (hk : fd.scope.kind = .function) (hx : fd.scope.names.lookup x = some .local)
    (h : WI c fd S iter (fun a b k S1 => Builtin.Range.small a b k = true ∧ J 0 S1 ∧
      (∀ i S2, i < (Builtin.Range.rangeSize a b k).toNat → J i S2 → WX c fd { S2 with loc := (x, .int (a + i * k)) :: S2.loc } body (Loop (J (i + 1)) Q)) ∧ ∀ S2, J (Builtin.Range.rangeSize a b k).toNat S2 → Q .next S2))
    (hs : ∀ env x, foldedSetIterable iter env x = pure x := by intros; rfl) : W1 c fd S (.For (.Name x px) iter body [] pos) Q := by
  refine ⟨fun s r ok => ?_⟩
  refine wpAny_For (wpAny_mono (h.run s r ok) (fun xv s₁ z => ?_) fun _ _ x => x) (hs _)
  obtain ⟨rr, a, b, k, t, u, v', S1, rfl, hr, a2, a3, a4, hsm, j0, hstep, hend⟩ := z
  refine wpAny_pyIter_range hr hsm ?_
  have hlt : ∀ b o, s₁.heap.get? b = some o → b ≠ s₁.heap.objs.size := fun b o e => Nat.ne_of_lt (Heap.lt_size e)
  generalize hIz : s₁.heap.objs.size = I at hlt ⊢
  have hIB : c.B.get? I = .none := by
    cases q : c.B.get? I with
    | none => rfl
    | some o => exact absurd rfl (hlt _ _ (a2.keepB _ _ q))
  have hIL : I ≠ c.L := by
    obtain ⟨m, ⟨o, _, _, e, _⟩, _⟩ := a2.loc
    exact Ne.symm (hlt _ _ e)
  have hId : I ≠ c.dx := by
    cases hf : S1.fld with
    | none => rw [a3 hf]; exact hIL
    | some f => obtain ⟨_, _, _, _, _, es, n, e, _⟩ := a2.inst f hf; exact Ne.symm (hlt _ _ e)
  generalize hn : (Builtin.Range.rangeSize a b k).toNat = n at hstep hend ⊢
  refine codeAny_forLoop (fun j s' => ∃ i S', IsRangeIter s'.heap I (a + (i : Nat) * k) ((n : Int) - (i : Nat)) k ∧ Rel c S' s' ∧ SOk c S' ∧ Fr c s s' ∧ (∃ h tk, s' = { s₁ with heap := h, toks := tk }) ∧ J i S' ∧ i ≤ n ∧ j = n + 1 - i) ?_ (n + 1) ?_
  · rintro j s' ⟨i, S', hit, r', ok', fr', ⟨hh, tk, rfl⟩, hJ, hi, rfl⟩
    have hq : ∀ cl vs n, hh.get? I ≠ some { cls := cl, data := .seq vs n } := fun cl vs n e => by rw [show hh.get? I = _ from hit] at e; cases e
    have hxI : S'.fld ≠ .none → I ≠ c.x := fun hne z => by
      cases hf : S'.fld with
      | none => exact hne hf
      | some f =>
        have := (r'.inst f hf).at_
        rw [← z] at this
        rw [show hh.get? I = _ from hit] at this
        cases this
    by_cases hlt' : i < n
    · refine wpAny_pyNext_range_item hit (by omega) fun h₁ hit₁ hs₁ => ?_
      have r1 := r'.step (tk := tk + 1) ok' hIB hIL hId hxI hq (fun b o hb e => (hs₁.2 b hb).trans e)
      refine wpAny_assign_Name (wpAny_mono (name_write (Q := fun _ s'' => Rel c { S' with loc := (x, .int (a + (i : Nat) * k)) :: S'.loc } s'' ∧ Fr c { s₁ with heap := h₁, toks := tk + 1 } s'') hk hx r1 ok' vr_int (fun s'' r2 f2 => ⟨r2, f2⟩)) (fun _ s'' z => ?_) fun _ _ x => x.elim)
      obtain ⟨r2, f2⟩ := z
      refine wpAny_mono ((hstep i S' hlt' hJ).run _ r2 ok') (fun f s₃ z => ?_) fun _ _ x => x.elim
      obtain ⟨p, S3, d1, d2, d3, d4, d5⟩ := z
      have f3 := f2.trans d4
      obtain ⟨⟨h3, tk3, rfl⟩, k3⟩ := f3
      have frs : Fr c s { s₁ with heap := h3, toks := tk3 } := by
        refine ⟨?_, fun b o hb1 hb2 e => ?_⟩
        · obtain ⟨q1, q2, q3⟩ := a4.same
          subst q3
          exact ⟨h3, tk3, rfl⟩
        · have hb : b ≠ I := by
            have := a4.keep b o hb1 hb2 e
            exact hlt b o this
          exact k3 b o hb1 hb2 ((hs₁.2 b hb).trans (fr'.keep b o hb1 hb2 e))
      have hit3 : IsRangeIter h3 I (a + ((i + 1 : Nat) : Int) * k) ((n : Int) - ((i + 1 : Nat) : Int)) k := by
        have e1 : a + ((i + 1 : Nat) : Int) * k = a + (i : Int) * k + k := by push_cast; rw [Int.add_mul, Int.one_mul, Int.add_assoc]
        have e2 : (n : Int) - ((i + 1 : Nat) : Int) = (n : Int) - (i : Int) - 1 := by push_cast; omega
        rw [e1, e2]
        exact k3 _ _ hIL hId hit₁
      cases p with
      | next =>
        obtain rfl : f = .next := d1
        exact ⟨n + 1 - (i + 1), by omega, i + 1, S3, hit3, d2, d3, frs, ⟨_, _, rfl⟩, d5, hlt', rfl⟩
      | cont =>
        obtain rfl : f = .cont := d1
        exact ⟨n + 1 - (i + 1), by omega, i + 1, S3, hit3, d2, d3, frs, ⟨_, _, rfl⟩, d5, hlt', rfl⟩
      | brk => obtain rfl : f = .brk := d1; exact ⟨.next, S3, rfl, d2, d3, frs, d5⟩
      | ret p => obtain ⟨v, rfl, z⟩ := d1; exact ⟨.ret p, S3, ⟨v, rfl, z⟩, d2, d3, frs, d5⟩
    · have hin : i = n := by omega
      subst hin
      refine wpAny_pyNext_range_end c.hA hit (by omega) fun h₁ he₁ => wpAny_execs_nil ?_
      refine ⟨.next, S', rfl, r'.step (tk := tk) ok' hIB hIL hId hxI hq (fun b o hb e => he₁ b o hb e), ok', ⟨?_, fun b o hb1 hb2 e => ?_⟩, hend S' hJ⟩
      · obtain ⟨q1, q2, q3⟩ := a4.same
        subst q3
        exact ⟨h₁, tk, rfl⟩
      · exact he₁ b o (hlt b o (a4.keep b o hb1 hb2 e)) (fr'.keep b o hb1 hb2 e)
  · subst hIz
    refine ⟨0, S1, ?_, a2.grow (tk := s₁.toks) (fun _ _ e => Heap.get?_push_of_some _ e), a3, a4.trans (.grow (tk := s₁.toks) fun _ _ e => Heap.get?_push_of_some _ e), ⟨_, s₁.toks, rfl⟩, j0, Nat.zero_le _, rfl⟩
    have := rangeSize_nonneg a b k
    have e1 : ((n : Nat) : Int) = Builtin.Range.rangeSize a b k := by omega
    show IsRangeIter _ _ (a + ((0 : Nat) : Int) * k) ((n : Int) - ((0 : Nat) : Int)) k
    rw [e1]
    simp only [Int.natCast_zero, Int.zero_mul, Int.add_zero, Int.sub_zero]
    exact Heap.get?_push_size _ rfl

theorem we_len {xp pos e rest} {Q : PV → St → Prop} (hk : fd.scope.kind = .function) (hG : fd.globals = mainGlobals) (hB : fd.builtins = 0)
    (hx : fd.scope.names.lookup ⟨⟨[108, 101, 110]⟩⟩ = some .globalImplicit)
    (h : WA c fd S pos (e :: rest) (fun ps S1 => BuiR c S1 "len" ps Q))
    (hst : ∀ env, (backTo pos (starEach (e :: rest) env)).any (·.1) = false := by intros; rfl)
    (he : ∀ env, starEach (e :: rest) env = (false, eval e env) :: starEach rest env := by intros; rfl)
    (hc : ∀ env, eval (.Call (.Name ⟨⟨[108, 101, 110]⟩⟩ xp) (e :: rest) [] pos) env = (do let f ← eval (.Name ⟨⟨[108, 101, 110]⟩⟩ xp) env; callWith pos f [] (backTo pos (starEach (e :: rest) env)) []) := by intros; rfl) :
    WE c fd S (.Call (.Name ⟨⟨[108, 101, 110]⟩⟩ xp) (e :: rest) [] pos) Q := we_bcall (id := "len") (by kernel_rfl) (by kernel_rfl) hk hG hB hx h hst he hc

theorem we_min {xp pos e rest} {Q : PV → St → Prop} (hk : fd.scope.kind = .function) (hG : fd.globals = mainGlobals) (hB : fd.builtins = 0)
    (hx : fd.scope.names.lookup ⟨⟨[109, 105, 110]⟩⟩ = some .globalImplicit)
    (h : WA c fd S pos (e :: rest) (fun ps S1 => BuiR c S1 "min" ps Q))
    (hst : ∀ env, (backTo pos (starEach (e :: rest) env)).any (·.1) = false := by intros; rfl)
    (he : ∀ env, starEach (e :: rest) env = (false, eval e env) :: starEach rest env := by intros; rfl)
    (hc : ∀ env, eval (.Call (.Name ⟨⟨[109, 105, 110]⟩⟩ xp) (e :: rest) [] pos) env = (do let f ← eval (.Name ⟨⟨[109, 105, 110]⟩⟩ xp) env; callWith pos f [] (backTo pos (starEach (e :: rest) env)) []) := by intros; rfl) :
    WE c fd S (.Call (.Name ⟨⟨[109, 105, 110]⟩⟩ xp) (e :: rest) [] pos) Q := we_bcall (id := "min") (by kernel_rfl) (by kernel_rfl) hk hG hB hx h hst he hc

theorem we_ord {xp pos e rest} {Q : PV → St → Prop} (hk : fd.scope.kind = .function) (hG : fd.globals = mainGlobals) (hB : fd.builtins = 0)
    (hx : fd.scope.names.lookup ⟨⟨[111, 114, 100]⟩⟩ = some .globalImplicit)
    (h : WA c fd S pos (e :: rest) (fun ps S1 => BuiR c S1 "ord" ps Q))
    (hst : ∀ env, (backTo pos (starEach (e :: rest) env)).any (·.1) = false := by intros; rfl)
    (he : ∀ env, starEach (e :: rest) env = (false, eval e env) :: starEach rest env := by intros; rfl)
    (hc : ∀ env, eval (.Call (.Name ⟨⟨[111, 114, 100]⟩⟩ xp) (e :: rest) [] pos) env = (do let f ← eval (.Name ⟨⟨[111, 114, 100]⟩⟩ xp) env; callWith pos f [] (backTo pos (starEach (e :: rest) env)) []) := by intros; rfl) :
    WE c fd S (.Call (.Name ⟨⟨[111, 114, 100]⟩⟩ xp) (e :: rest) [] pos) Q := we_bcall (id := "ord") (by kernel_rfl) (by kernel_rfl) hk hG hB hx h hst he hc

theorem we_abs {xp pos e rest} {Q : PV → St → Prop} (hk : fd.scope.kind = .function) (hG : fd.globals = mainGlobals) (hB : fd.builtins = 0)
    (hx : fd.scope.names.lookup ⟨⟨[97, 98, 115]⟩⟩ = some .globalImplicit)
    (h : WA c fd S pos (e :: rest) (fun ps S1 => BuiR c S1 "abs" ps Q))
    (hst : ∀ env, (backTo pos (starEach (e :: rest) env)).any (·.1) = false := by intros; rfl)
    (he : ∀ env, starEach (e :: rest) env = (false, eval e env) :: starEach rest env := by intros; rfl)
    (hc : ∀ env, eval (.Call (.Name ⟨⟨[97, 98, 115]⟩⟩ xp) (e :: rest) [] pos) env = (do let f ← eval (.Name ⟨⟨[97, 98, 115]⟩⟩ xp) env; callWith pos f [] (backTo pos (starEach (e :: rest) env)) []) := by intros; rfl) :
    WE c fd S (.Call (.Name ⟨⟨[97, 98, 115]⟩⟩ xp) (e :: rest) [] pos) Q := we_bcall (id := "abs") (by kernel_rfl) (by kernel_rfl) hk hG hB hx h hst he hc

theorem we_chr {xp pos e rest} {Q : PV → St → Prop} (hk : fd.scope.kind = .function) (hG : fd.globals = mainGlobals) (hB : fd.builtins = 0)
    (hx : fd.scope.names.lookup ⟨⟨[99, 104, 114]⟩⟩ = some .globalImplicit)
    (h : WA c fd S pos (e :: rest) (fun ps S1 => BuiR c S1 "chr" ps Q))
    (hst : ∀ env, (backTo pos (starEach (e :: rest) env)).any (·.1) = false := by intros; rfl)
    (he : ∀ env, starEach (e :: rest) env = (false, eval e env) :: starEach rest env := by intros; rfl)
    (hc : ∀ env, eval (.Call (.Name ⟨⟨[99, 104, 114]⟩⟩ xp) (e :: rest) [] pos) env = (do let f ← eval (.Name ⟨⟨[99, 104, 114]⟩⟩ xp) env; callWith pos f [] (backTo pos (starEach (e :: rest) env)) []) := by intros; rfl) :
    WE c fd S (.Call (.Name ⟨⟨[99, 104, 114]⟩⟩ xp) (e :: rest) [] pos) Q := we_bcall (id := "chr") (by kernel_rfl) (by kernel_rfl) hk hG hB hx h hst he hc

theorem wi_rng {xp pos e rest} {Q : Int → Int → Int → St → Prop} (hk : fd.scope.kind = .function) (hG : fd.globals = mainGlobals) (hB : fd.builtins = 0)
    (hx : fd.scope.names.lookup ⟨⟨[114, 97, 110, 103, 101]⟩⟩ = some .globalImplicit)
    (h : WA c fd S pos (e :: rest) (fun ps S1 => (∃ b, ps = [.int b] ∧ Q 0 b 1 S1) ∨ (∃ a b, ps = [.int a, .int b] ∧ Q a b 1 S1) ∨ (∃ a b k, ps = [.int a, .int b, .int k] ∧ k ≠ 0 ∧ (∃ (_ : True), Builtin.divisionGoesByPylong (b - a) k = false) ∧ Q a b k S1)))
    (hst : ∀ env, (backTo pos (starEach (e :: rest) env)).any (·.1) = false := by intros; rfl)
    (he : ∀ env, starEach (e :: rest) env = (false, eval e env) :: starEach rest env := by intros; rfl)
    (hc : ∀ env, eval (.Call (.Name ⟨⟨[114, 97, 110, 103, 101]⟩⟩ xp) (e :: rest) [] pos) env = (do let f ← eval (.Name ⟨⟨[114, 97, 110, 103, 101]⟩⟩ xp) env; callWith pos f [] (backTo pos (starEach (e :: rest) env)) []) := by intros; rfl) :
    WI c fd S (.Call (.Name ⟨⟨[114, 97, 110, 103, 101]⟩⟩ xp) (e :: rest) [] pos) Q := wi_range (by kernel_rfl) (by kernel_rfl) hk hG hB hx h hst he hc
end Mine
end

section
open PySem PySem.W PySem.Calls PyProof.Rows
set_option Elab.async false
set_option maxRecDepth 100000
set_option linter.unusedVariables false
namespace Mine
variable {c : Cx} {fd : FuncData} {S : St}

noncomputable abbrev PLs := List (PySem.Str × PV)
theorem VR.any {h h' : Heap} {p : PV} {v : Value} (hp : p.plain = true) (r : VR h p v) : VR h' p v := by
  cases p <;> first | (simp only [VR] at r ⊢; exact r) | cases hp
theorem VRs.any {h h' : Heap} : ∀ {ps : List PV} {vs : List Value}, ps.all PV.plain = true → VRs h ps vs → VRs h' ps vs
  | [], vs, _, r => by simp only [VRs] at r ⊢; exact r
  | p :: ps, vs, hp, r => by
    simp only [VRs] at r ⊢
    rw [List.all_cons, Bool.and_eq_true] at hp
    obtain ⟨v, r', rfl, r1, r2⟩ := r
    exact ⟨v, r', rfl, r1.any hp.1, VRs.any hp.2 r2⟩
theorem FR.any {h h' : Heap} : ∀ {f : PLs} {es : List DictEntry}, f.all (fun x => x.2.plain) = true → FR h f es → FR h' f es
  | [], es, _, r => r
  | (n, p) :: f, es, hp, r => by
    rw [List.all_cons, Bool.and_eq_true] at hp
    obtain ⟨e, r', rfl, r1, r2, r3⟩ := r
    exact ⟨e, r', rfl, r1, r2.any hp.1, FR.any hp.2 r3⟩
theorem VRs.snoc {h : Heap} {q : PV} {y : Value} (hq : VR h q y) : ∀ {ps : List PV} {vs : List Value}, VRs h ps vs → VRs h (ps ++ [q]) (vs ++ [y])
  | [], vs, r => by simp only [VRs] at r; subst r; simp only [List.nil_append, VRs]; exact ⟨y, [], rfl, hq, rfl⟩
  | p :: ps, vs, r => by
    simp only [VRs] at r
    obtain ⟨v, r', rfl, r1, r2⟩ := r
    simp only [List.cons_append, VRs]
    exact ⟨v, _, rfl, r1, VRs.snoc hq r2⟩

/-- the head and the instance in a heap, without a function's names -/
structure Lit (c : Cx) (X : Option Addr) (g : Option PLs) (h : Heap) : Prop where
  keepB : ∀ b o, c.B.get? b = some o → h.get? b = some o
  inst : ∀ f, g = some f → X = some c.dx ∧ f.all (fun x => x.2.plain) = true ∧ h.get? c.x = some (instObj 525 c.dx) ∧ c.dx ≠ c.x ∧ c.B.get? c.dx = .none ∧ ∃ es n, h.get? c.dx = some (dictOf es n) ∧ FR h f es

theorem Lit.step {X : Option Addr} {g : Option PLs} {h h' : Heap} {Y : Addr} (l : Lit c X g h) (k : ∀ b o, b ≠ Y → h.get? b = some o → h'.get? b = some o) (hB : c.B.get? Y = .none) (hx : ∀ f, g = some f → Y ≠ c.x ∧ Y ≠ c.dx) : Lit c X g h' := by
  refine ⟨fun b o e => k b o (fun z => by rw [z, hB] at e; cases e) (l.keepB b o e), fun f hf => ?_⟩
  obtain ⟨a1, a2, a3, a4, a5, es, n, a6, a7⟩ := l.inst f hf
  obtain ⟨y1, y2⟩ := hx f hf
  exact ⟨a1, a2, k _ _ (Ne.symm y1) a3, a4, a5, es, n, k _ _ (Ne.symm y2) a6, a7.any a2⟩
theorem Lit.grow {X : Option Addr} {g : Option PLs} {h h' : Heap} (l : Lit c X g h) (k : ∀ b o, h.get? b = some o → h'.get? b = some o) : Lit c X g h' := by
  refine ⟨fun b o e => k b o (l.keepB b o e), fun f hf => ?_⟩
  obtain ⟨a1, a2, a3, a4, a5, es, n, a6, a7⟩ := l.inst f hf
  exact ⟨a1, a2, k _ _ a3, a4, a5, es, n, k _ _ a6, a7.any a2⟩

theorem ne_none_some {h : Heap} {a b : Addr} {o : Obj} (x : h.get? a = .none) (y : h.get? b = some o) : b ≠ a := fun z => by rw [z, x] at y; cases y

/-- what an element of a comprehension does -/
noncomputable def EltR (c : Cx) (X : Option Addr) (elt : Expr) (scope : Scope) (cl : List (PySem.Str × Addr)) (env : Env) (x : PySem.Str) (xs : List PV) (J : Nat → Option PLs → List PV → Prop) (sb : Shared) : Prop :=
  ∀ i g ps p, J i g ps → xs[i]? = some p → ∀ (s2 : Shared) C m v, Lit c X g s2.heap → s2.heap.Ns C m → m x = some v → VR s2.heap p v → sb.heap.get? C = .none → (∀ a, X = some a → C ≠ a) → (∀ f, g = some f → C ≠ c.x) → c.B.get? C = .none →
    (∀ b o, some b ≠ X → sb.heap.get? b = some o → s2.heap.get? b = some o) →
    wpAny (model pw c.w) c.A (eval elt (compEnvC scope cl C env)) (fun y s3 => ∃ q g', q.plain = true ∧ VR s3.heap q y ∧ Lit c X g' s3.heap ∧ (∃ h tk, s3 = { s2 with heap := h, toks := tk }) ∧ (∀ b o, some b ≠ X → s2.heap.get? b = some o → s3.heap.get? b = some o) ∧ J (i + 1) g' (ps ++ [q])) NoE s2

theorem comp_loop {env : Env} {X : Option Addr} {elt iter : Expr} {x : PySem.Str} {px : Pos} {scope : Scope} {pos : Pos} {cl : List (PySem.Str × Addr)} {xs : List PV} {J : Nat → Option PLs → List PV → Prop} {sb s : Shared} {I ax D C : Addr} {vs : List Value} {Stt : Nat → Heap → Prop} {m : PySem.Str → Option Value} {g0 : Option PLs}
    {R : Result → Shared → Prop}
    (W : Walks pw c.w c.A I [I, ax] [I] vs.length (fun i v => vs[i]? = some v) Stt) (hx : scope.names.lookup x = some .local) (hkind : scope.kind = .function)
    (hxs : xs.all PV.plain = true) (hvs : VRs s.heap xs vs) (hz : vs.length ≤ 1000000)
    (el : EltR c X elt scope cl env x xs J sb)
    (hsb : ∀ b o, sb.heap.get? b = some o → s.heap.get? b = some o) (hss : ∃ h tk, s = { sb with heap := h, toks := tk })
    (hI : sb.heap.get? I = .none) (hD : sb.heap.get? D = .none) (hC : sb.heap.get? C = .none) (hID : D ≠ I) (hIC : C ≠ I) (hDC : D ≠ C) (hax : ∃ o, sb.heap.get? ax = some o)
    (hX : ∀ a, X = some a → a ≠ ax ∧ ∃ o, sb.heap.get? a = some o) (hxx : ∀ f, g0 = some f → ∃ o, sb.heap.get? c.x = some o) (hB : ∀ b o, c.B.get? b = some o → sb.heap.get? b = some o)
    (hg : ∀ i f ps, J i (some f) ps → ∃ o, sb.heap.get? c.x = some o)
    (hst : Stt 0 s.heap) (hacc : s.heap.PlainList D #[]) (hn : s.heap.Ns C m) (hl : Lit c X g0 s.heap) (j0 : J 0 g0 [])
    (hR : ∀ h' tk m' ys g ps, h'.Ns C m' → h'.PlainList D ys → VRs h' ps ys.toList → ps.all PV.plain = true → Lit c X g h' → J vs.length g ps → (∀ b o, some b ≠ X → sb.heap.get? b = some o → h'.get? b = some o) → R (.ok .next) { s with heap := h', toks := tk }) :
    codeAny (model pw c.w) c.A (.compLoop (.ListComp elt [⟨.Name x px, iter, [], 0⟩] scope pos) 0 (.ref I) (.ref D) (compEnvC scope cl C env)) R s := by
  have hBI : c.B.get? I = .none := by cases q : c.B.get? I with | none => rfl | some o => rw [hB _ _ q] at hI; cases hI
  have hBD : c.B.get? D = .none := by cases q : c.B.get? D with | none => rfl | some o => rw [hB _ _ q] at hD; cases hD
  have hBC : c.B.get? C = .none := by cases q : c.B.get? C with | none => rfl | some o => rw [hB _ _ q] at hC; cases hC
  have nX : ∀ Y, sb.heap.get? Y = .none → some Y ≠ X := fun Y hY z => by
    obtain ⟨-, o, ho⟩ := hX Y z.symm
    rw [hY] at ho; cases ho
  obtain ⟨oa, hoa⟩ := hax
  have haX : some ax ≠ X := fun z => (hX ax z.symm).1 rfl
  have fresh : ∀ Y, sb.heap.get? Y = .none → ∀ i g ps, J i g ps → ∀ {h}, Lit c X g h → ∀ f, g = some f → Y ≠ c.x ∧ Y ≠ c.dx := fun Y hY i g ps hJ h hL f hf => by
    subst hf
    obtain ⟨o, ho⟩ := hg i f ps hJ
    refine ⟨Ne.symm (ne_none_some hY ho), fun z => ?_⟩
    exact nX Y hY (z ▸ (hL.inst f rfl).1.symm)
  refine codeAny_compLoop_list
    (fun k s' => ∃ h' tk m' ys g ps i, s' = { s with heap := h', toks := tk } ∧ Stt i h' ∧ h'.PlainList D ys ∧ h'.Ns C m' ∧ VRs h' ps ys.toList ∧ ps.all PV.plain = true ∧ Lit c X g h' ∧ J i g ps ∧ i ≤ vs.length ∧ k = vs.length + 1 - i ∧ ps.length = i ∧
      (∀ b o, some b ≠ X → sb.heap.get? b = some o → h'.get? b = some o)) ?_ (vs.length + 1)
    ⟨s.heap, s.toks, m, #[], g0, [], 0, rfl, hst, hacc, hn, by simp only [VRs], rfl, hl, j0, Nat.zero_le _, rfl, rfl, fun b o _ e => hsb b o e⟩
  rintro k s' ⟨h', tk, m', ys, g, ps, i, rfl, hst', hacc', hn', hys, hpl, hL, hJ, hi, rfl, hpi, hk⟩
  by_cases hlt : i < vs.length
  · refine W.item i _ _ _ hlt hst' fun v h₁ tk₁ hv hst₁ hk₁ => ?_
    have hCw : C ∉ [I] := by simpa using hIC
    have hDw : D ∉ [I] := by simpa using hID
    have k1 : ∀ b o, b ≠ I → h'.get? b = some o → h₁.get? b = some o := fun b o hb e => hk₁ b o (by simpa using hb) e
    have hL1 := hL.step k1 hBI (fresh I hI i g ps hJ hL)
    refine wpAny_assign_Name (wpAny_storeName_local (env := compEnvC scope cl C env) (m := m') (lookup_relabel_local hx) (hn'.at' fun o e => hk₁ _ o hCw e) (fun h₂ hn₂ hs₂ => ?_) (by simp [compEnvC, relabel, hkind]))
    have k2 : ∀ b o, b ≠ C → h₁.get? b = some o → h₂.get? b = some o := fun b o hb e => (hs₂.2 b hb).trans e
    have hL2 := hL1.step k2 hBC (fresh C hC i g ps hJ hL1)
    have hL3 := (hL2)
    obtain ⟨p, e1, e2⟩ : ∃ p, xs[i]? = some p ∧ VR h₂ p v := by
      have hlen := hvs.len
      obtain ⟨w, w1, w2⟩ := VRs.get (i := i) (p := xs[i]'(by omega)) hvs (List.getElem?_eq_getElem (by omega))
      rw [hv] at w1
      cases w1
      refine ⟨_, List.getElem?_eq_getElem (by omega), w2.any ?_⟩
      exact List.all_eq_true.mp hxs _ (List.getElem_mem _)
    have kb : ∀ b o, some b ≠ X → sb.heap.get? b = some o → h₂.get? b = some o := fun b o hb e => k2 b o (ne_none_some hC e) (k1 b o (ne_none_some hI e) (hk b o hb e))
    refine wpAny_mono (el i g ps p hJ e1 _ C _ v hL2 hn₂ (by simp) e2 hC (fun a ha z => nX C hC (by rw [z, ha])) (fun f hf => (fresh C hC i g ps hJ hL2 f hf).1) hBC kb) (fun y s₃ z => ?_) fun _ _ x => x.elim
    obtain ⟨q, g', q1, q2, q3, ⟨h3, tk3, rfl⟩, q5, q6⟩ := z
    have acc3 : h3.PlainList D ys := hacc'.at fun o e => q5 _ o (nX D hD) (k2 _ o hDC (k1 _ o hID e))
    have lenys : ys.size = i := by
      have := hys.len
      rw [Array.length_toList] at this
      omega
    refine wpAny_list_append_plain acc3 (fun h₅ hl₅ hs₅ => ?_) (by rw [lenys, sizeLine_eq]; omega)
    have k5 : ∀ b o, b ≠ D → h3.get? b = some o → h₅.get? b = some o := fun b o hb e => (hs₅.2 b hb).trans e
    refine ⟨vs.length + 1 - (i + 1), by omega, h₅, tk3, _, ys.push y, g', ps ++ [q], i + 1, rfl, ?_, hl₅, ((hn₂.at fun o e => q5 _ o (nX C hC) e).sameBut hs₅ (Ne.symm hDC)), ?_, ?_, q3.step k5 hBD (fresh D hD (i + 1) g' _ q6 q3), q6, hlt, rfl, by simp [hpi], ?_⟩
    · refine W.frame _ _ _ hst₁ fun b hb o e => ?_
      have hb : b = I ∨ b = ax := by simpa using hb
      have bC : b ≠ C := by
        rcases hb with rfl | rfl
        · exact Ne.symm hIC
        · exact ne_none_some hC hoa
      have bX : some b ≠ X := by
        rcases hb with rfl | rfl
        · exact nX _ hI
        · exact haX
      have bD : b ≠ D := by
        rcases hb with rfl | rfl
        · exact Ne.symm hID
        · exact ne_none_some hD hoa
      exact k5 b o bD (q5 b o bX (k2 b o bC e))
    · rw [Array.toList_push]
      exact VRs.snoc (q2.any q1) (VRs.any hpl hys)
    · rw [List.all_append, hpl]; simp [q1]
    · intro b o hb e
      exact k5 b o (ne_none_some hD e) (q5 b o hb (kb b o hb e))
  · have hin : i = vs.length := by omega
    subst hin
    refine W.done _ _ _ hst' fun h₁ tk₁ hk₁ => ?_
    have k1 : ∀ b o, b ≠ I → h'.get? b = some o → h₁.get? b = some o := fun b o hb e => hk₁ b o (by simpa using hb) e
    exact hR h₁ tk₁ m' ys g ps (hn'.at' fun o e => k1 _ o hIC e) (hacc'.at fun o e => k1 _ o hID e) (VRs.any hpl hys) hpl (hL.step k1 hBI (fresh I hI _ g ps hJ hL)) hJ fun b o hb e => k1 b o (ne_none_some hI e) (hk b o hb e)

theorem fresh_size {h : Heap} {a : Addr} (ha : h.objs.size ≤ a) : h.get? a = .none := by
  cases e : h.get? a with
  | none => rfl
  | some o' => exact absurd (Heap.lt_size e) (Nat.not_lt.mpr ha)

theorem comp_rule {env : Env} {elt iter : Expr} {x : PySem.Str} {px : Pos} {scope : Scope} {pos : Pos} {cl : List (PySem.Str × Addr)} {s : Shared} {Q : Value → Shared → Prop}
    (hclos : closureFor scope env = pure cl) (hcell : ∀ y ∈ scope.names, y.2 ≠ .cell) (hkind : scope.kind = .function)
    (hnames : ∀ y ∈ scope.names, y.2 = .local → scope.names.lookup y.1 = some .local) (hx : scope.names.lookup x = some .local)
    (h : wpAny (model pw c.w) c.A (eval iter env) (fun v s1 => ∃ (xs : List PV) (X : Option Addr) (g0 : Option PLs) (J : Nat → Option PLs → List PV → Prop),
      (VR s1.heap (.lst xs) v ∨ VR s1.heap (.tup xs) v) ∧ xs.all PV.plain = true ∧ xs.length ≤ 1000000 ∧ Lit c X g0 s1.heap ∧ J 0 g0 [] ∧
      (∀ a, X = some a → ∃ es n, s1.heap.get? a = some (dictOf es n)) ∧ (∀ i f ps, J i (some f) ps → ∃ o, s1.heap.get? c.x = some o) ∧ EltR c X elt scope cl env x xs J s1 ∧
      (∀ D h' tk g ps, VR h' (.lst ps) (.ref D) → ps.all PV.plain = true → Lit c X g h' → J xs.length g ps → (∀ b o, some b ≠ X → s1.heap.get? b = some o → h'.get? b = some o) → Q (.ref D) { s1 with heap := h', toks := tk })) NoE s)
    (hs : ∀ x, foldedSetIterable iter env x = pure x := by intro _; rfl) :
    wpAny (model pw c.w) c.A (eval (.ListComp elt [⟨.Name x px, iter, [], 0⟩] scope pos) env) Q NoE s := by
  rw [eval_ListComp]
  refine wpAny_comprehension_free (use := none) rfl hs hclos hkind hnames (wpAny_mono h (fun v s1 z => ?_) fun _ _ e => e)
  obtain ⟨xs, X, g0, J, hv, hpl, hz, hL, j0, hX, hg, el, hQ⟩ := z
  -- the rest, once the iterator is made
  have rest : ∀ (ax : Addr) (vs : List Value) (Stt : Nat → Heap → Prop) (obI : Obj), VRs s1.heap xs vs → (∃ o k, s1.heap.get? ax = some ⟨k, .none, .seq vs.toArray o, #[]⟩) → obI.isFreed = false →
      Walks pw c.w c.A s1.heap.objs.size [s1.heap.objs.size, ax] [s1.heap.objs.size] vs.length (fun i v => vs[i]? = some v) Stt → Stt 0 (s1.heap.push obI) →
      wpAny (model pw c.w) c.A (newList []) (fun acc s₃ => wpAny (model pw c.w) c.A (newFunctionEnv scope env.globals cl [] env.qual none .none (some env)) (fun cenv s₄ =>
        codeAny (model pw c.w) c.A (.compStart (.ListComp elt [⟨.Name x px, iter, [], 0⟩] scope pos) 0 (.ref s1.heap.objs.size) acc { cenv with scope := relabel scope env }) (compPost (model pw c.w) c.A NoE none Q acc cenv.locals) s₄) NoE s₃) NoE { s1 with heap := s1.heap.push obI } := by
    intro ax vs Stt obI hvs hax hfr W st0
    refine wpAny_newObj_type (wpAny_newFunctionEnv hcell (by intro y hy; simp at hy) (fun h₁ hns₁ hsb₁ => ?_) hkind)
    dsimp only at hns₁ hsb₁ ⊢
    generalize hH1 : s1.heap.push obI = H1 at hns₁ hsb₁ st0 ⊢
    generalize hH2 : H1.push { cls := .type "list", dict := none, data := .seq ([] : List Value).toArray } = H2 at hns₁ hsb₁ ⊢
    have e1 : H1.objs.size = s1.heap.objs.size + 1 := by rw [← hH1, Heap.size_push]
    have e2 : H2.objs.size = s1.heap.objs.size + 2 := by rw [← hH2, Heap.size_push, e1]
    have l1 : s1.heap.objs.size < H1.objs.size := by rw [e1]; exact Nat.lt_succ_self _
    have l2 : H1.objs.size < H2.objs.size := by rw [e1, e2]; exact Nat.lt_succ_self _
    have l3 : s1.heap.objs.size < H2.objs.size := Nat.lt_trans l1 l2
    have up1 : ∀ b o, s1.heap.get? b = some o → H1.get? b = some o := fun b o e => hH1 ▸ Heap.get?_push_of_some _ e
    have up2 : ∀ b o, H1.get? b = some o → H2.get? b = some o := fun b o e => hH2 ▸ Heap.get?_push_of_some _ e
    have up3 : ∀ b o, b < H2.objs.size → H2.get? b = some o → h₁.get? b = some o := fun b o hb e => hsb₁.extBut b o (Nat.ne_of_lt hb) (Heap.get?_push_of_some _ e)
    have old : ∀ b o, s1.heap.get? b = some o → h₁.get? b = some o := fun b o e => up3 b o (Nat.lt_trans (Heap.lt_size e) l3) (up2 b o (up1 b o e))
    have oldI : ∀ b o, H1.get? b = some o → h₁.get? b = some o := fun b o e => up3 b o (Nat.lt_trans (Heap.lt_size e) l2) (up2 b o e)
    have hacc : h₁.PlainList H1.objs.size #[] := ⟨_, up3 _ _ l2 (hH2 ▸ Heap.get?_push_size _ rfl)⟩
    have st1 : Stt 0 h₁ := W.frame _ _ _ st0 fun b _ o e => oldI b o e
    obtain ⟨no, ka, haxo⟩ := hax
    have loop : ∀ s₃ : Shared, s₃ = { s1 with heap := h₁, toks := s1.toks + ([] : List (PySem.Str × Value)).length } →
        codeAny (model pw c.w) c.A (.compLoop (.ListComp elt [⟨.Name x px, iter, [], 0⟩] scope pos) 0 (.ref s1.heap.objs.size) (.ref H1.objs.size) (compEnvC scope cl H2.objs.size env))
          (compPost (model pw c.w) c.A NoE none Q (.ref H1.objs.size) H2.objs.size) s₃ := by
      rintro s₃ rfl
      refine comp_loop (sb := s1) (ax := ax) (g0 := g0) (J := J) (xs := xs) (X := X) W hx hkind hpl (VRs.any hpl hvs) (by rw [hvs.len]; exact hz) el old ⟨_, _, rfl⟩ (fresh_size (Nat.le_refl _)) (fresh_size (Nat.le_of_lt l1)) (fresh_size (Nat.le_of_lt l3)) (Nat.ne_of_gt l1) (Nat.ne_of_gt l3) (Nat.ne_of_lt l2) ⟨_, haxo⟩
        (fun a ha => ?_) (fun f hf => ?_) hL.keepB hg st1 hacc hns₁ (hL.grow old) j0 ?_
      · obtain ⟨es, n, e⟩ := hX a ha
        exact ⟨fun z => (by rw [z, haxo] at e; cases e), _, e⟩
      · obtain ⟨-, -, a3, -⟩ := hL.inst f hf; exact ⟨_, a3⟩
      · intro h' tk m' ys g ps hn' hD' hys hps hL' hJ' hk'
        refine ⟨m', hn', fun h'' hs'' => ?_⟩
        have nC : s1.heap.get? H2.objs.size = .none := fresh_size (Nat.le_of_lt l3)
        have k2 : ∀ b o, b ≠ H2.objs.size → h'.get? b = some o → h''.get? b = some o := fun b o hb e => (hs''.2 b hb).trans e
        have hBC : c.B.get? H2.objs.size = .none := by
          cases q : c.B.get? H2.objs.size with
          | none => rfl
          | some o => have := hL.keepB _ _ q; rw [nC] at this; cases this
        obtain ⟨nD, eD⟩ := hD'
        refine hQ H1.objs.size h'' tk g ps ?_ hps (hL'.step k2 hBC fun f hf => ?_) (by rw [← hvs.len]; exact hJ') fun b o hb e => k2 b o (ne_none_some nC e) (hk' b o hb e)
        · simp only [VR]
          exact ⟨H1.objs.size, ys.toList, nD, rfl, by rw [Array.toArray_toList]; exact k2 _ _ (Nat.ne_of_lt l2) eD, VRs.any hps hys⟩
        · subst hf
          obtain ⟨o, ho⟩ := hg _ f ps hJ'
          refine ⟨Ne.symm (ne_none_some nC ho), fun z => ?_⟩
          obtain ⟨hx1, -⟩ := hL'.inst f rfl
          obtain ⟨es, n, e⟩ := hX _ hx1
          rw [← z, nC] at e; cases e
    exact codeAny_compStart_list (loop _ rfl) (W.self 0 _ _ _ st1 (loop _ rfl))
  rcases hv with hv | hv
  · simp only [VR] at hv
    obtain ⟨a, vs, n, rfl, ha, hvs⟩ := hv
    have hne : a ≠ s1.heap.objs.size := Nat.ne_of_lt (Heap.lt_size ha)
    have W0 := Walks.list (prog := pw) (w := c.w) (A := c.A) c.hA s1.heap.objs.size a hne vs.toArray
    have W : Walks pw c.w c.A s1.heap.objs.size [s1.heap.objs.size, a] [s1.heap.objs.size] vs.length (fun i v => vs[i]? = some v) (fun i h => h.IsListIter s1.heap.objs.size a i ∧ h.IsList a vs.toArray) := by
      simpa using W0
    refine wpAny_pyIter_list (items := vs.toArray) ⟨_, ha, rfl, _, rfl⟩ ?_
    exact rest a vs _ _ hvs ⟨_, _, ha⟩ rfl W ⟨⟨_, Heap.get?_push_size _ rfl, rfl, rfl⟩, ⟨_, Heap.get?_push_of_some _ ha, rfl, _, rfl⟩⟩
  · simp only [VR] at hv
    obtain ⟨a, vs, n, rfl, ha, hvs⟩ := hv
    have hne : a ≠ s1.heap.objs.size := Nat.ne_of_lt (Heap.lt_size ha)
    have W0 := Walks.tuple (prog := pw) (w := c.w) (A := c.A) c.hA s1.heap.objs.size a hne vs.toArray
    have W : Walks pw c.w c.A s1.heap.objs.size [s1.heap.objs.size, a] [s1.heap.objs.size] vs.length (fun i v => vs[i]? = some v) (fun i h => h.IsTupleIter s1.heap.objs.size a i ∧ h.IsTuple a vs.toArray) := by
      simpa using W0
    refine wpAny_pyIter_tuple (items := vs.toArray) ⟨_, ha, rfl, _, rfl⟩ ?_
    exact rest a vs _ _ hvs ⟨_, _, ha⟩ rfl W ⟨⟨_, Heap.get?_push_size _ rfl, rfl, rfl⟩, ⟨_, Heap.get?_push_of_some _ ha, rfl, _, rfl⟩⟩
end Mine
end

section
open PySem PySem.W PySem.Calls PyProof.Rows
set_option Elab.async false
set_option maxRecDepth 100000
set_option linter.unusedVariables false
namespace Mine
variable {c : Cx} {fd : FuncData} {S : St}

theorem push_up {h : Heap} {ob : Obj} : ∀ b o, h.get? b = some o → (h.push ob).get? b = some o := fun _ _ e => Heap.get?_push_of_some _ e

theorem we_list {elts pos} {Q : PV → St → Prop} (h : WA c fd S pos elts (fun ps S1 => ps.length ≤ 1000000 ∧ Q (.lst ps) S1)) : WE c fd S (.List elts pos) Q := by
  refine ⟨fun s r ok => List_ (wpAny_mono (h.run s r ok) (fun vs s₁ z => ?_) fun _ _ x => x)⟩
  obtain ⟨ps, S1, a1, a2, a3, a4, hz, q⟩ := z
  refine wpAny_newObj_type ?_ (by show vs.toArray.size ≤ sizeLine; rw [List.size_toArray, a1.len, sizeLine_eq]; omega)
  exact ⟨.lst ps, S1, by simp only [VR]; exact ⟨_, vs, 0, rfl, Heap.get?_push_size _ rfl, VRs.keep (.of push_up) _ _ a1⟩, a2.grow (tk := s₁.toks) push_up, a3, a4.trans (.grow (tk := s₁.toks) push_up), q⟩
theorem we_tuple {elts k pos} {Q : PV → St → Prop} (h : WA c fd S pos elts (fun ps S1 => ps.length ≤ 1000000 ∧ Q (.tup ps) S1)) : WE c fd S (.Tuple elts k pos) Q := by
  refine ⟨fun s r ok => Tuple_ (wpAny_mono (h.run s r ok) (fun vs s₁ z => ?_) fun _ _ x => x)⟩
  obtain ⟨ps, S1, a1, a2, a3, a4, hz, q⟩ := z
  refine wpAny_newObj_type ?_ (by show vs.toArray.size ≤ sizeLine; rw [List.size_toArray, a1.len, sizeLine_eq]; omega)
  exact ⟨.tup ps, S1, by simp only [VR]; exact ⟨_, vs, 0, rfl, Heap.get?_push_size _ rfl, VRs.keep (.of push_up) _ _ a1⟩, a2.grow (tk := s₁.toks) push_up, a3, a4.trans (.grow (tk := s₁.toks) push_up), q⟩

theorem bin_fdiv {a b : Int} {Q} (hb : b ≠ 0) (hs : b.natAbs < 1073741824) (h : Q (.int (a.fdiv b)) S) : BinR c S .FloorDiv (.int a) (.int b) Q := by
  refine ⟨fun s u v r ok hu hv => ?_⟩
  simp only [VR] at hu hv
  obtain ⟨t, rfl⟩ := hu; obtain ⟨t', rfl⟩ := hv
  exact PyProof.Rows.floordiv_int hb (post_tok r ok vr_int h) (.inl (PyProof.noPylong_small hs))
theorem bin_mul {a b : Int} {Q} (hs : Builtin.Int.intBits b ≤ 64) (h : Q (.int (a * b)) S) : BinR c S .Mult (.int a) (.int b) Q := by
  refine ⟨fun s u v r ok hu hv => ?_⟩
  simp only [VR] at hu hv
  obtain ⟨t, rfl⟩ := hu; obtain ⟨t', rfl⟩ := hv
  exact PyProof.Rows.mul_int (post_tok r ok vr_int h) (.of_right hs)
theorem VRs.app {h : Heap} : ∀ {ps qs : List PV} {vs ws : List Value}, VRs h ps vs → VRs h qs ws → VRs h (ps ++ qs) (vs ++ ws)
  | [], qs, vs, ws, a, b => by simp only [VRs] at a; subst a; exact b
  | p :: ps, qs, vs, ws, a, b => by
    simp only [VRs] at a
    obtain ⟨v, r, rfl, a1, a2⟩ := a
    simp only [List.cons_append, VRs]
    exact ⟨v, _, rfl, a1, VRs.app a2 b⟩
theorem bin_addl {a b : List PV} {Q} (hz : a.length + b.length ≤ 1000000) (h : Q (.lst (a ++ b)) S) : BinR c S .Add (.lst a) (.lst b) Q := by
  refine ⟨fun s u v r ok hu hv => ?_⟩
  simp only [VR] at hu hv
  obtain ⟨l, vs, n, rfl, ho, hvs⟩ := hu
  obtain ⟨l2, ws, n2, rfl, ho2, hws⟩ := hv
  have e : vs.toArray ++ ws.toArray = (vs ++ ws).toArray := by simp
  have e1 := hvs.len
  have e2 := hws.len
  refine concat_meets ⟨_, ho, rfl⟩ ⟨_, ho2, rfl⟩ noFill_list_add seq_list_add PySem.F.slot_list_add PySem.F.entry_list_add (PySem.F.args_list_add_2 _ _) (list_addW l l2 vs.toArray ws.toArray n n2 .none .none #[] #[] (by rw [List.size_toArray, List.size_toArray, sizeLine_eq]; omega)) ⟨ho, ho2, ?_⟩
  rw [e]
  exact ⟨.lst (a ++ b), S, by simp only [VR]; exact ⟨_, vs ++ ws, 0, rfl, Heap.get?_push_size _ rfl, VRs.keep (.of push_up) _ _ (hvs.app hws)⟩, r.grow (tk := s.toks) push_up, ok, .grow (tk := s.toks) push_up, h⟩

theorem preSum_ints (ns : List Int) : ∀ j, j ≤ ns.length → preSum (fun i => ns.getD i 0) j = (ns.take j).sum
  | 0, _ => rfl
  | j + 1, h => by
    show preSum _ j + ns.getD j 0 = _
    rw [preSum_ints ns j (by omega), List.take_succ_eq_append_getElem (by omega), List.sum_append, List.getD_eq_getElem?_getD, List.getElem?_eq_getElem (by omega)]
    simp
theorem bui_sum {ns : List Int} {Q : PV → St → Prop} (h : Q (.int ns.sum) S) : BuiR c S "sum" [.lst (ns.map .int)] Q := by
  refine ⟨fun s vs r ok hv => ?_⟩
  simp only [VRs, VR] at hv
  obtain ⟨v, r', rfl, ⟨a, ws, n, rfl, ha, hws⟩, rfl⟩ := hv
  have hl := hws.len
  rw [List.length_map] at hl
  refine call_sum_walkG (wpAny_pyIter_list (items := ws.toArray) ⟨_, ha, rfl, _, rfl⟩ ?_)
  have hne : a ≠ s.heap.objs.size := Nat.ne_of_lt (Heap.lt_size ha)
  refine ⟨_, _, _, _, _, _, fun i => ns.getD i 0, rfl, Walks.list (prog := pw) (w := c.w) (A := c.A.in1) c.hA s.heap.objs.size a hne ws.toArray, ⟨⟨_, Heap.get?_push_size _ rfl, rfl, rfl⟩, ⟨_, Heap.get?_push_of_some _ ha, rfl, _, rfl⟩⟩, ?_, ?_, ?_⟩
  · intro b hb
    rw [Heap.size_push]
    simp only [List.mem_cons, List.not_mem_nil, or_false] at hb
    rcases hb with rfl | rfl
    · exact Nat.lt_succ_self _
    · exact Nat.lt_succ_of_lt (Heap.lt_size ha)
  · intro i v hiv
    have hiv : ws[i]? = some v := by simpa using hiv
    have hi : i < ws.length := (List.getElem?_eq_some_iff.mp hiv).1
    obtain ⟨u, u1, u2⟩ := hws.get (i := i) (p := .int (ns.getD i 0)) (by rw [List.getElem?_map, List.getElem?_eq_getElem (by omega), List.getD_eq_getElem?_getD, List.getElem?_eq_getElem (by omega)]; rfl)
    rw [u1] at hiv
    cases hiv
    simp only [VR] at u2
    exact u2
  · intro h' tk t' hk
    have up : ∀ b o, s.heap.get? b = some o → h'.get? b = some o := fun b o e => hk b o (by
      simp only [List.mem_cons, List.not_mem_nil, or_false]
      exact Nat.ne_of_lt (Heap.lt_size e)) (Heap.get?_push_of_some _ e)
    rw [List.size_toArray, hl, preSum_ints ns _ (Nat.le_refl _), List.take_length]
    exact post_grow r ok up vr_int h

theorem pick_plain (items : Array Value) (a b : Nat) : slicePick items (some (a : Int)) (some (b : Int)) none = ((items.toList.drop a).take (b - a)).toArray := by
  rw [slicePick_plain]
  simp only [Option.elim, clipAt_nat]
  congr 1
  have e : items.toList.length = items.size := by simp
  rcases Nat.le_total a items.size with h | h
  · rw [Nat.min_eq_left h]
    rcases Nat.le_total b items.size with h2 | h2
    · rw [Nat.min_eq_left h2]
    · rw [Nat.min_eq_right h2, List.take_of_length_le (by rw [List.length_drop, e]; exact Nat.le_refl _), List.take_of_length_le (by rw [List.length_drop, e]; exact Nat.sub_le_sub_right h2 _)]
  · rw [Nat.min_eq_right h, List.drop_of_length_le (by rw [e]; exact Nat.le_refl _), List.drop_of_length_le (by rw [e]; exact h)]; simp

theorem VRs.drop {h : Heap} : ∀ {ps : List PV} {vs : List Value}, VRs h ps vs → ∀ k, VRs h (ps.drop k) (vs.drop k)
  | ps, vs, r, 0 => r
  | [], vs, r, k + 1 => by simp only [VRs] at r; subst r; simp only [List.drop_nil, VRs]
  | p :: ps, vs, r, k + 1 => by
    simp only [VRs] at r
    obtain ⟨v, r', rfl, r1, r2⟩ := r
    exact VRs.drop r2 k
theorem VRs.take {h : Heap} : ∀ {ps : List PV} {vs : List Value}, VRs h ps vs → ∀ k, VRs h (ps.take k) (vs.take k)
  | ps, vs, r, 0 => by simp only [List.take_zero, VRs]
  | [], vs, r, k + 1 => by simp only [VRs] at r; subst r; simp only [List.take_nil, VRs]
  | p :: ps, vs, r, k + 1 => by
    simp only [VRs] at r
    obtain ⟨v, r', rfl, r1, r2⟩ := r
    simp only [List.take_succ_cons, VRs]
    exact ⟨v, _, rfl, r1, VRs.take r2 k⟩

/-- xs[i:j] -/
theorem we_lslice {value lo hi sp pos} {Q : PV → St → Prop} (h : WE c fd S value (fun a S1 => WE c fd S1 lo (fun b S2 => WE c fd S2 hi (fun d S3 =>
      ∃ (l : List PV) (i j : Nat), a = .lst l ∧ b = .int i ∧ d = .int j ∧ l.length ≤ 1000000 ∧ Q (.lst ((l.drop i).take (j - i))) S3))))
    (ht : ∀ o r, letTemporaryGo value o r = pure () := by intro _ _; rfl) : WE c fd S (.Subscript value (.Slice (some lo) (some hi) .none sp) pos) Q := by
  refine ⟨fun s r ok => wpAny_Subscript_list_slice (wpAny_mono (h.run s r ok) (fun u s₁ z => ?_) fun _ _ x => x) ht⟩
  obtain ⟨a, S1, a1, a2, a3, a4, a5⟩ := z
  refine evalPart_some_step (wpAny_mono (a5.run s₁ a2 a3) (fun v s₂ z => ?_) fun _ _ x => x)
  obtain ⟨b, S2, b1, b2, b3, b4, b5⟩ := z
  refine evalPart_some_step (wpAny_mono (b5.run s₂ b2 b3) (fun w s₃ z => ?_) fun _ _ x => x)
  obtain ⟨d, S3, d1, d2, d3, d4, l, i, j, rfl, rfl, rfl, hz, q⟩ := z
  simp only [VR] at b1 d1
  obtain ⟨t2, rfl⟩ := b1
  obtain ⟨t3, rfl⟩ := d1
  have a1 := VR.keep (b2.seqKeep b3 d4) _ _ (VR.keep (a2.seqKeep a3 b4) _ _ a1)
  simp only [VR] at a1
  obtain ⟨ad, vs, n, rfl, ha, hvs⟩ := a1
  have hl := hvs.len
  have up : ∀ b o, s₃.heap.get? b = some o → ((s₃.heap.push { cls := .type "slice", data := .fields #[.int i t2, .int j t3, .none] }).push { cls := .type "list", data := .seq (slicePick vs.toArray (some (i : Int)) (some (j : Int)) none) }).get? b = some o := fun b o e => push_up _ _ (push_up _ _ e)
  refine ⟨ad, vs.toArray, some (i : Int), some (j : Int), rfl, ⟨_, ha, rfl, _, rfl⟩, by rw [List.size_toArray, sizeLine_eq]; omega, .int _ _, .int _ _, ?_⟩
  refine Post.trans ((a4.trans b4).trans d4) ⟨.lst ((l.drop i).take (j - i)), S3, ?_, d2.grow (tk := s₃.toks) up, d3, .grow (tk := s₃.toks) up, q⟩
  simp only [VR]
  refine ⟨_, (vs.drop i).take (j - i), 0, rfl, ?_, VRs.keep (.of up) _ _ ((hvs.drop i).take (j - i))⟩
  rw [pick_plain]
  have := Heap.get?_push_size (s₃.heap.push { cls := .type "slice", data := .fields #[.int i t2, .int j t3, .none] }) (o := { cls := .type "list", data := .seq ((vs.drop i).take (j - i)).toArray }) rfl
  rw [Heap.size_push] at this
  exact this
theorem we_lslice_to {value hi sp pos} {Q : PV → St → Prop} (h : WE c fd S value (fun a S1 => WE c fd S1 hi (fun d S3 =>
      ∃ (l : List PV) (j : Nat), a = .lst l ∧ d = .int j ∧ l.length ≤ 1000000 ∧ Q (.lst (l.take j)) S3)))
    (ht : ∀ o r, letTemporaryGo value o r = pure () := by intro _ _; rfl) : WE c fd S (.Subscript value (.Slice .none (some hi) .none sp) pos) Q := by
  refine ⟨fun s r ok => wpAny_Subscript_list_slice (wpAny_mono (h.run s r ok) (fun u s₁ z => ?_) fun _ _ x => x) ht⟩
  obtain ⟨a, S1, a1, a2, a3, a4, a5⟩ := z
  refine evalPart_none_step ?_
  refine evalPart_some_step (wpAny_mono (a5.run s₁ a2 a3) (fun w s₃ z => ?_) fun _ _ x => x)
  obtain ⟨d, S3, d1, d2, d3, d4, l, j, rfl, rfl, hz, q⟩ := z
  simp only [VR] at d1
  obtain ⟨t3, rfl⟩ := d1
  have a1 := VR.keep (a2.seqKeep a3 d4) _ _ a1
  simp only [VR] at a1
  obtain ⟨ad, vs, n, rfl, ha, hvs⟩ := a1
  have hl := hvs.len
  have up : ∀ b o, s₃.heap.get? b = some o → ((s₃.heap.push { cls := .type "slice", data := .fields #[.none, .int j t3, .none] }).push { cls := .type "list", data := .seq (slicePick vs.toArray none (some (j : Int)) none) }).get? b = some o := fun b o e => push_up _ _ (push_up _ _ e)
  refine ⟨ad, vs.toArray, none, some (j : Int), rfl, ⟨_, ha, rfl, _, rfl⟩, by rw [List.size_toArray, sizeLine_eq]; omega, .none, .int _ _, ?_⟩
  refine Post.trans (a4.trans d4) ⟨.lst (l.take j), S3, ?_, d2.grow (tk := s₃.toks) up, d3, .grow (tk := s₃.toks) up, q⟩
  simp only [VR]
  refine ⟨_, vs.take j, 0, rfl, ?_, VRs.keep (.of up) _ _ (hvs.take j)⟩
  rw [slicePick_upto']
  have := Heap.get?_push_size (s₃.heap.push { cls := .type "slice", data := .fields #[.none, .int j t3, .none] }) (o := { cls := .type "list", data := .seq (vs.take j).toArray }) rfl
  rw [Heap.size_push] at this
  exact this

theorem we_sum {xp pos e rest} {Q : PV → St → Prop} (hk : fd.scope.kind = .function) (hG : fd.globals = mainGlobals) (hB : fd.builtins = 0)
    (hx : fd.scope.names.lookup ⟨⟨[115, 117, 109]⟩⟩ = some .globalImplicit)
    (h : WA c fd S pos (e :: rest) (fun ps S1 => BuiR c S1 "sum" ps Q))
    (hst : ∀ env, (backTo pos (starEach (e :: rest) env)).any (·.1) = false := by intros; rfl)
    (he : ∀ env, starEach (e :: rest) env = (false, eval e env) :: starEach rest env := by intros; rfl)
    (hc : ∀ env, eval (.Call (.Name ⟨⟨[115, 117, 109]⟩⟩ xp) (e :: rest) [] pos) env = (do let f ← eval (.Name ⟨⟨[115, 117, 109]⟩⟩ xp) env; callWith pos f [] (backTo pos (starEach (e :: rest) env)) []) := by intros; rfl) :
    WE c fd S (.Call (.Name ⟨⟨[115, 117, 109]⟩⟩ xp) (e :: rest) [] pos) Q := we_bcall (id := "sum") (by kernel_rfl) (by kernel_rfl) hk hG hB hx h hst he hc
end Mine
end

section
open PySem PySem.W PySem.Calls PyProof.Rows
set_option Elab.async false
set_option maxRecDepth 100000
set_option linter.unusedVariables false
namespace Mine
variable {c : Cx} {fd : FuncData} {S : St}

/-- a name that holds a list at a known address, read as a list -/
theorem we_nameAt {x : PySem.Str} {pos} {Q} {a : Addr} {xs : List PV} (hk : fd.scope.kind = .function) (hx : fd.scope.names.lookup x = some .local) (hl : lk S.loc x = some (.lstAt a xs)) (h : Q (.lst xs) S) (hd : (x == ("__debug__" : PySem.Str)) = false := by decide) : WE c fd S (.Name x pos) Q := by
  refine ⟨fun s r k => ?_⟩
  obtain ⟨m, hm, hv⟩ := r.loc
  obtain ⟨v, e1, e2⟩ := hv x _ hl
  simp only [VR] at e2
  obtain ⟨vs, n, rfl, e3, e4⟩ := e2
  exact wpAny_Name (wpAny_loadName_local (env := callEnv fd c.L c.fa) hk hx hm e1 ⟨.lst xs, S, by simp only [VR]; exact ⟨a, vs, n, rfl, e3, e4⟩, r, k, .refl _ _, h⟩) hd

theorem w1_assign_lst {x pos' value pos} {Q : PFlow → St → Prop} (hk : fd.scope.kind = .function) (hx : fd.scope.names.lookup x = some .local)
    (h : WE c fd S value (fun p S1 => ∃ xs, p = .lst xs ∧ ∀ a, Q .next { S1 with loc := (x, .lstAt a xs) :: S1.loc })) (hs : swapsWith value (some (.Name x pos')) pos.line (callEnv fd c.L c.fa) = pure false := by rfl) :
    W1 c fd S (.Assign [.Name x pos'] value pos) Q := by
  refine ⟨fun s r ok => ?_⟩
  refine wpAny_Assign_Name (wpAny_mono (h.run s r ok) (fun v s₁ z => ?_) fun _ _ x => x) hs
  obtain ⟨p, S1, a1, a2, a3, a4, xs, rfl, a5⟩ := z
  simp only [VR] at a1
  obtain ⟨a, vs, n, rfl, e3, e4⟩ := a1
  exact name_write (p := .lstAt a xs) hk hx a2 a3 (by simp only [VR]; exact ⟨vs, n, trivial, e3, e4⟩) fun s' r' fr' => ⟨.next, _, rfl, r', a3, a4.trans fr', a5 a⟩

/-- a new empty list, away from every known list -/
theorem w1_assign_nil {x pos' lp pos} {Q : PFlow → St → Prop} (hk : fd.scope.kind = .function) (hx : fd.scope.names.lookup x = some .local)
    (h : ∀ a, (∀ n b xs, lk S.loc n = some (.lstAt b xs) → b ≠ a) → Q .next { S with loc := (x, .lstAt a []) :: S.loc })
    (hs : swapsWith (.List [] lp) (some (.Name x pos')) pos.line (callEnv fd c.L c.fa) = pure false := by rfl) :
    W1 c fd S (.Assign [.Name x pos'] (.List [] lp) pos) Q := by
  refine ⟨fun s r ok => ?_⟩
  refine wpAny_Assign_Name (List_ (args_nil (wpAny_newObj_type ?_ (by show 0 ≤ sizeLine; exact Nat.zero_le _)))) hs
  have r1 : Rel c S { s with heap := s.heap.push { cls := .type "list", dict := none, data := .seq ([] : List Value).toArray } } := r.grow (tk := s.toks) push_up
  refine name_write (p := .lstAt s.heap.objs.size []) hk hx r1 ok (by simp only [VR]; exact ⟨[], 0, trivial, Heap.get?_push_size _ rfl, by simp only [VRs]⟩) fun s' r' fr' => ⟨.next, _, rfl, r', ok, Fr.trans (.grow (tk := s.toks) push_up) fr', h _ fun n b xs e z => ?_⟩
  obtain ⟨m, hm, hv⟩ := r.loc
  obtain ⟨v, e1, e2⟩ := hv n _ e
  simp only [VR] at e2
  obtain ⟨vs, k, rfl, e3, e4⟩ := e2
  have := Heap.lt_size e3
  rw [z] at this
  exact Nat.lt_irrefl _ this

/-- a, b = a pair -/
theorem w1_unpack2 {x y px py k tpos value pos} {Q : PFlow → St → Prop} (hk : fd.scope.kind = .function) (hx : fd.scope.names.lookup x = some .local) (hy : fd.scope.names.lookup y = some .local)
    (h : WE c fd S value (fun p S1 => ∃ a b, p = .tup [a, b] ∧ Q .next { S1 with loc := (y, b) :: (x, a) :: S1.loc }))
    (hs : swapsWithSole [.Tuple [.Name x px, .Name y py] k tpos] value pos.line (callEnv fd c.L c.fa) = pure false := by rfl)
    (hw : swappedStores [.Tuple [.Name x px, .Name y py] k tpos] value (callEnv fd c.L c.fa) = pure none := by rfl)
    (he : ∀ env, assignEach [.Name x px, .Name y py] env = [(false, assign (.Name x px) env), (false, assign (.Name y py) env)] := by intros; rfl) :
    W1 c fd S (.Assign [.Tuple [.Name x px, .Name y py] k tpos] value pos) Q := by
  refine ⟨fun s r ok => Assign_Tuple (wpAny_mono (h.run s r ok) (fun v s₁ z => ?_) fun _ _ x => x) hs hw⟩
  obtain ⟨p, S1, a1, a2, a3, a4, pa, pb, rfl, a5⟩ := z
  simp only [VR, VRs] at a1
  obtain ⟨t, vs, n, rfl, ht, v1, r1, rfl, hv1, v2, r2, rfl, hv2, rfl⟩ := a1
  refine assign_Tuple_tuple (items := #[v1, v2]) c.hA ⟨_, ht, rfl, _, rfl⟩ (by rw [he]; rfl) (by rw [he]; rfl) fun h' hx' => ?_
  rw [he]
  have up : ∀ b o, s₁.heap.get? b = some o → h'.get? b = some o := fun b o e => hx' b o (Nat.ne_of_lt (Heap.lt_size e)) e
  have r1 := a2.grow (tk := s₁.toks) up
  refine assignInOrder_cons (wpAny_assign_Name (name_write (p := pa) hk hx r1 a3 (VR.keep (.of up) _ _ hv1) fun s3 r3 f3 => ?_))
  refine assignInOrder_cons (wpAny_assign_Name (name_write (p := pb) (S := { S1 with loc := (x, pa) :: S1.loc }) hk hy r3 a3 (VR.keep (r1.seqKeep a3 f3) _ _ (VR.keep (.of up) _ _ hv2)) fun s4 r4 f4 => ?_))
  exact assignInOrder_nil ⟨.next, _, rfl, r4, a3, (a4.trans (.grow (tk := s₁.toks) up)).trans (f3.trans f4), a5⟩

/-- a frame that leaves out some addresses -/
structure FrO (c : Cx) (O : Addr → Prop) (s s' : Shared) : Prop where
  same : ∃ h tk, s' = { s with heap := h, toks := tk }
  keep : ∀ b o, b ≠ c.L → b ≠ c.dx → ¬ O b → s.heap.get? b = some o → s'.heap.get? b = some o
theorem FrO.refl (O) (s : Shared) : FrO c O s s := ⟨⟨s.heap, s.toks, rfl⟩, fun _ _ _ _ _ e => e⟩
theorem FrO.trans {O} {s s' s'' : Shared} (a : FrO c O s s') (b : FrO c O s' s'') : FrO c O s s'' := by
  obtain ⟨h, tk, rfl⟩ := a.same
  obtain ⟨h', tk', e⟩ := b.same
  exact ⟨⟨h', tk', e⟩, fun x o h1 h2 h4 h3 => b.keep x o h1 h2 h4 (a.keep x o h1 h2 h4 h3)⟩
theorem Fr.toO {O} {s s' : Shared} (a : Fr c s s') : FrO c O s s' := ⟨a.same, fun b o h1 h2 _ e => a.keep b o h1 h2 e⟩

structure WXO (c : Cx) (O : Addr → Prop) (fd : FuncData) (S : St) (b : List Stmt) (Q : PFlow → St → Prop) : Prop where
  run : ∀ s, Rel c S s → SOk c S → wpAny (model pw c.w) c.A (execs b (callEnv fd c.L c.fa)) (fun f s' => ∃ p S', FlR s'.heap p f ∧ Rel c S' s' ∧ SOk c S' ∧ FrO c O s s' ∧ Q p S') NoE s
structure W1O (c : Cx) (O : Addr → Prop) (fd : FuncData) (S : St) (b : Stmt) (Q : PFlow → St → Prop) : Prop where
  run : ∀ s, Rel c S s → SOk c S → wpAny (model pw c.w) c.A (exec b (callEnv fd c.L c.fa)) (fun f s' => ∃ p S', FlR s'.heap p f ∧ Rel c S' s' ∧ SOk c S' ∧ FrO c O s s' ∧ Q p S') NoE s
theorem W1.toO {O b} {Q : PFlow → St → Prop} (h : W1 c fd S b Q) : W1O c O fd S b Q := ⟨fun s r ok => wpAny_mono (h.run s r ok) (fun f s' ⟨p, S', a, b, d, e, g⟩ => ⟨p, S', a, b, d, e.toO, g⟩) fun _ _ x => x⟩
theorem wxo_nil {O} {Q} (h : Q .next S) : WXO c O fd S [] Q := ⟨fun s r k => wpAny_execs_nil ⟨.next, S, rfl, r, k, .refl _ _, h⟩⟩
noncomputable abbrev ThenO (c : Cx) (O : Addr → Prop) (fd : FuncData) (rest : List Stmt) (Q : PFlow → St → Prop) : PFlow → St → Prop := fun p S' => match p with | .next => WXO c O fd S' rest Q | p => Q p S'
theorem wxo_cons {O st rest} {Q : PFlow → St → Prop} (h : W1O c O fd S st (ThenO c O fd rest Q)) : WXO c O fd S (st :: rest) Q := by
  refine ⟨fun s r k => ?_⟩
  refine wpAny_execs_cons (wpAny_mono (h.run s r k) (fun f s' z => ?_) fun _ _ x => x)
  obtain ⟨p, S', a, b, d, e, g⟩ := z
  cases p with
  | next =>
    obtain rfl : f = .next := a
    exact wpAny_mono (g.run s' b d) (fun f s'' ⟨p, S'', a', b', d', e', g'⟩ => ⟨p, S'', a', b', d', e.trans e', g'⟩) fun _ _ x => x
  | brk => obtain rfl : f = .brk := a; exact ⟨.brk, S', rfl, b, d, e, g⟩
  | cont => obtain rfl : f = .cont := a; exact ⟨.cont, S', rfl, b, d, e, g⟩
  | ret p => obtain ⟨v, rfl, z⟩ := a; exact ⟨.ret p, S', ⟨v, rfl, z⟩, b, d, e, g⟩

/-- a value that an append at `a` leaves as it is -/
noncomputable def Away (a : Addr) : PV → Prop
  | .lstAt b xs => b ≠ a ∧ xs.all PV.plain = true
  | p => p.plain = true
theorem Away.keep {h h' : Heap} {a : Addr} {p : PV} {v : Value} (w : Away a p) (k : ∀ b o, b ≠ a → h.get? b = some o → h'.get? b = some o) (r : VR h p v) : VR h' p v := by
  cases p with
  | lstAt b xs =>
    obtain ⟨w1, w2⟩ := w
    simp only [VR] at r ⊢
    obtain ⟨vs, n, e1, e2, e3⟩ := r
    exact ⟨vs, n, e1, k _ _ w1 e2, VRs.any w2 e3⟩
  | tup xs => cases w
  | lst xs => cases w
  | bi i => cases w
  | none => exact VR.any w r
  | bool b => exact VR.any w r
  | int b => exact VR.any w r
  | str b => exact VR.any w r
  | ref b => exact VR.any w r

/-- NAME.append(e) -/
theorem w1o_append {O : Addr → Prop} {x xp apos cpos e pos} {Q : PFlow → St → Prop} {a : Addr} {xs : List PV} (hk : fd.scope.kind = .function) (hx : fd.scope.names.lookup x = some .local) (hf : S.fld = .none) (hl : lk S.loc x = some (.lstAt a xs)) (hO : O a) (hz : xs.length ≤ 1000) (hxs : xs.all PV.plain = true)
    (hBa : c.B.get? a = .none)
    (haw : ∀ n p, lk S.loc n = some p → n ≠ x → Away a p)
    (h : WE c fd S e (fun q S1 => S1 = S ∧ q.plain = true ∧ Q .next { S with loc := (x, .lstAt a (xs ++ [q])) :: S.loc }))
    (he : ∀ env, starEach [e] env = (false, eval e env) :: starEach [] env := by intros; rfl)
    (pl : Env → Sem Bool)
    (hc : ∀ env, eval (.Call (.Attribute (.Name x xp) ⟨⟨[97, 112, 112, 101, 110, 100]⟩⟩ apos) [e] [] cpos) env = (do
        let ov ← eval (.Name x xp) env
        standAt apos.atName
        let __x ← holding [ov] (getMethod ov ⟨⟨[97, 112, 112, 101, 110, 100]⟩⟩ (pl env))
        match __x with
          | (f, first) => callWith cpos f first (backTo cpos (starEach [e] env)) []))
    (hi : interactive (callEnv fd c.L c.fa) = false := by rfl) (hs : swapsWith (.Call (.Attribute (.Name x xp) ⟨⟨[97, 112, 112, 101, 110, 100]⟩⟩ apos) [e] [] cpos) none pos.line (callEnv fd c.L c.fa) = pure false := by rfl)
    (hd : (x == ("__debug__" : PySem.Str)) = false := by decide) :
    W1O c O fd S (.Expr (.Call (.Attribute (.Name x xp) ⟨⟨[97, 112, 112, 101, 110, 100]⟩⟩ apos) [e] [] cpos) pos) Q := by
  refine ⟨fun s r ok => ?_⟩
  obtain ⟨m, hm, hv⟩ := r.loc
  obtain ⟨v, e1, e2⟩ := hv x _ hl
  simp only [VR] at e2
  obtain ⟨vs, n, rfl, e3, e4⟩ := e2
  refine wpAny_Expr (MethodCall_ (pl := pl _) (wpAny_Name (wpAny_loadName_local (env := callEnv fd c.L c.fa) hk hx hm e1 ?_) hd) (hc _)) hi hs
  refine PySem.Calls.getMethod_list_append e3 rfl rfl ?_
  refine callWith_method1 (args_cons (wpAny_mono (h.run s r ok) (fun w s1 z => ?_) fun _ _ x => x) (he _)) (he _) rfl
  obtain ⟨q, S1, a1, a2, a3, a4, rfl, hq, hQ⟩ := z
  refine args_nil ?_
  have dxL : c.dx = c.L := ok hf
  have haL : a ≠ c.L := fun z => by rw [z] at e3; exact Ns.notSeq hm e3
  have e3' : s1.heap.get? a = some { cls := .type "list", data := .seq vs.toArray n } := a4.keep _ _ haL (by rw [dxL]; exact haL) e3
  refine wpAny_list_append_plain ⟨n, e3'⟩ (fun h' hpl hsb => ?_) (by have := e4.len; rw [List.size_toArray, sizeLine_eq]; omega)
  have kp : ∀ b o, b ≠ a → s1.heap.get? b = some o → h'.get? b = some o := fun b o hb e => (hsb.2 b hb).trans e
  obtain ⟨m1, hm1, hv1⟩ := a2.loc
  obtain ⟨v2, f1, f2⟩ := hv1 x _ hl
  simp only [VR] at f2
  obtain ⟨vs2, n2, rfl, f3, f4⟩ := f2
  obtain ⟨n3, hpl⟩ := hpl
  have ev : vs2 = vs ∧ n2 = n := by
    rw [e3'] at f3
    injection f3 with f3
    injection f3 with _ _ f3
    injection f3 with f3 f5
    exact ⟨by simpa using f3.symm, f5.symm⟩
  obtain ⟨rfl, rfl⟩ := ev
  refine ⟨.next, _, rfl, ⟨fun b o e => kp b o (fun z => by rw [z, hBa] at e; cases e) (a2.keepB b o e), a2.BL, ⟨m1, hm1.at fun o e => kp _ o (Ne.symm haL) e, fun n' p e => ?_⟩, fun f e => by rw [show S1.fld = some f from e] at hf; cases hf⟩, fun z => dxL, ⟨?_, fun b o h1 h2 h4 e => kp b o (fun z => h4 (z ▸ hO)) (a4.keep b o h1 h2 e)⟩, hQ⟩
  · rw [lk_cons] at e
    by_cases hn : x = n'
    · rw [if_pos hn] at e
      cases e
      subst hn
      refine ⟨_, f1, ?_⟩
      simp only [VR]
      refine ⟨vs2 ++ [w], n3, trivial, ?_, VRs.snoc (a1.any hq) (VRs.any hxs f4)⟩
      rw [show (vs2 ++ [w]).toArray = vs2.toArray.push w by simp]
      exact hpl
    · rw [if_neg hn] at e
      obtain ⟨u, g1, g2⟩ := hv1 n' p e
      exact ⟨u, g1, (haw n' p e (Ne.symm hn)).keep kp g2⟩
  · obtain ⟨h0, t0, rfl⟩ := a4.same
    exact ⟨_, _, rfl⟩

theorem w1o_for {O : Addr → Prop} {x px iter body pos} {Q : PFlow → St → Prop} (J : Nat → St → Prop) (hk : fd.scope.kind = .function) (hx : fd.scope.names.lookup x = some .local)
    (h : WI c fd S iter (fun a b k S1 => (∀ z, O z → ∃ n xs, lk S1.loc n = some (.lstAt z xs)) ∧ Builtin.Range.small a b k = true ∧ J 0 S1 ∧
      (∀ i S2, i < (Builtin.Range.rangeSize a b k).toNat → J i S2 → WXO c O fd { S2 with loc := (x, .int (a + i * k)) :: S2.loc } body (Loop (J (i + 1)) Q)) ∧ ∀ S2, J (Builtin.Range.rangeSize a b k).toNat S2 → Q .next S2))
    (hs : ∀ env x, foldedSetIterable iter env x = pure x := by intros; rfl) : W1O c O fd S (.For (.Name x px) iter body [] pos) Q := by
  refine ⟨fun s r ok => ?_⟩
  refine wpAny_For (wpAny_mono (h.run s r ok) (fun xv s₁ z => ?_) fun _ _ x => x) (hs _)
  obtain ⟨rr, a, b, k, t, u, v', S1, rfl, hr, a2, a3, a4, hO, hsm, j0, hstep, hend⟩ := z
  refine wpAny_pyIter_range hr hsm ?_
  have hlt : ∀ b o, s₁.heap.get? b = some o → b ≠ s₁.heap.objs.size := fun b o e => Nat.ne_of_lt (Heap.lt_size e)
  generalize hIz : s₁.heap.objs.size = I at hlt ⊢
  have hIB : c.B.get? I = .none := by
    cases q : c.B.get? I with
    | none => rfl
    | some o => exact absurd rfl (hlt _ _ (a2.keepB _ _ q))
  have hIL : I ≠ c.L := by
    obtain ⟨m, ⟨o, _, _, e, _⟩, _⟩ := a2.loc
    exact Ne.symm (hlt _ _ e)
  have hId : I ≠ c.dx := by
    cases hf : S1.fld with
    | none => rw [a3 hf]; exact hIL
    | some f => obtain ⟨_, _, _, _, _, es, n, e, _⟩ := a2.inst f hf; exact Ne.symm (hlt _ _ e)
  have hIO : ¬ O I := fun z => by
    obtain ⟨n', xs', e⟩ := hO I z
    obtain ⟨m, hm, hv⟩ := a2.loc
    obtain ⟨v0, q1, q2⟩ := hv n' _ e
    simp only [VR] at q2
    obtain ⟨vs', n2, rfl, q3, q4⟩ := q2
    exact absurd rfl (hlt _ _ q3)
  generalize hn : (Builtin.Range.rangeSize a b k).toNat = n at hstep hend ⊢
  refine codeAny_forLoop (fun j s' => ∃ i S', IsRangeIter s'.heap I (a + (i : Nat) * k) ((n : Int) - (i : Nat)) k ∧ Rel c S' s' ∧ SOk c S' ∧ FrO c O s s' ∧ (∃ h tk, s' = { s₁ with heap := h, toks := tk }) ∧ J i S' ∧ i ≤ n ∧ j = n + 1 - i) ?_ (n + 1) ?_
  · rintro j s' ⟨i, S', hit, r', ok', fr', ⟨hh, tk, rfl⟩, hJ, hi, rfl⟩
    have hq : ∀ cl vs n, hh.get? I ≠ some { cls := cl, data := .seq vs n } := fun cl vs n e => by rw [show hh.get? I = _ from hit] at e; cases e
    have hxI : S'.fld ≠ .none → I ≠ c.x := fun hne z => by
      cases hf : S'.fld with
      | none => exact hne hf
      | some f =>
        have := (r'.inst f hf).at_
        rw [← z] at this
        rw [show hh.get? I = _ from hit] at this
        cases this
    by_cases hlt' : i < n
    · refine wpAny_pyNext_range_item hit (by omega) fun h₁ hit₁ hs₁ => ?_
      have r1 := r'.step (tk := tk + 1) ok' hIB hIL hId hxI hq (fun b o hb e => (hs₁.2 b hb).trans e)
      refine wpAny_assign_Name (wpAny_mono (name_write (Q := fun _ s'' => Rel c { S' with loc := (x, .int (a + (i : Nat) * k)) :: S'.loc } s'' ∧ Fr c { s₁ with heap := h₁, toks := tk + 1 } s'') hk hx r1 ok' vr_int (fun s'' r2 f2 => ⟨r2, f2⟩)) (fun _ s'' z => ?_) fun _ _ x => x.elim)
      obtain ⟨r2, f2⟩ := z
      refine wpAny_mono ((hstep i S' hlt' hJ).run _ r2 ok') (fun f s₃ z => ?_) fun _ _ x => x.elim
      obtain ⟨p, S3, d1, d2, d3, d4, d5⟩ := z
      have f3 := f2.toO.trans d4
      obtain ⟨⟨h3, tk3, rfl⟩, k3⟩ := f3
      have frs : FrO c O s { s₁ with heap := h3, toks := tk3 } := by
        refine ⟨?_, fun b o hb1 hb2 hb3 e => ?_⟩
        · obtain ⟨q1, q2, q3⟩ := a4.same
          subst q3
          exact ⟨h3, tk3, rfl⟩
        · have hb : b ≠ I := by
            have := a4.keep b o hb1 hb2 e
            exact hlt b o this
          exact k3 b o hb1 hb2 hb3 ((hs₁.2 b hb).trans (fr'.keep b o hb1 hb2 hb3 e))
      have hit3 : IsRangeIter h3 I (a + ((i + 1 : Nat) : Int) * k) ((n : Int) - ((i + 1 : Nat) : Int)) k := by
        have e1 : a + ((i + 1 : Nat) : Int) * k = a + (i : Int) * k + k := by push_cast; rw [Int.add_mul, Int.one_mul, Int.add_assoc]
        have e2 : (n : Int) - ((i + 1 : Nat) : Int) = (n : Int) - (i : Int) - 1 := by push_cast; omega
        rw [e1, e2]
        exact k3 _ _ hIL hId hIO hit₁
      cases p with
      | next =>
        obtain rfl : f = .next := d1
        exact ⟨n + 1 - (i + 1), by omega, i + 1, S3, hit3, d2, d3, frs, ⟨_, _, rfl⟩, d5, hlt', rfl⟩
      | cont =>
        obtain rfl : f = .cont := d1
        exact ⟨n + 1 - (i + 1), by omega, i + 1, S3, hit3, d2, d3, frs, ⟨_, _, rfl⟩, d5, hlt', rfl⟩
      | brk => obtain rfl : f = .brk := d1; exact ⟨.next, S3, rfl, d2, d3, frs, d5⟩
      | ret p => obtain ⟨v, rfl, z⟩ := d1; exact ⟨.ret p, S3, ⟨v, rfl, z⟩, d2, d3, frs, d5⟩
    · have hin : i = n := by omega
      subst hin
      refine wpAny_pyNext_range_end c.hA hit (by omega) fun h₁ he₁ => wpAny_execs_nil ?_
      refine ⟨.next, S', rfl, r'.step (tk := tk) ok' hIB hIL hId hxI hq (fun b o hb e => he₁ b o hb e), ok', ⟨?_, fun b o hb1 hb2 hb3 e => ?_⟩, hend S' hJ⟩
      · obtain ⟨q1, q2, q3⟩ := a4.same
        subst q3
        exact ⟨h₁, tk, rfl⟩
      · exact he₁ b o (hlt b o (a4.keep b o hb1 hb2 e)) (fr'.keep b o hb1 hb2 hb3 e)
  · subst hIz
    refine ⟨0, S1, ?_, a2.grow (tk := s₁.toks) (fun _ _ e => Heap.get?_push_of_some _ e), a3, (a4.trans (.grow (tk := s₁.toks) fun _ _ e => Heap.get?_push_of_some _ e)).toO, ⟨_, s₁.toks, rfl⟩, j0, Nat.zero_le _, rfl⟩
    have := rangeSize_nonneg a b k
    have e1 : ((n : Nat) : Int) = Builtin.Range.rangeSize a b k := by omega
    show IsRangeIter _ _ (a + ((0 : Nat) : Int) * k) ((n : Int) - ((0 : Nat) : Int)) k
    rw [e1]
    simp only [Int.natCast_zero, Int.zero_mul, Int.add_zero, Int.sub_zero]
    exact Heap.get?_push_size _ rfl

/-- a new empty list: from now on it may change -/
theorem wxo_new {O : Addr → Prop} {x pos' lp pos rest} {Q : PFlow → St → Prop} (hk : fd.scope.kind = .function) (hx : fd.scope.names.lookup x = some .local)
    (h : ∀ a, c.B.get? a = .none → (∀ n b xs, lk S.loc n = some (.lstAt b xs) → b ≠ a) → WXO c (fun z => O z ∨ z = a) fd { S with loc := (x, .lstAt a []) :: S.loc } rest Q)
    (hs : swapsWith (.List [] lp) (some (.Name x pos')) pos.line (callEnv fd c.L c.fa) = pure false := by rfl) :
    WXO c O fd S (.Assign [.Name x pos'] (.List [] lp) pos :: rest) Q := by
  refine ⟨fun s r ok => ?_⟩
  refine wpAny_execs_cons (wpAny_Assign_Name (List_ (args_nil (wpAny_newObj_type ?_ (by show 0 ≤ sizeLine; exact Nat.zero_le _)))) hs)
  have r1 : Rel c S { s with heap := s.heap.push { cls := .type "list", dict := none, data := .seq ([] : List Value).toArray } } := r.grow (tk := s.toks) push_up
  have fr : ∀ b o, s.heap.get? b = some o → b ≠ s.heap.objs.size := fun b o e => Nat.ne_of_lt (Heap.lt_size e)
  refine name_write (p := .lstAt s.heap.objs.size []) hk hx r1 ok (by simp only [VR]; exact ⟨[], 0, trivial, Heap.get?_push_size _ rfl, by simp only [VRs]⟩) fun s' r' fr' => ?_
  refine wpAny_mono ((h s.heap.objs.size ?_ (fun n b xs e z => ?_)).run s' r' ok) (fun f s'' z => ?_) fun _ _ x => x
  · cases q : c.B.get? s.heap.objs.size with
    | none => rfl
    | some o => exact absurd rfl (fr _ _ (r.keepB _ _ q))
  · obtain ⟨m, hm, hv⟩ := r.loc
    obtain ⟨v, e1, e2⟩ := hv n _ e
    simp only [VR] at e2
    obtain ⟨vs, k, rfl, e3, e4⟩ := e2
    exact fr _ _ e3 z
  · obtain ⟨p, S', a1, a2, a3, a4, a5⟩ := z
    have f1 := Fr.trans (c := c) (.grow (s := s) (tk := s.toks) push_up) fr'
    refine ⟨p, S', a1, a2, a3, ⟨?_, fun b o h1 h2 h3 e => a4.keep b o h1 h2 (fun z => ?_) (f1.keep b o h1 h2 e)⟩, a5⟩
    · obtain ⟨h0, t0, rfl⟩ := f1.same
      obtain ⟨h9, t9, e9⟩ := a4.same
      exact ⟨h9, t9, e9⟩
    · rcases z with z | z
      · exact h3 z
      · exact fr _ _ e z
end Mine
end

section
open PySem PySem.W PySem.Calls PyProof.Rows
set_option Elab.async false
set_option maxRecDepth 100000
set_option linter.unusedVariables false
namespace Mine
variable {c : Cx} {fd : FuncData} {S : St}

theorem code_fn {fd' : FuncData} {fa : Addr} {names : List PySem.Str} {body : List Stmt} {k : Nat} {args : Addr → List PV} {R : PV → Option (List (PySem.Str × PV)) → Prop} {vs : List Value} {s : Shared}
    (F : FnAt c.w.params (setO c.es c.ep c.t) fa fd' names body)
    (r : Rel c S s) (ok : SOk c S) (hk : c.A.depth + (k + 1) ≤ recursionLimit) (hv : VRs s.heap (args c.x) vs) (hlen : (args c.x).length = names.length)
    (sp : Spec c.w fd' names body k args S.fld R) :
    codeAny (model pw c.w) c.A (.call (.ref fa) ⟨vs, []⟩) (fun r s' => match r with | .ok (.ret v) => (∃ p f, VR s'.heap p v ∧ Rel c { S with fld := f } s' ∧ SOk c { S with fld := f } ∧ Fr c s s' ∧ (∀ b o, (S.fld ≠ .none → b ≠ c.dx) → s.heap.get? b = some o → s'.heap.get? b = some o) ∧ R p f) | .ok _ => False | .error e => NoE e s') s := by
  obtain ⟨o, ho, hd⟩ := F.at_
  have hvl : vs.length = names.length := hv.len.trans hlen
  refine codeAny_call_def (body := body) (binds := names.zip vs) (by omega) (r.keepB _ _ ho) hd ((nolimit _ _).keeps r.keepB) (F.code.keeps r.keepB) F.body (.of_eq (F.binds vs hvl)) F.cells ?_ ?_ F.co F.gen F.kind
  · intro x hx
    exact F.loc _ (List.of_mem_zip hx).1
  intro h₀ hn hkp
  have hL : ∀ b o, s.heap.get? b = some o → b ≠ s.heap.objs.size := fun b o e => Nat.ne_of_lt (Heap.lt_size e)
  have hB : c.B.get? s.heap.objs.size = .none := by
    cases q : c.B.get? s.heap.objs.size with
    | none => rfl
    | some o => exact absurd rfl (hL _ _ (r.keepB _ _ q))
  obtain ⟨mL, hmL, hvL⟩ := r.loc
  obtain ⟨oL, esL, epL, eL, rL⟩ := id hmL
  let c' : Cx := { c with A := c.A.deeper (callEnv fd' s.heap.objs.size fa), hA := c.hA, fa := fa, L := s.heap.objs.size, dx := match S.fld with | .none => s.heap.objs.size | some _ => c.dx }
  have r' : Rel c' ⟨(names.zip (args c.x)).reverse, S.fld⟩ { s with heap := h₀, toks := s.toks + (names.zip vs).length } := by
    refine ⟨fun b o e => hkp _ _ (r.keepB _ _ e), hB, ⟨_, hn, fun n pv e => ((PL.zip hv).reverse.keep (.of hkp)).lookup e⟩, fun f hf => ?_⟩
    obtain ⟨a1, a2, a3, a4, a5, es, n, a6, a7⟩ := r.inst f hf
    have e1 : c'.dx = c.dx := by show (match S.fld with | .none => _ | some _ => _) = _; rw [show S.fld = some f from hf]
    refine ⟨?_, ?_, ?_, ?_, ?_, es, n, ?_, a7.keep (.of hkp)⟩
    · rw [e1]; exact hkp _ _ a1
    · rw [e1]; exact hL _ _ a6
    · exact hL _ _ a1
    · rw [e1]; exact a4
    · rw [e1]; exact a5
    · rw [e1]; exact hkp _ _ a6
  have ok' : SOk c' ⟨(names.zip (args c.x)).reverse, S.fld⟩ := fun z => by
    show (match S.fld with | .none => _ | some _ => _) = _
    rw [show S.fld = .none from z]
  refine wpAny_mono ((sp c' rfl (by show c.A.depth + 1 + k ≤ _; omega)).run _ r' ok') (fun f s' z => ?_) fun _ _ x => x.elim
  obtain ⟨p, S2, b1, b2, b3, b4, b5⟩ := z
  obtain ⟨⟨h2, tk2, rfl⟩, k2⟩ := b4
  have kA : ∀ b o, (S.fld ≠ .none → b ≠ c.dx) → s.heap.get? b = some o → h2.get? b = some o := fun b o h1 e => k2 b o (hL _ _ e) (by
    show b ≠ (match S.fld with | .none => _ | some _ => _)
    cases hf : S.fld with
    | none => exact hL _ _ e
    | some f => exact h1 (by rw [hf]; exact fun z => nomatch z)) (hkp _ _ e)
  have kL : ∀ b o, b ≠ c.dx → s.heap.get? b = some o → h2.get? b = some o := fun b o h1 e => kA b o (fun _ => h1) e
  have frc : Fr c s { s with heap := h2, toks := tk2 } := ⟨⟨_, _, rfl⟩, fun b o _ h2 e => kL b o h2 e⟩
  have fnone : S.fld = .none → S2.fld = .none := fun hf => by
    cases q : S2.fld with
    | none => rfl
    | some f =>
      have := (b2.inst f q).dL
      exact absurd (show (match S.fld with | .none => _ | some _ => _) = _ by rw [hf]) this
  have sk : SeqKeep s.heap h2 := r.seqKeep ok frc
  refine ⟨p.val, S2.fld, (by have := b1.val; cases f <;> exact this), ⟨b2.keepB, r.BL, ⟨mL, ?_, fun n pv e => ?_⟩, fun f hf => ?_⟩, fun z => ?_, frc, kA, b5⟩
  · refine hmL.at fun o e => ?_
    cases hf : S.fld with
    | none => exact k2 _ o (hL _ _ e) (by show _ ≠ (match S.fld with | .none => _ | some _ => _); rw [hf]; exact hL _ _ e) (hkp _ _ e)
    | some f => exact kL _ o (Ne.symm (r.inst f hf).dL) e
  · obtain ⟨v, e1, e2⟩ := hvL n pv e
    exact ⟨v, e1, VR.keep sk _ _ e2⟩
  · cases hs : S.fld with
    | none => have := fnone hs; rw [this] at hf; cases hf
    | some f0 =>
      have e1 : c'.dx = c.dx := by show (match S.fld with | .none => _ | some _ => _) = _; rw [hs]
      obtain ⟨a1, a2, a3, a4, a5, es, n, a6, a7⟩ := b2.inst f hf
      obtain ⟨d1, d2, d3, d4, d5, d6⟩ := r.inst f0 hs
      rw [e1] at a1 a6
      exact ⟨a1, d2, d3, d4, d5, es, n, a6, a7⟩
  · cases hs : S.fld with
    | none => exact ok hs
    | some f0 =>
      exfalso
      have q : S2.fld = .none := z
      have := b3 q
      have e1 : c'.dx = c.dx := by show (match S.fld with | .none => _ | some _ => _) = _; rw [hs]
      rw [e1] at this
      obtain ⟨d1, d2, d3, d4, d5, es, n, d6, d7⟩ := r.inst f0 hs
      exact hL _ _ d6 this


end Mine
end

section
open PySem PySem.W PySem.Calls PyProof.Rows
set_option Elab.async false
set_option maxRecDepth 100000
set_option linter.unusedVariables false
namespace Mine
noncomputable def nmOf (st : Stmt) : List PySem.Str := (stArgs st).args.map (·.arg)

noncomputable def fd35 : FuncData := fO z45 z71 (cb 2 0) 3 [] (.none) (.none) (.none) (.str z42 194) none (.ref 34) (.none) 0
theorem fn35 (P : Params) (es ep t) : FnAt P (setO es ep t) 35 fd35 (nmOf (cb 2 0)) (stBody (cb 2 0)) where
  at_ := ⟨o35 P, by kernel_rfl, rfl⟩
  code := ⟨34, o34 P, _, _, rfl, by kernel_rfl, rfl, rfl⟩
  body := rfl
  binds := fun vs h => by
    have e : (nmOf (cb 2 0)).length = 1 := by kernel_rfl
    rw [e] at h
    match vs, h with
    | [_], _ => kernel_rfl
  cells := by
    have e : (fd35.scope.names.all fun x => x.2 != .cell) = true := by kernel_rfl
    intro x hx z
    have := List.all_eq_true.mp e x hx
    rw [z] at this
    exact absurd this (by decide)
  loc := by
    have e : ((nmOf (cb 2 0)).all fun n => fd35.scope.names.lookup n == some .local) = true := by kernel_rfl
    intro n hn
    exact beq_iff_eq.mp (List.all_eq_true.mp e n hn)
  co := by kernel_rfl
  gen := by kernel_rfl
  kind := by kernel_rfl

noncomputable def fd42 : FuncData := fO z46 z73 (cb 2 1) 3 [] (.none) (.none) (.none) (.str z42 194) none (.ref 41) (.none) 0
theorem fn42 (P : Params) (es ep t) : FnAt P (setO es ep t) 42 fd42 (nmOf (cb 2 1)) (stBody (cb 2 1)) where
  at_ := ⟨o42 P, by kernel_rfl, rfl⟩
  code := ⟨41, o41 P, _, _, rfl, by kernel_rfl, rfl, rfl⟩
  body := rfl
  binds := fun vs h => by
    have e : (nmOf (cb 2 1)).length = 2 := by kernel_rfl
    rw [e] at h
    match vs, h with
    | [_, _], _ => kernel_rfl
  cells := by
    have e : (fd42.scope.names.all fun x => x.2 != .cell) = true := by kernel_rfl
    intro x hx z
    have := List.all_eq_true.mp e x hx
    rw [z] at this
    exact absurd this (by decide)
  loc := by
    have e : ((nmOf (cb 2 1)).all fun n => fd42.scope.names.lookup n == some .local) = true := by kernel_rfl
    intro n hn
    exact beq_iff_eq.mp (List.all_eq_true.mp e n hn)
  co := by kernel_rfl
  gen := by kernel_rfl
  kind := by kernel_rfl

noncomputable def fd49 : FuncData := fO z47 z74 (cb 2 2) 3 [] (.none) (.none) (.none) (.str z42 194) none (.ref 48) (.none) 0
theorem fn49 (P : Params) (es ep t) : FnAt P (setO es ep t) 49 fd49 (nmOf (cb 2 2)) (stBody (cb 2 2)) where
  at_ := ⟨o49 P, by kernel_rfl, rfl⟩
  code := ⟨48, o48 P, _, _, rfl, by kernel_rfl, rfl, rfl⟩
  body := rfl
  binds := fun vs h => by
    have e : (nmOf (cb 2 2)).length = 1 := by kernel_rfl
    rw [e] at h
    match vs, h with
    | [_], _ => kernel_rfl
  cells := by
    have e : (fd49.scope.names.all fun x => x.2 != .cell) = true := by kernel_rfl
    intro x hx z
    have := List.all_eq_true.mp e x hx
    rw [z] at this
    exact absurd this (by decide)
  loc := by
    have e : ((nmOf (cb 2 2)).all fun n => fd49.scope.names.lookup n == some .local) = true := by kernel_rfl
    intro n hn
    exact beq_iff_eq.mp (List.all_eq_true.mp e n hn)
  co := by kernel_rfl
  gen := by kernel_rfl
  kind := by kernel_rfl

noncomputable def fd70 : FuncData := fO z50 z79 (cb 2 5) 3 [] (.none) (.none) (.none) (.str z42 194) none (.ref 69) (.none) 0
theorem fn70 (P : Params) (es ep t) : FnAt P (setO es ep t) 70 fd70 (nmOf (cb 2 5)) (stBody (cb 2 5)) where
  at_ := ⟨o70 P, by kernel_rfl, rfl⟩
  code := ⟨69, o69 P, _, _, rfl, by kernel_rfl, rfl, rfl⟩
  body := rfl
  binds := fun vs h => by
    have e : (nmOf (cb 2 5)).length = 2 := by kernel_rfl
    rw [e] at h
    match vs, h with
    | [_, _], _ => kernel_rfl
  cells := by
    have e : (fd70.scope.names.all fun x => x.2 != .cell) = true := by kernel_rfl
    intro x hx z
    have := List.all_eq_true.mp e x hx
    rw [z] at this
    exact absurd this (by decide)
  loc := by
    have e : ((nmOf (cb 2 5)).all fun n => fd70.scope.names.lookup n == some .local) = true := by kernel_rfl
    intro n hn
    exact beq_iff_eq.mp (List.all_eq_true.mp e n hn)
  co := by kernel_rfl
  gen := by kernel_rfl
  kind := by kernel_rfl

noncomputable def fd98 : FuncData := fO z54 z83 (cb 2 9) 3 [] (.none) (.none) (.none) (.str z42 194) none (.ref 97) (.none) 0
theorem fn98 (P : Params) (es ep t) : FnAt P (setO es ep t) 98 fd98 (nmOf (cb 2 9)) (stBody (cb 2 9)) where
  at_ := ⟨o98 P, by kernel_rfl, rfl⟩
  code := ⟨97, o97 P, _, _, rfl, by kernel_rfl, rfl, rfl⟩
  body := rfl
  binds := fun vs h => by
    have e : (nmOf (cb 2 9)).length = 2 := by kernel_rfl
    rw [e] at h
    match vs, h with
    | [_, _], _ => kernel_rfl
  cells := by
    have e : (fd98.scope.names.all fun x => x.2 != .cell) = true := by kernel_rfl
    intro x hx z
    have := List.all_eq_true.mp e x hx
    rw [z] at this
    exact absurd this (by decide)
  loc := by
    have e : ((nmOf (cb 2 9)).all fun n => fd98.scope.names.lookup n == some .local) = true := by kernel_rfl
    intro n hn
    exact beq_iff_eq.mp (List.all_eq_true.mp e n hn)
  co := by kernel_rfl
  gen := by kernel_rfl
  kind := by kernel_rfl

noncomputable def fd133 : FuncData := fO z59 z100 (cb 2 14) 3 [] (.none) (.none) (.none) (.str z42 194) none (.ref 132) (.none) 0
theorem fn133 (P : Params) (es ep t) : FnAt P (setO es ep t) 133 fd133 (nmOf (cb 2 14)) (stBody (cb 2 14)) where
  at_ := ⟨o133 P, by kernel_rfl, rfl⟩
  code := ⟨132, o132 P, _, _, rfl, by kernel_rfl, rfl, rfl⟩
  body := rfl
  binds := fun vs h => by
    have e : (nmOf (cb 2 14)).length = 2 := by kernel_rfl
    rw [e] at h
    match vs, h with
    | [_, _], _ => kernel_rfl
  cells := by
    have e : (fd133.scope.names.all fun x => x.2 != .cell) = true := by kernel_rfl
    intro x hx z
    have := List.all_eq_true.mp e x hx
    rw [z] at this
    exact absurd this (by decide)
  loc := by
    have e : ((nmOf (cb 2 14)).all fun n => fd133.scope.names.lookup n == some .local) = true := by kernel_rfl
    intro n hn
    exact beq_iff_eq.mp (List.all_eq_true.mp e n hn)
  co := by kernel_rfl
  gen := by kernel_rfl
  kind := by kernel_rfl

noncomputable def fd140 : FuncData := fO z60 z102 (cb 2 15) 3 [] (.none) (.none) (.none) (.str z42 194) none (.ref 139) (.none) 0
theorem fn140 (P : Params) (es ep t) : FnAt P (setO es ep t) 140 fd140 (nmOf (cb 2 15)) (stBody (cb 2 15)) where
  at_ := ⟨o140 P, by kernel_rfl, rfl⟩
  code := ⟨139, o139 P, _, _, rfl, by kernel_rfl, rfl, rfl⟩
  body := rfl
  binds := fun vs h => by
    have e : (nmOf (cb 2 15)).length = 2 := by kernel_rfl
    rw [e] at h
    match vs, h with
    | [_, _], _ => kernel_rfl
  cells := by
    have e : (fd140.scope.names.all fun x => x.2 != .cell) = true := by kernel_rfl
    intro x hx z
    have := List.all_eq_true.mp e x hx
    rw [z] at this
    exact absurd this (by decide)
  loc := by
    have e : ((nmOf (cb 2 15)).all fun n => fd140.scope.names.lookup n == some .local) = true := by kernel_rfl
    intro n hn
    exact beq_iff_eq.mp (List.all_eq_true.mp e n hn)
  co := by kernel_rfl
  gen := by kernel_rfl
  kind := by kernel_rfl

noncomputable def fd147 : FuncData := fO z61 z106 (cb 2 16) 3 [] (.none) (.none) (.none) (.str z42 194) none (.ref 146) (.none) 0
theorem fn147 (P : Params) (es ep t) : FnAt P (setO es ep t) 147 fd147 (nmOf (cb 2 16)) (stBody (cb 2 16)) where
  at_ := ⟨o147 P, by kernel_rfl, rfl⟩
  code := ⟨146, o146 P, _, _, rfl, by kernel_rfl, rfl, rfl⟩
  body := rfl
  binds := fun vs h => by
    have e : (nmOf (cb 2 16)).length = 4 := by kernel_rfl
    rw [e] at h
    match vs, h with
    | [_, _, _, _], _ => kernel_rfl
  cells := by
    have e : (fd147.scope.names.all fun x => x.2 != .cell) = true := by kernel_rfl
    intro x hx z
    have := List.all_eq_true.mp e x hx
    rw [z] at this
    exact absurd this (by decide)
  loc := by
    have e : ((nmOf (cb 2 16)).all fun n => fd147.scope.names.lookup n == some .local) = true := by kernel_rfl
    intro n hn
    exact beq_iff_eq.mp (List.all_eq_true.mp e n hn)
  co := by kernel_rfl
  gen := by kernel_rfl
  kind := by kernel_rfl

noncomputable def fd154 : FuncData := fO z62 z107 (cb 2 17) 3 [] (.none) (.none) (.none) (.str z42 194) none (.ref 153) (.none) 0
theorem fn154 (P : Params) (es ep t) : FnAt P (setO es ep t) 154 fd154 (nmOf (cb 2 17)) (stBody (cb 2 17)) where
  at_ := ⟨o154 P, by kernel_rfl, rfl⟩
  code := ⟨153, o153 P, _, _, rfl, by kernel_rfl, rfl, rfl⟩
  body := rfl
  binds := fun vs h => by
    have e : (nmOf (cb 2 17)).length = 2 := by kernel_rfl
    rw [e] at h
    match vs, h with
    | [_, _], _ => kernel_rfl
  cells := by
    have e : (fd154.scope.names.all fun x => x.2 != .cell) = true := by kernel_rfl
    intro x hx z
    have := List.all_eq_true.mp e x hx
    rw [z] at this
    exact absurd this (by decide)
  loc := by
    have e : ((nmOf (cb 2 17)).all fun n => fd154.scope.names.lookup n == some .local) = true := by kernel_rfl
    intro n hn
    exact beq_iff_eq.mp (List.all_eq_true.mp e n hn)
  co := by kernel_rfl
  gen := by kernel_rfl
  kind := by kernel_rfl

noncomputable def fd161 : FuncData := fO z63 z108 (cb 2 18) 3 [] (.none) (.none) (.none) (.str z42 194) none (.ref 160) (.none) 0
theorem fn161 (P : Params) (es ep t) : FnAt P (setO es ep t) 161 fd161 (nmOf (cb 2 18)) (stBody (cb 2 18)) where
  at_ := ⟨o161 P, by kernel_rfl, rfl⟩
  code := ⟨160, o160 P, _, _, rfl, by kernel_rfl, rfl, rfl⟩
  body := rfl
  binds := fun vs h => by
    have e : (nmOf (cb 2 18)).length = 1 := by kernel_rfl
    rw [e] at h
    match vs, h with
    | [_], _ => kernel_rfl
  cells := by
    have e : (fd161.scope.names.all fun x => x.2 != .cell) = true := by kernel_rfl
    intro x hx z
    have := List.all_eq_true.mp e x hx
    rw [z] at this
    exact absurd this (by decide)
  loc := by
    have e : ((nmOf (cb 2 18)).all fun n => fd161.scope.names.lookup n == some .local) = true := by kernel_rfl
    intro n hn
    exact beq_iff_eq.mp (List.all_eq_true.mp e n hn)
  co := by kernel_rfl
  gen := by kernel_rfl
  kind := by kernel_rfl

noncomputable def fd237 : FuncData := fO z132 z146 (cb 6 4) 3 [] (.none) (.none) (.none) (.str z127 471) none (.ref 236) (.none) 0
theorem fn237 (P : Params) (es ep t) : FnAt P (setO es ep t) 237 fd237 (nmOf (cb 6 4)) (stBody (cb 6 4)) where
  at_ := ⟨o237 P, by kernel_rfl, rfl⟩
  code := ⟨236, o236 P, _, _, rfl, by kernel_rfl, rfl, rfl⟩
  body := rfl
  binds := fun vs h => by
    have e : (nmOf (cb 6 4)).length = 1 := by kernel_rfl
    rw [e] at h
    match vs, h with
    | [_], _ => kernel_rfl
  cells := by
    have e : (fd237.scope.names.all fun x => x.2 != .cell) = true := by kernel_rfl
    intro x hx z
    have := List.all_eq_true.mp e x hx
    rw [z] at this
    exact absurd this (by decide)
  loc := by
    have e : ((nmOf (cb 6 4)).all fun n => fd237.scope.names.lookup n == some .local) = true := by kernel_rfl
    intro n hn
    exact beq_iff_eq.mp (List.all_eq_true.mp e n hn)
  co := by kernel_rfl
  gen := by kernel_rfl
  kind := by kernel_rfl

noncomputable def fd244 : FuncData := fO z133 z148 (cb 6 5) 3 [] (.none) (.none) (.none) (.str z127 471) none (.ref 243) (.none) 0
theorem fn244 (P : Params) (es ep t) : FnAt P (setO es ep t) 244 fd244 (nmOf (cb 6 5)) (stBody (cb 6 5)) where
  at_ := ⟨o244 P, by kernel_rfl, rfl⟩
  code := ⟨243, o243 P, _, _, rfl, by kernel_rfl, rfl, rfl⟩
  body := rfl
  binds := fun vs h => by
    have e : (nmOf (cb 6 5)).length = 1 := by kernel_rfl
    rw [e] at h
    match vs, h with
    | [_], _ => kernel_rfl
  cells := by
    have e : (fd244.scope.names.all fun x => x.2 != .cell) = true := by kernel_rfl
    intro x hx z
    have := List.all_eq_true.mp e x hx
    rw [z] at this
    exact absurd this (by decide)
  loc := by
    have e : ((nmOf (cb 6 5)).all fun n => fd244.scope.names.lookup n == some .local) = true := by kernel_rfl
    intro n hn
    exact beq_iff_eq.mp (List.all_eq_true.mp e n hn)
  co := by kernel_rfl
  gen := by kernel_rfl
  kind := by kernel_rfl

noncomputable def fd251 : FuncData := fO z134 z149 (cb 6 6) 3 [] (.none) (.none) (.none) (.str z127 471) none (.ref 250) (.none) 0
theorem fn251 (P : Params) (es ep t) : FnAt P (setO es ep t) 251 fd251 (nmOf (cb 6 6)) (stBody (cb 6 6)) where
  at_ := ⟨o251 P, by kernel_rfl, rfl⟩
  code := ⟨250, o250 P, _, _, rfl, by kernel_rfl, rfl, rfl⟩
  body := rfl
  binds := fun vs h => by
    have e : (nmOf (cb 6 6)).length = 1 := by kernel_rfl
    rw [e] at h
    match vs, h with
    | [_], _ => kernel_rfl
  cells := by
    have e : (fd251.scope.names.all fun x => x.2 != .cell) = true := by kernel_rfl
    intro x hx z
    have := List.all_eq_true.mp e x hx
    rw [z] at this
    exact absurd this (by decide)
  loc := by
    have e : ((nmOf (cb 6 6)).all fun n => fd251.scope.names.lookup n == some .local) = true := by kernel_rfl
    intro n hn
    exact beq_iff_eq.mp (List.all_eq_true.mp e n hn)
  co := by kernel_rfl
  gen := by kernel_rfl
  kind := by kernel_rfl

noncomputable def fd258 : FuncData := fO z135 z150 (cb 6 7) 3 [] (.none) (.none) (.none) (.str z127 471) none (.ref 257) (.none) 0
theorem fn258 (P : Params) (es ep t) : FnAt P (setO es ep t) 258 fd258 (nmOf (cb 6 7)) (stBody (cb 6 7)) where
  at_ := ⟨o258 P, by kernel_rfl, rfl⟩
  code := ⟨257, o257 P, _, _, rfl, by kernel_rfl, rfl, rfl⟩
  body := rfl
  binds := fun vs h => by
    have e : (nmOf (cb 6 7)).length = 1 := by kernel_rfl
    rw [e] at h
    match vs, h with
    | [_], _ => kernel_rfl
  cells := by
    have e : (fd258.scope.names.all fun x => x.2 != .cell) = true := by kernel_rfl
    intro x hx z
    have := List.all_eq_true.mp e x hx
    rw [z] at this
    exact absurd this (by decide)
  loc := by
    have e : ((nmOf (cb 6 7)).all fun n => fd258.scope.names.lookup n == some .local) = true := by kernel_rfl
    intro n hn
    exact beq_iff_eq.mp (List.all_eq_true.mp e n hn)
  co := by kernel_rfl
  gen := by kernel_rfl
  kind := by kernel_rfl

noncomputable def fd265 : FuncData := fO z136 z151 (cb 6 8) 3 [] (.none) (.none) (.none) (.str z127 471) none (.ref 264) (.none) 0
theorem fn265 (P : Params) (es ep t) : FnAt P (setO es ep t) 265 fd265 (nmOf (cb 6 8)) (stBody (cb 6 8)) where
  at_ := ⟨o265 P, by kernel_rfl, rfl⟩
  code := ⟨264, o264 P, _, _, rfl, by kernel_rfl, rfl, rfl⟩
  body := rfl
  binds := fun vs h => by
    have e : (nmOf (cb 6 8)).length = 1 := by kernel_rfl
    rw [e] at h
    match vs, h with
    | [_], _ => kernel_rfl
  cells := by
    have e : (fd265.scope.names.all fun x => x.2 != .cell) = true := by kernel_rfl
    intro x hx z
    have := List.all_eq_true.mp e x hx
    rw [z] at this
    exact absurd this (by decide)
  loc := by
    have e : ((nmOf (cb 6 8)).all fun n => fd265.scope.names.lookup n == some .local) = true := by kernel_rfl
    intro n hn
    exact beq_iff_eq.mp (List.all_eq_true.mp e n hn)
  co := by kernel_rfl
  gen := by kernel_rfl
  kind := by kernel_rfl

noncomputable def fd272 : FuncData := fO z137 z152 (cb 6 9) 3 [] (.none) (.none) (.none) (.str z127 471) none (.ref 271) (.none) 0
theorem fn272 (P : Params) (es ep t) : FnAt P (setO es ep t) 272 fd272 (nmOf (cb 6 9)) (stBody (cb 6 9)) where
  at_ := ⟨o272 P, by kernel_rfl, rfl⟩
  code := ⟨271, o271 P, _, _, rfl, by kernel_rfl, rfl, rfl⟩
  body := rfl
  binds := fun vs h => by
    have e : (nmOf (cb 6 9)).length = 1 := by kernel_rfl
    rw [e] at h
    match vs, h with
    | [_], _ => kernel_rfl
  cells := by
    have e : (fd272.scope.names.all fun x => x.2 != .cell) = true := by kernel_rfl
    intro x hx z
    have := List.all_eq_true.mp e x hx
    rw [z] at this
    exact absurd this (by decide)
  loc := by
    have e : ((nmOf (cb 6 9)).all fun n => fd272.scope.names.lookup n == some .local) = true := by kernel_rfl
    intro n hn
    exact beq_iff_eq.mp (List.all_eq_true.mp e n hn)
  co := by kernel_rfl
  gen := by kernel_rfl
  kind := by kernel_rfl

noncomputable def fd279 : FuncData := fO z138 z153 (cb 6 10) 3 [] (.none) (.none) (.none) (.str z127 471) none (.ref 278) (.none) 0
theorem fn279 (P : Params) (es ep t) : FnAt P (setO es ep t) 279 fd279 (nmOf (cb 6 10)) (stBody (cb 6 10)) where
  at_ := ⟨o279 P, by kernel_rfl, rfl⟩
  code := ⟨278, o278 P, _, _, rfl, by kernel_rfl, rfl, rfl⟩
  body := rfl
  binds := fun vs h => by
    have e : (nmOf (cb 6 10)).length = 1 := by kernel_rfl
    rw [e] at h
    match vs, h with
    | [_], _ => kernel_rfl
  cells := by
    have e : (fd279.scope.names.all fun x => x.2 != .cell) = true := by kernel_rfl
    intro x hx z
    have := List.all_eq_true.mp e x hx
    rw [z] at this
    exact absurd this (by decide)
  loc := by
    have e : ((nmOf (cb 6 10)).all fun n => fd279.scope.names.lookup n == some .local) = true := by kernel_rfl
    intro n hn
    exact beq_iff_eq.mp (List.all_eq_true.mp e n hn)
  co := by kernel_rfl
  gen := by kernel_rfl
  kind := by kernel_rfl

noncomputable def fd286 : FuncData := fO z139 z157 (cb 6 11) 3 [] (.none) (.none) (.none) (.str z127 471) none (.ref 285) (.none) 0
theorem fn286 (P : Params) (es ep t) : FnAt P (setO es ep t) 286 fd286 (nmOf (cb 6 11)) (stBody (cb 6 11)) where
  at_ := ⟨o286 P, by kernel_rfl, rfl⟩
  code := ⟨285, o285 P, _, _, rfl, by kernel_rfl, rfl, rfl⟩
  body := rfl
  binds := fun vs h => by
    have e : (nmOf (cb 6 11)).length = 1 := by kernel_rfl
    rw [e] at h
    match vs, h with
    | [_], _ => kernel_rfl
  cells := by
    have e : (fd286.scope.names.all fun x => x.2 != .cell) = true := by kernel_rfl
    intro x hx z
    have := List.all_eq_true.mp e x hx
    rw [z] at this
    exact absurd this (by decide)
  loc := by
    have e : ((nmOf (cb 6 11)).all fun n => fd286.scope.names.lookup n == some .local) = true := by kernel_rfl
    intro n hn
    exact beq_iff_eq.mp (List.all_eq_true.mp e n hn)
  co := by kernel_rfl
  gen := by kernel_rfl
  kind := by kernel_rfl

noncomputable def fd189 : FuncData := fO z67 z113 (cb 2 22) 3 [] (.none) (.none) (.none) (.str z42 194) none (.ref 188) (.none) 0
theorem fn189 (P : Params) (es ep t) : FnAt P (setO es ep t) 189 fd189 (nmOf (cb 2 22)) (stBody (cb 2 22)) where
  at_ := ⟨o189 P, by kernel_rfl, rfl⟩
  code := ⟨188, o188 P, _, _, rfl, by kernel_rfl, rfl, rfl⟩
  body := rfl
  binds := fun vs h => by
    have e : (nmOf (cb 2 22)).length = 2 := by kernel_rfl
    rw [e] at h
    match vs, h with
    | [_, _], _ => kernel_rfl
  cells := by
    have e : (fd189.scope.names.all fun x => x.2 != .cell) = true := by kernel_rfl
    intro x hx z
    have := List.all_eq_true.mp e x hx
    rw [z] at this
    exact absurd this (by decide)
  loc := by
    have e : ((nmOf (cb 2 22)).all fun n => fd189.scope.names.lookup n == some .local) = true := by kernel_rfl
    intro n hn
    exact beq_iff_eq.mp (List.all_eq_true.mp e n hn)
  co := by kernel_rfl
  gen := by kernel_rfl
  kind := by kernel_rfl

noncomputable def fd547 : FuncData := fO z28 z28 (tb 14) 3 [] (.none) (.none) (.none) (.str z3 1679) none (.ref 546) (.none) 0
theorem fn547 (P : Params) (es ep t) : FnAt P (setO es ep t) 547 fd547 (nmOf (tb 14)) (stBody (tb 14)) where
  at_ := ⟨o547 P, by kernel_rfl, rfl⟩
  code := ⟨546, o546 P, _, _, rfl, by kernel_rfl, rfl, rfl⟩
  body := rfl
  binds := fun vs h => by
    have e : (nmOf (tb 14)).length = 0 := by kernel_rfl
    rw [e] at h
    match vs, h with
    | [], _ => kernel_rfl
  cells := by
    have e : (fd547.scope.names.all fun x => x.2 != .cell) = true := by kernel_rfl
    intro x hx z
    have := List.all_eq_true.mp e x hx
    rw [z] at this
    exact absurd this (by decide)
  loc := by
    have e : ((nmOf (tb 14)).all fun n => fd547.scope.names.lookup n == some .local) = true := by kernel_rfl
    intro n hn
    exact beq_iff_eq.mp (List.all_eq_true.mp e n hn)
  co := by kernel_rfl
  gen := by kernel_rfl
  kind := by kernel_rfl

noncomputable def fd554 : FuncData := fO z29 z29 (tb 15) 3 [] (.none) (.none) (.none) (.str z3 1679) none (.ref 553) (.none) 0
theorem fn554 (P : Params) (es ep t) : FnAt P (setO es ep t) 554 fd554 (nmOf (tb 15)) (stBody (tb 15)) where
  at_ := ⟨o554 P, by kernel_rfl, rfl⟩
  code := ⟨553, o553 P, _, _, rfl, by kernel_rfl, rfl, rfl⟩
  body := rfl
  binds := fun vs h => by
    have e : (nmOf (tb 15)).length = 0 := by kernel_rfl
    rw [e] at h
    match vs, h with
    | [], _ => kernel_rfl
  cells := by
    have e : (fd554.scope.names.all fun x => x.2 != .cell) = true := by kernel_rfl
    intro x hx z
    have := List.all_eq_true.mp e x hx
    rw [z] at this
    exact absurd this (by decide)
  loc := by
    have e : ((nmOf (tb 15)).all fun n => fd554.scope.names.lookup n == some .local) = true := by kernel_rfl
    intro n hn
    exact beq_iff_eq.mp (List.all_eq_true.mp e n hn)
  co := by kernel_rfl
  gen := by kernel_rfl
  kind := by kernel_rfl

noncomputable def fd561 : FuncData := fO z30 z30 (tb 16) 3 [] (.none) (.none) (.none) (.str z3 1679) none (.ref 560) (.none) 0
theorem fn561 (P : Params) (es ep t) : FnAt P (setO es ep t) 561 fd561 (nmOf (tb 16)) (stBody (tb 16)) where
  at_ := ⟨o561 P, by kernel_rfl, rfl⟩
  code := ⟨560, o560 P, _, _, rfl, by kernel_rfl, rfl, rfl⟩
  body := rfl
  binds := fun vs h => by
    have e : (nmOf (tb 16)).length = 0 := by kernel_rfl
    rw [e] at h
    match vs, h with
    | [], _ => kernel_rfl
  cells := by
    have e : (fd561.scope.names.all fun x => x.2 != .cell) = true := by kernel_rfl
    intro x hx z
    have := List.all_eq_true.mp e x hx
    rw [z] at this
    exact absurd this (by decide)
  loc := by
    have e : ((nmOf (tb 16)).all fun n => fd561.scope.names.lookup n == some .local) = true := by kernel_rfl
    intro n hn
    exact beq_iff_eq.mp (List.all_eq_true.mp e n hn)
  co := by kernel_rfl
  gen := by kernel_rfl
  kind := by kernel_rfl

noncomputable def fd568 : FuncData := fO z31 z31 (tb 17) 3 [] (.none) (.none) (.none) (.str z3 1679) none (.ref 567) (.none) 0
theorem fn568 (P : Params) (es ep t) : FnAt P (setO es ep t) 568 fd568 (nmOf (tb 17)) (stBody (tb 17)) where
  at_ := ⟨o568 P, by kernel_rfl, rfl⟩
  code := ⟨567, o567 P, _, _, rfl, by kernel_rfl, rfl, rfl⟩
  body := rfl
  binds := fun vs h => by
    have e : (nmOf (tb 17)).length = 0 := by kernel_rfl
    rw [e] at h
    match vs, h with
    | [], _ => kernel_rfl
  cells := by
    have e : (fd568.scope.names.all fun x => x.2 != .cell) = true := by kernel_rfl
    intro x hx z
    have := List.all_eq_true.mp e x hx
    rw [z] at this
    exact absurd this (by decide)
  loc := by
    have e : ((nmOf (tb 17)).all fun n => fd568.scope.names.lookup n == some .local) = true := by kernel_rfl
    intro n hn
    exact beq_iff_eq.mp (List.all_eq_true.mp e n hn)
  co := by kernel_rfl
  gen := by kernel_rfl
  kind := by kernel_rfl

noncomputable def fd575 : FuncData := fO z32 z32 (tb 18) 3 [] (.none) (.none) (.none) (.str z3 1679) none (.ref 574) (.none) 0
theorem fn575 (P : Params) (es ep t) : FnAt P (setO es ep t) 575 fd575 (nmOf (tb 18)) (stBody (tb 18)) where
  at_ := ⟨o575 P, by kernel_rfl, rfl⟩
  code := ⟨574, o574 P, _, _, rfl, by kernel_rfl, rfl, rfl⟩
  body := rfl
  binds := fun vs h => by
    have e : (nmOf (tb 18)).length = 0 := by kernel_rfl
    rw [e] at h
    match vs, h with
    | [], _ => kernel_rfl
  cells := by
    have e : (fd575.scope.names.all fun x => x.2 != .cell) = true := by kernel_rfl
    intro x hx z
    have := List.all_eq_true.mp e x hx
    rw [z] at this
    exact absurd this (by decide)
  loc := by
    have e : ((nmOf (tb 18)).all fun n => fd575.scope.names.lookup n == some .local) = true := by kernel_rfl
    intro n hn
    exact beq_iff_eq.mp (List.all_eq_true.mp e n hn)
  co := by kernel_rfl
  gen := by kernel_rfl
  kind := by kernel_rfl

noncomputable def fd582 : FuncData := fO z33 z33 (tb 19) 3 [] (.none) (.none) (.none) (.str z3 1679) none (.ref 581) (.none) 0
theorem fn582 (P : Params) (es ep t) : FnAt P (setO es ep t) 582 fd582 (nmOf (tb 19)) (stBody (tb 19)) where
  at_ := ⟨o582 P, by kernel_rfl, rfl⟩
  code := ⟨581, o581 P, _, _, rfl, by kernel_rfl, rfl, rfl⟩
  body := rfl
  binds := fun vs h => by
    have e : (nmOf (tb 19)).length = 2 := by kernel_rfl
    rw [e] at h
    match vs, h with
    | [_, _], _ => kernel_rfl
  cells := by
    have e : (fd582.scope.names.all fun x => x.2 != .cell) = true := by kernel_rfl
    intro x hx z
    have := List.all_eq_true.mp e x hx
    rw [z] at this
    exact absurd this (by decide)
  loc := by
    have e : ((nmOf (tb 19)).all fun n => fd582.scope.names.lookup n == some .local) = true := by kernel_rfl
    intro n hn
    exact beq_iff_eq.mp (List.all_eq_true.mp e n hn)
  co := by kernel_rfl
  gen := by kernel_rfl
  kind := by kernel_rfl

noncomputable def fd589 : FuncData := fO z34 z34 (tb 20) 3 [] (.none) (.none) (.none) (.str z3 1679) none (.ref 588) (.none) 0
theorem fn589 (P : Params) (es ep t) : FnAt P (setO es ep t) 589 fd589 (nmOf (tb 20)) (stBody (tb 20)) where
  at_ := ⟨o589 P, by kernel_rfl, rfl⟩
  code := ⟨588, o588 P, _, _, rfl, by kernel_rfl, rfl, rfl⟩
  body := rfl
  binds := fun vs h => by
    have e : (nmOf (tb 20)).length = 1 := by kernel_rfl
    rw [e] at h
    match vs, h with
    | [_], _ => kernel_rfl
  cells := by
    have e : (fd589.scope.names.all fun x => x.2 != .cell) = true := by kernel_rfl
    intro x hx z
    have := List.all_eq_true.mp e x hx
    rw [z] at this
    exact absurd this (by decide)
  loc := by
    have e : ((nmOf (tb 20)).all fun n => fd589.scope.names.lookup n == some .local) = true := by kernel_rfl
    intro n hn
    exact beq_iff_eq.mp (List.all_eq_true.mp e n hn)
  co := by kernel_rfl
  gen := by kernel_rfl
  kind := by kernel_rfl

noncomputable def fd601 : FuncData := fO z36 z36 (tb 22) 3 [] (.none) (.none) (.none) (.str z3 1679) none (.ref 600) (.none) 0
theorem fn601 (P : Params) (es ep t) : FnAt P (setO es ep t) 601 fd601 (nmOf (tb 22)) (stBody (tb 22)) where
  at_ := ⟨o601 P, by kernel_rfl, rfl⟩
  code := ⟨600, o600 P, _, _, rfl, by kernel_rfl, rfl, rfl⟩
  body := rfl
  binds := fun vs h => by
    have e : (nmOf (tb 22)).length = 1 := by kernel_rfl
    rw [e] at h
    match vs, h with
    | [_], _ => kernel_rfl
  cells := by
    have e : (fd601.scope.names.all fun x => x.2 != .cell) = true := by kernel_rfl
    intro x hx z
    have := List.all_eq_true.mp e x hx
    rw [z] at this
    exact absurd this (by decide)
  loc := by
    have e : ((nmOf (tb 22)).all fun n => fd601.scope.names.lookup n == some .local) = true := by kernel_rfl
    intro n hn
    exact beq_iff_eq.mp (List.all_eq_true.mp e n hn)
  co := by kernel_rfl
  gen := by kernel_rfl
  kind := by kernel_rfl
theorem me35 (P : Params) (es ep t) : MethAt P (setO es ep t) z45 35 := ⟨by kernel_rfl, by kernel_rfl⟩
theorem me42 (P : Params) (es ep t) : MethAt P (setO es ep t) z46 42 := ⟨by kernel_rfl, by kernel_rfl⟩
theorem me49 (P : Params) (es ep t) : MethAt P (setO es ep t) z47 49 := ⟨by kernel_rfl, by kernel_rfl⟩
theorem me70 (P : Params) (es ep t) : MethAt P (setO es ep t) z50 70 := ⟨by kernel_rfl, by kernel_rfl⟩
theorem me98 (P : Params) (es ep t) : MethAt P (setO es ep t) z54 98 := ⟨by kernel_rfl, by kernel_rfl⟩
theorem me133 (P : Params) (es ep t) : MethAt P (setO es ep t) z59 133 := ⟨by kernel_rfl, by kernel_rfl⟩
theorem me140 (P : Params) (es ep t) : MethAt P (setO es ep t) z60 140 := ⟨by kernel_rfl, by kernel_rfl⟩
theorem me147 (P : Params) (es ep t) : MethAt P (setO es ep t) z61 147 := ⟨by kernel_rfl, by kernel_rfl⟩
theorem me154 (P : Params) (es ep t) : MethAt P (setO es ep t) z62 154 := ⟨by kernel_rfl, by kernel_rfl⟩
theorem me161 (P : Params) (es ep t) : MethAt P (setO es ep t) z63 161 := ⟨by kernel_rfl, by kernel_rfl⟩
theorem me237 (P : Params) (es ep t) : MethAt P (setO es ep t) z132 237 := ⟨by kernel_rfl, by kernel_rfl⟩
theorem me244 (P : Params) (es ep t) : MethAt P (setO es ep t) z133 244 := ⟨by kernel_rfl, by kernel_rfl⟩
theorem me251 (P : Params) (es ep t) : MethAt P (setO es ep t) z134 251 := ⟨by kernel_rfl, by kernel_rfl⟩
theorem me258 (P : Params) (es ep t) : MethAt P (setO es ep t) z135 258 := ⟨by kernel_rfl, by kernel_rfl⟩
theorem me265 (P : Params) (es ep t) : MethAt P (setO es ep t) z136 265 := ⟨by kernel_rfl, by kernel_rfl⟩
theorem me272 (P : Params) (es ep t) : MethAt P (setO es ep t) z137 272 := ⟨by kernel_rfl, by kernel_rfl⟩
theorem me279 (P : Params) (es ep t) : MethAt P (setO es ep t) z138 279 := ⟨by kernel_rfl, by kernel_rfl⟩
theorem me286 (P : Params) (es ep t) : MethAt P (setO es ep t) z139 286 := ⟨by kernel_rfl, by kernel_rfl⟩
theorem me189 (P : Params) (es ep t) : MethAt P (setO es ep t) z67 189 := ⟨by kernel_rfl, by kernel_rfl⟩
end Mine
end

section
open PySem PySem.W PySem.Calls PyProof.Rows
set_option Elab.async false
set_option maxRecDepth 100000
set_option linter.unusedVariables false
namespace Mine
variable {c : Cx} {fd : FuncData} {S : St}
noncomputable abbrev Tab := List (List Nat × Int × Int)
noncomputable def T0 : Tab := [([98, 39], -1, 1), ([98, 104], -1, 4), ([98, 104, 102], 1, 2), ([98, 112], -1, 8), ([99, 104], -1, 5), ([100, 39], -1, 1), ([100, 39, 102, 104], 5, 2), ([100, 104], -1, 6), ([100, 116], -1, 9), ([102, 104], -1, 2), ([103, 99], -1, 5), ([103, 104], -1, 7), ([104, 45], -1, 1), ([109, 39], -1, 1), ([109, 98], -1, 4), ([109, 104], -1, 10), ([110, 45], -1, 1), ([110, 100], -1, 6), ([110, 103], -1, 7), ([112, 104], -1, 8), ([115, 104], -1, 3), ([116, 45], -1, 1), ([116, 104], -1, 9), ([116, 115], -1, 3)]
noncomputable def T1 : Tab := [([237, 111, 99, 104, 116, 97], -1, 1), ([97, 237, 111, 99, 104, 116, 97], 0, 1), ([105, 114, 101], -1, 2), ([97, 105, 114, 101], 2, 2), ([97, 98, 104], -1, 1), ([101, 97, 98, 104], 4, 1), ([105, 98, 104], -1, 1), ([97, 105, 98, 104], 6, 1), ([97, 109, 104], -1, 1), ([101, 97, 109, 104], 8, 1), ([105, 109, 104], -1, 1), ([97, 105, 109, 104], 10, 1), ([237, 111, 99, 104, 116], -1, 1), ([97, 237, 111, 99, 104, 116], 12, 1), ([105, 114, 237], -1, 2), ([97, 105, 114, 237], 14, 2)]
noncomputable def T2 : Tab := [([243, 105, 100, 101, 97, 99, 104, 97], -1, 6), ([112, 97, 116, 97, 99, 104, 97], -1, 5), ([97, 99, 104, 116, 97], -1, 1), ([97, 114, 99, 97, 99, 104, 116, 97], 2, 2), ([101, 97, 99, 104, 116, 97], 2, 1), ([103, 114, 97, 102, 97, 237, 111, 99, 104, 116, 97], -1, 4), ([112, 97, 105, 116, 101], -1, 5), ([97, 99, 104], -1, 1), ([101, 97, 99, 104], 7, 1), ([243, 105, 100, 101, 97, 99, 104], 8, 6), ([103, 105, 110, 101, 97, 99, 104], 8, 3), ([112, 97, 116, 97, 99, 104], 7, 5), ([103, 114, 97, 102, 97, 237, 111, 99, 104], -1, 4), ([112, 97, 116, 97, 105, 103, 104], -1, 5), ([243, 105, 100, 105, 103, 104], -1, 6), ([97, 99, 104, 116, 250, 105, 108], -1, 1), ([101, 97, 99, 104, 116, 250, 105, 108], 15, 1), ([103, 105, 110, 101, 97, 115], -1, 3), ([103, 105, 110, 105, 115], -1, 3), ([97, 99, 104, 116], -1, 1), ([97, 114, 99, 97, 99, 104, 116], 19, 2), ([101, 97, 99, 104, 116], 19, 1), ([103, 114, 97, 102, 97, 237, 111, 99, 104, 116], -1, 4), ([97, 114, 99, 97, 99, 104, 116, 97, 237], -1, 2), ([103, 114, 97, 102, 97, 237, 111, 99, 104, 116, 97, 237], -1, 4)]
noncomputable def T3 : Tab := [([105, 109, 105, 100], -1, 1), ([97, 105, 109, 105, 100], 0, 1), ([237, 109, 105, 100], -1, 1), ([97, 237, 109, 105, 100], 2, 1), ([97, 100, 104], -1, 2), ([101, 97, 100, 104], 4, 2), ([102, 97, 105, 100, 104], -1, 1), ([102, 105, 100, 104], -1, 1), ([225, 105, 108], -1, 2), ([97, 105, 110], -1, 2), ([116, 101, 97, 114], -1, 2), ([116, 97, 114], -1, 2)]
noncomputable def as0 : List (List Nat) := [[], [102], [115], [98], [99], [100], [103], [112], [116], [109]]

noncomputable def nS : PySem.Str := ⟨⟨[115]⟩⟩
noncomputable def nSub : PySem.Str := ⟨⟨[115, 117, 98, 115, 116, 114, 105, 110, 103, 95, 105]⟩⟩
noncomputable def nRes : PySem.Str := ⟨⟨[114, 101, 115, 117, 108, 116]⟩⟩
noncomputable def amOk (K : Frag) (a : Addr) (l : List Nat) (i r : Int) : Bool :=
  match K.lookup a with
  | some ⟨.ref 218, some d, .plain, _⟩ =>
    (match K.lookup d with
    | some od =>
      (match findObj K 218 (some od) nS, findObj K 218 (some od) nSub, findObj K 218 (some od) nRes with
      | some (.value (.str ⟨⟨l'⟩⟩ _)), some (.value (.int i' _)), some (.value (.int r' _)) => l' == l && i' == i && r' == r
      | _, _, _ => false)
    | none => false)
  | _ => false
structure AmAt (P : Params) (so : Obj) (a : Addr) (l : List Nat) (i r : Int) : Prop where
  ok : amOk (KF P so) a l i r = true
theorem tab0 (P : Params) (es ep t) : ∀ k e, T0[k]? = some e → AmAt P (setO es ep t) (288 + 3 * k) e.1 e.2.1 e.2.2 := by
  have h : ((T0.zip (List.range T0.length)).all fun x => amOk (KF P (setO es ep t)) (288 + 3 * x.2) x.1.1 x.1.2.1 x.1.2.2) = true := by kernel_rfl
  intro k e hk
  refine ⟨List.all_eq_true.mp h (e, k) ?_⟩
  have hl : k < T0.length := (List.getElem?_eq_some_iff.mp hk).1
  have : (T0.zip (List.range T0.length))[k]? = some (e, k) := by
    rw [List.getElem?_zip_eq_some]
    exact ⟨hk, by rw [List.getElem?_range hl]⟩
  exact List.mem_of_getElem? this
theorem tab1 (P : Params) (es ep t) : ∀ k e, T1[k]? = some e → AmAt P (setO es ep t) (362 + 3 * k) e.1 e.2.1 e.2.2 := by
  have h : ((T1.zip (List.range T1.length)).all fun x => amOk (KF P (setO es ep t)) (362 + 3 * x.2) x.1.1 x.1.2.1 x.1.2.2) = true := by kernel_rfl
  intro k e hk
  refine ⟨List.all_eq_true.mp h (e, k) ?_⟩
  have hl : k < T1.length := (List.getElem?_eq_some_iff.mp hk).1
  have : (T1.zip (List.range T1.length))[k]? = some (e, k) := by
    rw [List.getElem?_zip_eq_some]
    exact ⟨hk, by rw [List.getElem?_range hl]⟩
  exact List.mem_of_getElem? this
theorem tab2 (P : Params) (es ep t) : ∀ k e, T2[k]? = some e → AmAt P (setO es ep t) (411 + 3 * k) e.1 e.2.1 e.2.2 := by
  have h : ((T2.zip (List.range T2.length)).all fun x => amOk (KF P (setO es ep t)) (411 + 3 * x.2) x.1.1 x.1.2.1 x.1.2.2) = true := by kernel_rfl
  intro k e hk
  refine ⟨List.all_eq_true.mp h (e, k) ?_⟩
  have hl : k < T2.length := (List.getElem?_eq_some_iff.mp hk).1
  have : (T2.zip (List.range T2.length))[k]? = some (e, k) := by
    rw [List.getElem?_zip_eq_some]
    exact ⟨hk, by rw [List.getElem?_range hl]⟩
  exact List.mem_of_getElem? this
theorem tab3 (P : Params) (es ep t) : ∀ k e, T3[k]? = some e → AmAt P (setO es ep t) (487 + 3 * k) e.1 e.2.1 e.2.2 := by
  have h : ((T3.zip (List.range T3.length)).all fun x => amOk (KF P (setO es ep t)) (487 + 3 * x.2) x.1.1 x.1.2.1 x.1.2.2) = true := by kernel_rfl
  intro k e hk
  refine ⟨List.all_eq_true.mp h (e, k) ?_⟩
  have hl : k < T3.length := (List.getElem?_eq_some_iff.mp hk).1
  have : (T3.zip (List.range T3.length))[k]? = some (e, k) := by
    rw [List.getElem?_zip_eq_some]
    exact ⟨hk, by rw [List.getElem?_range hl]⟩
  exact List.mem_of_getElem? this

theorem ga_among (P : Params) (es ep t) : findIn (KF P (setO es ep t)) (.ref 218) "__getattribute__" = some (some (.builtin "object.__getattribute__")) := by kernel_rfl

theorem am_read {a : Addr} {l : List Nat} {i r : Int} {n : PySem.Str} {p : PV} {expr : Bool} {Q : PV → St → Prop} (h : AmAt c.w.params (setO c.es c.ep c.t) a l i r) (hn : (n = nS ∧ p = .str l) ∨ (n = nSub ∧ p = .int i) ∨ (n = nRes ∧ p = .int r)) (q : Q p S) :
    ∀ s, Rel c S s → SOk c S → wpAny (model pw c.w) c.A (getAttr (.ref a) n expr) (Post c s Q) NoE s := by
  intro s rl ok
  have h := h.ok
  unfold amOk at h
  split at h
  · rename_i d sl e1
    split at h
    · rename_i od e2
      have I : W.InstAt s.heap a ⟨.ref 218, some d, .plain, sl⟩ 218 (some od) := InstAt.of_K rl.kin e1 e2
      split at h
      · rename_i l' t1 i' t2 r' t3 f1 f2 f3
        simp only [Bool.and_eq_true, beq_iff_eq] at h
        obtain ⟨⟨rfl, rfl⟩, rfl⟩ := h
        rcases hn with ⟨rfl, rfl⟩ | ⟨rfl, rfl⟩ | ⟨rfl, rfl⟩
        · exact get_value rl.kin I (ga_among _ _ _ _) f1 rfl (post_tok rl ok vr_str q)
        · exact get_value rl.kin I (ga_among _ _ _ _) f2 rfl (post_tok rl ok vr_int q)
        · exact get_value rl.kin I (ga_among _ _ _ _) f3 rfl (post_tok rl ok vr_int q)
      · cases h
    · cases h
  · cases h

theorem we_am {x xp n pos a l i r} {p : PV} {Q : PV → St → Prop} (hk : fd.scope.kind = .function) (hx : fd.scope.names.lookup x = some .local) (hl : lk S.loc x = some (.ref a)) (h : AmAt c.w.params (setO c.es c.ep c.t) a l i r)
    (hn : (n = nS ∧ p = .str l) ∨ (n = nSub ∧ p = .int i) ∨ (n = nRes ∧ p = .int r)) (q : Q p S) (hd : (x == ("__debug__" : PySem.Str)) = false := by decide) : WE c fd S (.Attribute (.Name x xp) n pos) Q := by
  refine ⟨fun s rl ok => ?_⟩
  obtain ⟨m, hm, hv⟩ := rl.loc
  obtain ⟨u, e1, e2⟩ := hv x _ hl
  simp only [VR] at e2
  subst e2
  exact Attribute_Name_ (wpAny_Name (wpAny_loadName_local (env := callEnv fd c.L c.fa) hk hx hm e1 (am_read h hn q s rl ok)) hd)

/-- CLASS.NAME -/
theorem we_cls {x xp n pos} {v : Value} {p : PV} {Q : PV → St → Prop} (hk : fd.scope.kind = .function) (hG : fd.globals = mainGlobals) (hx : fd.scope.names.lookup x = some .globalImplicit) (hg : c.B.nsMap mainGlobals x = some (.ref 525))
    (hf : findCls c.K (.ref 525) (.type "type") n = some (CFound.val v)) (hh : handedIn v = true) (hv : VR c.B p v) (q : Q p S) (hd : (x == ("__debug__" : PySem.Str)) = false := by decide) : WE c fd S (.Attribute (.Name x xp) n pos) Q := by
  refine ⟨fun s rl ok => ?_⟩
  refine Attribute_Name_ (wpAny_mono ((we_glob (Q := fun p S' => p = .ref 525 ∧ S' = S) hg vr_ref hk hG hx ⟨rfl, rfl⟩ hd).run s rl ok) (fun u s₁ z => ?_) fun _ _ x => x)
  obtain ⟨p', S', a1, a2, a3, a4, rfl, rfl⟩ := z
  simp only [VR] at a1
  subst a1
  exact cls_value a2.kin (by kernel_rfl) hf hh (Post.trans a4 (post_tok a2 a3 (VR.keep (.of a2.keepB) _ _ hv) q))
theorem VRs.refs {h : Heap} : ∀ as : List Addr, VRs h (as.map .ref) (as.map Value.ref)
  | [] => by simp only [List.map_nil, VRs]
  | a :: as => by
    simp only [List.map_cons, VRs]
    exact ⟨_, _, rfl, vr_ref, VRs.refs as⟩

noncomputable def tl0 : List PV := ((List.range 24).map fun k => 288 + 3 * k).map PV.ref
theorem tl0_at (k : Nat) (h : k < 24) : tl0[k]? = some (.ref (288 + 3 * k)) := by
  unfold tl0
  simp [h]
theorem we_a0 {xp pos} {Q : PV → St → Prop} (hk : fd.scope.kind = .function) (hG : fd.globals = mainGlobals) (hx : fd.scope.names.lookup ⟨⟨[73, 114, 105, 115, 104, 83, 116, 101, 109, 109, 101, 114]⟩⟩ = some .globalImplicit) (q : Q (.lst tl0) S) :
    WE c fd S (.Attribute (.Name ⟨⟨[73, 114, 105, 115, 104, 83, 116, 101, 109, 109, 101, 114]⟩⟩ xp) ⟨⟨[97, 95, 48]⟩⟩ pos) Q :=
  we_cls (v := .ref 359) hk hG hx (by kernel_rfl) (by kernel_rfl) rfl (by
    simp only [VR]
    exact ⟨359, ((List.range 24).map fun k => 288 + 3 * k).map Value.ref, 0, rfl, by kernel_rfl, VRs.refs _⟩) q (by decide)

noncomputable def tl1 : List PV := ((List.range 16).map fun k => 362 + 3 * k).map PV.ref
theorem tl1_at (k : Nat) (h : k < 16) : tl1[k]? = some (.ref (362 + 3 * k)) := by
  unfold tl1
  simp [h]
theorem we_a1 {xp pos} {Q : PV → St → Prop} (hk : fd.scope.kind = .function) (hG : fd.globals = mainGlobals) (hx : fd.scope.names.lookup ⟨⟨[73, 114, 105, 115, 104, 83, 116, 101, 109, 109, 101, 114]⟩⟩ = some .globalImplicit) (q : Q (.lst tl1) S) :
    WE c fd S (.Attribute (.Name ⟨⟨[73, 114, 105, 115, 104, 83, 116, 101, 109, 109, 101, 114]⟩⟩ xp) ⟨⟨[97, 95, 49]⟩⟩ pos) Q :=
  we_cls (v := .ref 409) hk hG hx (by kernel_rfl) (by kernel_rfl) rfl (by
    simp only [VR]
    exact ⟨409, ((List.range 16).map fun k => 362 + 3 * k).map Value.ref, 0, rfl, by kernel_rfl, VRs.refs _⟩) q (by decide)

noncomputable def tl2 : List PV := ((List.range 25).map fun k => 411 + 3 * k).map PV.ref
theorem tl2_at (k : Nat) (h : k < 25) : tl2[k]? = some (.ref (411 + 3 * k)) := by
  unfold tl2
  simp [h]
theorem we_a2 {xp pos} {Q : PV → St → Prop} (hk : fd.scope.kind = .function) (hG : fd.globals = mainGlobals) (hx : fd.scope.names.lookup ⟨⟨[73, 114, 105, 115, 104, 83, 116, 101, 109, 109, 101, 114]⟩⟩ = some .globalImplicit) (q : Q (.lst tl2) S) :
    WE c fd S (.Attribute (.Name ⟨⟨[73, 114, 105, 115, 104, 83, 116, 101, 109, 109, 101, 114]⟩⟩ xp) ⟨⟨[97, 95, 50]⟩⟩ pos) Q :=
  we_cls (v := .ref 485) hk hG hx (by kernel_rfl) (by kernel_rfl) rfl (by
    simp only [VR]
    exact ⟨485, ((List.range 25).map fun k => 411 + 3 * k).map Value.ref, 0, rfl, by kernel_rfl, VRs.refs _⟩) q (by decide)

noncomputable def tl3 : List PV := ((List.range 12).map fun k => 487 + 3 * k).map PV.ref
theorem tl3_at (k : Nat) (h : k < 12) : tl3[k]? = some (.ref (487 + 3 * k)) := by
  unfold tl3
  simp [h]
theorem we_a3 {xp pos} {Q : PV → St → Prop} (hk : fd.scope.kind = .function) (hG : fd.globals = mainGlobals) (hx : fd.scope.names.lookup ⟨⟨[73, 114, 105, 115, 104, 83, 116, 101, 109, 109, 101, 114]⟩⟩ = some .globalImplicit) (q : Q (.lst tl3) S) :
    WE c fd S (.Attribute (.Name ⟨⟨[73, 114, 105, 115, 104, 83, 116, 101, 109, 109, 101, 114]⟩⟩ xp) ⟨⟨[97, 95, 51]⟩⟩ pos) Q :=
  we_cls (v := .ref 522) hk hG hx (by kernel_rfl) (by kernel_rfl) rfl (by
    simp only [VR]
    exact ⟨522, ((List.range 12).map fun k => 487 + 3 * k).map Value.ref, 0, rfl, by kernel_rfl, VRs.refs _⟩) q (by decide)

theorem we_gv {xp pos} {Q : PV → St → Prop} (hk : fd.scope.kind = .function) (hG : fd.globals = mainGlobals) (hx : fd.scope.names.lookup ⟨⟨[73, 114, 105, 115, 104, 83, 116, 101, 109, 109, 101, 114]⟩⟩ = some .globalImplicit) (q : Q (.ref 230) S) :
    WE c fd S (.Attribute (.Name ⟨⟨[73, 114, 105, 115, 104, 83, 116, 101, 109, 109, 101, 114]⟩⟩ xp) ⟨⟨[103, 95, 118]⟩⟩ pos) Q :=
  we_cls (v := .ref 230) hk hG hx (by kernel_rfl) (by kernel_rfl) rfl vr_ref q (by decide)
theorem VRs.strs {h : Heap} : ∀ (as : List (List Nat)) (t : Nat), VRs h (as.map .str) ((as.zip (List.range' t as.length)).map fun x => Value.str ⟨⟨x.1⟩⟩ x.2)
  | [], t => by simp only [List.map_nil, List.zip_nil_left, VRs]
  | a :: as, t => by
    simp only [List.map_cons, List.length_cons, List.range'_succ, List.zip_cons_cons, VRs]
    exact ⟨_, _, rfl, vr_str, VRs.strs as (t + 1)⟩
theorem we_as0 {xp pos} {Q : PV → St → Prop} (hk : fd.scope.kind = .function) (hG : fd.globals = mainGlobals) (hx : fd.scope.names.lookup ⟨⟨[73, 114, 105, 115, 104, 83, 116, 101, 109, 109, 101, 114]⟩⟩ = some .globalImplicit) (q : Q (.tup (as0.map .str)) S) :
    WE c fd S (.Attribute (.Name ⟨⟨[73, 114, 105, 115, 104, 83, 116, 101, 109, 109, 101, 114]⟩⟩ xp) ⟨⟨[97, 115, 95, 48]⟩⟩ pos) Q :=
  we_cls (v := .ref 360) hk hG hx (by kernel_rfl) (by kernel_rfl) rfl (by
    simp only [VR]
    exact ⟨360, (as0.zip (List.range' 912 as0.length)).map fun x => Value.str ⟨⟨x.1⟩⟩ x.2, 0, rfl, by kernel_rfl, VRs.strs _ _⟩) q (by decide)
end Mine
end

section
namespace Mine
/-- the comparing of a word with the text before the cursor -/
noncomputable def inner (xs : List Nat) : List Nat → Nat → Bool × Nat
  | [], k => (false, k)
  | y :: ys, k => match xs with
    | [] => (true, k)
    | x :: xs => bif Nat.beq x y then inner xs ys (k + 1) else (Nat.blt x y, k)

theorem inner_nil (xs : List Nat) (k : Nat) : inner xs [] k = (false, k) := by cases xs <;> rfl
theorem inner_le : ∀ (ys xs : List Nat) (k : Nat), k ≤ (inner xs ys k).2 ∧ (inner xs ys k).2 ≤ k + ys.length
  | [], xs, k => by cases xs <;> exact ⟨Nat.le_refl _, Nat.le_refl _⟩
  | y :: ys, [], k => ⟨Nat.le_refl _, Nat.le_add_right _ _⟩
  | y :: ys, x :: xs, k => by
    show k ≤ (bif Nat.beq x y then inner xs ys (k + 1) else (Nat.blt x y, k)).2 ∧ (bif Nat.beq x y then inner xs ys (k + 1) else (Nat.blt x y, k)).2 ≤ _
    cases Nat.beq x y with
    | false => exact ⟨Nat.le_refl _, Nat.le_add_right _ _⟩
    | true =>
      have := inner_le ys xs (k + 1)
      simp only [List.length_cons, cond_true]
      omega
theorem inner_drop {xs ws : List Nat} {k : Nat} : (inner (xs.drop k) (ws.drop k) k).2 ≤ max k ws.length := by
  have := (inner_le (ws.drop k) (xs.drop k) k).2
  rw [List.length_drop] at this
  omega

noncomputable abbrev Tb := List (List Nat × Int × Int)
noncomputable def outer (T : Tb) (xs : List Nat) : Nat → Nat → Nat → Nat → Nat → Bool → Option (Nat × Nat)
  | 0, _, _, _, _, _ => none
  | n + 1, i, j, ci, cj, f =>
    match T[i + (j - i) / 2]? with
    | none => none
    | some e =>
      match inner (xs.drop (bif Nat.blt cj ci then cj else ci)) (e.1.drop (bif Nat.blt cj ci then cj else ci)) (bif Nat.blt cj ci then cj else ci) with
      | (true, cm) =>
        bif Nat.ble (i + (j - i) / 2) (i + 1) then
          (bif Nat.blt 0 i then some (i, ci) else bif Nat.beq (i + (j - i) / 2) i then some (i, ci) else bif f then some (i, ci) else outer T xs n i (i + (j - i) / 2) ci cm true)
        else outer T xs n i (i + (j - i) / 2) ci cm f
      | (false, cm) =>
        bif Nat.ble j (i + (j - i) / 2 + 1) then
          (bif Nat.blt 0 (i + (j - i) / 2) then some (i + (j - i) / 2, cm) else bif Nat.beq j (i + (j - i) / 2) then some (i + (j - i) / 2, cm) else bif f then some (i + (j - i) / 2, cm) else outer T xs n (i + (j - i) / 2) j cm cj true)
        else outer T xs n (i + (j - i) / 2) j cm cj f

noncomputable def climb (T : Tb) (ci : Nat) : Nat → Nat → Option (Nat × Int)
  | 0, _ => none
  | n + 1, i => match T[i]? with
    | none => none
    | some e => bif Nat.ble e.1.length ci then some (e.1.length, e.2.2) else
      match e.2.1 with
      | .negSucc _ => some (0, 0)
      | .ofNat k => climb T ci n k

noncomputable def look (T : Tb) (xs : List Nat) : Option (Nat × Int) :=
  match outer T xs 40 0 T.length 0 0 false with
  | none => none
  | some (i, ci) => climb T ci 40 i
end Mine
end

section
namespace Mine
noncomputable def P0 : Tb := [([98, 39], -1, 1), ([98, 104], -1, 4), ([98, 104, 102], 1, 2), ([98, 112], -1, 8), ([99, 104], -1, 5), ([100, 39], -1, 1), ([100, 39, 102, 104], 5, 2), ([100, 104], -1, 6), ([100, 116], -1, 9), ([102, 104], -1, 2), ([103, 99], -1, 5), ([103, 104], -1, 7), ([104, 45], -1, 1), ([109, 39], -1, 1), ([109, 98], -1, 4), ([109, 104], -1, 10), ([110, 45], -1, 1), ([110, 100], -1, 6), ([110, 103], -1, 7), ([112, 104], -1, 8), ([115, 104], -1, 3), ([116, 45], -1, 1), ([116, 104], -1, 9), ([116, 115], -1, 3)]
noncomputable def R1 : Tb := [([97, 116, 104, 99, 111, 237], -1, 1), ([97, 116, 104, 99, 111, 237, 97], 0, 1), ([101, 114, 105], -1, 2), ([101, 114, 105, 97], 2, 2), ([104, 98, 97], -1, 1), ([104, 98, 97, 101], 4, 1), ([104, 98, 105], -1, 1), ([104, 98, 105, 97], 6, 1), ([104, 109, 97], -1, 1), ([104, 109, 97, 101], 8, 1), ([104, 109, 105], -1, 1), ([104, 109, 105, 97], 10, 1), ([116, 104, 99, 111, 237], -1, 1), ([116, 104, 99, 111, 237, 97], 12, 1), ([237, 114, 105], -1, 2), ([237, 114, 105, 97], 14, 2)]
noncomputable def R2 : Tb := [([97, 104, 99, 97, 101, 100, 105, 243], -1, 6), ([97, 104, 99, 97, 116, 97, 112], -1, 5), ([97, 116, 104, 99, 97], -1, 1), ([97, 116, 104, 99, 97, 99, 114, 97], 2, 2), ([97, 116, 104, 99, 97, 101], 2, 1), ([97, 116, 104, 99, 111, 237, 97, 102, 97, 114, 103], -1, 4), ([101, 116, 105, 97, 112], -1, 5), ([104, 99, 97], -1, 1), ([104, 99, 97, 101], 7, 1), ([104, 99, 97, 101, 100, 105, 243], 8, 6), ([104, 99, 97, 101, 110, 105, 103], 8, 3), ([104, 99, 97, 116, 97, 112], 7, 5), ([104, 99, 111, 237, 97, 102, 97, 114, 103], -1, 4), ([104, 103, 105, 97, 116, 97, 112], -1, 5), ([104, 103, 105, 100, 105, 243], -1, 6), ([108, 105, 250, 116, 104, 99, 97], -1, 1), ([108, 105, 250, 116, 104, 99, 97, 101], 15, 1), ([115, 97, 101, 110, 105, 103], -1, 3), ([115, 105, 110, 105, 103], -1, 3), ([116, 104, 99, 97], -1, 1), ([116, 104, 99, 97, 99, 114, 97], 19, 2), ([116, 104, 99, 97, 101], 19, 1), ([116, 104, 99, 111, 237, 97, 102, 97, 114, 103], -1, 4), ([237, 97, 116, 104, 99, 97, 99, 114, 97], -1, 2), ([237, 97, 116, 104, 99, 111, 237, 97, 102, 97, 114, 103], -1, 4)]
noncomputable def R3 : Tb := [([100, 105, 109, 105], -1, 1), ([100, 105, 109, 105, 97], 0, 1), ([100, 105, 109, 237], -1, 1), ([100, 105, 109, 237, 97], 2, 1), ([104, 100, 97], -1, 2), ([104, 100, 97, 101], 4, 2), ([104, 100, 105, 97, 102], -1, 1), ([104, 100, 105, 102], -1, 1), ([108, 105, 225], -1, 2), ([110, 105, 97], -1, 2), ([114, 97, 101, 116], -1, 2), ([114, 97, 116], -1, 2)]
end Mine
end

section
namespace Mine
noncomputable def lChanged : List (List (List Nat)) := [[[98], [98, 104], [109, 98]], [[99], [99, 104], [103, 99]], [[100], [100, 104], [110, 100]], [[102], [102, 104], [98, 104, 102], [100, 39, 102, 104]], [[103], [103, 104], [110, 103]], [[109], [109, 104]], [[112], [112, 104], [98, 112]], [[115], [115, 104], [116, 115]], [[116], [116, 104], [100, 116]]]
noncomputable def lNouns : List (List Nat) := [[], [237, 111, 99, 104, 116, 97], [97, 237, 111, 99, 104, 116, 97], [105, 114, 101], [97, 105, 114, 101], [97, 98, 104], [101, 97, 98, 104], [105, 98, 104], [97, 105, 98, 104], [97, 109, 104], [101, 97, 109, 104], [105, 109, 104], [97, 105, 109, 104], [237, 111, 99, 104, 116], [97, 237, 111, 99, 104, 116], [105, 114, 237], [97, 105, 114, 237]]
noncomputable def lDeriving : List (List Nat) := [[], [97, 99, 104, 116, 97], [101, 97, 99, 104, 116, 97], [97, 99, 104], [101, 97, 99, 104], [97, 99, 104, 116, 250, 105, 108], [101, 97, 99, 104, 116, 250, 105, 108], [97, 99, 104, 116], [101, 97, 99, 104, 116]]
noncomputable def lVerbs : List (List Nat) := [[], [105, 109, 105, 100], [97, 105, 109, 105, 100], [237, 109, 105, 100], [97, 237, 109, 105, 100], [97, 100, 104], [101, 97, 100, 104], [102, 97, 105, 100, 104], [102, 105, 100, 104], [225, 105, 108], [97, 105, 110], [116, 101, 97, 114], [116, 97, 114]]
noncomputable def lLeaving : List (List Nat × List Nat) := [([243, 105, 100, 101, 97, 99, 104, 97], [243, 105, 100]), ([112, 97, 116, 97, 99, 104, 97], [112, 97, 105, 116, 101]), ([97, 114, 99, 97, 99, 104, 116, 97], [97, 114, 99]), ([103, 114, 97, 102, 97, 237, 111, 99, 104, 116, 97], [103, 114, 97, 102]), ([243, 105, 100, 101, 97, 99, 104], [243, 105, 100]), ([103, 105, 110, 101, 97, 99, 104], [103, 105, 110]), ([112, 97, 116, 97, 99, 104], [112, 97, 105, 116, 101]), ([103, 114, 97, 102, 97, 237, 111, 99, 104], [103, 114, 97, 102]), ([112, 97, 116, 97, 105, 103, 104], [112, 97, 105, 116, 101]), ([243, 105, 100, 105, 103, 104], [243, 105, 100]), ([103, 105, 110, 101, 97, 115], [103, 105, 110]), ([103, 105, 110, 105, 115], [103, 105, 110]), ([97, 114, 99, 97, 99, 104, 116], [97, 114, 99]), ([103, 114, 97, 102, 97, 237, 111, 99, 104, 116], [103, 114, 97, 102]), ([97, 114, 99, 97, 99, 104, 116, 97, 237], [97, 114, 99]), ([103, 114, 97, 102, 97, 237, 111, 99, 104, 116, 97, 237], [103, 114, 97, 102])]
noncomputable def lLetters : List Nat := [97, 98, 99, 100, 101, 102, 103, 104, 105, 106, 107, 108, 109, 110, 111, 112, 113, 114, 115, 116, 117, 118, 119, 120, 121, 122, 225, 233, 237, 243, 250, 39, 45]
noncomputable def lVowels : List Nat := [97, 101, 105, 111, 117, 225, 233, 237, 243, 250]
noncomputable def lSecond : List Nat := [97, 101, 105, 111, 117, 225, 233, 237, 243, 250, 108, 114, 110]
noncomputable def lOthers : List Nat := [98, 99, 100, 102, 103, 104, 106, 107, 108, 109, 110, 112, 113, 114, 115, 116, 118, 119, 120, 121, 122]
noncomputable def lLast : List Nat := [106, 107, 113, 118, 119, 120, 121, 122]
end Mine
end

section
namespace Mine
set_option maxRecDepth 100000
set_option linter.unusedVariables false
/-- the first place from a on where P holds -/
theorem first_of (P : Nat → Bool) : ∀ (d a : Nat), P (a + d) = true → ∃ k, a ≤ k ∧ k ≤ a + d ∧ P k = true ∧ ∀ j, a ≤ j → j < k → P j = false
  | 0, a, h => ⟨a, Nat.le_refl _, Nat.le_refl _, h, fun j h1 h2 => by omega⟩
  | d + 1, a, h => by
    cases e : P a with
    | true => exact ⟨a, Nat.le_refl _, by omega, e, fun j h1 h2 => by omega⟩
    | false =>
      obtain ⟨k, h1, h2, h3, h4⟩ := first_of P d (a + 1) (by rw [← h]; congr 1; omega)
      refine ⟨k, by omega, by omega, h3, fun j j1 j2 => ?_⟩
      rcases Nat.lt_or_ge a j with z | z
      · exact h4 j (by omega) j2
      · rw [show j = a by omega]; exact e

/-- a and b stand alike to all letters of ys -/
noncomputable def alike (a b : Nat) (ys : List Nat) : Bool := ys.all fun y => !(Nat.beq a y) && (!(Nat.beq b y) && (Nat.blt a y == Nat.blt b y))
inductive Sw (a b : Nat) : List Nat → List Nat → Prop
  | rfl (xs : List Nat) : Sw a b xs xs
  | mk (p t : List Nat) : Sw a b (p ++ a :: t) (p ++ b :: t)
theorem Sw.drop {a b : Nat} {xs ys : List Nat} (h : Sw a b xs ys) (k : Nat) : Sw a b (xs.drop k) (ys.drop k) := by
  cases h with
  | rfl => exact .rfl _
  | mk p t =>
    rcases Nat.lt_or_ge p.length k with z | z
    · have : ∀ q : Nat, (p ++ q :: t).drop k = t.drop (k - p.length - 1) := fun q => by
        rw [List.drop_append, List.drop_eq_nil_of_le (by omega), List.nil_append]
        obtain ⟨d, e⟩ : ∃ d, k - p.length = d + 1 := ⟨k - p.length - 1, by omega⟩
        rw [e]; rfl
      rw [this, this]
      exact .rfl _
    · rw [List.drop_append_of_le_length z, List.drop_append_of_le_length z]
      exact .mk _ _
theorem Sw.pre {a b : Nat} {xs ys : List Nat} (h : Sw a b xs ys) (q : List Nat) : Sw a b (q ++ xs) (q ++ ys) := by
  cases h with
  | rfl => exact .rfl _
  | mk p t => rw [← List.append_assoc, ← List.append_assoc]; exact .mk _ _
theorem inner_mk {a b : Nat} {t : List Nat} : ∀ (ys p : List Nat) (k : Nat), alike a b ys = true → inner (p ++ a :: t) ys k = inner (p ++ b :: t) ys k
  | [], p, k, h => by rw [inner_nil, inner_nil]
  | y :: ys, p, k, h => by
    unfold alike at h
    rw [List.all_cons, Bool.and_eq_true] at h
    obtain ⟨h1, h2⟩ := h
    cases p with
    | nil =>
      rw [Bool.and_eq_true, Bool.and_eq_true] at h1
      obtain ⟨z1, z2, z3⟩ := h1
      show (bif Nat.beq a y then inner t ys (k + 1) else (Nat.blt a y, k)) = (bif Nat.beq b y then inner t ys (k + 1) else (Nat.blt b y, k))
      rw [show Nat.beq a y = false by simpa using z1, show Nat.beq b y = false by simpa using z2, show Nat.blt a y = Nat.blt b y by simpa using z3]
    | cons x p =>
      show (bif Nat.beq x y then inner (p ++ a :: t) ys (k + 1) else (Nat.blt x y, k)) = (bif Nat.beq x y then inner (p ++ b :: t) ys (k + 1) else (Nat.blt x y, k))
      rw [inner_mk ys p (k + 1) h2]
theorem inner_sw {a b : Nat} {xs xs' ys : List Nat} {k : Nat} (h : Sw a b xs xs') (hy : alike a b ys = true) : inner xs ys k = inner xs' ys k := by
  cases h with
  | rfl => rfl
  | mk p t => exact inner_mk _ _ _ hy
theorem alike_drop {a b : Nat} {ys : List Nat} (h : alike a b ys = true) (k : Nat) : alike a b (ys.drop k) = true := by
  unfold alike at *
  rw [List.all_eq_true] at *
  exact fun x hx => h x (List.mem_of_mem_drop hx)
noncomputable def alikeT (a b : Nat) (T : Tb) : Bool := T.all fun e => alike a b e.1
theorem outer_sw {a b : Nat} {T : Tb} {xs xs' : List Nat} (h : Sw a b xs xs') (hT : alikeT a b T = true) : ∀ (n i j ci cj : Nat) (f : Bool), outer T xs n i j ci cj f = outer T xs' n i j ci cj f
  | 0, i, j, ci, cj, f => rfl
  | n + 1, i, j, ci, cj, f => by
    unfold outer
    cases e : T[i + (j - i) / 2]? with
    | none => rfl
    | some e' =>
      have he : alike a b e'.1 = true := List.all_eq_true.mp hT e' (List.mem_of_getElem? e)
      dsimp only
      rw [inner_sw (h.drop _) (alike_drop he _)]
      split
      · rw [outer_sw h hT n, outer_sw h hT n]
      · rw [outer_sw h hT n, outer_sw h hT n]
theorem look_sw {a b : Nat} {T : Tb} {xs xs' : List Nat} (h : Sw a b xs xs') (hT : alikeT a b T = true) : look T xs = look T xs' := by
  unfold look
  rw [outer_sw h hT]

/-- how many letters go, and the row's answer -/
noncomputable def stepR (T : Tb) (xs : List Nat) (most : Nat) : Option (Nat × Nat) :=
  match look T xs with
  | some (m, .ofNat q) => bif Nat.ble m most then some (bif Nat.beq q 0 then 0 else m, q) else none
  | _ => none
theorem stepR_of {T : Tb} {xs : List Nat} {most a q : Nat} (h : stepR T xs most = some (a, q)) :
    ∃ m, look T xs = some (m, (q : Int)) ∧ m ≤ most ∧ a = (if q = 0 then 0 else m) := by
  unfold stepR at h
  split at h
  · rename_i m r e
    cases e2 : Nat.ble m most with
    | false => rw [e2] at h; cases h
    | true =>
      rw [e2, cond_true] at h
      have h := Option.some.inj h
      have h2 : r = q := congrArg Prod.snd h
      have h1 := congrArg Prod.fst h
      dsimp only at h1
      subst h2
      refine ⟨m, e, Nat.ble_eq.mp e2, ?_⟩
      rw [← h1]
      cases e3 : Nat.beq r 0 with
      | true => rw [cond_true, if_pos (Nat.eq_of_beq_eq_true e3)]
      | false => rw [cond_false, if_neg (fun z => by rw [z] at e3; cases e3)]
  · cases h
theorem stepR_sw {a b : Nat} {T : Tb} {xs xs' : List Nat} {most : Nat} (h : Sw a b xs xs') (hT : alikeT a b T = true) : stepR T xs most = stepR T xs' most := by
  unfold stepR; rw [look_sw h hT]

noncomputable def lefts : List (List Nat) := [[], [], [97, 114, 99], [103, 105, 110], [103, 114, 97, 102], [112, 97, 105, 116, 101], [243, 105, 100]]
/-- the three removals from the end e: left stays -/
noncomputable def chk (e z left : List Nat) : Bool :=
  match stepR R1 (e.reverse ++ z) e.length with
  | none => false
  | some (m1, _) => match stepR R2 ((e.reverse ++ z).drop m1) (e.length - m1) with
    | none => false
    | some (m2, r2) => bif Nat.ble r2 1 then (match stepR R3 ((e.reverse ++ z).drop (m1 + m2)) (e.length - m1 - m2) with
      | none => false
      | some (m3, _) => e.reverse.drop (m1 + m2 + m3) == left.reverse)
      else bif Nat.beq (m1 + m2) e.length && (Nat.ble r2 6 && (lefts.getD r2 [] == left)) then (match stepR R3 (left.reverse ++ z) 0 with
        | none => false
        | some (m3, r3) => Nat.beq r3 0) else false
theorem chk_sw {a b : Nat} {e t left : List Nat} (h1 : alikeT a b R1 = true) (h2 : alikeT a b R2 = true) (h3 : alikeT a b R3 = true) : chk e (a :: t) left = chk e (b :: t) left := by
  have h : Sw a b (e.reverse ++ a :: t) (e.reverse ++ b :: t) := .mk _ _
  have h' : Sw a b (left.reverse ++ a :: t) (left.reverse ++ b :: t) := .mk _ _
  unfold chk
  rw [stepR_sw h h1]
  split
  · rfl
  · rw [stepR_sw (h.drop _) h2]
    split
    · rfl
    · rw [stepR_sw (h.drop _) h3, stepR_sw h' h3]

/-- from the end of w goes so much that w' is left -/
noncomputable def okR (T : Tb) (lim : Nat) (w w' z : List Nat) : Bool :=
  match stepR T (w.reverse ++ z) w.length with
  | none => false
  | some (m, q) => Nat.ble q lim && w.take (w.length - m) == w'
theorem okR_of {T : Tb} {lim : Nat} {w w' z : List Nat} (h : okR T lim w w' z = true) : ∃ m q, stepR T (w.reverse ++ z) w.length = some (m, q) ∧ m ≤ w.length ∧ q ≤ lim ∧ w.take (w.length - m) = w' := by
  unfold okR at h
  split at h
  · cases h
  · rename_i m q e
    rw [Bool.and_eq_true] at h
    obtain ⟨m0, f1, f2, f3⟩ := stepR_of e
    refine ⟨m, q, e, by rw [f3]; split <;> omega, Nat.le_of_ble_eq_true h.1, beq_iff_eq.mp h.2⟩
theorem okR_sw {a b : Nat} {T : Tb} {lim : Nat} {w w' t : List Nat} (hT : alikeT a b T = true) : okR T lim w w' (a :: t) = okR T lim w w' (b :: t) := by
  unfold okR; rw [stepR_sw (.mk _ _) hT]
theorem stepR_mono {T : Tb} {xs : List Nat} {k n a q : Nat} (h : stepR T xs k = some (a, q)) (hk : k ≤ n) : stepR T xs n = some (a, q) := by
  unfold stepR at *
  split at h
  · cases e : Nat.ble _ k with
    | false => rw [e] at h; cases h
    | true =>
      rw [e] at h
      rw [Nat.ble_eq.mpr (Nat.le_trans (Nat.le_of_ble_eq_true e) hk)]
      exact h
  · cases h
theorem cut_rev {e e1 z : List Nat} {m : Nat} (hm : m ≤ e.length) (h : e.take (e.length - m) = e1) : (e.reverse ++ z).drop m = e1.reverse ++ z ∧ e.length - m = e1.length := by
  subst h
  rw [List.drop_append_of_le_length (by rw [List.length_reverse]; exact hm), List.drop_reverse, List.length_take]
  exact ⟨rfl, by omega⟩
theorem chk_of {e e1 e2 z : List Nat} {m1 q1 : Nat} (h1 : stepR R1 (e.reverse ++ z) e.length = some (m1, q1)) (hm : m1 ≤ e.length) (he : e.take (e.length - m1) = e1) (h2 : okR R2 1 e1 e2 z = true) (h3 : okR R3 9 e2 [] z = true) : chk e z [] = true := by
  obtain ⟨m2, q2, f1, f2, f3, f4⟩ := okR_of h2
  obtain ⟨m3, q3, g1, g2, g3, g4⟩ := okR_of h3
  obtain ⟨a1, a2⟩ := cut_rev (z := z) hm he
  obtain ⟨b1, b2⟩ := cut_rev (z := z) f2 f4
  have hd : (e.reverse ++ z).drop (m1 + m2) = e2.reverse ++ z := by rw [← List.drop_drop, a1, b1]
  have hl : e.length - m1 - m2 = e2.length := by rw [a2, b2]
  unfold chk
  rw [h1]
  dsimp only
  rw [a1, a2, f1]
  dsimp only
  rw [Nat.ble_eq.mpr f3, cond_true, hd, b2, g1]
  dsimp only
  have h0 : e2.length - m3 = 0 := by
    have := congrArg List.length g4
    rw [List.length_take] at this
    have : min (e2.length - m3) e2.length = 0 := this
    omega
  rw [List.drop_of_length_le (by rw [List.length_reverse]; omega)]
  rfl

noncomputable def repr (a : Nat) : Nat := bif Nat.blt a 110 then 106 else bif Nat.blt a 116 then 113 else 118
theorem repr_ok : (lLast.all fun a => (Nat.beq (repr a) 106 || Nat.beq (repr a) 113 || Nat.beq (repr a) 118) && alikeT a (repr a) R1 && alikeT a (repr a) R2 && alikeT a (repr a) R3) = true := by kernel_rfl
/-- a noun's ending behind a deriving one, whatever stands ahead -/
noncomputable def ckA (y : List Nat) : Bool := lNouns.all fun n => lDeriving.all fun d => d.isEmpty || match stepR R1 ((d ++ n).reverse ++ y) (d ++ n).length with
  | none => false
  | some (m, _) => lDeriving.contains ((d ++ n).take ((d ++ n).length - m))
theorem ckA_ok (y : List Nat) : ckA y = true := by kernel_rfl
noncomputable def ckB (z : List Nat) : Bool := (lVerbs.all fun v => (lNouns.all fun n => okR R1 9 (v ++ n) v z) && (lDeriving.all fun d => okR R2 1 (v ++ d) v z) && okR R3 9 v [] z)
noncomputable def chkL (z : List Nat) : Bool := lNouns.all fun n => lLeaving.all fun p => chk (p.1 ++ n) z p.2
theorem ckB1 (t : List Nat) : ckB (106 :: t) = true := by kernel_rfl
theorem ckB2 (t : List Nat) : ckB (113 :: t) = true := by kernel_rfl
theorem ckB3 (t : List Nat) : ckB (118 :: t) = true := by kernel_rfl
theorem chkL1 (t : List Nat) : chkL (106 :: t) = true := by kernel_rfl
theorem chkL2 (t : List Nat) : chkL (113 :: t) = true := by kernel_rfl
theorem chkL3 (t : List Nat) : chkL (118 :: t) = true := by kernel_rfl
theorem ckB_use {z : List Nat} (h : ckB z = true) : ∀ v ∈ lVerbs, (∀ n ∈ lNouns, okR R1 9 (v ++ n) v z = true) ∧ (∀ d ∈ lDeriving, okR R2 1 (v ++ d) v z = true) ∧ okR R3 9 v [] z = true := by
  intro v hv
  have := List.all_eq_true.mp h v hv
  rw [Bool.and_eq_true, Bool.and_eq_true] at this
  exact ⟨List.all_eq_true.mp this.1.1, List.all_eq_true.mp this.1.2, this.2⟩
theorem chkE_of {z : List Nat} (h : ∀ v ∈ lVerbs, (∀ n ∈ lNouns, okR R1 9 (v ++ n) v z = true) ∧ (∀ d ∈ lDeriving, okR R2 1 (v ++ d) v z = true) ∧ okR R3 9 v [] z = true) {n d v : List Nat} (hn : n ∈ lNouns) (hd : d ∈ lDeriving) (hv : v ∈ lVerbs) : chk (v ++ d ++ n) z [] = true := by
  obtain ⟨h1, h2, h3⟩ := h v hv
  by_cases he : d = []
  · subst he
    rw [List.append_nil]
    obtain ⟨m, q, f1, f2, f3, f4⟩ := okR_of (h1 n hn)
    have := h2 [] hd
    rw [List.append_nil] at this
    exact chk_of f1 f2 f4 this h3
  · have hA := List.all_eq_true.mp (List.all_eq_true.mp (ckA_ok (v.reverse ++ z)) n hn) d hd
    rw [Bool.or_eq_true] at hA
    have hA := hA.resolve_left (fun q => he (List.isEmpty_iff.mp q))
    split at hA
    · cases hA
    · rename_i m q e
      obtain ⟨m0, f1, f2, f3⟩ := stepR_of e
      have hm : m ≤ (d ++ n).length := by rw [f3]; split <;> omega
      have hc := List.contains_iff_mem.mp hA
      have e' : (v ++ d ++ n).reverse ++ z = (d ++ n).reverse ++ (v.reverse ++ z) := by rw [List.append_assoc v, List.reverse_append, List.append_assoc]
      have hl : (v ++ d ++ n).length = v.length + (d ++ n).length := by rw [List.append_assoc, List.length_append]
      refine chk_of (m1 := m) (q1 := q) (e1 := v ++ (d ++ n).take ((d ++ n).length - m)) (e2 := v) ?_ ?_ ?_ (h2 _ hc) h3
      · rw [e']
        exact stepR_mono e (by rw [hl]; exact Nat.le_add_left _ _)
      · rw [hl]; exact Nat.le_trans hm (Nat.le_add_left _ _)
      · rw [hl, List.append_assoc, show v.length + (d ++ n).length - m = v.length + ((d ++ n).length - m) by omega, List.take_length_add_append]
theorem chk_all {a : Nat} (ha : a ∈ lLast) (t : List Nat) : (∀ n ∈ lNouns, ∀ d ∈ lDeriving, ∀ v ∈ lVerbs, chk (v ++ d ++ n) (a :: t) [] = true) ∧
    (∀ n ∈ lNouns, ∀ p ∈ lLeaving, chk (p.1 ++ n) (a :: t) p.2 = true) := by
  have h := List.all_eq_true.mp repr_ok a ha
  simp only [Bool.and_eq_true, Bool.or_eq_true, Nat.beq_eq] at h
  obtain ⟨⟨⟨h0, h1⟩, h2⟩, h3⟩ := h
  have hB : ckB (repr a :: t) = true := by
    rcases h0 with (h0 | h0) | h0 <;> rw [h0]
    · exact ckB1 t
    · exact ckB2 t
    · exact ckB3 t
  have hL : chkL (repr a :: t) = true := by
    rcases h0 with (h0 | h0) | h0 <;> rw [h0]
    · exact chkL1 t
    · exact chkL2 t
    · exact chkL3 t
  refine ⟨fun n hn d hd v hv => chkE_of (fun v hv => ?_) hn hd hv, fun n hn p hp => ?_⟩
  · obtain ⟨x1, x2, x3⟩ := ckB_use hB v hv
    exact ⟨fun n hn => by rw [okR_sw h1]; exact x1 n hn, fun d hd => by rw [okR_sw h2]; exact x2 d hd, by rw [okR_sw h3]; exact x3⟩
  · rw [chk_sw h1 h2 h3]
    exact List.all_eq_true.mp (List.all_eq_true.mp hL n hn) p hp
end Mine
end

section
open PySem PySem.W PySem.Calls PyProof.Rows
set_option Elab.async false
set_option maxRecDepth 100000
set_option linter.unusedVariables false
namespace Mine
noncomputable abbrev PL' := List (PySem.Str × PV)
theorem len6 {l : PL'} {n : Nat} (h : List.length l ≤ 20) (hn : Nat.ble 26 n = true := by rfl) : List.length l + 6 ≤ n := Nat.le_trans (Nat.add_le_add_right h 6) (Nat.le_of_ble_eq_true hn)
theorem dle {d K k n : Nat} (h : d + K ≤ n) (hk : Nat.ble k K = true := by rfl) : d + k ≤ n := Nat.le_trans (Nat.add_le_add_left (Nat.le_of_ble_eq_true hk) d) h

local macro_rules | `(tactic| walk_at "v") => `(tactic| first
  | refine wx_cons ?_
  | refine wx_nil ?_
  | refine w1_ret ?_
  | refine w1_pass ?_
  | refine w1_break ?_
  | refine w1_assert ?_
  | refine w1_expr ?_
  | refine w1_if ?_
  | refine w1_try ?_
  | refine w1_assign (by kernel_rfl) (by kernel_rfl) ?_
  | refine w1_selfset (by kernel_rfl) (by kernel_rfl) (by kernel_rfl) ?_
  | refine w1_aug (by kernel_rfl) (by kernel_rfl) (by rfl) ?_
  | refine w1_selfaug (by kernel_rfl) (by kernel_rfl) (by rfl) (by kernel_rfl) (by rfl) (by rfl) (by rfl) ?_
  | refine we_cint ?_
  | refine we_cstr ?_
  | refine we_cbool ?_
  | refine we_cnone ?_
  | refine we_bin ?_
  | refine we_cmp ?_
  | refine wb_cmp ?_
  | refine wb_not ?_
  | refine we_ifexp ?_
  | refine we_name (by kernel_rfl) (by kernel_rfl) (by rfl) ?_
  | refine we_self (by kernel_rfl) (by kernel_rfl) (by rfl) (by rfl) (by kernel_rfl) (by rfl) (by rfl) ?_
  | refine bin_add ?_
  | refine bin_sub ?_
  | refine iop_add ?_
  | refine cmp_le ?_
  | refine cmp_lt ?_
  | refine cmp_ge ?_
  | refine cmp_gt ?_
  | refine cmp_eq ?_
  | refine cmp_ne ?_
  | refine ⟨by rfl, _, rfl, Nat.le_trans (Nat.le_of_eq (m := List.length (‹PL'› : PL') + 6) (by kernel_rfl)) (by first | exact len6 (by assumption) | omega), ?_⟩
  | refine ⟨_, rfl, Nat.le_trans (Nat.le_of_eq (m := List.length (‹PL'› : PL') + 6) (by kernel_rfl)) (by first | exact len6 (by assumption) | omega), ?_⟩
  | refine ⟨by rfl, _, rfl, Nat.le_of_ble_eq_true (by kernel_rfl), ?_⟩
  | refine ⟨_, rfl, Nat.le_of_ble_eq_true (by kernel_rfl), ?_⟩
  | refine we_len (by kernel_rfl) (by kernel_rfl) (by kernel_rfl) (by kernel_rfl) ?_
  | refine we_min (by kernel_rfl) (by kernel_rfl) (by kernel_rfl) (by kernel_rfl) ?_
  | refine we_ord (by kernel_rfl) (by kernel_rfl) (by kernel_rfl) (by kernel_rfl) ?_
  | refine we_abs (by kernel_rfl) (by kernel_rfl) (by kernel_rfl) (by kernel_rfl) ?_
  | refine we_chr (by kernel_rfl) (by kernel_rfl) (by kernel_rfl) (by kernel_rfl) ?_
  | refine bui_len_str (by assumption) ?_
  | refine bui_min ?_
  | refine bui_ord ?_
  | refine wa_cons ?_
  | refine wa_nil ?_)

section
local macro_rules | `(tactic| walk_at "v") => `(tactic| first
  | refine we_sub ?_
  | fail)
variable {c : Cx} {fd : FuncData} {S : St}


/-- the stemmer's fields -/
noncomputable abbrev flds (cur : List Nat) (c l lb br ke : Int) (r : PL') : PL' := (nCur, .str cur) :: (nC, .int c) :: (nL, .int l) :: (nLb, .int lb) :: (nBr, .int br) :: (nKe, .int ke) :: r
noncomputable abbrev regs (v p q : Int) : PL' := [(nPV, .int v), (nP1, .int p), (nP2, .int q)]






theorem sp_R1 (w : World) (cur c l lb br ke v p q) : Spec w fd251 (nmOf (cb 6 6)) (stBody (cb 6 6)) 1 (fun a => [.ref a]) (some (flds cur c l lb br ke (regs v p q))) (fun r f => r = .bool (decide (p ≤ c)) ∧ f = some (flds cur c l lb br ke (regs v p q))) := by
  intro cx hw hd
  repeat' walk_at "v"
  exact ⟨rfl, rfl⟩
theorem sp_R2 (w : World) (cur c l lb br ke v p q) : Spec w fd258 (nmOf (cb 6 7)) (stBody (cb 6 7)) 1 (fun a => [.ref a]) (some (flds cur c l lb br ke (regs v p q))) (fun r f => r = .bool (decide (q ≤ c)) ∧ f = some (flds cur c l lb br ke (regs v p q))) := by
  intro cx hw hd
  repeat' walk_at "v"
  exact ⟨rfl, rfl⟩
theorem sp_get (w : World) (cur c l lb br ke r) : Spec w fd49 (nmOf (cb 2 2)) (stBody (cb 2 2)) 1 (fun a => [.ref a]) (some (flds cur c l lb br ke r)) (fun p f => p = .str cur ∧ f = some (flds cur c l lb br ke r)) := by
  intro cx hw hd
  repeat' walk_at "v"
  exact ⟨rfl, rfl⟩
theorem sp_set (w : World) (cur c l lb br ke v p q) (x : List Nat) (hx : x.length ≤ 1000000) : Spec w fd42 (nmOf (cb 2 1)) (stBody (cb 2 1)) 1 (fun a => [.ref a, .str x]) (some (flds cur c l lb br ke (regs v p q))) (fun r f => r = .none ∧ f = some (flds x 0 x.length 0 0 x.length (regs v p q))) := by
  intro cx hw hd
  repeat' walk_at "v"
  exact ⟨rfl, rfl⟩
theorem sp_set0 (w : World) (x : List Nat) (hx : x.length ≤ 1000000) : Spec w fd42 (nmOf (cb 2 1)) (stBody (cb 2 1)) 1 (fun a => [.ref a, .str x]) (some []) (fun r f => r = .none ∧ f = some (flds x 0 x.length 0 0 x.length [])) := by
  intro cx hw hd
  repeat' walk_at "v"
  exact ⟨rfl, rfl⟩
end

section
variable {c : Cx} {fd : FuncData} {S : St}





noncomputable def vow (n : Nat) : Bool := isV ⟨⟨[n]⟩⟩

theorem sp_goOut (w : World) (cur : List Nat) (c k : Nat) (l lb br ke : Int) (r : PL') (hr : List.length r ≤ 20) (hl : cur.length ≤ 1000000) (hlim : l = (cur.length : Int)) (hck : c ≤ k) (hk : k < cur.length) (hv : vow (cur.getD k 0) = true) (hno : ∀ j, c ≤ j → j < k → vow (cur.getD j 0) = false) :
    Spec w fd98 (nmOf (cb 2 9)) (stBody (cb 2 9)) 1 (fun a => [.ref a, .ref 230]) (some (flds cur c l lb br ke r)) (fun p f => p = .bool true ∧ f = some (flds cur k l lb br ke r)) := by
  intro cx hw hd
  refine wx_cons ?_
  refine w1_while (fun n S => ∃ c' : Nat, c ≤ c' ∧ c' ≤ k ∧ n = k - c' ∧ S = ⟨((nmOf (cb 2 9)).zip [.ref cx.x, .ref 230]).reverse, some (flds cur c' l lb br ke r)⟩) ?_ (k - c) ⟨c, Nat.le_refl _, hck, rfl, rfl⟩
  rintro n S ⟨c', h1, h2, rfl, rfl⟩
  have hc' : c' < cur.length := by omega
  have e1 : cur[(c' : Int).toNat]? = some (cur.getD c' 0) := by
    rw [Int.toNat_natCast, List.getElem?_eq_getElem hc', List.getD_eq_getElem?_getD, List.getElem?_eq_getElem hc', Option.getD_some]
  repeat' walk_at "v"
  rw [hlim, decide_eq_true (by omega), if_pos rfl]
  repeat' walk_at "v"
  refine we_sub ?_
  repeat' walk_at "v"
  refine get_str (by omega) hl e1 ?_
  repeat' walk_at "v"
  refine cmp_in ?_
  by_cases hkc : c' = k
  · subst hkc
    rw [show isV ⟨⟨[cur.getD c' 0]⟩⟩ = true from hv, if_pos rfl]
    repeat' walk_at "v"
    exact ⟨rfl, rfl⟩
  · rw [show isV ⟨⟨[cur.getD c' 0]⟩⟩ = false from hno c' h1 (by omega), if_neg (by decide)]
    repeat' walk_at "v"
    exact ⟨k - (c' + 1), by omega, c' + 1, by omega, by omega, rfl, by push_cast; rfl⟩
theorem sp_goIn (w : World) (cur : List Nat) (c k : Nat) (l lb br ke : Int) (r : PL') (hr : List.length r ≤ 20) (hl : cur.length ≤ 1000000) (hlim : l = (cur.length : Int)) (hck : c ≤ k) (hk : k < cur.length) (hv : vow (cur.getD k 0) = false) (hno : ∀ j, c ≤ j → j < k → vow (cur.getD j 0) = true) :
    Spec w fd70 (nmOf (cb 2 5)) (stBody (cb 2 5)) 1 (fun a => [.ref a, .ref 230]) (some (flds cur c l lb br ke r)) (fun p f => p = .bool true ∧ f = some (flds cur k l lb br ke r)) := by
  intro cx hw hd
  refine wx_cons ?_
  refine w1_while (fun n S => ∃ c' : Nat, c ≤ c' ∧ c' ≤ k ∧ n = k - c' ∧ S = ⟨((nmOf (cb 2 5)).zip [.ref cx.x, .ref 230]).reverse, some (flds cur c' l lb br ke r)⟩) ?_ (k - c) ⟨c, Nat.le_refl _, hck, rfl, rfl⟩
  rintro n S ⟨c', h1, h2, rfl, rfl⟩
  have hc' : c' < cur.length := by omega
  have e1 : cur[(c' : Int).toNat]? = some (cur.getD c' 0) := by
    rw [Int.toNat_natCast, List.getElem?_eq_getElem hc', List.getD_eq_getElem?_getD, List.getElem?_eq_getElem hc', Option.getD_some]
  repeat' walk_at "v"
  rw [hlim, decide_eq_true (by omega), if_pos rfl]
  repeat' walk_at "v"
  refine we_sub ?_
  repeat' walk_at "v"
  refine get_str (by omega) hl e1 ?_
  repeat' walk_at "v"
  refine cmp_notin ?_
  by_cases hkc : c' = k
  · subst hkc
    rw [show isV ⟨⟨[cur.getD c' 0]⟩⟩ = false from hv, if_pos (by decide)]
    repeat' walk_at "v"
    exact ⟨rfl, rfl⟩
  · rw [show isV ⟨⟨[cur.getD c' 0]⟩⟩ = true from hno c' h1 (by omega), if_neg (by decide)]
    repeat' walk_at "v"
    exact ⟨k - (c' + 1), by omega, c' + 1, by omega, by omega, rfl, by push_cast; rfl⟩

/-- the cursor behind replace_s -/
noncomputable def newC (c b k adj : Int) : Int := if c ≥ k then c + adj else if c > b then b else c

theorem sp_repl (w : World) (cur s : List Nat) (c l lb br ke b k : Int) (r : PL') (hr : List.length r ≤ 20) (hl : cur.length ≤ 1000) (hs : s.length ≤ 1000) (h0 : 0 ≤ b) (h1 : b ≤ k) (h2 : k ≤ cur.length) :
    Spec w fd147 (nmOf (cb 2 16)) (stBody (cb 2 16)) 1 (fun a => [.ref a, .int b, .int k, .str s]) (some (flds cur c l lb br ke r))
      (fun p f => p = .int (s.length - (k - b)) ∧ f = some (flds (cur.take b.toNat ++ s ++ cur.drop k.toNat) (newC c b k (s.length - (k - b))) (l + (s.length - (k - b))) lb br ke r)) := by
  intro cx hw hd
  have hs' : s.length ≤ 1000000 := by omega
  repeat' walk_at "v"
  refine we_slice ?_
  repeat' walk_at "v"
  refine ⟨_, _, _, rfl, rfl, rfl, by omega, by omega, by omega, by omega, ?_⟩
  repeat' walk_at "v"
  refine bin_adds ?_ (by show (List.length _) + (List.length _) ≤ _; rw [List.length_take, sizeLine_eq]; omega)
  refine we_slice_from ?_
  repeat' walk_at "v"
  refine ⟨_, _, rfl, rfl, by omega, by omega, by omega, ?_⟩
  refine bin_adds ?_ (by show (List.length _) + (List.length _) ≤ _; simp only [List.length_append, List.length_take, List.length_drop, sizeLine_eq]; omega)
  repeat' walk_at "v"
  have e : List.take (b - 0).toNat (List.drop (0 : Int).toNat cur) = cur.take b.toNat := by simp
  rw [e]
  by_cases q : c ≥ k
  · rw [decide_eq_true q, if_pos rfl]
    repeat' walk_at "v"
    refine ⟨rfl, ?_⟩
    show some _ = some _
    unfold newC
    rw [if_pos q]; rfl
  · rw [decide_eq_false q, if_neg (by decide)]
    repeat' walk_at "v"
    by_cases q' : c > b
    · rw [decide_eq_true q', if_pos rfl]
      repeat' walk_at "v"
      refine ⟨rfl, ?_⟩
      show some _ = some _
      unfold newC
      rw [if_neg q, if_pos q']; rfl
    · rw [decide_eq_false q', if_neg (by decide)]
      repeat' walk_at "v"
      refine ⟨rfl, ?_⟩
      show some _ = some _
      unfold newC
      rw [if_neg q, if_neg q']; rfl
/-- no method's name among the further fields -/
noncomputable abbrev RGok (r : PL') : Prop := ∀ n, isF n = false → lk r n = .none
theorem lkfl {f r : PL'} {n : PySem.Str} (hn : RGok r) (h : lk f n = lk r n) (hi : isF n = false) : lk f n = .none := h.trans (hn n hi)
theorem sp_slfrom (w : World) (cur s : List Nat) (c l lb br ke : Int) (r : PL') (hr : List.length r ≤ 20) (hn : RGok r) (hl : cur.length ≤ 1000) (hs : s.length ≤ 1000) (h0 : 0 ≤ br) (h1 : br ≤ ke) (h2 : ke ≤ l) (h3 : l ≤ cur.length) :
    Spec w fd154 (nmOf (cb 2 17)) (stBody (cb 2 17)) 2 (fun a => [.ref a, .str s]) (some (flds cur c l lb br ke r))
      (fun p f => p = .none ∧ f = some (flds (cur.take br.toNat ++ s ++ cur.drop ke.toNat) (newC c br ke (s.length - (ke - br))) (l + (s.length - (ke - br))) lb br (br + s.length) r)) := by
  intro cx hw hd
  have hs' : s.length ≤ 1000000 := by omega
  have hl' : cur.length ≤ 1000000 := by omega
  subst hw
  repeat' walk_at "v"
  refine ⟨decide_eq_true h0, ?_⟩
  repeat' walk_at "v"
  refine ⟨decide_eq_true h1, ?_⟩
  repeat' walk_at "v"
  refine ⟨decide_eq_true h2, ?_⟩
  repeat' walk_at "v"
  refine ⟨decide_eq_true h3, ?_⟩
  repeat' walk_at "v"
  refine we_meth (fn147 _ _ _ _) (me147 _ _ _ _) (by kernel_rfl) (by kernel_rfl) (by rfl) (by rfl) ?_ (k := 1) (by first | exact dle (by assumption) | omega) ?_ _ (by intros; rfl)
  · exact lkfl hn (by kernel_rfl) (by kernel_rfl)
  repeat' walk_at "v"
  refine ⟨by kernel_rfl, ?_⟩
  refine (sp_repl _ cur s c l lb br ke br ke r hr hl hs h0 h1 (by omega)).mono ?_
  rintro p f ⟨rfl, rfl⟩
  refine ⟨rfl, ?_⟩
  repeat' walk_at "v"
  exact ⟨rfl, rfl⟩

theorem sp_sldel (w : World) (cur : List Nat) (c l lb br ke : Int) (r : PL') (hr : List.length r ≤ 20) (hn : RGok r) (hl : cur.length ≤ 1000) (h0 : 0 ≤ br) (h1 : br ≤ ke) (h2 : ke ≤ l) (h3 : l ≤ cur.length) :
    Spec w fd161 (nmOf (cb 2 18)) (stBody (cb 2 18)) 3 (fun a => [.ref a]) (some (flds cur c l lb br ke r))
      (fun p f => p = .none ∧ f = some (flds (cur.take br.toNat ++ cur.drop ke.toNat) (newC c br ke (0 - (ke - br))) (l + (0 - (ke - br))) lb br br r)) := by
  intro cx hw hd
  subst hw
  repeat' walk_at "v"
  refine we_meth (fn154 _ _ _ _) (me154 _ _ _ _) (by kernel_rfl) (by kernel_rfl) (by rfl) (by rfl) ?_ (k := 2) (by first | exact dle (by assumption) | omega) ?_ _ (by intros; rfl)
  · exact lkfl hn (by kernel_rfl) (by kernel_rfl)
  repeat' walk_at "v"
  refine ⟨by kernel_rfl, ?_⟩
  refine (sp_slfrom _ cur [] c l lb br ke r hr hn hl (by decide) h0 h1 (by omega) h3).mono ?_
  rintro p f ⟨rfl, rfl⟩
  refine ⟨rfl, ?_⟩
  show some _ = some _
  rw [List.append_nil, show br + (([] : List Nat).length : Int) = br by simp]
  rfl
end

local macro_rules | `(tactic| walk_at "v") => `(tactic| first
  | refine we_sub ?_
  | fail)

section
variable {c : Cx} {fd : FuncData} {S : St}





noncomputable def Sub (l' l : PL') : Prop := ∀ n p, lk l' n = some p → lk l n = some p
noncomputable def SubL : PL' → PL' → Prop
  | [], _ => True
  | (n, p) :: r, l => lk l n = some p ∧ SubL r l
theorem Sub.of : ∀ {l' l : PL'}, SubL l' l → Sub l' l
  | [], l, _, n, p, e => by cases e
  | (m, q) :: r, l, ⟨h1, h2⟩, n, p, e => by
    rw [lk_cons] at e
    by_cases hm : m = n
    · rw [if_pos hm] at e; cases e; exact hm ▸ h1
    · rw [if_neg hm] at e; exact Sub.of h2 n p e
theorem Sub.cons {l' l : PL'} (h : Sub l' l) (x : PySem.Str) (v : PV) : Sub ((x, v) :: l') ((x, v) :: l) := by
  intro n p e
  rw [lk_cons] at e ⊢
  by_cases hm : x = n
  · rw [if_pos hm] at e ⊢; exact e
  · rw [if_neg hm] at e ⊢; exact h n p e
theorem Sub.trans {a b d : PL'} (h : Sub a b) (k : Sub b d) : Sub a d := fun n p e => k n p (h n p e)
theorem Rel.weak {l' : PL'} {s : Shared} (r : Rel c S s) (h : Sub l' S.loc) : Rel c ⟨l', S.fld⟩ s := by
  obtain ⟨m, hm, hv⟩ := r.loc
  exact ⟨r.keepB, r.BL, ⟨m, hm, fun n p e => hv n p (h n p e)⟩, r.inst⟩
theorem wx_weak {l' : PL'} {b Q} (h : Sub l' S.loc) (w : WX c fd ⟨l', S.fld⟩ b Q) : WX c fd S b Q := ⟨fun s r ok => w.run s (r.weak h) ok⟩
theorem wb_weak {l' : PL'} {b Q} (h : Sub l' S.loc) (w : WB c fd ⟨l', S.fld⟩ b Q) : WB c fd S b Q := ⟨fun s r ok => w.run s (r.weak h) ok⟩

noncomputable abbrev v_self : PySem.Str := ⟨⟨[115, 101, 108, 102]⟩⟩
noncomputable abbrev v_v : PySem.Str := ⟨⟨[118]⟩⟩
noncomputable abbrev v_i : PySem.Str := ⟨⟨[105]⟩⟩
noncomputable abbrev v_j : PySem.Str := ⟨⟨[106]⟩⟩
noncomputable abbrev v_c : PySem.Str := ⟨⟨[99]⟩⟩
noncomputable abbrev v_l : PySem.Str := ⟨⟨[108]⟩⟩
noncomputable abbrev v_ci : PySem.Str := ⟨⟨[99, 111, 109, 109, 111, 110, 95, 105]⟩⟩
noncomputable abbrev v_cj : PySem.Str := ⟨⟨[99, 111, 109, 109, 111, 110, 95, 106]⟩⟩
noncomputable abbrev v_f : PySem.Str := ⟨⟨[102, 105, 114, 115, 116, 95, 107, 101, 121, 95, 105, 110, 115, 112, 101, 99, 116, 101, 100]⟩⟩
noncomputable abbrev v_k : PySem.Str := ⟨⟨[107]⟩⟩
noncomputable abbrev v_d : PySem.Str := ⟨⟨[100, 105, 102, 102]⟩⟩
noncomputable abbrev v_cm : PySem.Str := ⟨⟨[99, 111, 109, 109, 111, 110]⟩⟩
noncomputable abbrev v_w : PySem.Str := ⟨⟨[119]⟩⟩
noncomputable abbrev v_i2 : PySem.Str := ⟨⟨[105, 50]⟩⟩
noncomputable abbrev v_lb : PySem.Str := ⟨⟨[108, 98]⟩⟩

/-- a table's list and its words -/
structure TabIs (P : Params) (so : Obj) (xs : List PV) (T : Tab) : Prop where
  len : xs.length = T.length
  item : ∀ (k : Nat) (e : List Nat × Int × Int), T[k]? = some e → ∃ a : Addr, xs[k]? = some (.ref a) ∧ AmAt P so a e.1 e.2.1 e.2.2
  few : T.length ≤ 100
  words : ∀ (k : Nat) (e : List Nat × Int × Int), T[k]? = some e → e.1.length ≤ 100

noncomputable abbrev fcl (x : Addr) (xs : List PV) (cc l : Int) (i j ci cj : Nat) (f : Bool) : PL' :=
  [(v_self, .ref x), (v_v, .lst xs), (v_c, .int cc), (v_l, .int l), (v_i, .int (i : Int)), (v_j, .int (j : Int)), (v_ci, .int (ci : Int)), (v_cj, .int (cj : Int)), (v_f, .bool f)]

theorem shr1 (i j : Nat) (h : i ≤ j) : (i : Int) + ((j : Int) - i).fdiv (2 ^ (1 : Int).toNat) = ((i + (j - i) / 2 : Nat) : Int) := by
  rw [Int.fdiv_eq_ediv_of_nonneg _ (by decide)]
  show (i : Int) + ((j : Int) - i) / 2 = _
  omega

noncomputable abbrev scl (x : Addr) (xs : List PV) (cc : Int) (i ci : Nat) : PL' := [(v_self, .ref x), (v_v, .lst xs), (v_c, .int cc), (v_i, .int (i : Int)), (v_ci, .int (ci : Int))]
noncomputable abbrev icl (a : Addr) (k cm : Nat) (d : Int) (r : PL') : PL' := (v_d, .int d) :: (v_cm, .int (cm : Int)) :: (v_w, .ref a) :: (v_k, .int (k : Int)) :: r

theorem drop_cons {l : List Nat} {p : Nat} (h : p < l.length) : l.drop p = l.getD p 0 :: l.drop (p + 1) := by
  rw [List.drop_eq_getElem_cons h, List.getD_eq_getElem?_getD, List.getElem?_eq_getElem h, Option.getD_some]
theorem at_getD {l : List Nat} {p : Nat} (h : p < l.length) : l[p]? = some (l.getD p 0) := by
  rw [List.getD_eq_getElem?_getD, List.getElem?_eq_getElem h, Option.getD_some]

theorem TabIs.small {P : Params} {so : Obj} {xs : List PV} {T : Tab} (h : TabIs P so xs T) : xs.length ≤ 1000000 := by have := h.len; have := h.few; omega
theorem dle1 {k i : Nat} (h : k ≤ i + 1) : (k : Int) - (i : Int) ≤ 1 := by omega
theorem dle1n {k i : Nat} (h : ¬ k ≤ i + 1) : ¬ (k : Int) - (i : Int) ≤ 1 := by omega
theorem dpos {i : Nat} (h : 0 < i) : (i : Int) > 0 := by omega
theorem dposn {i : Nat} (h : ¬ 0 < i) : ¬ (i : Int) > 0 := by omega
theorem dlt0 {x y : Nat} (h : x < y) : (x : Int) - (y : Int) < 0 := by omega
theorem dlt0n {x y : Nat} (h : ¬ x < y) : ¬ (x : Int) - (y : Int) < 0 := by omega

noncomputable abbrev PostS (l' g : PL') : PFlow → St → Prop := fun p S' => p = .next ∧ Sub l' S'.loc ∧ S'.fld = some g
noncomputable abbrev InvS (L : Nat → PL') (g : PL') (T : Tab) (rci m : Nat) (res : Int) : Nat → St → Prop := fun n S => ∃ i, Sub (L i) S.loc ∧ S.fld = some g ∧ climb T rci n i = some (m, res)
noncomputable abbrev InvF (L : Nat → Nat → Nat → Nat → Bool → PL') (g : PL') (cc n0 : Nat) (T : Tab) (ys : List Nat) (ri rci : Nat) : Nat → St → Prop := fun n S => ∃ i j ci cj f, Sub (L i j ci cj f) S.loc ∧ S.fld = some g ∧ i ≤ j ∧ (ci ≤ 100 ∧ cc + ci ≤ n0) ∧ (cj ≤ 100 ∧ cc + cj ≤ n0) ∧ outer T ys n i j ci cj f = some (ri, rci)
noncomputable abbrev PostF (a : Addr) (k : Nat) (B g : PL') (cc n0 : Nat) (res2 : Bool × Nat) : PFlow → St → Prop := fun p S' => p = .next ∧ ∃ (dd : Int) (cmf : Nat), Sub (icl a k cmf dd B) S'.loc ∧ S'.fld = some g ∧ cc + cmf ≤ n0 ∧ res2 = (decide (dd < 0), cmf)
noncomputable abbrev InvI (a : Addr) (k cm : Nat) (B g : PL') (cc n0 : Nat) (xs ys : List Nat) (res2 : Bool × Nat) : Nat → St → Prop := fun i0 S' => Sub (icl a k (cm + i0) 0 B) S'.loc ∧ S'.fld = some g ∧ cc + (cm + i0) ≤ n0 ∧ inner (xs.drop (cc + (cm + i0))) (ys.drop (cm + i0)) (cm + i0) = res2

theorem sp_find (w : World) (es ep t) (xs : List PV) (T : Tab) (cur : List Nat) (cc m : Nat) (res : Int) (l lb br ke : Int) (r : PL') (hr : List.length r ≤ 20)
    (hT : TabIs w.params (setO es ep t) xs T) (hl : cur.length ≤ 1000) (hlim : l = (cur.length : Int)) (hcc : cc ≤ cur.length) (hlook : look T (cur.drop cc) = some (m, res))
    (cx : Cx) (e1 : cx.w = w) (e2 : cx.es = es) (e3 : cx.ep = ep) (e4 : cx.t = t) :
    WX cx fd133 ⟨((nmOf (cb 2 14)).zip [.ref cx.x, .lst xs]).reverse, some (flds cur cc l lb br ke r)⟩ (stBody (cb 2 14)) (fun fl S => fl.val = .int res ∧ S.fld = some (flds cur ((cc + m : Nat) : Int) l lb br ke r)) := by
  subst e1 e2 e3 e4
  obtain ⟨⟨ri, rci⟩, ho, hc⟩ : ∃ p : Nat × Nat, outer T (cur.drop cc) 40 0 T.length 0 0 false = some p ∧ climb T p.2 40 p.1 = some (m, res) := by
    unfold look at hlook
    split at hlook
    · cases hlook
    · rename_i i ci e; exact ⟨(i, ci), e, hlook⟩
  repeat' walk_at "v"
  refine bui_len_lst hT.small ?_
  repeat' walk_at "v"
  refine W1.mono (Q := PostS (scl cx.x xs cc ri rci) (flds cur cc l lb br ke r)) ?_ ?_
  rotate_left
  · rintro p S ⟨rfl, hs, hf⟩
    refine wx_weak hs ?_
    rw [hf]
    refine wx_cons ?_
    refine w1_while (InvS (fun i => scl cx.x xs cc i rci) (flds cur cc l lb br ke r) T rci m res) ?_ 40 ⟨ri, Sub.of ⟨rfl, rfl, rfl, rfl, rfl, trivial⟩, rfl, hc⟩
    rintro n S ⟨i, hs, hf, hcl⟩
    refine wb_weak hs ?_
    rw [hf]
    refine wb_val ?_
    repeat' walk_at "v"
    refine ⟨true, rfl, ?_⟩
    rw [if_pos rfl]
    cases n with
    | zero => cases hcl
    | succ n =>
    unfold climb at hcl
    cases hk : T[i]? with
    | none => rw [hk] at hcl; cases hcl
    | some e =>
    rw [hk] at hcl
    obtain ⟨a, ha, am⟩ := hT.item _ _ hk
    have hw := hT.words _ _ hk
    obtain ⟨w, sb, rs⟩ := e
    simp only at hcl am hw
    repeat' walk_at "v"
    refine get_lst (p := .ref a) (Int.natCast_nonneg _) hT.small (by rw [Int.toNat_natCast]; exact ha) ?_
    repeat' walk_at "v"
    refine we_am (by kernel_rfl) (by kernel_rfl) (by rfl) am (.inl ⟨rfl, rfl⟩) ?_
    repeat' walk_at "v"
    refine bui_len_str (Nat.le_trans hw (by decide)) ?_
    repeat' walk_at "v"
    by_cases h1 : w.length ≤ rci
    · rw [show Nat.ble w.length rci = true from Nat.ble_eq.mpr h1] at hcl
      simp only [cond_true, Option.some.injEq, Prod.mk.injEq] at hcl
      obtain ⟨rfl, rfl⟩ := hcl
      rw [decide_eq_true (show (rci : Int) ≥ (w.length : Int) from Int.ofNat_le.mpr h1), if_pos rfl]
      repeat' walk_at "v"
      refine we_am (by kernel_rfl) (by kernel_rfl) (by rfl) am (.inl ⟨rfl, rfl⟩) ?_
      repeat' walk_at "v"
      refine bui_len_str (Nat.le_trans hw (by decide)) ?_
      repeat' walk_at "v"
      refine we_am (by kernel_rfl) (by kernel_rfl) (by rfl) am (.inr (.inr ⟨rfl, rfl⟩)) ?_
      exact ⟨rfl, rfl⟩
    · rw [show Nat.ble w.length rci = false from by rw [← Bool.not_eq_true]; exact fun z => h1 (Nat.ble_eq.mp z)] at hcl
      simp only [cond_false] at hcl
      rw [decide_eq_false (show ¬ (rci : Int) ≥ (w.length : Int) from fun z => h1 (Int.ofNat_le.mp z)), if_neg (by decide)]
      repeat' walk_at "v"
      refine we_am (by kernel_rfl) (by kernel_rfl) (by rfl) am (.inr (.inl ⟨rfl, rfl⟩)) ?_
      repeat' walk_at "v"
      cases sb with
      | ofNat k =>
        rw [show decide (Int.ofNat k < 0) = false from decide_eq_false (Int.not_lt.mpr (Int.natCast_nonneg k)), if_neg (by decide)]
        repeat' walk_at "v"
        exact ⟨n, Nat.lt_succ_self _, k, Sub.of ⟨rfl, rfl, rfl, rfl, rfl, trivial⟩, rfl, hcl⟩
      | negSucc k =>
        rw [decide_eq_true (Int.negSucc_lt_zero k), if_pos rfl]
        repeat' walk_at "v"
        simp only [Option.some.injEq, Prod.mk.injEq] at hcl
        obtain ⟨rfl, rfl⟩ := hcl
        exact ⟨rfl, rfl⟩
  refine w1_while (InvF (fcl cx.x xs cc l) (flds cur cc l lb br ke r) cc cur.length T (cur.drop cc) ri rci) ?_ 40
    ⟨0, T.length, 0, 0, false, Sub.of ⟨rfl, rfl, rfl, rfl, rfl, by show some (PV.int (xs.length : Int)) = _; rw [hT.len], rfl, rfl, rfl, trivial⟩, rfl, Nat.zero_le _, ⟨by omega, hcc⟩, ⟨by omega, hcc⟩, ho⟩
  rintro n S ⟨i, j, ci, cj, f, hs, hf, hij, hci, hcj, hout⟩
  refine wb_weak hs ?_
  rw [hf]
  refine wb_val ?_
  repeat' walk_at "v"
  refine ⟨true, rfl, ?_⟩
  rw [if_pos rfl]
  cases n with
  | zero => cases hout
  | succ n =>
  unfold outer at hout
  cases hk : T[i + (j - i) / 2]? with
  | none => rw [hk] at hout; cases hout
  | some e =>
  rw [hk] at hout
  dsimp only at hout
  obtain ⟨a, ha, am⟩ := hT.item _ _ hk
  have hw := hT.words _ _ hk
  repeat' walk_at "v"
  refine bin_shr (by decide) ?_
  repeat' walk_at "v"
  rw [shr1 i j hij]
  have hmin : (if (cj : Int) < ci then (cj : Int) else ci) = ((bif Nat.blt cj ci then cj else ci : Nat) : Int) := by
    by_cases q : cj < ci
    · rw [if_pos (Int.ofNat_lt.mpr q), show Nat.blt cj ci = true from Nat.ble_eq.mpr q]; rfl
    · rw [if_neg (fun z => q (Int.ofNat_lt.mp z)), show Nat.blt cj ci = false from by rw [← Bool.not_eq_true]; exact fun z => q (Nat.ble_eq.mp z)]; rfl
  rw [hmin]
  have hcm : (bif Nat.blt cj ci then cj else ci) ≤ 100 ∧ cc + (bif Nat.blt cj ci then cj else ci) ≤ cur.length := by cases Nat.blt cj ci <;> assumption
  generalize (bif Nat.blt cj ci then cj else ci) = cm at hout hcm ⊢
  clear hmin
  have hik : i ≤ i + (j - i) / 2 := Nat.le_add_right _ _
  generalize hkk : i + (j - i) / 2 = k at *
  repeat' walk_at "v"
  refine get_lst (p := .ref a) (Int.natCast_nonneg _) hT.small (by rw [Int.toNat_natCast]; exact ha) ?_
  repeat' walk_at "v"
  have hin0 := inner_drop (xs := cur.drop cc) (ws := e.1) (k := cm)
  generalize hres : inner (List.drop cm (List.drop cc cur)) (List.drop cm e.1) cm = res2 at hout hin0
  have hres' : inner (cur.drop (cc + cm)) (e.1.drop cm) cm = res2 := by rw [← hres, List.drop_drop]
  refine W1.mono (Q := PostF a k (fcl cx.x xs cc l i j ci cj f) (flds cur cc l lb br ke r) cc cur.length res2) ?_ ?_
  · refine w1_for (InvI a k cm (fcl cx.x xs cc l i j ci cj f) (flds cur cc l lb br ke r) cc cur.length cur e.1 res2) (by kernel_rfl) (by kernel_rfl) ?_
    refine wi_rng (by kernel_rfl) (by kernel_rfl) (by kernel_rfl) (by kernel_rfl) ?_
    repeat' walk_at "v"
    refine we_am (by kernel_rfl) (by kernel_rfl) (by rfl) am (.inl ⟨rfl, rfl⟩) ?_
    repeat' walk_at "v"
    refine bui_len_str (Nat.le_trans hw (by decide)) ?_
    repeat' walk_at "v"
    refine .inr (.inl ⟨_, _, rfl, PySem.small_one (by omega) (by omega) (by omega) (by omega), ⟨Sub.of ⟨rfl, rfl, rfl, rfl, rfl, rfl, rfl, rfl, rfl, rfl, rfl, rfl, rfl, trivial⟩, rfl, hcm.2, hres'⟩, ?_, ?_⟩)
    · rintro i0 S2 hi0 ⟨hs2, hf2, hlen, hin⟩
      rw [PySem.rangeSize_one] at hi0
      have hp : cm + i0 < e.1.length := by
        split at hi0 <;> omega
      refine wx_weak (Sub.cons hs2 _ _) ?_
      show WX cx fd133 ⟨_, S2.fld⟩ _ _
      rw [hf2]
      rw [drop_cons hp] at hin
      repeat' walk_at "v"
      by_cases q : cc + (cm + i0) = cur.length
      · have q1 : ((cc : Int) + ((cm + i0 : Nat) : Int) == l) = true := by rw [beq_iff_eq, hlim]; omega
        rw [q1, if_pos rfl]
        refine wx_cons (w1_assign (by kernel_rfl) (by kernel_rfl) (we_neg (i := 1) ?_))
        repeat' walk_at "v"
        refine ⟨rfl, ?_⟩
        repeat' walk_at "v"
        refine ⟨rfl, -1, cm + i0, Sub.of ⟨rfl, rfl, rfl, rfl, rfl, rfl, rfl, rfl, rfl, rfl, rfl, rfl, rfl, trivial⟩, rfl, by omega, ?_⟩
        rw [← hin, q, List.drop_length]
        rfl
      · have q1 : ((cc : Int) + ((cm + i0 : Nat) : Int) == l) = false := by rw [← Bool.not_eq_true, beq_iff_eq, hlim]; omega
        rw [q1, if_neg (by decide)]
        -- the text may not be that short: the comparing stands within it
        by_cases q2 : cc + (cm + i0) < cur.length
        · rw [drop_cons q2] at hin
          repeat' walk_at "v"
          refine get_str (ch := cur.getD (cc + (cm + i0)) 0) (by omega) (by omega) (by rw [show ((cc : Int) + ((cm + i0 : Nat) : Int)).toNat = cc + (cm + i0) by omega]; exact at_getD q2) ?_
          repeat' walk_at "v"
          refine we_am (by kernel_rfl) (by kernel_rfl) (by rfl) am (.inl ⟨rfl, rfl⟩) ?_
          repeat' walk_at "v"
          refine get_str (ch := e.1.getD (cm + i0) 0) (by omega) (by omega) (by rw [show ((cm : Int) + (i0 : Int) * 1).toNat = cm + i0 by omega]; exact at_getD hp) ?_
          repeat' walk_at "v"
          generalize cur.getD (cc + (cm + i0)) 0 = x at hin ⊢
          generalize e.1.getD (cm + i0) 0 = y at hin ⊢
          by_cases hxy : x = y
          · subst hxy
            have q3 : (((x : Int) - (x : Int)) != 0) = false := by rw [Int.sub_self]; rfl
            rw [q3, if_neg (by decide)]
            repeat' walk_at "v"
            refine ⟨Sub.of ⟨by show some (PV.int ((x : Int) - (x : Int))) = _; rw [Int.sub_self], rfl, rfl, rfl, rfl, rfl, rfl, rfl, rfl, rfl, rfl, rfl, rfl, trivial⟩, rfl, by omega, ?_⟩
            have q4 : (bif Nat.beq x x then inner (cur.drop (cc + (cm + i0) + 1)) (e.1.drop (cm + i0 + 1)) (cm + i0 + 1) else (Nat.blt x x, cm + i0)) = res2 := hin
            rw [Nat.beq_refl] at q4
            exact q4
          · have q3 : (((x : Int) - (y : Int)) != 0) = true := by rw [bne_iff_ne]; omega
            rw [q3, if_pos rfl]
            repeat' walk_at "v"
            refine ⟨rfl, (x : Int) - y, cm + i0, Sub.of ⟨rfl, rfl, rfl, rfl, rfl, rfl, rfl, rfl, rfl, rfl, rfl, rfl, rfl, trivial⟩, rfl, by omega, ?_⟩
            have q4 : (bif Nat.beq x y then inner (cur.drop (cc + (cm + i0) + 1)) (e.1.drop (cm + i0 + 1)) (cm + i0 + 1) else (Nat.blt x y, cm + i0)) = res2 := hin
            rw [show Nat.beq x y = false from by rw [← Bool.not_eq_true]; exact fun z => hxy (Nat.eq_of_beq_eq_true z)] at q4
            rw [← q4]
            show (Nat.blt x y, cm + i0) = _
            by_cases q5 : x < y
            · rw [show Nat.blt x y = true from Nat.ble_eq.mpr q5, decide_eq_true (dlt0 q5)]
            · rw [show Nat.blt x y = false from by rw [← Bool.not_eq_true]; exact fun z => q5 (Nat.ble_eq.mp z), decide_eq_false (dlt0n q5)]
        · exfalso; omega
    · rintro S2 ⟨hs2, hf2, hlen, hin⟩
      rw [PySem.rangeSize_one] at hs2 hin hlen
      by_cases q : cm < e.1.length
      · rw [if_pos (by omega)] at hs2 hin hlen
        rw [show cm + ((e.1.length : Int) - (cm : Int)).toNat = e.1.length by omega] at hs2 hin hlen
        rw [List.drop_length] at hin
        exact ⟨rfl, 0, e.1.length, hs2, hf2, hlen, by rw [← hin, inner_nil]; rfl⟩
      · rw [if_neg (by omega)] at hs2 hin hlen
        rw [show cm + (0 : Int).toNat = cm from rfl] at hs2 hin
        rw [List.drop_of_length_le (l := e.1) (by omega)] at hin
        exact ⟨rfl, 0, cm, hs2, hf2, hcm.2, by rw [← hin, inner_nil]; rfl⟩
  · rintro p S' ⟨rfl, dd, cmf, hs', hf', hlen, hin⟩
    refine wx_weak hs' ?_
    rw [hf']
    subst hin
    have hcf : cmf ≤ 100 := by
      have := hin0
      show cmf ≤ 100
      have h3 : cmf ≤ max cm e.1.length := this
      omega
    repeat' walk_at "v"
    by_cases hd : dd < 0
    · rw [decide_eq_true hd] at hout ⊢
      rw [if_pos rfl]
      simp only at hout
      repeat' walk_at "v"
      by_cases h1 : k ≤ i + 1
      · rw [show Nat.ble k (i + 1) = true from Nat.ble_eq.mpr h1] at hout
        rw [decide_eq_true (dle1 h1), if_pos rfl]
        simp only [cond_true] at hout
        repeat' walk_at "v"
        by_cases h2 : 0 < i
        · rw [show Nat.blt 0 i = true from Nat.ble_eq.mpr h2] at hout
          simp only [cond_true, Option.some.injEq, Prod.mk.injEq] at hout
          obtain ⟨rfl, rfl⟩ := hout
          rw [decide_eq_true (dpos h2), if_pos rfl]
          repeat' walk_at "v"
          exact ⟨rfl, Sub.of ⟨rfl, rfl, rfl, rfl, rfl, trivial⟩, rfl⟩
        · rw [show Nat.blt 0 i = false from by rw [← Bool.not_eq_true]; exact fun z => h2 (Nat.ble_eq.mp z)] at hout
          rw [decide_eq_false (dposn h2), if_neg (by decide)]
          simp only [cond_false] at hout
          repeat' walk_at "v"
          by_cases h3 : k = i
          · rw [show Nat.beq k i = true from by rw [h3, Nat.beq_refl]] at hout
            simp only [cond_true, Option.some.injEq, Prod.mk.injEq] at hout
            obtain ⟨rfl, rfl⟩ := hout
            rw [show ((k : Int) == (i : Int)) = true from beq_iff_eq.mpr (congrArg Int.ofNat h3), if_pos rfl]
            repeat' walk_at "v"
            exact ⟨rfl, Sub.of ⟨rfl, rfl, rfl, rfl, rfl, trivial⟩, rfl⟩
          · rw [show Nat.beq k i = false from by rw [← Bool.not_eq_true]; exact fun z => h3 (Nat.eq_of_beq_eq_true z)] at hout
            rw [show ((k : Int) == (i : Int)) = false from by rw [← Bool.not_eq_true, beq_iff_eq]; exact fun z => h3 (Int.ofNat.inj z), if_neg (by decide)]
            simp only [cond_false] at hout
            repeat' walk_at "v"
            refine wb_val ?_
            repeat' walk_at "v"
            refine ⟨f, rfl, ?_⟩
            cases f with
            | true =>
              simp only [cond_true, Option.some.injEq, Prod.mk.injEq] at hout
              obtain ⟨rfl, rfl⟩ := hout
              rw [if_pos rfl]
              repeat' walk_at "v"
              exact ⟨rfl, Sub.of ⟨rfl, rfl, rfl, rfl, rfl, trivial⟩, rfl⟩
            | false =>
              simp only [cond_false] at hout
              rw [if_neg (by decide)]
              repeat' walk_at "v"
              exact ⟨n, Nat.lt_succ_self _, i, k, ci, cmf, true, Sub.of ⟨rfl, rfl, rfl, rfl, rfl, rfl, rfl, rfl, rfl, trivial⟩, rfl, hik, hci, ⟨hcf, hlen⟩, hout⟩
      · rw [show Nat.ble k (i + 1) = false from by rw [← Bool.not_eq_true]; exact fun z => h1 (Nat.ble_eq.mp z)] at hout
        rw [decide_eq_false (dle1n h1), if_neg (by decide)]
        simp only [cond_false] at hout
        repeat' walk_at "v"
        exact ⟨n, Nat.lt_succ_self _, i, k, ci, cmf, f, Sub.of ⟨rfl, rfl, rfl, rfl, rfl, rfl, rfl, rfl, rfl, trivial⟩, rfl, hik, hci, ⟨hcf, hlen⟩, hout⟩
    · rw [decide_eq_false hd] at hout ⊢
      rw [if_neg (by decide)]
      simp only at hout
      repeat' walk_at "v"
      have hjk : k ≤ j := by omega
      by_cases h1 : j ≤ k + 1
      · rw [show Nat.ble j (k + 1) = true from Nat.ble_eq.mpr h1] at hout
        rw [decide_eq_true (dle1 h1), if_pos rfl]
        simp only [cond_true] at hout
        repeat' walk_at "v"
        by_cases h2 : 0 < k
        · rw [show Nat.blt 0 k = true from Nat.ble_eq.mpr h2] at hout
          simp only [cond_true, Option.some.injEq, Prod.mk.injEq] at hout
          obtain ⟨rfl, rfl⟩ := hout
          rw [decide_eq_true (dpos h2), if_pos rfl]
          repeat' walk_at "v"
          exact ⟨rfl, Sub.of ⟨rfl, rfl, rfl, rfl, rfl, trivial⟩, rfl⟩
        · rw [show Nat.blt 0 k = false from by rw [← Bool.not_eq_true]; exact fun z => h2 (Nat.ble_eq.mp z)] at hout
          rw [decide_eq_false (dposn h2), if_neg (by decide)]
          simp only [cond_false] at hout
          repeat' walk_at "v"
          by_cases h3 : j = k
          · rw [show Nat.beq j k = true from by rw [h3, Nat.beq_refl]] at hout
            simp only [cond_true, Option.some.injEq, Prod.mk.injEq] at hout
            obtain ⟨rfl, rfl⟩ := hout
            rw [show ((j : Int) == (k : Int)) = true from beq_iff_eq.mpr (congrArg Int.ofNat h3), if_pos rfl]
            repeat' walk_at "v"
            exact ⟨rfl, Sub.of ⟨rfl, rfl, rfl, rfl, rfl, trivial⟩, rfl⟩
          · rw [show Nat.beq j k = false from by rw [← Bool.not_eq_true]; exact fun z => h3 (Nat.eq_of_beq_eq_true z)] at hout
            rw [show ((j : Int) == (k : Int)) = false from by rw [← Bool.not_eq_true, beq_iff_eq]; exact fun z => h3 (Int.ofNat.inj z), if_neg (by decide)]
            simp only [cond_false] at hout
            repeat' walk_at "v"
            refine wb_val ?_
            repeat' walk_at "v"
            refine ⟨f, rfl, ?_⟩
            cases f with
            | true =>
              simp only [cond_true, Option.some.injEq, Prod.mk.injEq] at hout
              obtain ⟨rfl, rfl⟩ := hout
              rw [if_pos rfl]
              repeat' walk_at "v"
              exact ⟨rfl, Sub.of ⟨rfl, rfl, rfl, rfl, rfl, trivial⟩, rfl⟩
            | false =>
              simp only [cond_false] at hout
              rw [if_neg (by decide)]
              repeat' walk_at "v"
              exact ⟨n, Nat.lt_succ_self _, k, j, cmf, cj, true, Sub.of ⟨rfl, rfl, rfl, rfl, rfl, rfl, rfl, rfl, rfl, trivial⟩, rfl, hjk, ⟨hcf, hlen⟩, hcj, hout⟩
      · rw [show Nat.ble j (k + 1) = false from by rw [← Bool.not_eq_true]; exact fun z => h1 (Nat.ble_eq.mp z)] at hout
        rw [decide_eq_false (dle1n h1), if_neg (by decide)]
        simp only [cond_false] at hout
        repeat' walk_at "v"
        exact ⟨n, Nat.lt_succ_self _, k, j, cmf, cj, f, Sub.of ⟨rfl, rfl, rfl, rfl, rfl, rfl, rfl, rfl, rfl, trivial⟩, rfl, hjk, ⟨hcf, hlen⟩, hcj, hout⟩
end

section
variable {c : Cx} {fd : FuncData} {S : St}






/-- the text before the cursor, read backwards -/
noncomputable def bk (cur : List Nat) (cc : Nat) : List Nat := (cur.take cc).reverse
theorem bk_len {cur : List Nat} {cc : Nat} (h : cc ≤ cur.length) : (bk cur cc).length = cc := by
  unfold bk; rw [List.length_reverse, List.length_take]; omega
theorem bk_at {cur : List Nat} {cc p : Nat} (h : cc ≤ cur.length) (hp : p < cc) : cur[cc - 1 - p]? = some ((bk cur cc).getD p 0) := by
  have e := at_getD (l := bk cur cc) (p := p) (by rw [bk_len h]; exact hp)
  rw [← e]
  unfold bk
  rw [List.getElem?_reverse (by rw [List.length_take]; omega), List.length_take, List.getElem?_take, if_pos (by omega), Nat.min_eq_left h]
structure TabR (P : Params) (so : Obj) (xs : List PV) (T : Tab) : Prop where
  len : xs.length = T.length
  item : ∀ (k : Nat) (e : List Nat × Int × Int), T[k]? = some e → ∃ a : Addr, xs[k]? = some (.ref a) ∧ AmAt P so a e.1.reverse e.2.1 e.2.2
  few : T.length ≤ 100
  words : ∀ (k : Nat) (e : List Nat × Int × Int), T[k]? = some e → e.1.length ≤ 100
theorem size_back (a : Int) : Builtin.Range.rangeSize a (-1) (-1) = if a > -1 then a + 1 else 0 := by
  unfold Builtin.Range.rangeSize
  rw [if_neg (by decide)]
  split
  · rw [show -(-1 : Int) = 1 from rfl, Int.ediv_one]; omega
  · rfl
theorem small_back {a : Int} (h0 : -(2 ^ 60) ≤ a) (h1 : a < 2 ^ 60) : Builtin.Range.small a (-1) (-1) = true := by
  unfold Builtin.Range.small
  rw [size_back]
  simp only [Builtin.Range.rangeFitsLong, Bool.and_eq_true, Bool.or_eq_true, decide_eq_true_eq, beq_iff_eq, show ¬ ((-1 : Int) > 0) by decide, if_false]
  refine ⟨⟨⟨⟨?_, ?_⟩, ?_⟩, ?_⟩, .inr ?_⟩ <;> (try split) <;> omega
noncomputable abbrev bcl (x : Addr) (xs : List PV) (cc l : Int) (i j ci cj : Nat) (f : Bool) : PL' :=
  [(v_self, .ref x), (v_v, .lst xs), (v_c, .int cc), (v_lb, .int l), (v_i, .int (i : Int)), (v_j, .int (j : Int)), (v_ci, .int (ci : Int)), (v_cj, .int (cj : Int)), (v_f, .bool f)]

theorem TabR.small {P : Params} {so : Obj} {xs : List PV} {T : Tab} (h : TabR P so xs T) : xs.length ≤ 1000000 := by have := h.len; have := h.few; omega

noncomputable abbrev InvFb (L : Nat → Nat → Nat → Nat → Bool → PL') (g : PL') (cc : Nat) (T : Tab) (ys : List Nat) (ri rci : Nat) : Nat → St → Prop := fun n S => ∃ i j ci cj f, Sub (L i j ci cj f) S.loc ∧ S.fld = some g ∧ i ≤ j ∧ (ci ≤ 100 ∧ ci ≤ cc) ∧ (cj ≤ 100 ∧ cj ≤ cc) ∧ outer T ys n i j ci cj f = some (ri, rci)
noncomputable abbrev PostFb (a : Addr) (k : Nat) (B g : PL') (cc : Nat) (res2 : Bool × Nat) : PFlow → St → Prop := fun p S' => p = .next ∧ ∃ (dd : Int) (cmf : Nat), Sub (icl a k cmf dd B) S'.loc ∧ S'.fld = some g ∧ cmf ≤ cc ∧ res2 = (decide (dd < 0), cmf)
noncomputable abbrev InvIb (a : Addr) (k cm : Nat) (B g : PL') (cc : Nat) (xs ys : List Nat) (res2 : Bool × Nat) : Nat → St → Prop := fun i0 S' => Sub (icl a k (cm + i0) 0 B) S'.loc ∧ S'.fld = some g ∧ cm + i0 ≤ cc ∧ inner (xs.drop (cm + i0)) (ys.drop (cm + i0)) (cm + i0) = res2

theorem sp_findb (w : World) (es ep t) (xs : List PV) (T : Tab) (cur : List Nat) (cc m : Nat) (res : Int) (l lb br ke : Int) (r : PL') (hr : List.length r ≤ 20)
    (hT : TabR w.params (setO es ep t) xs T) (hl : cur.length ≤ 1000) (hlim : lb = 0) (hcc : cc ≤ cur.length) (hlook : look T (bk cur cc) = some (m, res))
    (cx : Cx) (e1 : cx.w = w) (e2 : cx.es = es) (e3 : cx.ep = ep) (e4 : cx.t = t) :
    WX cx fd140 ⟨((nmOf (cb 2 15)).zip [.ref cx.x, .lst xs]).reverse, some (flds cur cc l lb br ke r)⟩ (stBody (cb 2 15)) (fun fl S => fl.val = .int res ∧ S.fld = some (flds cur ((cc : Int) - (m : Int)) l lb br ke r)) := by
  subst e1 e2 e3 e4
  obtain ⟨⟨ri, rci⟩, ho, hc⟩ : ∃ p : Nat × Nat, outer T (bk cur cc) 40 0 T.length 0 0 false = some p ∧ climb T p.2 40 p.1 = some (m, res) := by
    unfold look at hlook
    split at hlook
    · cases hlook
    · rename_i i ci e; exact ⟨(i, ci), e, hlook⟩
  repeat' walk_at "v"
  refine bui_len_lst hT.small ?_
  repeat' walk_at "v"
  refine W1.mono (Q := PostS (scl cx.x xs cc ri rci) (flds cur cc l lb br ke r)) ?_ ?_
  rotate_left
  · rintro p S ⟨rfl, hs, hf⟩
    refine wx_weak hs ?_
    rw [hf]
    refine wx_cons ?_
    refine w1_while (InvS (fun i => scl cx.x xs cc i rci) (flds cur cc l lb br ke r) T rci m res) ?_ 40 ⟨ri, Sub.of ⟨rfl, rfl, rfl, rfl, rfl, trivial⟩, rfl, hc⟩
    rintro n S ⟨i, hs, hf, hcl⟩
    refine wb_weak hs ?_
    rw [hf]
    refine wb_val ?_
    repeat' walk_at "v"
    refine ⟨true, rfl, ?_⟩
    rw [if_pos rfl]
    cases n with
    | zero => cases hcl
    | succ n =>
    unfold climb at hcl
    cases hk : T[i]? with
    | none => rw [hk] at hcl; cases hcl
    | some e =>
    rw [hk] at hcl
    obtain ⟨a, ha, am⟩ := hT.item _ _ hk
    have hw := hT.words _ _ hk
    obtain ⟨w, sb, rs⟩ := e
    simp only at hcl am hw
    repeat' walk_at "v"
    refine get_lst (p := .ref a) (Int.natCast_nonneg _) hT.small (by rw [Int.toNat_natCast]; exact ha) ?_
    repeat' walk_at "v"
    refine we_am (by kernel_rfl) (by kernel_rfl) (by rfl) am (.inl ⟨rfl, rfl⟩) ?_
    repeat' walk_at "v"
    refine bui_len_str (by rw [List.length_reverse]; exact Nat.le_trans hw (by decide)) ?_
    repeat' walk_at "v"
    rw [List.length_reverse]
    by_cases h1 : w.length ≤ rci
    · rw [show Nat.ble w.length rci = true from Nat.ble_eq.mpr h1] at hcl
      simp only [cond_true, Option.some.injEq, Prod.mk.injEq] at hcl
      obtain ⟨rfl, rfl⟩ := hcl
      rw [decide_eq_true (show (rci : Int) ≥ (w.length : Int) from Int.ofNat_le.mpr h1), if_pos rfl]
      repeat' walk_at "v"
      refine we_am (by kernel_rfl) (by kernel_rfl) (by rfl) am (.inl ⟨rfl, rfl⟩) ?_
      repeat' walk_at "v"
      refine bui_len_str (by rw [List.length_reverse]; exact Nat.le_trans hw (by decide)) ?_
      repeat' walk_at "v"
      rw [List.length_reverse]
      refine we_am (by kernel_rfl) (by kernel_rfl) (by rfl) am (.inr (.inr ⟨rfl, rfl⟩)) ?_
      exact ⟨rfl, rfl⟩
    · rw [show Nat.ble w.length rci = false from by rw [← Bool.not_eq_true]; exact fun z => h1 (Nat.ble_eq.mp z)] at hcl
      simp only [cond_false] at hcl
      rw [decide_eq_false (show ¬ (rci : Int) ≥ (w.length : Int) from fun z => h1 (Int.ofNat_le.mp z)), if_neg (by decide)]
      repeat' walk_at "v"
      refine we_am (by kernel_rfl) (by kernel_rfl) (by rfl) am (.inr (.inl ⟨rfl, rfl⟩)) ?_
      repeat' walk_at "v"
      cases sb with
      | ofNat k =>
        rw [show decide (Int.ofNat k < 0) = false from decide_eq_false (Int.not_lt.mpr (Int.natCast_nonneg k)), if_neg (by decide)]
        repeat' walk_at "v"
        exact ⟨n, Nat.lt_succ_self _, k, Sub.of ⟨rfl, rfl, rfl, rfl, rfl, trivial⟩, rfl, hcl⟩
      | negSucc k =>
        rw [decide_eq_true (Int.negSucc_lt_zero k), if_pos rfl]
        repeat' walk_at "v"
        simp only [Option.some.injEq, Prod.mk.injEq] at hcl
        obtain ⟨rfl, rfl⟩ := hcl
        refine ⟨rfl, ?_⟩
        show some _ = some _
        rw [show (cc : Int) - ((0 : Nat) : Int) = (cc : Int) from Int.sub_zero _]
  refine w1_while (InvFb (bcl cx.x xs cc lb) (flds cur cc l lb br ke r) cc T (bk cur cc) ri rci) ?_ 40
    ⟨0, T.length, 0, 0, false, Sub.of ⟨rfl, rfl, rfl, rfl, rfl, by show some (PV.int (xs.length : Int)) = _; rw [hT.len], rfl, rfl, rfl, trivial⟩, rfl, Nat.zero_le _, ⟨by omega, Nat.zero_le _⟩, ⟨by omega, Nat.zero_le _⟩, ho⟩
  rintro n S ⟨i, j, ci, cj, f, hs, hf, hij, hci, hcj, hout⟩
  refine wb_weak hs ?_
  rw [hf]
  refine wb_val ?_
  repeat' walk_at "v"
  refine ⟨true, rfl, ?_⟩
  rw [if_pos rfl]
  cases n with
  | zero => cases hout
  | succ n =>
  unfold outer at hout
  cases hk : T[i + (j - i) / 2]? with
  | none => rw [hk] at hout; cases hout
  | some e =>
  rw [hk] at hout
  dsimp only at hout
  obtain ⟨a, ha, am⟩ := hT.item _ _ hk
  have hw := hT.words _ _ hk
  repeat' walk_at "v"
  refine bin_shr (by decide) ?_
  repeat' walk_at "v"
  rw [shr1 i j hij]
  have hmin : (if (cj : Int) < ci then (cj : Int) else ci) = ((bif Nat.blt cj ci then cj else ci : Nat) : Int) := by
    by_cases q : cj < ci
    · rw [if_pos (Int.ofNat_lt.mpr q), show Nat.blt cj ci = true from Nat.ble_eq.mpr q]; rfl
    · rw [if_neg (fun z => q (Int.ofNat_lt.mp z)), show Nat.blt cj ci = false from by rw [← Bool.not_eq_true]; exact fun z => q (Nat.ble_eq.mp z)]; rfl
  rw [hmin]
  have hcm : (bif Nat.blt cj ci then cj else ci) ≤ 100 ∧ (bif Nat.blt cj ci then cj else ci) ≤ cc := by cases Nat.blt cj ci <;> assumption
  generalize (bif Nat.blt cj ci then cj else ci) = cm at hout hcm ⊢
  clear hmin
  have hik : i ≤ i + (j - i) / 2 := Nat.le_add_right _ _
  generalize hkk : i + (j - i) / 2 = k at *
  repeat' walk_at "v"
  refine get_lst (p := .ref a) (Int.natCast_nonneg _) hT.small (by rw [Int.toNat_natCast]; exact ha) ?_
  repeat' walk_at "v"
  have hin0 := inner_drop (xs := bk cur cc) (ws := e.1) (k := cm)
  generalize hres : inner (List.drop cm (bk cur cc)) (List.drop cm e.1) cm = res2 at hout hin0
  have hres' : inner ((bk cur cc).drop cm) (e.1.drop cm) cm = res2 := hres
  refine W1.mono (Q := PostFb a k (bcl cx.x xs cc lb i j ci cj f) (flds cur cc l lb br ke r) cc res2) ?_ ?_
  · refine w1_for (InvIb a k cm (bcl cx.x xs cc lb i j ci cj f) (flds cur cc l lb br ke r) cc (bk cur cc) e.1 res2) (by kernel_rfl) (by kernel_rfl) ?_
    refine wi_rng (by kernel_rfl) (by kernel_rfl) (by kernel_rfl) (by kernel_rfl) ?_
    repeat' walk_at "v"
    refine we_am (by kernel_rfl) (by kernel_rfl) (by rfl) am (.inl ⟨rfl, rfl⟩) ?_
    repeat' walk_at "v"
    refine bui_len_str (by rw [List.length_reverse]; exact Nat.le_trans hw (by decide)) ?_
    repeat' walk_at "v"
    refine we_neg (i := 1) ?_
    repeat' walk_at "v"
    refine ⟨rfl, ?_⟩
    repeat' walk_at "v"
    refine we_neg (i := 1) ?_
    repeat' walk_at "v"
    refine ⟨rfl, ?_⟩
    repeat' walk_at "v"
    rw [List.length_reverse]
    refine .inr (.inr ⟨_, _, _, rfl, by decide, ⟨trivial, PyProof.noPylong_small (by omega)⟩, small_back (by omega) (by omega), ⟨Sub.of ⟨rfl, rfl, rfl, rfl, rfl, rfl, rfl, rfl, rfl, rfl, rfl, rfl, rfl, trivial⟩, rfl, hcm.2, hres'⟩, ?_, ?_⟩)
    · rintro i0 S2 hi0 ⟨hs2, hf2, hlen, hin⟩
      rw [size_back] at hi0
      have hp : cm + i0 < e.1.length := by
        split at hi0 <;> omega
      refine wx_weak (Sub.cons hs2 _ _) ?_
      show WX cx fd140 ⟨_, S2.fld⟩ _ _
      rw [hf2]
      rw [drop_cons hp] at hin
      repeat' walk_at "v"
      by_cases q : cm + i0 = cc
      · have q1 : ((cc : Int) - ((cm + i0 : Nat) : Int) == lb) = true := by rw [beq_iff_eq, hlim]; omega
        rw [q1, if_pos rfl]
        refine wx_cons (w1_assign (by kernel_rfl) (by kernel_rfl) (we_neg (i := 1) ?_))
        repeat' walk_at "v"
        refine ⟨rfl, ?_⟩
        repeat' walk_at "v"
        refine ⟨rfl, -1, cm + i0, Sub.of ⟨rfl, rfl, rfl, rfl, rfl, rfl, rfl, rfl, rfl, rfl, rfl, rfl, rfl, trivial⟩, rfl, by omega, ?_⟩
        rw [← hin, List.drop_of_length_le (by rw [bk_len hcc]; omega)]
        rfl
      · have q1 : ((cc : Int) - ((cm + i0 : Nat) : Int) == lb) = false := by rw [← Bool.not_eq_true, beq_iff_eq, hlim]; omega
        rw [q1, if_neg (by decide)]
        -- the text may not be that short: the comparing stands within it
        by_cases q2 : cm + i0 < cc
        · rw [drop_cons (l := bk cur cc) (by rw [bk_len hcc]; exact q2)] at hin
          repeat' walk_at "v"
          refine get_str (ch := (bk cur cc).getD (cm + i0) 0) (by omega) (by omega) (by rw [show ((cc : Int) - 1 - ((cm + i0 : Nat) : Int)).toNat = cc - 1 - (cm + i0) by omega]; exact bk_at hcc q2) ?_
          repeat' walk_at "v"
          refine we_am (by kernel_rfl) (by kernel_rfl) (by rfl) am (.inl ⟨rfl, rfl⟩) ?_
          repeat' walk_at "v"
          refine get_str (ch := e.1.getD (cm + i0) 0) (by omega) (by rw [List.length_reverse]; omega) (by rw [show ((e.1.length : Int) - 1 - (cm : Int) + (i0 : Int) * -1).toNat = e.1.length - 1 - (cm + i0) by omega, List.getElem?_reverse (by omega), show e.1.length - 1 - (e.1.length - 1 - (cm + i0)) = cm + i0 by omega]; exact at_getD hp) ?_
          repeat' walk_at "v"
          generalize (bk cur cc).getD (cm + i0) 0 = x at hin ⊢
          generalize e.1.getD (cm + i0) 0 = y at hin ⊢
          by_cases hxy : x = y
          · subst hxy
            have q3 : (((x : Int) - (x : Int)) != 0) = false := by rw [Int.sub_self]; rfl
            rw [q3, if_neg (by decide)]
            repeat' walk_at "v"
            refine ⟨Sub.of ⟨by show some (PV.int ((x : Int) - (x : Int))) = _; rw [Int.sub_self], rfl, rfl, rfl, rfl, rfl, rfl, rfl, rfl, rfl, rfl, rfl, rfl, trivial⟩, rfl, by omega, ?_⟩
            have q4 : (bif Nat.beq x x then inner ((bk cur cc).drop (cm + i0 + 1)) (e.1.drop (cm + i0 + 1)) (cm + i0 + 1) else (Nat.blt x x, cm + i0)) = res2 := hin
            rw [Nat.beq_refl] at q4
            exact q4
          · have q3 : (((x : Int) - (y : Int)) != 0) = true := by rw [bne_iff_ne]; omega
            rw [q3, if_pos rfl]
            repeat' walk_at "v"
            refine ⟨rfl, (x : Int) - y, cm + i0, Sub.of ⟨rfl, rfl, rfl, rfl, rfl, rfl, rfl, rfl, rfl, rfl, rfl, rfl, rfl, trivial⟩, rfl, by omega, ?_⟩
            have q4 : (bif Nat.beq x y then inner ((bk cur cc).drop (cm + i0 + 1)) (e.1.drop (cm + i0 + 1)) (cm + i0 + 1) else (Nat.blt x y, cm + i0)) = res2 := hin
            rw [show Nat.beq x y = false from by rw [← Bool.not_eq_true]; exact fun z => hxy (Nat.eq_of_beq_eq_true z)] at q4
            rw [← q4]
            show (Nat.blt x y, cm + i0) = _
            by_cases q5 : x < y
            · rw [show Nat.blt x y = true from Nat.ble_eq.mpr q5, decide_eq_true (dlt0 q5)]
            · rw [show Nat.blt x y = false from by rw [← Bool.not_eq_true]; exact fun z => q5 (Nat.ble_eq.mp z), decide_eq_false (dlt0n q5)]
        · exfalso; omega
    · rintro S2 ⟨hs2, hf2, hlen, hin⟩
      rw [size_back] at hs2 hin hlen
      by_cases q : cm < e.1.length
      · rw [if_pos (by omega)] at hs2 hin hlen
        rw [show cm + ((e.1.length : Int) - 1 - (cm : Int) + 1).toNat = e.1.length by omega] at hs2 hin hlen
        rw [List.drop_length] at hin
        exact ⟨rfl, 0, e.1.length, hs2, hf2, hlen, by rw [← hin, inner_nil]; rfl⟩
      · rw [if_neg (by omega)] at hs2 hin hlen
        rw [show cm + (0 : Int).toNat = cm from rfl] at hs2 hin
        rw [List.drop_of_length_le (l := e.1) (by omega)] at hin
        exact ⟨rfl, 0, cm, hs2, hf2, hcm.2, by rw [← hin, inner_nil]; rfl⟩
  · rintro p S' ⟨rfl, dd, cmf, hs', hf', hlen, hin⟩
    refine wx_weak hs' ?_
    rw [hf']
    subst hin
    have hcf : cmf ≤ 100 := by
      have := hin0
      show cmf ≤ 100
      have h3 : cmf ≤ max cm e.1.length := this
      omega
    repeat' walk_at "v"
    by_cases hd : dd < 0
    · rw [decide_eq_true hd] at hout ⊢
      rw [if_pos rfl]
      simp only at hout
      repeat' walk_at "v"
      by_cases h1 : k ≤ i + 1
      · rw [show Nat.ble k (i + 1) = true from Nat.ble_eq.mpr h1] at hout
        rw [decide_eq_true (dle1 h1), if_pos rfl]
        simp only [cond_true] at hout
        repeat' walk_at "v"
        by_cases h2 : 0 < i
        · rw [show Nat.blt 0 i = true from Nat.ble_eq.mpr h2] at hout
          simp only [cond_true, Option.some.injEq, Prod.mk.injEq] at hout
          obtain ⟨rfl, rfl⟩ := hout
          rw [decide_eq_true (dpos h2), if_pos rfl]
          repeat' walk_at "v"
          exact ⟨rfl, Sub.of ⟨rfl, rfl, rfl, rfl, rfl, trivial⟩, rfl⟩
        · rw [show Nat.blt 0 i = false from by rw [← Bool.not_eq_true]; exact fun z => h2 (Nat.ble_eq.mp z)] at hout
          rw [decide_eq_false (dposn h2), if_neg (by decide)]
          simp only [cond_false] at hout
          repeat' walk_at "v"
          by_cases h3 : k = i
          · rw [show Nat.beq k i = true from by rw [h3, Nat.beq_refl]] at hout
            simp only [cond_true, Option.some.injEq, Prod.mk.injEq] at hout
            obtain ⟨rfl, rfl⟩ := hout
            rw [show ((k : Int) == (i : Int)) = true from beq_iff_eq.mpr (congrArg Int.ofNat h3), if_pos rfl]
            repeat' walk_at "v"
            exact ⟨rfl, Sub.of ⟨rfl, rfl, rfl, rfl, rfl, trivial⟩, rfl⟩
          · rw [show Nat.beq k i = false from by rw [← Bool.not_eq_true]; exact fun z => h3 (Nat.eq_of_beq_eq_true z)] at hout
            rw [show ((k : Int) == (i : Int)) = false from by rw [← Bool.not_eq_true, beq_iff_eq]; exact fun z => h3 (Int.ofNat.inj z), if_neg (by decide)]
            simp only [cond_false] at hout
            repeat' walk_at "v"
            refine wb_val ?_
            repeat' walk_at "v"
            refine ⟨f, rfl, ?_⟩
            cases f with
            | true =>
              simp only [cond_true, Option.some.injEq, Prod.mk.injEq] at hout
              obtain ⟨rfl, rfl⟩ := hout
              rw [if_pos rfl]
              repeat' walk_at "v"
              exact ⟨rfl, Sub.of ⟨rfl, rfl, rfl, rfl, rfl, trivial⟩, rfl⟩
            | false =>
              simp only [cond_false] at hout
              rw [if_neg (by decide)]
              repeat' walk_at "v"
              exact ⟨n, Nat.lt_succ_self _, i, k, ci, cmf, true, Sub.of ⟨rfl, rfl, rfl, rfl, rfl, rfl, rfl, rfl, rfl, trivial⟩, rfl, hik, hci, ⟨hcf, hlen⟩, hout⟩
      · rw [show Nat.ble k (i + 1) = false from by rw [← Bool.not_eq_true]; exact fun z => h1 (Nat.ble_eq.mp z)] at hout
        rw [decide_eq_false (dle1n h1), if_neg (by decide)]
        simp only [cond_false] at hout
        repeat' walk_at "v"
        exact ⟨n, Nat.lt_succ_self _, i, k, ci, cmf, f, Sub.of ⟨rfl, rfl, rfl, rfl, rfl, rfl, rfl, rfl, rfl, trivial⟩, rfl, hik, hci, ⟨hcf, hlen⟩, hout⟩
    · rw [decide_eq_false hd] at hout ⊢
      rw [if_neg (by decide)]
      simp only at hout
      repeat' walk_at "v"
      have hjk : k ≤ j := by omega
      by_cases h1 : j ≤ k + 1
      · rw [show Nat.ble j (k + 1) = true from Nat.ble_eq.mpr h1] at hout
        rw [decide_eq_true (dle1 h1), if_pos rfl]
        simp only [cond_true] at hout
        repeat' walk_at "v"
        by_cases h2 : 0 < k
        · rw [show Nat.blt 0 k = true from Nat.ble_eq.mpr h2] at hout
          simp only [cond_true, Option.some.injEq, Prod.mk.injEq] at hout
          obtain ⟨rfl, rfl⟩ := hout
          rw [decide_eq_true (dpos h2), if_pos rfl]
          repeat' walk_at "v"
          exact ⟨rfl, Sub.of ⟨rfl, rfl, rfl, rfl, rfl, trivial⟩, rfl⟩
        · rw [show Nat.blt 0 k = false from by rw [← Bool.not_eq_true]; exact fun z => h2 (Nat.ble_eq.mp z)] at hout
          rw [decide_eq_false (dposn h2), if_neg (by decide)]
          simp only [cond_false] at hout
          repeat' walk_at "v"
          by_cases h3 : j = k
          · rw [show Nat.beq j k = true from by rw [h3, Nat.beq_refl]] at hout
            simp only [cond_true, Option.some.injEq, Prod.mk.injEq] at hout
            obtain ⟨rfl, rfl⟩ := hout
            rw [show ((j : Int) == (k : Int)) = true from beq_iff_eq.mpr (congrArg Int.ofNat h3), if_pos rfl]
            repeat' walk_at "v"
            exact ⟨rfl, Sub.of ⟨rfl, rfl, rfl, rfl, rfl, trivial⟩, rfl⟩
          · rw [show Nat.beq j k = false from by rw [← Bool.not_eq_true]; exact fun z => h3 (Nat.eq_of_beq_eq_true z)] at hout
            rw [show ((j : Int) == (k : Int)) = false from by rw [← Bool.not_eq_true, beq_iff_eq]; exact fun z => h3 (Int.ofNat.inj z), if_neg (by decide)]
            simp only [cond_false] at hout
            repeat' walk_at "v"
            refine wb_val ?_
            repeat' walk_at "v"
            refine ⟨f, rfl, ?_⟩
            cases f with
            | true =>
              simp only [cond_true, Option.some.injEq, Prod.mk.injEq] at hout
              obtain ⟨rfl, rfl⟩ := hout
              rw [if_pos rfl]
              repeat' walk_at "v"
              exact ⟨rfl, Sub.of ⟨rfl, rfl, rfl, rfl, rfl, trivial⟩, rfl⟩
            | false =>
              simp only [cond_false] at hout
              rw [if_neg (by decide)]
              repeat' walk_at "v"
              exact ⟨n, Nat.lt_succ_self _, k, j, cmf, cj, true, Sub.of ⟨rfl, rfl, rfl, rfl, rfl, rfl, rfl, rfl, rfl, trivial⟩, rfl, hjk, ⟨hcf, hlen⟩, hcj, hout⟩
      · rw [show Nat.ble j (k + 1) = false from by rw [← Bool.not_eq_true]; exact fun z => h1 (Nat.ble_eq.mp z)] at hout
        rw [decide_eq_false (dle1n h1), if_neg (by decide)]
        simp only [cond_false] at hout
        repeat' walk_at "v"
        exact ⟨n, Nat.lt_succ_self _, k, j, cmf, cj, f, Sub.of ⟨rfl, rfl, rfl, rfl, rfl, rfl, rfl, rfl, rfl, trivial⟩, rfl, hjk, ⟨hcf, hlen⟩, hcj, hout⟩
end

section
variable {c : Cx} {fd : FuncData} {S : St}






theorem tabIs0 (P : Params) (es ep t) : TabIs P (setO es ep t) tl0 P0 where
  len := by kernel_rfl
  item := fun k e h => by
    have hk : k < 24 := (List.getElem?_eq_some_iff.mp h).1
    exact ⟨_, tl0_at k hk, tab0 P es ep t k e h⟩
  few := by decide
  words := fun k e h => by
    have : (P0.all fun x => Nat.ble x.1.length 100) = true := by decide
    exact Nat.ble_eq.mp (List.all_eq_true.mp this e (List.mem_of_getElem? h))
theorem tabR1 (P : Params) (es ep t) : TabR P (setO es ep t) tl1 R1 where
  len := by kernel_rfl
  item := fun k e h => by
    have hk : k < 16 := (List.getElem?_eq_some_iff.mp h).1
    have e1 : T1 = R1.map fun x => (x.1.reverse, x.2) := by decide
    exact ⟨_, tl1_at k hk, tab1 P es ep t k (e.1.reverse, e.2) (by rw [e1, List.getElem?_map, h]; rfl)⟩
  few := by decide
  words := fun k e h => by
    have : (R1.all fun x => Nat.ble x.1.length 100) = true := by decide
    exact Nat.ble_eq.mp (List.all_eq_true.mp this e (List.mem_of_getElem? h))
theorem tabR2 (P : Params) (es ep t) : TabR P (setO es ep t) tl2 R2 where
  len := by kernel_rfl
  item := fun k e h => by
    have hk : k < 25 := (List.getElem?_eq_some_iff.mp h).1
    have e1 : T2 = R2.map fun x => (x.1.reverse, x.2) := by decide
    exact ⟨_, tl2_at k hk, tab2 P es ep t k (e.1.reverse, e.2) (by rw [e1, List.getElem?_map, h]; rfl)⟩
  few := by decide
  words := fun k e h => by
    have : (R2.all fun x => Nat.ble x.1.length 100) = true := by decide
    exact Nat.ble_eq.mp (List.all_eq_true.mp this e (List.mem_of_getElem? h))
theorem tabR3 (P : Params) (es ep t) : TabR P (setO es ep t) tl3 R3 where
  len := by kernel_rfl
  item := fun k e h => by
    have hk : k < 12 := (List.getElem?_eq_some_iff.mp h).1
    have e1 : T3 = R3.map fun x => (x.1.reverse, x.2) := by decide
    exact ⟨_, tl3_at k hk, tab3 P es ep t k (e.1.reverse, e.2) (by rw [e1, List.getElem?_map, h]; rfl)⟩
  few := by decide
  words := fun k e h => by
    have : (R3.all fun x => Nat.ble x.1.length 100) = true := by decide
    exact Nat.ble_eq.mp (List.all_eq_true.mp this e (List.mem_of_getElem? h))

noncomputable def RR (r : PL') : Prop := r = [] ∨ ∃ v p q, r = regs v p q
theorem RR.len {r : PL'} (h : RR r) : List.length r ≤ 20 := by
  rcases h with rfl | ⟨v, p, q, rfl⟩
  · exact Nat.zero_le _
  · show 3 ≤ 20; decide
theorem RR.ok {r : PL'} (h : RR r) : RGok r := by
  intro n hn
  rcases h with rfl | ⟨v, p, q, rfl⟩
  · rfl
  · have a : ∀ x ∈ fieldNames, x ≠ n := fun x hx z => by
      have : isF n = true := List.any_eq_true.mpr ⟨x, hx, strEq.mpr z⟩
      rw [hn] at this; cases this
    rw [lk_cons, if_neg (a _ (by simp [fieldNames])), lk_cons, if_neg (a _ (by simp [fieldNames])), lk_cons, if_neg (a _ (by simp [fieldNames]))]
    rfl
theorem bk_all (cur : List Nat) : bk cur cur.length = cur.reverse := by unfold bk; rw [List.take_length]


theorem sp_find0 (w : World) (cur : List Nat) (cc m : Nat) (res : Int) (l lb br ke : Int) (r : PL') (hr : List.length r ≤ 20) (hl : cur.length ≤ 1000) (hlim : l = (cur.length : Int)) (hcc : cc ≤ cur.length) (hlook : look P0 (cur.drop cc) = some (m, res)) :
    Spec w fd133 (nmOf (cb 2 14)) (stBody (cb 2 14)) 1 (fun a => [.ref a, .lst tl0]) (some (flds cur cc l lb br ke r)) (fun p f => p = .int res ∧ f = some (flds cur ((cc + m : Nat) : Int) l lb br ke r)) :=
  fun c hw hd => sp_find c.w c.es c.ep c.t tl0 P0 cur cc m res l lb br ke r hr (tabIs0 _ _ _ _) hl hlim hcc hlook c rfl rfl rfl rfl
theorem sp_findb1 (w : World) (cur : List Nat) (cc m : Nat) (res : Int) (l br ke : Int) (r : PL') (hr : List.length r ≤ 20) (hl : cur.length ≤ 1000) (hcc : cc ≤ cur.length) (hlook : look R1 (bk cur cc) = some (m, res)) :
    Spec w fd140 (nmOf (cb 2 15)) (stBody (cb 2 15)) 1 (fun a => [.ref a, .lst tl1]) (some (flds cur cc l 0 br ke r)) (fun p f => p = .int res ∧ f = some (flds cur ((cc : Int) - (m : Int)) l 0 br ke r)) :=
  fun c hw hd => sp_findb c.w c.es c.ep c.t tl1 R1 cur cc m res l 0 br ke r hr (tabR1 _ _ _ _) hl rfl hcc hlook c rfl rfl rfl rfl
theorem sp_findb2 (w : World) (cur : List Nat) (cc m : Nat) (res : Int) (l br ke : Int) (r : PL') (hr : List.length r ≤ 20) (hl : cur.length ≤ 1000) (hcc : cc ≤ cur.length) (hlook : look R2 (bk cur cc) = some (m, res)) :
    Spec w fd140 (nmOf (cb 2 15)) (stBody (cb 2 15)) 1 (fun a => [.ref a, .lst tl2]) (some (flds cur cc l 0 br ke r)) (fun p f => p = .int res ∧ f = some (flds cur ((cc : Int) - (m : Int)) l 0 br ke r)) :=
  fun c hw hd => sp_findb c.w c.es c.ep c.t tl2 R2 cur cc m res l 0 br ke r hr (tabR2 _ _ _ _) hl rfl hcc hlook c rfl rfl rfl rfl
theorem sp_findb3 (w : World) (cur : List Nat) (cc m : Nat) (res : Int) (l br ke : Int) (r : PL') (hr : List.length r ≤ 20) (hl : cur.length ≤ 1000) (hcc : cc ≤ cur.length) (hlook : look R3 (bk cur cc) = some (m, res)) :
    Spec w fd140 (nmOf (cb 2 15)) (stBody (cb 2 15)) 1 (fun a => [.ref a, .lst tl3]) (some (flds cur cc l 0 br ke r)) (fun p f => p = .int res ∧ f = some (flds cur ((cc : Int) - (m : Int)) l 0 br ke r)) :=
  fun c hw hd => sp_findb c.w c.es c.ep c.t tl3 R3 cur cc m res l 0 br ke r hr (tabR3 _ _ _ _) hl rfl hcc hlook c rfl rfl rfl rfl

theorem sp_init (w : World) (cur s : List Nat) (m : Nat) (res : Int) (lb br ke : Int) (r : PL') (hr : RR r) (hl : cur.length ≤ 900) (hlook : look P0 cur = some (m, res)) (hm : m ≤ cur.length)
    (h : res ≠ 0 → 1 ≤ res ∧ as0[(res - 1).toNat]? = some s ∧ s.length ≤ 50) :
    Spec w fd244 (nmOf (cb 6 5)) (stBody (cb 6 5)) 4 (fun a => [.ref a]) (some (flds cur 0 cur.length lb br ke r))
      (fun p f => p.still = true ∧ ∃ c' br' ke', f = some (flds (if res = 0 then cur else s ++ cur.drop m) c' ((if res = 0 then cur else s ++ cur.drop m).length : Nat) lb br' ke' r)) := by
  intro cx hw hd
  have hr1 := hr.len
  have hn := hr.ok
  subst hw
  repeat' walk_at "v"
  refine we_meth (fn133 _ _ _ _) (me133 _ _ _ _) (by kernel_rfl) (by kernel_rfl) (by rfl) (by rfl) ?_ (k := 1) (by first | exact dle (by assumption) | omega) ?_ _ (by intros; rfl)
  · exact lkfl hn (by kernel_rfl) (by kernel_rfl)
  repeat' walk_at "v"
  refine we_a0 (by kernel_rfl) (by kernel_rfl) (by kernel_rfl) ?_
  repeat' walk_at "v"
  refine ⟨by kernel_rfl, ?_⟩
  refine (sp_find0 _ cur 0 m res cur.length lb 0 ke r hr1 (by omega) rfl (Nat.zero_le _) (by simpa using hlook)).mono ?_
  rintro p f ⟨rfl, rfl⟩
  repeat' walk_at "v"
  by_cases h0 : res = 0
  · subst h0
    rw [if_pos (by decide)]
    repeat' walk_at "v"
    exact ⟨rfl, ((0 + m : Nat) : Int), 0, ke, by rw [if_pos rfl]⟩
  · rw [show (res == 0) = false from by rw [← Bool.not_eq_true, beq_iff_eq]; exact h0, if_neg (by decide)]
    obtain ⟨h1, h2, h3⟩ := h h0
    repeat' walk_at "v"
    refine we_meth (fn154 _ _ _ _) (me154 _ _ _ _) (by kernel_rfl) (by kernel_rfl) (by rfl) (by rfl) ?_ (k := 2) (by first | exact dle (by assumption) | omega) ?_ _ (by intros; rfl)
    · exact lkfl hn (by kernel_rfl) (by kernel_rfl)
    repeat' walk_at "v"
    refine we_as0 (by kernel_rfl) (by kernel_rfl) (by kernel_rfl) ?_
    repeat' walk_at "v"
    refine get_tup (p := .str s) (by omega) (by decide) (by rw [List.getElem?_map, h2]; rfl) ?_
    repeat' walk_at "v"
    refine ⟨by kernel_rfl, ?_⟩
    refine (sp_slfrom _ cur s ((0 + m : Nat) : Int) cur.length lb 0 ((0 + m : Nat) : Int) r hr1 hn (by omega) (by omega) (by omega) (by omega) (by omega) (by omega)).mono ?_
    rintro p f ⟨rfl, rfl⟩
    refine ⟨rfl, ?_⟩
    repeat' walk_at "v"
    refine ⟨rfl, newC ((0 + m : Nat) : Int) 0 ((0 + m : Nat) : Int) ((s.length : Int) - (((0 + m : Nat) : Int) - 0)), 0, 0 + (s.length : Int), ?_⟩
    rw [if_neg h0]
    have e1 : cur.take (0 : Int).toNat ++ s ++ cur.drop ((0 + m : Nat) : Int).toNat = s ++ cur.drop m := by simp
    have e2 : ((cur.length : Int) + ((s.length : Int) - (((0 + m : Nat) : Int) - 0))) = ((s ++ cur.drop m).length : Nat) := by
      rw [List.length_append, List.length_drop]; omega
    show some (flds (cur.take (0 : Int).toNat ++ s ++ cur.drop ((0 + m : Nat) : Int).toNat) _ ((cur.length : Int) + ((s.length : Int) - (((0 + m : Nat) : Int) - 0))) _ _ _ _) = _
    rw [e1, e2]

theorem sp_mark (w : World) (cur : List Nat) (k1 k2 k3 k4 : Nat) (lb br ke : Int) (r : PL') (hr : RR r) (hl : cur.length ≤ 900)
    (h1 : k1 < k2) (h2 : k2 < k3) (h3 : k3 < k4) (h4 : k4 < cur.length)
    (v1 : vow (cur.getD k1 0) = true) (n1 : ∀ j, j < k1 → vow (cur.getD j 0) = false)
    (v2 : vow (cur.getD k2 0) = false) (n2 : ∀ j, k1 + 1 ≤ j → j < k2 → vow (cur.getD j 0) = true)
    (v3 : vow (cur.getD k3 0) = true) (n3 : ∀ j, k2 + 1 ≤ j → j < k3 → vow (cur.getD j 0) = false)
    (v4 : vow (cur.getD k4 0) = false) (n4 : ∀ j, k3 + 1 ≤ j → j < k4 → vow (cur.getD j 0) = true) :
    Spec w fd237 (nmOf (cb 6 4)) (stBody (cb 6 4)) 2 (fun a => [.ref a]) (some (flds cur 0 cur.length lb br ke r))
      (fun p f => p.still = true ∧ f = some (flds cur 0 cur.length lb br ke (regs ((k1 : Int) + 1) ((k2 : Int) + 1) ((k4 : Int) + 1)))) := by
  intro cx hw hd
  subst hw
  rcases hr with rfl | ⟨v, p, q, rfl⟩
  · skip
    repeat' walk_at "v"
    refine wb_val ?_
    refine we_meth (fn98 _ _ _ _) (me98 _ _ _ _) (by kernel_rfl) (by kernel_rfl) (by rfl) (by rfl) (by kernel_rfl) (k := 1) (by first | exact dle (by assumption) | omega) ?_ _ (by intros; rfl)
    repeat' walk_at "v"
    refine we_gv (by kernel_rfl) (by kernel_rfl) (by kernel_rfl) ?_
    repeat' walk_at "v"
    refine ⟨by kernel_rfl, ?_⟩
    refine (sp_goOut _ cur 0 k1 cur.length lb br ke (regs cur.length cur.length cur.length) (by show 3 ≤ 20; decide) (by omega) rfl (Nat.zero_le _) (by omega) v1 (fun j _ h => n1 j h)).mono ?_
    rintro p f ⟨rfl, rfl⟩
    refine ⟨true, rfl, ?_⟩
    rw [if_neg (by decide)]
    repeat' walk_at "v"
    refine wb_val ?_
    refine we_meth (fn70 _ _ _ _) (me70 _ _ _ _) (by kernel_rfl) (by kernel_rfl) (by rfl) (by rfl) (by kernel_rfl) (k := 1) (by first | exact dle (by assumption) | omega) ?_ _ (by intros; rfl)
    repeat' walk_at "v"
    refine we_gv (by kernel_rfl) (by kernel_rfl) (by kernel_rfl) ?_
    repeat' walk_at "v"
    refine ⟨by kernel_rfl, ?_⟩
    refine (sp_goIn _ cur (k1 + 1) k2 cur.length lb br ke (regs ((k1 : Int) + 1) cur.length cur.length) (by show 3 ≤ 20; decide) (by omega) rfl (by omega) (by omega) v2 n2).mono ?_
    rintro p f ⟨rfl, rfl⟩
    refine ⟨true, rfl, ?_⟩
    rw [if_neg (by decide)]
    repeat' walk_at "v"
    refine wb_val ?_
    refine we_meth (fn98 _ _ _ _) (me98 _ _ _ _) (by kernel_rfl) (by kernel_rfl) (by rfl) (by rfl) (by kernel_rfl) (k := 1) (by first | exact dle (by assumption) | omega) ?_ _ (by intros; rfl)
    repeat' walk_at "v"
    refine we_gv (by kernel_rfl) (by kernel_rfl) (by kernel_rfl) ?_
    repeat' walk_at "v"
    refine ⟨by kernel_rfl, ?_⟩
    refine (sp_goOut _ cur (k2 + 1) k3 cur.length lb br ke (regs ((k1 : Int) + 1) ((k2 : Int) + 1) cur.length) (by show 3 ≤ 20; decide) (by omega) rfl (by omega) (by omega) v3 n3).mono ?_
    rintro p f ⟨rfl, rfl⟩
    refine ⟨true, rfl, ?_⟩
    rw [if_neg (by decide)]
    repeat' walk_at "v"
    refine wb_val ?_
    refine we_meth (fn70 _ _ _ _) (me70 _ _ _ _) (by kernel_rfl) (by kernel_rfl) (by rfl) (by rfl) (by kernel_rfl) (k := 1) (by first | exact dle (by assumption) | omega) ?_ _ (by intros; rfl)
    repeat' walk_at "v"
    refine we_gv (by kernel_rfl) (by kernel_rfl) (by kernel_rfl) ?_
    repeat' walk_at "v"
    refine ⟨by kernel_rfl, ?_⟩
    refine (sp_goIn _ cur (k3 + 1) k4 cur.length lb br ke (regs ((k1 : Int) + 1) ((k2 : Int) + 1) cur.length) (by show 3 ≤ 20; decide) (by omega) rfl (by omega) (by omega) v4 n4).mono ?_
    rintro p f ⟨rfl, rfl⟩
    refine ⟨true, rfl, ?_⟩
    rw [if_neg (by decide)]
    repeat' walk_at "v"
    exact ⟨rfl, rfl⟩
  · skip
    repeat' walk_at "v"
    refine wb_val ?_
    refine we_meth (fn98 _ _ _ _) (me98 _ _ _ _) (by kernel_rfl) (by kernel_rfl) (by rfl) (by rfl) (by kernel_rfl) (k := 1) (by first | exact dle (by assumption) | omega) ?_ _ (by intros; rfl)
    repeat' walk_at "v"
    refine we_gv (by kernel_rfl) (by kernel_rfl) (by kernel_rfl) ?_
    repeat' walk_at "v"
    refine ⟨by kernel_rfl, ?_⟩
    refine (sp_goOut _ cur 0 k1 cur.length lb br ke (regs cur.length cur.length cur.length) (by show 3 ≤ 20; decide) (by omega) rfl (Nat.zero_le _) (by omega) v1 (fun j _ h => n1 j h)).mono ?_
    rintro p f ⟨rfl, rfl⟩
    refine ⟨true, rfl, ?_⟩
    rw [if_neg (by decide)]
    repeat' walk_at "v"
    refine wb_val ?_
    refine we_meth (fn70 _ _ _ _) (me70 _ _ _ _) (by kernel_rfl) (by kernel_rfl) (by rfl) (by rfl) (by kernel_rfl) (k := 1) (by first | exact dle (by assumption) | omega) ?_ _ (by intros; rfl)
    repeat' walk_at "v"
    refine we_gv (by kernel_rfl) (by kernel_rfl) (by kernel_rfl) ?_
    repeat' walk_at "v"
    refine ⟨by kernel_rfl, ?_⟩
    refine (sp_goIn _ cur (k1 + 1) k2 cur.length lb br ke (regs ((k1 : Int) + 1) cur.length cur.length) (by show 3 ≤ 20; decide) (by omega) rfl (by omega) (by omega) v2 n2).mono ?_
    rintro p f ⟨rfl, rfl⟩
    refine ⟨true, rfl, ?_⟩
    rw [if_neg (by decide)]
    repeat' walk_at "v"
    refine wb_val ?_
    refine we_meth (fn98 _ _ _ _) (me98 _ _ _ _) (by kernel_rfl) (by kernel_rfl) (by rfl) (by rfl) (by kernel_rfl) (k := 1) (by first | exact dle (by assumption) | omega) ?_ _ (by intros; rfl)
    repeat' walk_at "v"
    refine we_gv (by kernel_rfl) (by kernel_rfl) (by kernel_rfl) ?_
    repeat' walk_at "v"
    refine ⟨by kernel_rfl, ?_⟩
    refine (sp_goOut _ cur (k2 + 1) k3 cur.length lb br ke (regs ((k1 : Int) + 1) ((k2 : Int) + 1) cur.length) (by show 3 ≤ 20; decide) (by omega) rfl (by omega) (by omega) v3 n3).mono ?_
    rintro p f ⟨rfl, rfl⟩
    refine ⟨true, rfl, ?_⟩
    rw [if_neg (by decide)]
    repeat' walk_at "v"
    refine wb_val ?_
    refine we_meth (fn70 _ _ _ _) (me70 _ _ _ _) (by kernel_rfl) (by kernel_rfl) (by rfl) (by rfl) (by kernel_rfl) (k := 1) (by first | exact dle (by assumption) | omega) ?_ _ (by intros; rfl)
    repeat' walk_at "v"
    refine we_gv (by kernel_rfl) (by kernel_rfl) (by kernel_rfl) ?_
    repeat' walk_at "v"
    refine ⟨by kernel_rfl, ?_⟩
    refine (sp_goIn _ cur (k3 + 1) k4 cur.length lb br ke (regs ((k1 : Int) + 1) ((k2 : Int) + 1) cur.length) (by show 3 ≤ 20; decide) (by omega) rfl (by omega) (by omega) v4 n4).mono ?_
    rintro p f ⟨rfl, rfl⟩
    refine ⟨true, rfl, ?_⟩
    rw [if_neg (by decide)]
    repeat' walk_at "v"
    exact ⟨rfl, rfl⟩

/-- the text behind r_noun_sfx -/
noncomputable def cut (cur : List Nat) (m : Nat) (res : Int) : List Nat := if res = 0 then cur else cur.take (cur.length - m)

theorem take_all_drop (cur : List Nat) : cur.drop ((cur.length : Nat) : Int).toNat = [] := by simp

theorem sp_noun (w : World) (cur : List Nat) (m : Nat) (res : Int) (br ke v p q : Int) (hl : cur.length ≤ 900) (hlook : look R1 (bk cur cur.length) = some (m, res)) (hm : m ≤ cur.length)
    (h : res ≠ 0 → p ≤ (cur.length : Int) - m ∧ q ≤ (cur.length : Int) - m) :
    Spec w fd265 (nmOf (cb 6 8)) (stBody (cb 6 8)) 4 (fun a => [.ref a]) (some (flds cur cur.length cur.length 0 br ke (regs v p q)))
      (fun r f => r.still = true ∧ ∃ c' br' ke', f = some (flds (cut cur m res) c' ((cut cur m res).length : Nat) 0 br' ke' (regs v p q))) := by
  intro cx hw hd
  subst hw
  repeat' walk_at "v"
  refine we_meth (fn140 _ _ _ _) (me140 _ _ _ _) (by kernel_rfl) (by kernel_rfl) (by rfl) (by rfl) (by kernel_rfl) (k := 1) (by first | exact dle (by assumption) | omega) ?_ _ (by intros; rfl)
  repeat' walk_at "v"
  refine we_a1 (by kernel_rfl) (by kernel_rfl) (by kernel_rfl) ?_
  repeat' walk_at "v"
  refine ⟨by kernel_rfl, ?_⟩
  refine (sp_findb1 _ cur cur.length m res cur.length br cur.length (regs v p q) (by show 3 ≤ 20; decide) (by omega) (Nat.le_refl _) hlook).mono ?_
  rintro p' f ⟨rfl, rfl⟩
  repeat' walk_at "v"
  by_cases h0 : res = 0
  · subst h0
    rw [if_pos (by decide)]
    repeat' walk_at "v"
    exact ⟨rfl, (cur.length : Int) - m, br, cur.length, by unfold cut; rw [if_pos rfl]⟩
  · rw [show (res == 0) = false from by rw [← Bool.not_eq_true, beq_iff_eq]; exact h0, if_neg (by decide)]
    obtain ⟨hp, hq⟩ := h h0
    have fin : ∀ f : Option PL', f = some (flds (cur.take ((cur.length : Int) - m).toNat ++ cur.drop ((cur.length : Nat) : Int).toNat) (newC ((cur.length : Int) - m) ((cur.length : Int) - m) cur.length (0 - ((cur.length : Int) - ((cur.length : Int) - m)))) ((cur.length : Int) + (0 - ((cur.length : Int) - ((cur.length : Int) - m)))) 0 ((cur.length : Int) - m) ((cur.length : Int) - m) (regs v p q)) →
        ∃ c' br' ke', f = some (flds (cut cur m res) c' ((cut cur m res).length : Nat) 0 br' ke' (regs v p q)) := by
      rintro f rfl
      refine ⟨newC ((cur.length : Int) - m) ((cur.length : Int) - m) cur.length (0 - ((cur.length : Int) - ((cur.length : Int) - m))), (cur.length : Int) - m, (cur.length : Int) - m, ?_⟩
      unfold cut
      rw [if_neg h0, take_all_drop, List.append_nil, show ((cur.length : Int) - m).toNat = cur.length - m by omega]
      rw [show ((cur.length : Int) + (0 - ((cur.length : Int) - ((cur.length : Int) - m)))) = ((cur.take (cur.length - m)).length : Nat) by rw [List.length_take]; omega]
    repeat' walk_at "v"
    by_cases h1 : res = 1
    · rw [show (res == 1) = true from beq_iff_eq.mpr h1, if_pos rfl]
      repeat' walk_at "v"
      refine wb_val ?_
      refine we_meth0 (fn251 _ _ _ _) (me251 _ _ _ _) (by kernel_rfl) (by kernel_rfl) (by rfl) (by rfl) (by kernel_rfl) (k := 1) (by first | exact dle (by assumption) | omega) (by kernel_rfl) ?_ _ (by intros; rfl)
      refine (sp_R1 _ cur ((cur.length : Int) - m) cur.length 0 ((cur.length : Int) - m) cur.length v p q).mono ?_
      rintro p' f ⟨rfl, rfl⟩
      refine ⟨_, rfl, ?_⟩
      rw [decide_eq_true hp, if_neg (by decide)]
      repeat' walk_at "v"
      refine we_meth0 (fn161 _ _ _ _) (me161 _ _ _ _) (by kernel_rfl) (by kernel_rfl) (by rfl) (by rfl) (by kernel_rfl) (k := 3) (by first | exact dle (by assumption) | omega) (by kernel_rfl) ?_ _ (by intros; rfl)
      refine (sp_sldel _ cur ((cur.length : Int) - m) cur.length 0 ((cur.length : Int) - m) cur.length (regs v p q) (by show 3 ≤ 20; decide) (RR.ok (.inr ⟨_, _, _, rfl⟩)) (by omega) (by omega) (by omega) (by omega) (by omega)).mono ?_
      rintro p' f ⟨rfl, hf⟩
      refine ⟨rfl, ?_⟩
      repeat' walk_at "v"
      exact ⟨rfl, fin _ hf⟩
    · rw [show (res == 1) = false from by rw [← Bool.not_eq_true, beq_iff_eq]; exact h1, if_neg (by decide)]
      repeat' walk_at "v"
      refine wb_val ?_
      refine we_meth0 (fn258 _ _ _ _) (me258 _ _ _ _) (by kernel_rfl) (by kernel_rfl) (by rfl) (by rfl) (by kernel_rfl) (k := 1) (by first | exact dle (by assumption) | omega) (by kernel_rfl) ?_ _ (by intros; rfl)
      refine (sp_R2 _ cur ((cur.length : Int) - m) cur.length 0 ((cur.length : Int) - m) cur.length v p q).mono ?_
      rintro p' f ⟨rfl, rfl⟩
      refine ⟨_, rfl, ?_⟩
      rw [decide_eq_true hq, if_neg (by decide)]
      repeat' walk_at "v"
      refine we_meth0 (fn161 _ _ _ _) (me161 _ _ _ _) (by kernel_rfl) (by kernel_rfl) (by rfl) (by rfl) (by kernel_rfl) (k := 3) (by first | exact dle (by assumption) | omega) (by kernel_rfl) ?_ _ (by intros; rfl)
      refine (sp_sldel _ cur ((cur.length : Int) - m) cur.length 0 ((cur.length : Int) - m) cur.length (regs v p q) (by show 3 ≤ 20; decide) (RR.ok (.inr ⟨_, _, _, rfl⟩)) (by omega) (by omega) (by omega) (by omega) (by omega)).mono ?_
      rintro p' f ⟨rfl, hf⟩
      refine ⟨rfl, ?_⟩
      repeat' walk_at "v"
      exact ⟨rfl, fin _ hf⟩
end

section
variable {c : Cx} {fd : FuncData} {S : St}






noncomputable def leftOf (res : Int) : List Nat := if res = 2 then [97, 114, 99] else if res = 3 then [103, 105, 110] else if res = 4 then [103, 114, 97, 102] else if res = 5 then [112, 97, 105, 116, 101] else [243, 105, 100]
/-- the text behind r_deriv -/
noncomputable def dcut (cur : List Nat) (m : Nat) (res : Int) : List Nat := if res = 0 then cur else if res = 1 then cur.take (cur.length - m) else cur.take (cur.length - m) ++ leftOf res

theorem sp_verb (w : World) (cur : List Nat) (m : Nat) (res : Int) (br ke v p q : Int) (hl : cur.length ≤ 900) (hlook : look R3 (bk cur cur.length) = some (m, res)) (hm : m ≤ cur.length)
    (h : res ≠ 0 → v ≤ (cur.length : Int) - m ∧ p ≤ (cur.length : Int) - m) :
    Spec w fd279 (nmOf (cb 6 10)) (stBody (cb 6 10)) 4 (fun a => [.ref a]) (some (flds cur cur.length cur.length 0 br ke (regs v p q)))
      (fun r f => r.still = true ∧ ∃ c' br' ke', f = some (flds (cut cur m res) c' ((cut cur m res).length : Nat) 0 br' ke' (regs v p q))) := by
  intro cx hw hd
  subst hw
  repeat' walk_at "v"
  refine we_meth (fn140 _ _ _ _) (me140 _ _ _ _) (by kernel_rfl) (by kernel_rfl) (by rfl) (by rfl) (by kernel_rfl) (k := 1) (by first | exact dle (by assumption) | omega) ?_ _ (by intros; rfl)
  repeat' walk_at "v"
  refine we_a3 (by kernel_rfl) (by kernel_rfl) (by kernel_rfl) ?_
  repeat' walk_at "v"
  refine ⟨by kernel_rfl, ?_⟩
  refine (sp_findb3 _ cur cur.length m res cur.length br cur.length (regs v p q) (by show 3 ≤ 20; decide) (by omega) (Nat.le_refl _) hlook).mono ?_
  rintro p' f ⟨rfl, rfl⟩
  repeat' walk_at "v"
  by_cases h0 : res = 0
  · subst h0
    rw [if_pos (by decide)]
    repeat' walk_at "v"
    exact ⟨rfl, (cur.length : Int) - m, br, cur.length, by unfold cut; rw [if_pos rfl]⟩
  · rw [show (res == 0) = false from by rw [← Bool.not_eq_true, beq_iff_eq]; exact h0, if_neg (by decide)]
    obtain ⟨hp, hq⟩ := h h0
    have fin : ∀ f : Option PL', f = some (flds (cur.take ((cur.length : Int) - m).toNat ++ cur.drop ((cur.length : Nat) : Int).toNat) (newC ((cur.length : Int) - m) ((cur.length : Int) - m) cur.length (0 - ((cur.length : Int) - ((cur.length : Int) - m)))) ((cur.length : Int) + (0 - ((cur.length : Int) - ((cur.length : Int) - m)))) 0 ((cur.length : Int) - m) ((cur.length : Int) - m) (regs v p q)) →
        ∃ c' br' ke', f = some (flds (cut cur m res) c' ((cut cur m res).length : Nat) 0 br' ke' (regs v p q)) := by
      rintro f rfl
      refine ⟨newC ((cur.length : Int) - m) ((cur.length : Int) - m) cur.length (0 - ((cur.length : Int) - ((cur.length : Int) - m))), (cur.length : Int) - m, (cur.length : Int) - m, ?_⟩
      unfold cut
      rw [if_neg h0, take_all_drop, List.append_nil, show ((cur.length : Int) - m).toNat = cur.length - m by omega]
      rw [show ((cur.length : Int) + (0 - ((cur.length : Int) - ((cur.length : Int) - m)))) = ((cur.take (cur.length - m)).length : Nat) by rw [List.length_take]; omega]
    repeat' walk_at "v"
    by_cases h1 : res = 1
    · rw [show (res == 1) = true from beq_iff_eq.mpr h1, if_pos rfl]
      repeat' walk_at "v"
      rw [decide_eq_false (show ¬ v > (cur.length : Int) - m by omega), if_neg (by decide)]
      repeat' walk_at "v"
      refine we_meth0 (fn161 _ _ _ _) (me161 _ _ _ _) (by kernel_rfl) (by kernel_rfl) (by rfl) (by rfl) (by kernel_rfl) (k := 3) (by first | exact dle (by assumption) | omega) (by kernel_rfl) ?_ _ (by intros; rfl)
      refine (sp_sldel _ cur ((cur.length : Int) - m) cur.length 0 ((cur.length : Int) - m) cur.length (regs v p q) (by show 3 ≤ 20; decide) (RR.ok (.inr ⟨_, _, _, rfl⟩)) (by omega) (by omega) (by omega) (by omega) (by omega)).mono ?_
      rintro p' f ⟨rfl, hf⟩
      refine ⟨rfl, ?_⟩
      repeat' walk_at "v"
      exact ⟨rfl, fin _ hf⟩
    · rw [show (res == 1) = false from by rw [← Bool.not_eq_true, beq_iff_eq]; exact h1, if_neg (by decide)]
      repeat' walk_at "v"
      refine wb_val ?_
      refine we_meth0 (fn251 _ _ _ _) (me251 _ _ _ _) (by kernel_rfl) (by kernel_rfl) (by rfl) (by rfl) (by kernel_rfl) (k := 1) (by first | exact dle (by assumption) | omega) (by kernel_rfl) ?_ _ (by intros; rfl)
      refine (sp_R1 _ cur ((cur.length : Int) - m) cur.length 0 ((cur.length : Int) - m) cur.length v p q).mono ?_
      rintro p' f ⟨rfl, rfl⟩
      refine ⟨_, rfl, ?_⟩
      rw [decide_eq_true hq, if_neg (by decide)]
      repeat' walk_at "v"
      refine we_meth0 (fn161 _ _ _ _) (me161 _ _ _ _) (by kernel_rfl) (by kernel_rfl) (by rfl) (by rfl) (by kernel_rfl) (k := 3) (by first | exact dle (by assumption) | omega) (by kernel_rfl) ?_ _ (by intros; rfl)
      refine (sp_sldel _ cur ((cur.length : Int) - m) cur.length 0 ((cur.length : Int) - m) cur.length (regs v p q) (by show 3 ≤ 20; decide) (RR.ok (.inr ⟨_, _, _, rfl⟩)) (by omega) (by omega) (by omega) (by omega) (by omega)).mono ?_
      rintro p' f ⟨rfl, hf⟩
      refine ⟨rfl, ?_⟩
      repeat' walk_at "v"
      exact ⟨rfl, fin _ hf⟩
theorem sp_deriv (w : World) (cur : List Nat) (m : Nat) (res : Int) (br ke v p q : Int) (hl : cur.length ≤ 900) (hlook : look R2 (bk cur cur.length) = some (m, res)) (hm : m ≤ cur.length)
    (h : res = 1 → q ≤ (cur.length : Int) - m) :
    Spec w fd272 (nmOf (cb 6 9)) (stBody (cb 6 9)) 4 (fun a => [.ref a]) (some (flds cur cur.length cur.length 0 br ke (regs v p q)))
      (fun r f => r.still = true ∧ ∃ c' br' ke', f = some (flds (dcut cur m res) c' ((dcut cur m res).length : Nat) 0 br' ke' (regs v p q))) := by
  intro cx hw hd
  subst hw
  repeat' walk_at "v"
  refine we_meth (fn140 _ _ _ _) (me140 _ _ _ _) (by kernel_rfl) (by kernel_rfl) (by rfl) (by rfl) (by kernel_rfl) (k := 1) (by first | exact dle (by assumption) | omega) ?_ _ (by intros; rfl)
  repeat' walk_at "v"
  refine we_a2 (by kernel_rfl) (by kernel_rfl) (by kernel_rfl) ?_
  repeat' walk_at "v"
  refine ⟨by kernel_rfl, ?_⟩
  refine (sp_findb2 _ cur cur.length m res cur.length br cur.length (regs v p q) (by show 3 ≤ 20; decide) (by omega) (Nat.le_refl _) hlook).mono ?_
  rintro p' f ⟨rfl, rfl⟩
  repeat' walk_at "v"
  by_cases h0 : res = 0
  · subst h0
    rw [if_pos (by decide)]
    repeat' walk_at "v"
    exact ⟨rfl, (cur.length : Int) - m, br, cur.length, by unfold dcut; rw [if_pos rfl]⟩
  · rw [show (res == 0) = false from by rw [← Bool.not_eq_true, beq_iff_eq]; exact h0, if_neg (by decide)]
    repeat' walk_at "v"
    by_cases h1 : res = 1
    · rw [show (res == 1) = true from beq_iff_eq.mpr h1, if_pos rfl]
      have hq := h h1
      repeat' walk_at "v"
      refine wb_val ?_
      refine we_meth0 (fn258 _ _ _ _) (me258 _ _ _ _) (by kernel_rfl) (by kernel_rfl) (by rfl) (by rfl) (by kernel_rfl) (k := 1) (by first | exact dle (by assumption) | omega) (by kernel_rfl) ?_ _ (by intros; rfl)
      refine (sp_R2 _ cur ((cur.length : Int) - m) cur.length 0 ((cur.length : Int) - m) cur.length v p q).mono ?_
      rintro p' f ⟨rfl, rfl⟩
      refine ⟨_, rfl, ?_⟩
      rw [decide_eq_true hq, if_neg (by decide)]
      repeat' walk_at "v"
      refine we_meth0 (fn161 _ _ _ _) (me161 _ _ _ _) (by kernel_rfl) (by kernel_rfl) (by rfl) (by rfl) (by kernel_rfl) (k := 3) (by first | exact dle (by assumption) | omega) (by kernel_rfl) ?_ _ (by intros; rfl)
      refine (sp_sldel _ cur ((cur.length : Int) - m) cur.length 0 ((cur.length : Int) - m) cur.length (regs v p q) (by show 3 ≤ 20; decide) (RR.ok (.inr ⟨_, _, _, rfl⟩)) (by omega) (by omega) (by omega) (by omega) (by omega)).mono ?_
      rintro p' f ⟨rfl, hf⟩
      refine ⟨rfl, ?_⟩
      repeat' walk_at "v"
      refine ⟨rfl, newC ((cur.length : Int) - m) ((cur.length : Int) - m) cur.length (0 - ((cur.length : Int) - ((cur.length : Int) - m))), (cur.length : Int) - m, (cur.length : Int) - m, ?_⟩
      refine Eq.trans hf ?_
      unfold dcut
      rw [if_neg h0, if_pos h1, take_all_drop, List.append_nil, show ((cur.length : Int) - m).toNat = cur.length - m by omega]
      rw [show ((cur.length : Int) + (0 - ((cur.length : Int) - ((cur.length : Int) - m)))) = ((cur.take (cur.length - m)).length : Nat) by rw [List.length_take]; omega]
    · rw [show (res == 1) = false from by rw [← Bool.not_eq_true, beq_iff_eq]; exact h1, if_neg (by decide)]
      have fin : ∀ (f : Option PL') (s : List Nat), leftOf res = s → f = some (flds (cur.take ((cur.length : Int) - m).toNat ++ s ++ cur.drop ((cur.length : Nat) : Int).toNat) (newC ((cur.length : Int) - m) ((cur.length : Int) - m) cur.length ((s.length : Int) - ((cur.length : Int) - ((cur.length : Int) - m)))) ((cur.length : Int) + ((s.length : Int) - ((cur.length : Int) - ((cur.length : Int) - m)))) 0 ((cur.length : Int) - m) ((cur.length : Int) - m + s.length) (regs v p q)) →
          ∃ c' br' ke', f = some (flds (dcut cur m res) c' ((dcut cur m res).length : Nat) 0 br' ke' (regs v p q)) := by
        rintro f s hs rfl
        refine ⟨newC ((cur.length : Int) - m) ((cur.length : Int) - m) cur.length ((s.length : Int) - ((cur.length : Int) - ((cur.length : Int) - m))), (cur.length : Int) - m, (cur.length : Int) - m + s.length, ?_⟩
        unfold dcut
        rw [if_neg h0, if_neg h1, hs, take_all_drop, List.append_nil, show ((cur.length : Int) - m).toNat = cur.length - m by omega]
        rw [show ((cur.length : Int) + ((s.length : Int) - ((cur.length : Int) - ((cur.length : Int) - m)))) = ((cur.take (cur.length - m) ++ s).length : Nat) by rw [List.length_append, List.length_take]; omega]
      repeat' walk_at "v"
      by_cases h2 : res = 2
      · rw [show (res == 2) = true from beq_iff_eq.mpr h2, if_pos rfl]
        repeat' walk_at "v"
        refine we_meth (fn154 _ _ _ _) (me154 _ _ _ _) (by kernel_rfl) (by kernel_rfl) (by rfl) (by rfl) (by kernel_rfl) (k := 2) (by first | exact dle (by assumption) | omega) ?_ _ (by intros; rfl)
        repeat' walk_at "v"
        refine ⟨by kernel_rfl, ?_⟩
        refine (sp_slfrom _ cur [97, 114, 99] ((cur.length : Int) - m) cur.length 0 ((cur.length : Int) - m) cur.length (regs v p q) (by show 3 ≤ 20; decide) (RR.ok (.inr ⟨_, _, _, rfl⟩)) (by omega) (by decide) (by omega) (by omega) (by omega) (by omega)).mono ?_
        rintro p' f ⟨rfl, hf⟩
        refine ⟨rfl, ?_⟩
        repeat' walk_at "v"
        exact ⟨rfl, fin _ [97, 114, 99] (by subst h2; rfl) hf⟩
      · rw [show (res == 2) = false from by rw [← Bool.not_eq_true, beq_iff_eq]; exact h2, if_neg (by decide)]
        repeat' walk_at "v"
        by_cases h3 : res = 3
        · rw [show (res == 3) = true from beq_iff_eq.mpr h3, if_pos rfl]
          repeat' walk_at "v"
          refine we_meth (fn154 _ _ _ _) (me154 _ _ _ _) (by kernel_rfl) (by kernel_rfl) (by rfl) (by rfl) (by kernel_rfl) (k := 2) (by first | exact dle (by assumption) | omega) ?_ _ (by intros; rfl)
          repeat' walk_at "v"
          refine ⟨by kernel_rfl, ?_⟩
          refine (sp_slfrom _ cur [103, 105, 110] ((cur.length : Int) - m) cur.length 0 ((cur.length : Int) - m) cur.length (regs v p q) (by show 3 ≤ 20; decide) (RR.ok (.inr ⟨_, _, _, rfl⟩)) (by omega) (by decide) (by omega) (by omega) (by omega) (by omega)).mono ?_
          rintro p' f ⟨rfl, hf⟩
          refine ⟨rfl, ?_⟩
          repeat' walk_at "v"
          exact ⟨rfl, fin _ [103, 105, 110] (by subst h3; rfl) hf⟩
        · rw [show (res == 3) = false from by rw [← Bool.not_eq_true, beq_iff_eq]; exact h3, if_neg (by decide)]
          repeat' walk_at "v"
          by_cases h4 : res = 4
          · rw [show (res == 4) = true from beq_iff_eq.mpr h4, if_pos rfl]
            repeat' walk_at "v"
            refine we_meth (fn154 _ _ _ _) (me154 _ _ _ _) (by kernel_rfl) (by kernel_rfl) (by rfl) (by rfl) (by kernel_rfl) (k := 2) (by first | exact dle (by assumption) | omega) ?_ _ (by intros; rfl)
            repeat' walk_at "v"
            refine ⟨by kernel_rfl, ?_⟩
            refine (sp_slfrom _ cur [103, 114, 97, 102] ((cur.length : Int) - m) cur.length 0 ((cur.length : Int) - m) cur.length (regs v p q) (by show 3 ≤ 20; decide) (RR.ok (.inr ⟨_, _, _, rfl⟩)) (by omega) (by decide) (by omega) (by omega) (by omega) (by omega)).mono ?_
            rintro p' f ⟨rfl, hf⟩
            refine ⟨rfl, ?_⟩
            repeat' walk_at "v"
            exact ⟨rfl, fin _ [103, 114, 97, 102] (by subst h4; rfl) hf⟩
          · rw [show (res == 4) = false from by rw [← Bool.not_eq_true, beq_iff_eq]; exact h4, if_neg (by decide)]
            repeat' walk_at "v"
            by_cases h5 : res = 5
            · rw [show (res == 5) = true from beq_iff_eq.mpr h5, if_pos rfl]
              repeat' walk_at "v"
              refine we_meth (fn154 _ _ _ _) (me154 _ _ _ _) (by kernel_rfl) (by kernel_rfl) (by rfl) (by rfl) (by kernel_rfl) (k := 2) (by first | exact dle (by assumption) | omega) ?_ _ (by intros; rfl)
              repeat' walk_at "v"
              refine ⟨by kernel_rfl, ?_⟩
              refine (sp_slfrom _ cur [112, 97, 105, 116, 101] ((cur.length : Int) - m) cur.length 0 ((cur.length : Int) - m) cur.length (regs v p q) (by show 3 ≤ 20; decide) (RR.ok (.inr ⟨_, _, _, rfl⟩)) (by omega) (by decide) (by omega) (by omega) (by omega) (by omega)).mono ?_
              rintro p' f ⟨rfl, hf⟩
              refine ⟨rfl, ?_⟩
              repeat' walk_at "v"
              exact ⟨rfl, fin _ [112, 97, 105, 116, 101] (by subst h5; rfl) hf⟩
            · rw [show (res == 5) = false from by rw [← Bool.not_eq_true, beq_iff_eq]; exact h5, if_neg (by decide)]
              repeat' walk_at "v"
              refine we_meth (fn154 _ _ _ _) (me154 _ _ _ _) (by kernel_rfl) (by kernel_rfl) (by rfl) (by rfl) (by kernel_rfl) (k := 2) (by first | exact dle (by assumption) | omega) ?_ _ (by intros; rfl)
              repeat' walk_at "v"
              refine ⟨by kernel_rfl, ?_⟩
              refine (sp_slfrom _ cur [243, 105, 100] ((cur.length : Int) - m) cur.length 0 ((cur.length : Int) - m) cur.length (regs v p q) (by show 3 ≤ 20; decide) (RR.ok (.inr ⟨_, _, _, rfl⟩)) (by omega) (by decide) (by omega) (by omega) (by omega) (by omega)).mono ?_
              rintro p' f ⟨rfl, hf⟩
              refine ⟨rfl, ?_⟩
              repeat' walk_at "v"
              exact ⟨rfl, fin _ [243, 105, 100] (by unfold leftOf; rw [if_neg h2, if_neg h3, if_neg h4, if_neg h5]) hf⟩
end

section
variable {c : Cx} {fd : FuncData} {S : St}






/-- the plain stemmer's steps on a word that goes the straight way -/
structure StemP (cur0 out : List Nat) : Prop where
  go : ∃ (s0 : List Nat) (m0 : Nat) (r0 : Int) (cur1 : List Nat) (k1 k2 k3 k4 : Nat) (m1 : Nat) (r1 : Int) (cur2 : List Nat) (m2 : Nat) (r2 : Int) (cur3 : List Nat) (m3 : Nat) (r3 : Int),
    (cur0.length ≤ 800 ∧ look P0 cur0 = some (m0, r0) ∧ m0 ≤ cur0.length ∧ (r0 ≠ 0 → 1 ≤ r0 ∧ as0[(r0 - 1).toNat]? = some s0 ∧ s0.length ≤ 50) ∧ cur1 = (if r0 = 0 then cur0 else s0 ++ cur0.drop m0)) ∧
    (k1 < k2 ∧ k2 < k3 ∧ k3 < k4 ∧ k4 < cur1.length ∧ vow (cur1.getD k1 0) = true ∧ (∀ j, j < k1 → vow (cur1.getD j 0) = false) ∧
      vow (cur1.getD k2 0) = false ∧ (∀ j, k1 + 1 ≤ j → j < k2 → vow (cur1.getD j 0) = true) ∧
      vow (cur1.getD k3 0) = true ∧ (∀ j, k2 + 1 ≤ j → j < k3 → vow (cur1.getD j 0) = false) ∧
      vow (cur1.getD k4 0) = false ∧ (∀ j, k3 + 1 ≤ j → j < k4 → vow (cur1.getD j 0) = true)) ∧
    (look R1 (bk cur1 cur1.length) = some (m1, r1) ∧ m1 ≤ cur1.length ∧ (r1 ≠ 0 → (k4 : Int) + 1 ≤ (cur1.length : Int) - m1) ∧ cur2 = cut cur1 m1 r1) ∧
    (look R2 (bk cur2 cur2.length) = some (m2, r2) ∧ m2 ≤ cur2.length ∧ (r2 = 1 → (k4 : Int) + 1 ≤ (cur2.length : Int) - m2) ∧ cur3 = dcut cur2 m2 r2) ∧
    (look R3 (bk cur3 cur3.length) = some (m3, r3) ∧ m3 ≤ cur3.length ∧ (r3 ≠ 0 → (k2 : Int) + 1 ≤ (cur3.length : Int) - m3) ∧ out = cut cur3 m3 r3)

theorem cut_le (cur : List Nat) (m : Nat) (r : Int) : (cut cur m r).length ≤ cur.length := by
  unfold cut; split
  · exact Nat.le_refl _
  · rw [List.length_take]; omega
theorem leftOf_le (r : Int) : (leftOf r).length ≤ 5 := by
  unfold leftOf
  repeat' split
  all_goals decide
theorem dcut_le (cur : List Nat) (m : Nat) (r : Int) : (dcut cur m r).length ≤ cur.length + 5 := by
  unfold dcut; repeat' split
  · omega
  · rw [List.length_take]; omega
  · rw [List.length_append, List.length_take]; have := leftOf_le r; omega

theorem sp_stem (w : World) (cur0 out : List Nat) (H : StemP cur0 out) (r : PL') (hr : RR r) :
    Spec w fd286 (nmOf (cb 6 11)) (stBody (cb 6 11)) 5 (fun a => [.ref a]) (some (flds cur0 0 cur0.length 0 0 cur0.length r))
      (fun p f => p.still = true ∧ ∃ l' br' ke' v p' q, f = some (flds out 0 l' 0 br' ke' (regs v p' q))) := by
  intro cx hw hd
  have hr1 := hr.len
  have hn := hr.ok
  subst hw
  obtain ⟨s0, m0, r0, cur1, k1, k2, k3, k4, m1, r1, cur2, m2, r2, cur3, m3, r3, ⟨a1, a2, a3, a4, a5⟩, ⟨b1, b2, b3, b4, b5, b6, b7, b8, b9, b10, b11, b12⟩, ⟨c1, c2, c3, c4⟩, ⟨d1, d2, d3, d4⟩, ⟨e1, e2, e3, e4⟩⟩ := H.go
  have L1 : cur1.length ≤ 850 := by
    rw [a5]; split
    · omega
    · rename_i h
      obtain ⟨-, -, h3⟩ := a4 h
      rw [List.length_append, List.length_drop]; omega
  have L2 : cur2.length ≤ 850 := by have := cut_le cur1 m1 r1; rw [← c4] at this; omega
  have L3 : cur3.length ≤ 860 := by have := dcut_le cur2 m2 r2; rw [← d4] at this; omega
  repeat' walk_at "v"
  refine we_meth0 (fn244 _ _ _ _) (me244 _ _ _ _) (by kernel_rfl) (by kernel_rfl) (by rfl) (by rfl) ?_ (k := 4) (by first | exact dle (by assumption) | omega) (by kernel_rfl) ?_ _ (by intros; rfl)
  · exact lkfl hn (by kernel_rfl) (by kernel_rfl)
  refine (sp_init _ cur0 s0 m0 r0 0 0 cur0.length r hr (by omega) a2 a3 a4).mono ?_
  rintro p f ⟨hp, c1', br1, ke1, rfl⟩
  refine ⟨hp, ?_⟩
  rw [← a5]
  repeat' walk_at "v"
  refine we_meth0 (fn237 _ _ _ _) (me237 _ _ _ _) (by kernel_rfl) (by kernel_rfl) (by rfl) (by rfl) ?_ (k := 2) (by first | exact dle (by assumption) | omega) (by kernel_rfl) ?_ _ (by intros; rfl)
  · exact lkfl hn (by kernel_rfl) (by kernel_rfl)
  refine (sp_mark _ cur1 k1 k2 k3 k4 0 br1 ke1 r hr (by omega) b1 b2 b3 b4 b5 b6 b7 b8 b9 b10 b11 b12).mono ?_
  rintro p f ⟨hp, rfl⟩
  refine ⟨hp, ?_⟩
  clear hr1 hn hr
  clear a4 a5
  repeat' walk_at "v"
  refine we_meth0 (fn265 _ _ _ _) (me265 _ _ _ _) (by kernel_rfl) (by kernel_rfl) (by rfl) (by rfl) (by kernel_rfl) (k := 4) (by first | exact dle (by assumption) | omega) (by kernel_rfl) ?_ _ (by intros; rfl)
  refine (sp_noun _ cur1 m1 r1 br1 ke1 ((k1 : Int) + 1) ((k2 : Int) + 1) ((k4 : Int) + 1) (by omega) c1 c2 (fun h => ⟨by have := c3 h; omega, c3 h⟩)).mono ?_
  rintro p2 f ⟨hp2, cc2, br2, ke2, rfl⟩
  refine ⟨hp2, ?_⟩
  rw [← c4]
  have z2 : (cur2.length : Int) - ((cur1.length : Int) - (cur1.length : Int)) = cur2.length := by omega
  repeat' walk_at "v"
  rw [z2]
  repeat' walk_at "v"
  refine we_meth0 (fn272 _ _ _ _) (me272 _ _ _ _) (by kernel_rfl) (by kernel_rfl) (by rfl) (by rfl) (by kernel_rfl) (k := 4) (by first | exact dle (by assumption) | omega) (by kernel_rfl) ?_ _ (by intros; rfl)
  refine (sp_deriv _ cur2 m2 r2 br2 ke2 ((k1 : Int) + 1) ((k2 : Int) + 1) ((k4 : Int) + 1) (by omega) d1 d2 d3).mono ?_
  rintro p3 f ⟨hp3, cc3, br3, ke3, rfl⟩
  refine ⟨hp3, ?_⟩
  rw [← d4]
  have z3 : (cur3.length : Int) - ((cur2.length : Int) - (cur2.length : Int)) = cur3.length := by omega
  repeat' walk_at "v"
  rw [z3]
  repeat' walk_at "v"
  refine we_meth0 (fn279 _ _ _ _) (me279 _ _ _ _) (by kernel_rfl) (by kernel_rfl) (by rfl) (by rfl) (by kernel_rfl) (k := 4) (by first | exact dle (by assumption) | omega) (by kernel_rfl) ?_ _ (by intros; rfl)
  refine (sp_verb _ cur3 m3 r3 br3 ke3 ((k1 : Int) + 1) ((k2 : Int) + 1) ((k4 : Int) + 1) (by omega) e1 e2 (fun h => ⟨by have := e3 h; omega, e3 h⟩)).mono ?_
  rintro p4 f ⟨hp4, cc4, br4, ke4, rfl⟩
  refine ⟨hp4, ?_⟩
  rw [← e4]
  repeat' walk_at "v"
  exact ⟨rfl, _, _, _, _, _, _, rfl⟩

theorem sp_setR (w : World) (cur : List Nat) (c l lb br ke : Int) (r : PL') (hr : RR r) (x : List Nat) (hx : x.length ≤ 1000000) : Spec w fd42 (nmOf (cb 2 1)) (stBody (cb 2 1)) 1 (fun a => [.ref a, .str x]) (some (flds cur c l lb br ke r)) (fun p f => p = .none ∧ f = some (flds x 0 x.length 0 0 x.length r)) := by
  intro cx hw hd
  have hr1 := hr.len
  repeat' walk_at "v"
  exact ⟨rfl, rfl⟩

theorem sp_word (w : World) (x out : List Nat) (H : StemP x out) (cur : List Nat) (c l lb br ke : Int) (r : PL') (hr : RR r) :
    Spec w fd189 (nmOf (cb 2 22)) (stBody (cb 2 22)) 6 (fun a => [.ref a, .str x]) (some (flds cur c l lb br ke r))
      (fun p f => p = .str out ∧ ∃ l' br' ke' v p' q, f = some (flds out 0 l' 0 br' ke' (regs v p' q))) := by
  intro cx hw hd
  have hr1 := hr.len
  have hn := hr.ok
  have hx : x.length ≤ 800 := by
    obtain ⟨_, _, _, _, _, _, _, _, _, _, _, _, _, _, _, _, h, _⟩ := H.go
    exact h.1
  subst hw
  repeat' walk_at "v"
  refine we_meth (fn42 _ _ _ _) (me42 _ _ _ _) (by kernel_rfl) (by kernel_rfl) (by rfl) (by rfl) ?_ (k := 1) (by first | exact dle (by assumption) | omega) ?_ _ (by intros; rfl)
  · exact lkfl hn (by kernel_rfl) (by kernel_rfl)
  repeat' walk_at "v"
  refine ⟨by kernel_rfl, ?_⟩
  refine (sp_setR _ cur c l lb br ke r hr x (by omega)).mono ?_
  rintro p f ⟨rfl, rfl⟩
  refine ⟨rfl, ?_⟩
  repeat' walk_at "v"
  refine we_meth0 (fn286 _ _ _ _) (me286 _ _ _ _) (by kernel_rfl) (by kernel_rfl) (by rfl) (by rfl) ?_ (k := 5) (by first | exact dle (by assumption) | omega) (by kernel_rfl) ?_ _ (by intros; rfl)
  · exact lkfl hn (by kernel_rfl) (by kernel_rfl)
  refine (sp_stem _ x out H r hr).mono ?_
  rintro p f ⟨hp, l', br', ke', v, p', q, rfl⟩
  refine ⟨hp, ?_⟩
  clear hr1 hn hr
  repeat' walk_at "v"
  refine we_meth0 (fn49 _ _ _ _) (me49 _ _ _ _) (by kernel_rfl) (by kernel_rfl) (by rfl) (by rfl) (by kernel_rfl) (k := 1) (by first | exact dle (by assumption) | omega) (by kernel_rfl) ?_ _ (by intros; rfl)
  refine (sp_get _ out 0 l' 0 br' ke' (regs v p' q)).mono ?_
  rintro p f ⟨rfl, rfl⟩
  exact ⟨rfl, _, _, _, _, _, _, rfl⟩
end

section
variable {c : Cx} {fd : FuncData} {S : St}






theorem sp_new (w : World) : Spec w fd35 (nmOf (cb 2 0)) (stBody (cb 2 0)) 2 (fun a => [.ref a]) (some []) (fun p f => p = .none ∧ f = some (flds [] 0 0 0 0 0 [])) := by
  intro cx hw hd
  subst hw
  repeat' walk_at "v"
  refine we_meth (fn42 _ _ _ _) (me42 _ _ _ _) (by kernel_rfl) (by kernel_rfl) (by rfl) (by rfl) (by kernel_rfl) (k := 1) (by first | exact dle (by assumption) | omega) ?_ _ (by intros; rfl)
  repeat' walk_at "v"
  refine ⟨by kernel_rfl, ?_⟩
  refine (sp_set0 _ [] (by decide)).mono ?_
  rintro p f ⟨rfl, rfl⟩
  refine ⟨rfl, ?_⟩
  repeat' walk_at "v"
  exact ⟨rfl, rfl⟩

/-- a context for a comprehension's element -/
noncomputable def Cx.at (c : Cx) (C : Addr) : Cx := { c with L := C }
theorem Lit.rel {X : Option Addr} {f : PLs} {s : Shared} {C : Addr} {m : PySem.Str → Option Value} {x : PySem.Str} {p : PV} {v : Value} (l : Lit c X (some f) s.heap) (hn : s.heap.Ns C m) (hv : m x = some v) (hp : VR s.heap p v)
    (hC : c.B.get? C = .none) (h1 : c.dx ≠ C) (h2 : c.x ≠ C) : Rel (c.at C) ⟨[(x, p)], some f⟩ s := by
  refine ⟨l.keepB, hC, ⟨m, hn, fun n q e => ?_⟩, fun g hg => ?_⟩
  · rw [lk_cons] at e
    by_cases h : x = n
    · rw [if_pos h] at e; cases e; subst h; exact ⟨v, hv, hp⟩
    · rw [if_neg h] at e; cases e
  · cases hg
    obtain ⟨a1, a2, a3, a4, a5, a6⟩ := l.inst f rfl
    exact ⟨a3, h1, h2, a4, a5, a6⟩

noncomputable def fd194 : FuncData := fO z68 z114 (cb 2 23) 3 [] (.none) (.none) (.none) (.str z42 194) none (.ref 193) (.none) 0

theorem Lit.of {S : St} {f : PLs} {s : Shared} (r : Rel c S s) (hf : S.fld = some f) (hp : f.all (fun x => x.2.plain) = true) : Lit c (some c.dx) (some f) s.heap := by
  refine ⟨r.keepB, fun g hg => ?_⟩
  cases hg
  obtain ⟨a1, a2, a3, a4, a5, a6⟩ := r.inst f hf
  exact ⟨rfl, hp, a1, a4, a5, a6⟩

theorem nsFields (f : PLs) (cur c l lb br ke r) (hr : RR r) (hf : f = flds cur c l lb br ke r) : f.all (fun x => x.2.plain) = true := by
  subst hf
  rcases hr with rfl | ⟨v, p, q, rfl⟩ <;> rfl

/-- the comprehension's scope -/
noncomputable def cscope : Scope := match stBody (cb 2 23) with
  | [.Return (some (.ListComp _ _ sc _)) _] => sc
  | _ => stScope (cb 2 23)
/-- stemWords on a list of words -/
theorem call_words {ws outs : List (List Nat)} {s : Shared} {v : Value} {cur : List Nat} {cc l lb br ke : Int} {r : PL'} (hr : RR r) (hl : Lit c (some c.dx) (some (flds cur cc l lb br ke r)) s.heap)
    (hA : c.A.depth + 10 ≤ recursionLimit) (hv : VR s.heap (.lst (ws.map .str)) v) (hz : ws.length ≤ 1000) (hlen : outs.length = ws.length)
    (H : ∀ (i : Nat) x y, ws[i]? = some x → outs[i]? = some y → StemP x y) :
    wpAny (model pw c.w) c.A (PySem.call (.ref 194) [.ref c.x, v]) (fun y s' => VR s'.heap (.lst (outs.map .str)) y ∧ (∃ h tk, s' = { s with heap := h, toks := tk }) ∧ ∀ b o, b ≠ c.dx → s.heap.get? b = some o → s'.heap.get? b = some o) NoE s := by
  refine wpAny_call (codeAny_call_cells (o := o194 c.w.params) (fd := fd194) (body := stBody (cb 2 23)) (binds := (nmOf (cb 2 23)).zip [.ref c.x, v]) (by omega) (hl.keepB _ _ (by kernel_rfl)) rfl ((nolimit _ _).keeps hl.keepB)
    (Heap.CodeRec.keeps (h := c.B) ⟨193, o193 c.w.params, _, _, rfl, by kernel_rfl, rfl, rfl⟩ hl.keepB) rfl (by kernel_rfl) rfl ?_ ?_ (by kernel_rfl) (by kernel_rfl) (by kernel_rfl))
  · intro x hx
    have e : ∀ y ∈ (nmOf (cb 2 23)).zip [Value.ref c.x, v], y.1 = ⟨⟨[115, 101, 108, 102]⟩⟩ ∨ y.1 = ⟨⟨[119, 111, 114, 100, 115]⟩⟩ := by
      intro y hy
      have e2 : (nmOf (cb 2 23)).zip [Value.ref c.x, v] = [(⟨⟨[115, 101, 108, 102]⟩⟩, Value.ref c.x), (⟨⟨[119, 111, 114, 100, 115]⟩⟩, v)] := by kernel_rfl
      rw [e2] at hy
      simp only [List.mem_cons, List.not_mem_nil, or_false] at hy
      rcases hy with rfl | rfl
      · exact .inl rfl
      · exact .inr rfl
    rcases e x hx with q | q
    · rw [q]; exact .inr ⟨by kernel_rfl, by kernel_rfl⟩
    · rw [q]; exact .inl (by kernel_rfl)
  · intro s₁ IC
    generalize hL : s.heap.objs.size = L at IC ⊢
    let c' : Cx := { c with A := c.A.deeper (callEnvC fd194 L 194), hA := c.hA }
    have kp := IC.toInCall.keep
    obtain ⟨hh, tk, rfl⟩ := IC.toInCall.same
    have hl1 := hl.grow kp
    have hcell : hh.IsCell (L + 1) (some (.ref c.x)) := IC.cell ⟨⟨[115, 101, 108, 102]⟩⟩ (L + 1) (by kernel_rfl)
    refine wpAny_execs_cons (wpAny_Return_some (wpAny_mono (comp_rule (c := c') (cl := [(⟨⟨[115, 101, 108, 102]⟩⟩, L + 1)]) (Q := fun y s' => VR s'.heap (.lst (outs.map .str)) y ∧ (∃ h tk, s' = { s with heap := h, toks := tk }) ∧ ∀ b o, b ≠ c.dx → s.heap.get? b = some o → s'.heap.get? b = some o)
      (by kernel_rfl) ?_ (by kernel_rfl) ?_ (by kernel_rfl) ?_ (by intro _; rfl)) (fun y s' z => ?_) (fun _ _ z => z.elim)))
    · have e : (cscope.names.all fun y => y.2 != .cell) = true := by kernel_rfl
      intro y hy z
      have := List.all_eq_true.mp e y hy
      rw [z] at this
      exact absurd this (by decide)
    · have e : (cscope.names.all fun y => y.2 != .local || cscope.names.lookup y.1 == some .local) = true := by kernel_rfl
      intro y hy z
      have := List.all_eq_true.mp e y hy
      rw [z] at this
      have q : cscope.names.lookup y.1 = some .local := beq_iff_eq.mp (by simpa using this)
      exact q
    · refine wpAny_Name (wpAny_loadName_local (env := callEnvC fd194 L 194) (by kernel_rfl) (by kernel_rfl) IC.toInCall.ns (v := v) (by kernel_rfl) ?_) (by decide)
      refine ⟨ws.map .str, some c.dx, some (flds cur cc l lb br ke r), fun i g ps => ps = (outs.take i).map .str ∧ ∃ cur cc l lb br ke r, RR r ∧ g = some (flds cur cc l lb br ke r), .inl (VR.keep (.of kp) _ _ hv), by rw [List.all_map]; exact List.all_eq_true.mpr fun _ _ => rfl, by rw [List.length_map]; omega, ?_, ⟨rfl, cur, cc, l, lb, br, ke, r, hr, rfl⟩, ?_, ?_, ?_, ?_⟩
      · exact ⟨hl1.keepB, hl1.inst⟩
      · intro a ha; cases ha
        obtain ⟨-, -, -, -, -, es, n, e, -⟩ := hl1.inst _ rfl
        exact ⟨es, n, e⟩
      · intro i f ps _
        obtain ⟨-, -, e, -⟩ := hl1.inst _ rfl
        exact ⟨_, e⟩
      · rintro i g ps p ⟨rfl, cur', cc', l', lb', br', ke', r', hr', rfl⟩ hp s2 C m v2 L2 n2 e2 vr2 hCn hCX hCx hCB kb
        obtain ⟨x, hx, rfl⟩ : ∃ x, ws[i]? = some x ∧ p = .str x := by
          rw [List.getElem?_map] at hp
          cases hw : ws[i]? with
          | none => rw [hw] at hp; cases hp
          | some x => rw [hw] at hp; cases hp; exact ⟨x, rfl, rfl⟩
        have hi : i < outs.length := by rw [hlen]; exact (List.getElem?_eq_some_iff.mp hx).1
        have hst := H i x _ hx (List.getElem?_eq_getElem hi)
        obtain ⟨-, -, ex, exd, eBd, ees, en, eed, -⟩ := hl1.inst _ rfl
        have hcell2 : s2.heap.IsCell (L + 1) (some (.ref c.x)) := by
          obtain ⟨oc, ho, hod⟩ := hcell
          exact ⟨oc, kb _ _ (fun z => by
            have z := Option.some.inj z
            rw [z] at ho
            rw [eed] at ho
            cases ho; cases hod) ho, hod⟩
        have hCd : c.dx ≠ C := fun z => hCX _ rfl z.symm
        have hCx' : c.x ≠ C := fun z => hCx _ rfl z.symm
        have L2' : Lit c' (some c'.dx) (some (flds cur' cc' l' lb' br' ke' r')) s2.heap := ⟨L2.keepB, L2.inst⟩
        have rel2 : Rel (c'.at C) ⟨[(⟨⟨[119, 111, 114, 100]⟩⟩, .str x)], some (flds cur' cc' l' lb' br' ke' r')⟩ s2 := L2'.rel n2 e2 vr2 hCB hCd hCx'
        have okk : SOk (c'.at C) ⟨[(⟨⟨[119, 111, 114, 100]⟩⟩, .str x)], some (flds cur' cc' l' lb' br' ke' r')⟩ := sok_some
        refine MethodCall_ (wpAny_Name (wpAny_loadName_cell (c := L + 1) (v := .ref c.x) (by kernel_rfl) (by kernel_rfl) (by kernel_rfl) hcell2 ?_) (by decide)) (by rfl)
        refine meth_of (c := c'.at C) (me189 _ _ _ _) rel2 rfl (lkfl hr'.ok (by kernel_rfl) (by kernel_rfl)) ?_
        refine callWith_function (o := o189 c.w.params) (fd := fd189) (evalArgs_plain (spliced_cons (wpAny_Name (wpAny_loadName_local (v := v2) (by kernel_rfl) (by kernel_rfl) n2 e2 (spliced_nil ?_)) (by decide))))
        refine ⟨⟨L2.keepB _ _ (by kernel_rfl), rfl⟩, ?_⟩
        refine wpAny_mono (call_fn2 (c := c'.at C) (fn189 _ _ _ _) rel2 okk (k := 6) (args := fun a => [.ref a, .str x]) (vs := [.ref c.x, v2]) (by show c.A.depth + 1 + 7 ≤ _; omega) (by simp only [VRs]; exact ⟨_, _, rfl, vr_ref, _, _, rfl, vr2, rfl⟩) (by kernel_rfl) (sp_word _ x _ hst cur' cc' l' lb' br' ke' r' hr')) (fun y s3 z => ?_) fun _ _ z => z
        obtain ⟨q, f3, q1, q2, q3, q4, q5, rfl, l3, br3, ke3, v3, p3, q33, rfl⟩ := z
        have R3 : RR (regs v3 p3 q33) := .inr ⟨_, _, _, rfl⟩
        refine ⟨.str outs[i], some (flds outs[i] 0 l3 0 br3 ke3 (regs v3 p3 q33)), rfl, q1, ?_, q4.same, fun b o hb e => q5 b o (fun _ z => hb (by rw [z]; rfl)) e, ?_, outs[i], 0, l3, 0, br3, ke3, regs v3 p3 q33, R3, rfl⟩
        · have := Lit.of q2 rfl (nsFields _ _ _ _ _ _ _ _ R3 rfl)
          exact ⟨this.keepB, this.inst⟩
        · rw [List.take_succ_eq_append_getElem hi, List.map_append]; rfl
      · rintro D h' tk' g ps hD hps hL' ⟨rfl, -⟩ hk
        refine ⟨?_, ⟨h', tk', rfl⟩, fun b o hb e => hk b o (fun z => hb (Option.some.inj z)) (kp b o e)⟩
        rw [List.length_map, ← hlen, List.take_length] at hD
        exact hD
    · obtain ⟨e1, e2, e3⟩ := z
      exact ⟨e1, e2, e3⟩
end

local macro_rules | `(tactic| walk_at "v") => `(tactic| first
  | refine we_list ?_
  | refine we_tuple ?_
  | refine we_sum (by kernel_rfl) (by kernel_rfl) (by kernel_rfl) (by kernel_rfl) ?_
  | fail)

section
variable {c : Cx} {fd : FuncData} {S : St}






theorem sp_nouns (w : World) : Spec w fd554 (nmOf (tb 15)) (stBody (tb 15)) 1 (fun _ => []) none (fun p f => p = .lst (lNouns.map .str) ∧ f = none) := by
  intro cx hw hd
  repeat' walk_at "v"
  exact ⟨by decide, rfl, rfl⟩
theorem sp_deriving (w : World) : Spec w fd561 (nmOf (tb 16)) (stBody (tb 16)) 1 (fun _ => []) none (fun p f => p = .lst (lDeriving.map .str) ∧ f = none) := by
  intro cx hw hd
  repeat' walk_at "v"
  exact ⟨by decide, rfl, rfl⟩
theorem sp_verbs (w : World) : Spec w fd568 (nmOf (tb 17)) (stBody (tb 17)) 1 (fun _ => []) none (fun p f => p = .lst (lVerbs.map .str) ∧ f = none) := by
  intro cx hw hd
  repeat' walk_at "v"
  exact ⟨by decide, rfl, rfl⟩
theorem sp_changed (w : World) : Spec w fd547 (nmOf (tb 14)) (stBody (tb 14)) 1 (fun _ => []) none (fun p f => p = .lst (lChanged.map fun t => .tup (t.map .str)) ∧ f = none) := by
  intro cx hw hd
  repeat' (first | walk_at "v" | refine ⟨Nat.le_of_ble_eq_true (by rfl), ?_⟩)
  exact ⟨rfl, rfl⟩
theorem sp_leaving (w : World) : Spec w fd575 (nmOf (tb 18)) (stBody (tb 18)) 1 (fun _ => []) none (fun p f => p = .lst (lLeaving.map fun t => .tup [.str t.1, .str t.2]) ∧ f = none) := by
  intro cx hw hd
  repeat' (first | walk_at "v" | refine ⟨Nat.le_of_ble_eq_true (by rfl), ?_⟩)
  exact ⟨rfl, rfl⟩
noncomputable def isStrV (l : List Nat) : Option Value → Bool
  | some (.str ⟨⟨l'⟩⟩ _) => l' == l
  | _ => false
/-- a text at the top -/
theorem we_gstr {x : PySem.Str} {pos} {l : List Nat} {Q} (hg : isStrV l (c.B.nsMap mainGlobals x) = true) (hk : fd.scope.kind = .function) (hG : fd.globals = mainGlobals)
    (hx : fd.scope.names.lookup x = some .globalImplicit) (h : Q (.str l) S) (hd : (x == ("__debug__" : PySem.Str)) = false := by decide) : WE c fd S (.Name x pos) Q := by
  unfold isStrV at hg
  split at hg
  · rename_i l' t e
    rw [beq_iff_eq] at hg
    subst hg
    exact we_glob e vr_str hk hG hx h hd
  · cases hg

theorem sp_at (w : World) (ns : List Int) (k : Nat) (hz : ns.length ≤ 63) : Spec w fd582 (nmOf (tb 19)) (stBody (tb 19)) 1 (fun _ => [.lst (ns.map .int), .int k]) none (fun p f => p = .int (ns.getD k 0) ∧ f = none) := by
  intro cx hw hd
  repeat' walk_at "v"
  refine bui_len_lst (by rw [List.length_map]; omega) ?_
  repeat' walk_at "v"
  rw [List.length_map]
  by_cases q : k < ns.length
  · rw [decide_eq_true (by omega), if_pos rfl]
    repeat' walk_at "v"
    refine get_lst (p := .int (ns.getD k 0)) (by omega) (by rw [List.length_map]; omega) (by rw [Int.toNat_natCast, List.getElem?_map, List.getElem?_eq_getElem q, List.getD_eq_getElem?_getD, List.getElem?_eq_getElem q]; rfl) ?_
    exact ⟨rfl, rfl⟩
  · rw [decide_eq_false (by omega), if_neg (by decide)]
    repeat' walk_at "v"
    refine ⟨?_, rfl⟩
    rw [List.getD_eq_getElem?_getD, List.getElem?_eq_none (by omega)]
    rfl

theorem sp_sign (w : World) (n : Int) : Spec w fd589 (nmOf (tb 20)) (stBody (tb 20)) 1 (fun _ => [.int n]) none (fun p f => (∃ ch, p = .str [ch]) ∧ f = none) := by
  intro cx hw hd
  have hab : 0 ≤ (if n < 0 then -n else n) := by split <;> omega
  repeat' walk_at "v"
  refine bui_abs ?_
  refine we_bin ?_
  refine we_len (by kernel_rfl) (by kernel_rfl) (by kernel_rfl) (by kernel_rfl) (wa_cons ?_)
  refine we_gstr (l := lLetters) (by kernel_rfl) (by kernel_rfl) (by kernel_rfl) (by kernel_rfl) (wa_nil ?_)
  refine bui_len_str (by decide) ?_
  repeat' walk_at "v"
  refine bin_mod (by decide) ?_
  generalize (if n < 0 then -n else n) = a at hab ⊢
  have e1 : a.fmod (((lLetters.length : Nat) : Int) + 1) = ((a.toNat % 34 : Nat) : Int) := by
    rw [Int.fmod_eq_emod_of_nonneg _ (by decide)]
    show a % 34 = _
    omega
  rw [e1]
  have hk : a.toNat % 34 < 34 := Nat.mod_lt _ (by decide)
  generalize a.toNat % 34 = k at hk ⊢
  repeat' walk_at "v"
  refine we_gstr (l := lLetters) (by kernel_rfl) (by kernel_rfl) (by kernel_rfl) (by kernel_rfl) (wa_nil ?_)
  refine bui_len_str (by decide) ?_
  refine cmp_lt ?_
  have hll : lLetters.length = 33 := by decide
  by_cases q : k < 33
  · rw [decide_eq_true (by rw [hll]; omega), if_pos rfl]
    refine we_sub ?_
    refine we_gstr (l := lLetters) (by kernel_rfl) (by kernel_rfl) (by kernel_rfl) (by kernel_rfl) ?_
    repeat' walk_at "v"
    refine get_str (ch := lLetters.getD k 0) (by omega) (by decide) (by rw [Int.toNat_natCast]; exact at_getD (by rw [hll]; exact q)) ?_
    exact ⟨⟨_, rfl⟩, rfl⟩
  · rw [decide_eq_false (by rw [hll]; omega), if_neg (by decide)]
    refine we_chr (by kernel_rfl) (by kernel_rfl) (by kernel_rfl) (by kernel_rfl) (wa_cons ?_)
    repeat' walk_at "v"
    refine bui_abs ?_
    refine we_bin ?_
    refine we_len (by kernel_rfl) (by kernel_rfl) (by kernel_rfl) (by kernel_rfl) (wa_cons ?_)
    refine we_gstr (l := lLetters) (by kernel_rfl) (by kernel_rfl) (by kernel_rfl) (by kernel_rfl) (wa_nil ?_)
    refine bui_len_str (by decide) ?_
    repeat' walk_at "v"
    refine bin_fdiv (by decide) (by decide) ?_
    repeat' walk_at "v"
    refine bin_mod (by decide) ?_
    repeat' walk_at "v"
    refine bui_chr ?_ ?_ ?_
    · rw [Int.fmod_eq_emod_of_nonneg _ (by decide)]
      have := Int.emod_nonneg ((if n < 0 then -n else n).fdiv (((lLetters.length : Nat) : Int) + 1)) (by decide : (1024 : Int) ≠ 0)
      omega
    · rw [Int.fmod_eq_emod_of_nonneg _ (by decide)]
      have := Int.emod_lt_of_pos ((if n < 0 then -n else n).fdiv (((lLetters.length : Nat) : Int) + 1)) (by decide : (0 : Int) < 1024)
      omega
    · exact ⟨⟨_, rfl⟩, rfl⟩

/-- the law's ending of a number -/
noncomputable def endOf (n : Nat) : List Nat × List Nat :=
  if n % 33 < 16 then ((lLeaving.getD (n % 33) ([], [])).1 ++ lNouns.getD (n / 33 % 17) [], (lLeaving.getD (n % 33) ([], [])).2)
  else (lVerbs.getD (n / 561 % 13) [] ++ lDeriving.getD (n / 7293 % 9) [] ++ lNouns.getD (n / 33 % 17) [], [])

theorem len_getD {T : List (List Nat)} {m : Nat} (h : (T.all fun x => Nat.ble x.length m) = true) (i : Nat) : (T.getD i []).length ≤ m := by
  rw [List.getD_eq_getElem?_getD]
  cases e : T[i]? with
  | none => exact Nat.zero_le _
  | some x => exact Nat.ble_eq.mp (List.all_eq_true.mp h x (List.mem_of_getElem? e))
theorem getD_some {α : Type} {T : List α} {i : Nat} {d : α} (h : i < T.length) : T[i]? = some (T.getD i d) := by
  rw [List.getD_eq_getElem?_getD, List.getElem?_eq_getElem h, Option.getD_some]
theorem fm (n : Nat) (d m : Nat) (hd : 0 < d) (hm : 0 < m) : ((n : Int).fdiv (d : Int)).fmod (m : Int) = ((n / d % m : Nat) : Int) := by
  rw [Int.fdiv_eq_ediv_of_nonneg _ (by omega), Int.fmod_eq_emod_of_nonneg _ (by omega)]
  push_cast; rfl
theorem fm1 (n : Nat) (m : Nat) : (n : Int).fmod (m : Int) = ((n % m : Nat) : Int) := by
  rw [Int.fmod_eq_emod_of_nonneg _ (by omega)]
  push_cast; rfl

theorem sp_ending (w : World) (n : Nat) : Spec w fd601 (nmOf (tb 22)) (stBody (tb 22)) 2 (fun _ => [.int n]) none (fun p f => p = .tup [.str (endOf n).1, .str (endOf n).2] ∧ f = none) := by
  intro cx hw hd
  subst hw
  have hN := len_getD (T := lNouns) (m := 20) (by decide)
  repeat' walk_at "v"
  refine we_call0 (fn554 _ _ _ _) (by kernel_rfl) (by kernel_rfl) (by kernel_rfl) (by kernel_rfl) (k := 1) (by first | exact dle (by assumption) | omega) (by kernel_rfl) ?_
  refine (sp_nouns _).mono ?_
  rintro p f ⟨rfl, rfl⟩
  repeat' walk_at "v"
  refine bin_fdiv (by decide) (by decide) ?_
  repeat' walk_at "v"
  refine bin_mod (by decide) ?_
  rw [show ((n : Int).fdiv 33).fmod 17 = ((n / 33 % 17 : Nat) : Int) from fm n 33 17 (by decide) (by decide)]
  refine get_lst (p := .str (lNouns.getD (n / 33 % 17) [])) (by omega) (by decide) (by rw [Int.toNat_natCast, List.getElem?_map, getD_some (d := []) (show n / 33 % 17 < lNouns.length from Nat.mod_lt _ (by decide))]; rfl) ?_
  repeat' walk_at "v"
  refine bin_mod (by decide) ?_
  rw [show (n : Int).fmod 33 = ((n % 33 : Nat) : Int) from fm1 n 33]
  repeat' walk_at "v"
  by_cases q : n % 33 < 16
  · rw [decide_eq_true (by omega), if_pos rfl]
    repeat' walk_at "v"
    refine we_call0 (fn575 _ _ _ _) (by kernel_rfl) (by kernel_rfl) (by kernel_rfl) (by kernel_rfl) (k := 1) (by first | exact dle (by assumption) | omega) (by kernel_rfl) ?_
    refine (sp_leaving _).mono ?_
    rintro p f ⟨rfl, rfl⟩
    repeat' walk_at "v"
    have eL : (lLeaving.map fun t => PV.tup [.str t.1, .str t.2])[((n % 33 : Nat) : Int).toNat]? = some (.tup [.str (lLeaving.getD (n % 33) ([], [])).1, .str (lLeaving.getD (n % 33) ([], [])).2]) := by
      rw [Int.toNat_natCast, List.getElem?_map, getD_some (d := ([], [])) (show n % 33 < lLeaving.length from q)]; rfl
    have hLv : (lLeaving.getD (n % 33) ([], [])).1.length ≤ 20 := by
      have h : (lLeaving.all fun x => Nat.ble x.1.length 20) = true := by decide
      exact Nat.ble_eq.mp (List.all_eq_true.mp h _ (List.mem_of_getElem? (getD_some (d := ([], [])) (show n % 33 < lLeaving.length from q))))
    refine get_lst (p := .tup [.str (lLeaving.getD (n % 33) ([], [])).1, .str (lLeaving.getD (n % 33) ([], [])).2]) (by omega) (by decide) eL ?_
    repeat' walk_at "v"
    refine get_tup (p := .str (lLeaving.getD (n % 33) ([], [])).1) (by decide) (Nat.le_of_ble_eq_true (by rfl)) (by rfl) ?_
    repeat' walk_at "v"
    refine bin_adds ?_ (by show List.length _ + List.length _ ≤ _; have := hN (n / 33 % 17); rw [sizeLine_eq]; omega)
    repeat' walk_at "v"
    refine we_call0 (fn575 _ _ _ _) (by kernel_rfl) (by kernel_rfl) (by kernel_rfl) (by kernel_rfl) (k := 1) (by first | exact dle (by assumption) | omega) (by kernel_rfl) ?_
    refine (sp_leaving _).mono ?_
    rintro p f ⟨rfl, rfl⟩
    repeat' walk_at "v"
    refine get_lst (p := .tup [.str (lLeaving.getD (n % 33) ([], [])).1, .str (lLeaving.getD (n % 33) ([], [])).2]) (by omega) (by decide) eL ?_
    repeat' walk_at "v"
    refine get_tup (p := .str (lLeaving.getD (n % 33) ([], [])).2) (by decide) (Nat.le_of_ble_eq_true (by rfl)) (by rfl) ?_
    repeat' walk_at "v"
    refine ⟨Nat.le_of_ble_eq_true (by rfl), ?_, rfl⟩
    unfold endOf
    rw [if_pos q]; rfl
  · rw [decide_eq_false (by omega), if_neg (by decide)]
    have hV := len_getD (T := lVerbs) (m := 20) (by decide) (n / 561 % 13)
    have hD := len_getD (T := lDeriving) (m := 20) (by decide) (n / 7293 % 9)
    have hN' := hN (n / 33 % 17)
    repeat' walk_at "v"
    refine we_call0 (fn568 _ _ _ _) (by kernel_rfl) (by kernel_rfl) (by kernel_rfl) (by kernel_rfl) (k := 1) (by first | exact dle (by assumption) | omega) (by kernel_rfl) ?_
    refine (sp_verbs _).mono ?_
    rintro p f ⟨rfl, rfl⟩
    repeat' walk_at "v"
    refine bin_fdiv (by decide) (by decide) ?_
    repeat' walk_at "v"
    refine bin_mod (by decide) ?_
    rw [show ((n : Int).fdiv 561).fmod 13 = ((n / 561 % 13 : Nat) : Int) from fm n 561 13 (by decide) (by decide)]
    refine get_lst (p := .str (lVerbs.getD (n / 561 % 13) [])) (by omega) (by decide) (by rw [Int.toNat_natCast, List.getElem?_map, getD_some (d := []) (show n / 561 % 13 < lVerbs.length from Nat.mod_lt _ (by decide))]; rfl) ?_
    repeat' walk_at "v"
    refine we_call0 (fn561 _ _ _ _) (by kernel_rfl) (by kernel_rfl) (by kernel_rfl) (by kernel_rfl) (k := 1) (by first | exact dle (by assumption) | omega) (by kernel_rfl) ?_
    refine (sp_deriving _).mono ?_
    rintro p f ⟨rfl, rfl⟩
    repeat' walk_at "v"
    refine bin_fdiv (by decide) (by decide) ?_
    repeat' walk_at "v"
    refine bin_mod (by decide) ?_
    rw [show ((n : Int).fdiv 7293).fmod 9 = ((n / 7293 % 9 : Nat) : Int) from fm n 7293 9 (by decide) (by decide)]
    refine get_lst (p := .str (lDeriving.getD (n / 7293 % 9) [])) (by omega) (by decide) (by rw [Int.toNat_natCast, List.getElem?_map, getD_some (d := []) (show n / 7293 % 9 < lDeriving.length from Nat.mod_lt _ (by decide))]; rfl) ?_
    repeat' walk_at "v"
    refine bin_adds ?_ (by show List.length _ + List.length _ ≤ _; rw [sizeLine_eq]; omega)
    repeat' walk_at "v"
    refine bin_adds ?_ (by show List.length _ + List.length _ ≤ _; rw [List.length_append, sizeLine_eq]; omega)
    repeat' walk_at "v"
    refine ⟨Nat.le_of_ble_eq_true (by rfl), ?_, rfl⟩
    unfold endOf
    rw [if_neg q]; rfl
end

section
variable {c : Cx} {fd : FuncData} {S : St}






theorem comp_none {env : Env} {elt iter : Expr} {x : PySem.Str} {px : Pos} {scope : Scope} {pos : Pos} {cl : List (PySem.Str × Addr)} {s : Shared} {Q : Value → Shared → Prop} (G : Nat → PV → Prop)
    (hclos : closureFor scope env = pure cl) (hcell : ∀ y ∈ scope.names, y.2 ≠ .cell) (hkind : scope.kind = .function)
    (hnames : ∀ y ∈ scope.names, y.2 = .local → scope.names.lookup y.1 = some .local) (hx : scope.names.lookup x = some .local)
    (h : wpAny (model pw c.w) c.A (eval iter env) (fun v s1 => ∃ (xs : List PV),
      (VR s1.heap (.lst xs) v ∨ VR s1.heap (.tup xs) v) ∧ xs.all PV.plain = true ∧ xs.length ≤ 1000000 ∧ (∀ b o, c.B.get? b = some o → s1.heap.get? b = some o) ∧
      (∀ i p, xs[i]? = some p → ∀ (s2 : Shared) C m v, (∀ b o, c.B.get? b = some o → s2.heap.get? b = some o) → s2.heap.Ns C m → m x = some v → VR s2.heap p v → c.B.get? C = .none → (∀ b o, s1.heap.get? b = some o → s2.heap.get? b = some o) →
        wpAny (model pw c.w) c.A (eval elt (compEnvC scope cl C env)) (fun y s3 => ∃ q, q.plain = true ∧ VR s3.heap q y ∧ (∃ h tk, s3 = { s2 with heap := h, toks := tk }) ∧ (∀ b o, s2.heap.get? b = some o → s3.heap.get? b = some o) ∧ G i q) NoE s2) ∧
      (∀ D h' tk ps, VR h' (.lst ps) (.ref D) → ps.length = xs.length → (∀ i q, ps[i]? = some q → G i q) → (∀ b o, s1.heap.get? b = some o → h'.get? b = some o) → Q (.ref D) { s1 with heap := h', toks := tk })) NoE s)
    (hs : ∀ x, foldedSetIterable iter env x = pure x := by intro _; rfl) :
    wpAny (model pw c.w) c.A (eval (.ListComp elt [⟨.Name x px, iter, [], 0⟩] scope pos) env) Q NoE s := by
  refine comp_rule (cl := cl) hclos hcell hkind hnames hx (wpAny_mono h (fun v s1 z => ?_) fun _ _ x => x) hs
  obtain ⟨xs, hv, hpl, hz, hB, hel, hend⟩ := z
  refine ⟨xs, .none, .none, fun i g ps => g = .none ∧ ps.length = i ∧ ∀ j q, ps[j]? = some q → G j q, hv, hpl, hz, ⟨hB, fun f hf => by cases hf⟩, ⟨rfl, rfl, fun j q e => by cases e⟩, (fun a ha => by cases ha), (fun i f ps hJ => by cases hJ.1), ?_, ?_⟩
  · rintro i g ps p ⟨rfl, rfl, hps⟩ hp s2 C m v hL hn hm hvr hC - - hBC hk
    refine wpAny_mono (hel _ p hp s2 C m v hL.keepB hn hm hvr hBC (fun b o e => hk b o (fun z => by cases z) e)) (fun y s3 z => ?_) fun _ _ x => x
    obtain ⟨q, q1, q2, q3, q4, q5⟩ := z
    refine ⟨q, .none, q1, q2, ⟨fun b o e => q4 b o (hL.keepB b o e), fun f hf => by cases hf⟩, q3, fun b o _ e => q4 b o e, rfl, by simp, fun j r e => ?_⟩
    rcases Nat.lt_trichotomy j ps.length with hj | hj | hj
    · rw [List.getElem?_append_left hj] at e; exact hps j r e
    · subst hj
      rw [List.getElem?_append_right (Nat.le_refl _), Nat.sub_self] at e
      cases e; exact q5
    · rw [List.getElem?_eq_none (by rw [List.length_append, List.length_singleton]; omega)] at e; cases e
  · rintro D h' tk g ps hD hpl' hL' ⟨rfl, hl, hps⟩ hk
    exact hend D h' tk ps hD hl hps fun b o e => hk b o (fun z => by cases z) e

/-- the law's beginnings of a kind -/
noncomputable def startsOf (k : Nat) : List (List Nat) :=
  if k < 9 then lChanged.getD k [] ++ [[98, 39], [100, 39], [109, 39]].map (· ++ (lChanged.getD k []).getD 0 [])
  else [[lVowels.getD (k - 9) 0]] ++ [[104, 45], [110, 45], [116, 45], [98, 39], [100, 39], [109, 39]].map (· ++ [lVowels.getD (k - 9) 0])

theorem map_of {ps : List PV} {ls : List (List Nat)} {F : List Nat → List Nat} (hl : ps.length = ls.length) (h : ∀ (i : Nat) (q : PV), ps[i]? = some q → ∃ l, ls[i]? = some l ∧ q = PV.str (F l)) : ps = (ls.map F).map PV.str := by
  apply List.ext_getElem?
  intro i
  rw [List.getElem?_map, List.getElem?_map]
  cases e : ps[i]? with
  | none =>
    have : ls.length ≤ i := by rw [← hl]; exact List.getElem?_eq_none_iff.mp e
    rw [List.getElem?_eq_none this]; rfl
  | some q =>
    obtain ⟨l, e1, rfl⟩ := h i q e
    rw [e1]; rfl
end

section
variable {c : Cx} {fd : FuncData} {S : St}






noncomputable def fd594 : FuncData := fO z35 z35 (tb 21) 3 [] (.none) (.none) (.none) (.str z3 1679) none (.ref 593) (.none) 0
noncomputable def fdB (L : Addr) : FuncData := { fd594 with closure := cellsFrom (L + 1) fd594.scope.names [] }
theorem envB (L : Addr) : callEnvC fd594 L 594 = callEnv (fdB L) L 594 := rfl

/-- a cell's heap -/
structure BSt (c : Cx) (S : St) (pl : Option (List Nat)) (s : Shared) : Prop where
  rel : Rel c S s
  ok : SOk c S
  cell : ∃ v, s.heap.IsCell (c.L + 1) v ∧ ∀ l, pl = some l → ∃ t, v = some (.str ⟨⟨l⟩⟩ t)

theorem BSt.mono {S' : St} {pl : Option (List Nat)} {s s' : Shared} (b : BSt c S pl s) (r : Rel c S' s') (k : SOk c S') (f : ∀ b o, b ≠ c.L → s.heap.get? b = some o → s'.heap.get? b = some o) : BSt c S' pl s' := by
  obtain ⟨v, ⟨o, e1, e2⟩, h⟩ := b.cell
  exact ⟨r, k, v, ⟨o, f _ _ (Nat.succ_ne_self c.L) e1, e2⟩, h⟩

theorem bstore {S : St} {pl : Option (List Nat)} {s : Shared} {fd : FuncData} {x : PySem.Str} {l : List Nat} {t : Tok} {Q : Unit → Shared → Prop} (b : BSt c S pl s) (hf : S.fld = .none) (hk : fd.scope.kind = .function) (hx : fd.scope.names.lookup x = some .cell) (hc : fd.closure.lookup x = some (c.L + 1))
    (hB : c.B.get? (c.L + 1) = .none) (h : ∀ s', BSt c S (some l) s' → (∃ h tk, s' = { s with heap := h, toks := tk }) → (∀ b o, b ≠ c.L + 1 → s.heap.get? b = some o → s'.heap.get? b = some o) → Q () s') :
    wpAny (model pw c.w) c.A (storeName (callEnv fd c.L c.fa) x (.str ⟨⟨l⟩⟩ t)) Q NoE s := by
  obtain ⟨v, hcell, -⟩ := b.cell
  refine wpAny_storeName_cell (env := callEnv fd c.L c.fa) hk hx hc hcell fun h' hc' hs' => ?_
  have kp : ∀ b o, b ≠ c.L + 1 → s.heap.get? b = some o → h'.get? b = some o := fun b o hb e => (hs'.2 b hb).trans e
  have e1 : c.dx = c.L := b.ok hf
  obtain ⟨o, ho, hd⟩ := hcell
  have r' := b.rel.step (I := c.L + 1) (h' := h') (tk := s.toks) b.ok hB (Nat.succ_ne_self c.L) (by rw [e1]; exact Nat.succ_ne_self c.L) (fun z => absurd hf z) (fun k vs n e => by rw [ho] at e; cases e; cases hd) kp
  exact h _ ⟨⟨r'.keepB, r'.BL, r'.loc, r'.inst⟩, b.ok, _, hc', fun l' e => by cases e; exact ⟨t, rfl⟩⟩ ⟨_, _, rfl⟩ kp

noncomputable abbrev nFront : PySem.Str := ⟨⟨[102, 114, 111, 110, 116]⟩⟩
noncomputable abbrev nPlain : PySem.Str := ⟨⟨[112, 108, 97, 105, 110]⟩⟩
noncomputable abbrev nText : PySem.Str := ⟨⟨[116, 101, 120, 116]⟩⟩

/-- what a comprehension leaves: a new list -/
noncomputable def CPost (c : Cx) (S : St) (pl : Option (List Nat)) (s : Shared) (ls : List (List Nat)) : Value → Shared → Prop :=
  fun v s' => VR s'.heap (.lst (ls.map .str)) v ∧ BSt c S pl s' ∧ (∃ h tk, s' = { s with heap := h, toks := tk }) ∧ ∀ b o, b ≠ c.L → s.heap.get? b = some o → s'.heap.get? b = some o

theorem comp_front {pl : List Nat} {s : Shared} {p1 p2 p3 px pos : Pos} {iter : Expr} {fs : List (List Nat)} {L : Addr} {scope : Scope} (hL : c.L = L) (hfa : c.fa = 594) (b : BSt c S (some pl) s) (hf : S.fld = .none) (hpl : pl.length ≤ 20) (hfs : ∀ l ∈ fs, l.length ≤ 20) (hfz : fs.length ≤ 100)
    (hsc : scope.names = [(⟨⟨[46, 48]⟩⟩, .local), (nFront, .local), (nPlain, .free)]) (hkind : scope.kind = .function)
    (hit : WE c (fdB L) S iter (fun p S' => p = .lst (fs.map .str) ∧ S' = S))
    (hs : ∀ env x, foldedSetIterable iter env x = pure x) :
    wpAny (model pw c.w) c.A (eval (.ListComp (.BinOp (.Name nFront p1) .Add (.Name nPlain p2) p3) [⟨.Name nFront px, iter, [], 0⟩] scope pos) (callEnv (fdB L) c.L c.fa)) (CPost c S (some pl) s (fs.map (· ++ pl))) NoE s := by
  subst hL
  obtain ⟨knd, nms, isg, isc, mo⟩ := scope
  simp only at hsc hkind
  subst hsc hkind
  refine comp_none (cl := [(nPlain, c.L + 1)]) (fun i q => ∃ l, fs[i]? = some l ∧ q = .str (l ++ pl)) (by kernel_rfl) ?_ rfl ?_ (by kernel_rfl) ?_ (hs _)
  · intro y hy z
    simp only [List.mem_cons, List.not_mem_nil, or_false] at hy
    rcases hy with rfl | rfl | rfl <;> cases z
  · intro y hy z
    simp only [List.mem_cons, List.not_mem_nil, or_false] at hy
    rcases hy with rfl | rfl | rfl
    · kernel_rfl
    · kernel_rfl
    · cases z
  · refine wpAny_mono (hit.run s b.rel b.ok) (fun v s1 z => ?_) fun _ _ x => x
    obtain ⟨p, S', a1, a2, a3, a4, rfl, rfl⟩ := z
    have b1 := b.mono a2 a3 (fun x o hx e => a4.keep x o hx (by rw [a3 hf]; exact hx) e)
    refine ⟨fs.map .str, .inl a1, by rw [List.all_map]; exact List.all_eq_true.mpr fun _ _ => rfl, by rw [List.length_map]; omega, a2.keepB, ?_, ?_⟩
    · intro i p hp s2 C m v2 hB hn hm hvr hC hk
      obtain ⟨l, hl, rfl⟩ : ∃ l, fs[i]? = some l ∧ p = .str l := by
        rw [List.getElem?_map] at hp
        cases hw : fs[i]? with
        | none => rw [hw] at hp; cases hp
        | some x => rw [hw] at hp; cases hp; exact ⟨x, rfl, rfl⟩
      simp only [VR] at hvr
      obtain ⟨t2, rfl⟩ := hvr
      obtain ⟨cv, ⟨o, ho, hd⟩, hc⟩ := b1.cell
      obtain ⟨t3, rfl⟩ := hc pl rfl
      have hll := hfs l (List.mem_of_getElem? hl)
      refine wpAny_BinOp (wpAny_Name (wpAny_loadName_local (v := .str ⟨⟨l⟩⟩ t2) rfl (by kernel_rfl) hn hm ?_) (by decide))
      refine wpAny_Name (wpAny_loadName_cell (c := c.L + 1) (v := .str ⟨⟨pl⟩⟩ t3) rfl (by kernel_rfl) (by kernel_rfl) ⟨o, hk _ _ ho, hd⟩ ?_) (by decide)
      have e : (⟨⟨l⟩⟩ : PySem.Str) ++ (⟨⟨pl⟩⟩ : PySem.Str) = ⟨⟨l ++ pl⟩⟩ := by show (⟨(⟨l⟩ : Array Nat) ++ ⟨pl⟩⟩ : PySem.Str) = _; simp
      refine add_str (fun t' tk => ?_) (by show l.length + pl.length ≤ _; rw [sizeLine_eq]; omega)
      rw [e]
      exact ⟨.str (l ++ pl), rfl, vr_str, ⟨s2.heap, tk, rfl⟩, fun _ _ e => e, l, hl, rfl⟩
    · intro D h' tk ps hD hlen hG hk
      rw [List.length_map] at hlen
      have e := map_of (F := (· ++ pl)) hlen (fun i q hq => hG i q hq)
      subst e
      refine ⟨hD, b1.mono (a2.grow hk) a3 (fun x o _ e => hk x o e), ?_, fun x o hx e => hk x o (a4.keep x o hx (by rw [a3 hf]; exact hx) e)⟩
      obtain ⟨h0, t0, rfl⟩ := a4.same
      exact ⟨h', tk, rfl⟩

theorem comp_text {pl : Option (List Nat)} {s : Shared} {p1 px pos : Pos} {iter : Expr} {fs : List (List Nat)} {L : Addr} {scope : Scope} (hL : c.L = L) (b : BSt c S pl s) (hf : S.fld = .none) (hfz : fs.length ≤ 100)
    (hsc : scope.names = [(⟨⟨[46, 48]⟩⟩, .local), (nText, .local)]) (hkind : scope.kind = .function)
    (hit : WE c (fdB L) S iter (fun p S' => p = .tup (fs.map .str) ∧ S' = S))
    (hs : ∀ env x, foldedSetIterable iter env x = pure x) :
    wpAny (model pw c.w) c.A (eval (.ListComp (.Name nText p1) [⟨.Name nText px, iter, [], 0⟩] scope pos) (callEnv (fdB L) c.L c.fa)) (CPost c S pl s fs) NoE s := by
  subst hL
  obtain ⟨knd, nms, isg, isc, mo⟩ := scope
  simp only at hsc hkind
  subst hsc hkind
  refine comp_none (cl := []) (fun i q => ∃ l, fs[i]? = some l ∧ q = .str l) (by kernel_rfl) ?_ rfl ?_ (by kernel_rfl) ?_ (hs _)
  · intro y hy z
    simp only [List.mem_cons, List.not_mem_nil, or_false] at hy
    rcases hy with rfl | rfl <;> cases z
  · intro y hy z
    simp only [List.mem_cons, List.not_mem_nil, or_false] at hy
    rcases hy with rfl | rfl
    · kernel_rfl
    · kernel_rfl
  · refine wpAny_mono (hit.run s b.rel b.ok) (fun v s1 z => ?_) fun _ _ x => x
    obtain ⟨p, S', a1, a2, a3, a4, rfl, rfl⟩ := z
    have b1 := b.mono a2 a3 (fun x o hx e => a4.keep x o hx (by rw [a3 hf]; exact hx) e)
    refine ⟨fs.map .str, .inr a1, by rw [List.all_map]; exact List.all_eq_true.mpr fun _ _ => rfl, by rw [List.length_map]; omega, a2.keepB, ?_, ?_⟩
    · intro i p hp s2 C m v2 hB hn hm hvr hC hk
      obtain ⟨l, hl, rfl⟩ : ∃ l, fs[i]? = some l ∧ p = .str l := by
        rw [List.getElem?_map] at hp
        cases hw : fs[i]? with
        | none => rw [hw] at hp; cases hp
        | some x => rw [hw] at hp; cases hp; exact ⟨x, rfl, rfl⟩
      exact wpAny_Name (wpAny_loadName_local (v := v2) rfl (by kernel_rfl) hn hm ⟨.str l, rfl, hvr, ⟨_, _, rfl⟩, fun _ _ e => e, l, hl, rfl⟩) (by decide)
    · intro D h' tk ps hD hlen hG hk
      rw [List.length_map] at hlen
      have e := map_of (F := fun l => l) hlen (fun i q hq => hG i q hq)
      subst e
      rw [List.map_id'] at hD
      refine ⟨hD, b1.mono (a2.grow hk) a3 (fun x o _ e => hk x o e), ?_, fun x o hx e => hk x o (a4.keep x o hx (by rw [a3 hf]; exact hx) e)⟩
      obtain ⟨h0, t0, rfl⟩ := a4.same
      exact ⟨h', tk, rfl⟩

/-- two new lists joined -/
theorem cadd {pl : Option (List Nat)} {s : Shared} {l r : Expr} {pos : Pos} {env : Env} {xs ys : List (List Nat)} (hz : xs.length + ys.length ≤ 1000) (hf : S.fld = .none)
    (hl : wpAny (model pw c.w) c.A (eval l env) (CPost c S pl s xs) NoE s)
    (hr : ∀ s1, BSt c S pl s1 → wpAny (model pw c.w) c.A (eval r env) (CPost c S pl s1 ys) NoE s1) :
    wpAny (model pw c.w) c.A (eval (.BinOp l .Add r pos) env) (CPost c S pl s (xs ++ ys)) NoE s := by
  refine wpAny_BinOp (wpAny_mono hl (fun u s1 z => ?_) fun _ _ x => x)
  obtain ⟨u1, u2, ⟨h1, t1, rfl⟩, u4⟩ := z
  refine wpAny_mono (hr _ u2) (fun v s2 z => ?_) fun _ _ x => x
  obtain ⟨v1, v2, ⟨h2, t2, rfl⟩, v4⟩ := z
  have k12 : ∀ b o, b ≠ c.L → s.heap.get? b = some o → h2.get? b = some o := fun b o hb e => v4 b o hb (u4 b o hb e)
  have u1' : VR h2 (.lst (xs.map .str)) u := by
    refine VR.keep (fun a k vs n e => v4 a _ (fun z => ?_) e) _ _ u1
    obtain ⟨m, hm, -⟩ := u2.rel.loc
    exact Ns.notSeq hm (z ▸ e)
  refine wpAny_mono ((bin_addl (c := c) (S := S) (a := xs.map .str) (b := ys.map .str) (Q := fun p S' => p = .lst ((xs ++ ys).map .str) ∧ S' = S) (by rw [List.length_map, List.length_map]; omega) ⟨by rw [List.map_append], rfl⟩).run _ _ _ v2.rel v2.ok u1' v1) (fun w s3 z => ?_) fun _ _ x => x
  obtain ⟨p, S', w1, w2, w3, w4, rfl, rfl⟩ := z
  obtain ⟨⟨h3, t3, rfl⟩, w5⟩ := w4
  exact ⟨w1, v2.mono w2 w3 (fun b o hb e => w5 b o hb (by rw [w3 hf]; exact hb) e), ⟨h3, t3, rfl⟩, fun b o hb e => w5 b o hb (by rw [w3 hf]; exact hb) (k12 b o hb e)⟩

theorem call_begin {s : Shared} (r : Rel c S s) (ok : SOk c S) (hf : S.fld = .none) (hd : c.A.depth + 5 ≤ recursionLimit) (k : Nat) (hk : k < 19) (t : Tok) :
    wpAny (model pw c.w) c.A (PySem.call (.ref 594) [.int k t]) (fun v s' => VR s'.heap (.lst ((startsOf k).map .str)) v ∧ (∃ h tk, s' = { s with heap := h, toks := tk }) ∧ ∀ b o, s.heap.get? b = some o → s'.heap.get? b = some o) NoE s := by
  refine wpAny_call (codeAny_call_cells (o := o594 c.w.params) (fd := fd594) (body := stBody (tb 21)) (binds := [(⟨⟨[107, 105, 110, 100]⟩⟩, .int k t)]) (by omega) (r.keepB _ _ (by kernel_rfl)) rfl ((nolimit _ _).keeps r.keepB)
    (Heap.CodeRec.keeps (h := c.B) ⟨593, o593 c.w.params, _, _, rfl, by kernel_rfl, rfl, rfl⟩ r.keepB) rfl (by kernel_rfl) rfl ?_ ?_ (by kernel_rfl) (by kernel_rfl) (by kernel_rfl))
  · intro x hx
    rw [List.mem_singleton] at hx
    subst hx
    exact .inl (by kernel_rfl)
  intro s₁ IC
  have hB : ∀ a, s.heap.objs.size ≤ a → c.B.get? a = .none := fun a ha => by
    cases q : c.B.get? a with
    | none => rfl
    | some o => exact absurd (Heap.lt_size (r.keepB _ _ q)) (Nat.not_lt.mpr ha)
  have hlt : ∀ b o, s.heap.get? b = some o → b < s.heap.objs.size := fun b o e => Heap.lt_size e
  generalize hL : s.heap.objs.size = L at IC hB hlt ⊢
  rw [envB] at IC ⊢
  let c' : Cx := { c with A := c.A.deeper (callEnv (fdB L) L 594), hA := c.hA, fa := 594, L := L, dx := L }
  have kp := IC.toInCall.keep
  obtain ⟨hh, tk, rfl⟩ := IC.toInCall.same
  have hcell : hh.IsCell (L + 1) .none := IC.cell nPlain (L + 1) (by kernel_rfl)
  have ns := IC.toInCall.ns
  have rel1 : Rel c' ⟨[(⟨⟨[107, 105, 110, 100]⟩⟩, .int k)], .none⟩ { s with heap := hh, toks := tk } := by
    refine ⟨fun b o e => kp b o (r.keepB b o e), hB L (Nat.le_refl _), ⟨_, ns, fun n p e => ?_⟩, fun f e => by cases e⟩
    rw [lk_cons] at e
    by_cases h : (⟨⟨[107, 105, 110, 100]⟩⟩ : PySem.Str) = n
    · rw [if_pos h] at e; cases e; subst h; exact ⟨.int k t, by kernel_rfl, vr_int⟩
    · rw [if_neg h] at e; cases e
  have b1 : BSt c' ⟨[(⟨⟨[107, 105, 110, 100]⟩⟩, .int k)], .none⟩ .none { s with heap := hh, toks := tk } := ⟨rel1, fun _ => rfl, .none, hcell, fun l e => by cases e⟩
  have hB1 : c'.B.get? (c'.L + 1) = .none := hB (L + 1) (Nat.le_succ _)
  let S0 : St := ⟨[(⟨⟨[107, 105, 110, 100]⟩⟩, .int k)], .none⟩
  have fin : ∀ (ls : List (List Nat)) (pl : Option (List Nat)) (v : Value) (s0 s' : Shared), ls = startsOf k → (∃ h tk, s0 = { s with heap := h, toks := tk }) → (∀ b o, s.heap.get? b = some o → s0.heap.get? b = some o) → CPost c' S0 pl s0 ls v s' →
      VR s'.heap (.lst ((startsOf k).map .str)) v ∧ (∃ h tk, s' = { s with heap := h, toks := tk }) ∧ ∀ b o, s.heap.get? b = some o → s'.heap.get? b = some o := by
    rintro ls pl v s0 s' rfl ⟨h0, t0, rfl⟩ k0 ⟨z1, z2, ⟨h3, t3, rfl⟩, z4⟩
    exact ⟨z1, ⟨h3, t3, rfl⟩, fun b o e => z4 b o (Nat.ne_of_lt (hlt b o e)) (k0 b o e)⟩
  refine wpAny_execs_cons (wpAny_If (wpAny_mono (WB.run (c := c') (fd := fdB L) (S := S0) (Q := fun b S' => b = decide ((k : Int) < 9) ∧ S' = S0) ?_ _ rel1 (fun _ => rfl)) (fun b s1 z => ?_) fun _ _ x => x.elim))
  · repeat' walk_at "v"
    exact ⟨rfl, rfl⟩
  obtain ⟨S', a2, a3, a4, rfl, rfl⟩ := z
  have b2 := b1.mono a2 a3 (fun x o hx e => a4.keep x o hx hx e)
  have k2 : ∀ b o, s.heap.get? b = some o → s1.heap.get? b = some o := fun b o e => a4.keep b o (Nat.ne_of_lt (hlt b o e)) (Nat.ne_of_lt (hlt b o e)) (kp b o e)
  obtain ⟨⟨h1, t1, rfl⟩, -⟩ := a4
  by_cases q : k < 9
  · rw [decide_eq_true (by omega), if_pos rfl]
    have hpl : ((lChanged.getD k []).getD 0 []).length ≤ 20 := by
      have h : ∀ j, j < 9 → ((lChanged.getD j []).getD 0 []).length ≤ 20 := by decide
      exact h k q
    refine wpAny_execs_cons (wpAny_Assign_Name (wpAny_mono (WE.run (c := c') (fd := fdB L) (S := S0) (Q := fun p S' => p = .str ((lChanged.getD k []).getD 0 []) ∧ S' = S0) ?_ _ a2 a3) (fun v s2 z => ?_) fun _ _ x => x.elim) (by rfl))
    · repeat' walk_at "v"
      refine we_call0 (fn547 _ _ _ _) (by kernel_rfl) (by kernel_rfl) (by kernel_rfl) (by kernel_rfl) (k := 1) (by show c.A.depth + 1 + (1 + 1) ≤ _; omega) (by kernel_rfl) ?_
      refine (sp_changed _).mono ?_
      rintro p f ⟨rfl, rfl⟩
      repeat' walk_at "v"
      refine get_lst (p := .tup ((lChanged.getD k []).map .str)) (by omega) (by decide) (by rw [Int.toNat_natCast, List.getElem?_map, getD_some (d := []) (show k < lChanged.length from q)]; rfl) ?_
      repeat' walk_at "v"
      have h0 : ∀ j, j < 9 → 0 < (lChanged.getD j []).length := by decide
      have h1 : ∀ j, j < 9 → (lChanged.getD j []).length ≤ 20 := by decide
      refine get_tup (p := .str ((lChanged.getD k []).getD 0 [])) (by decide) (by rw [List.length_map]; have := h1 k q; omega) (by rw [show (0 : Int).toNat = 0 from rfl, List.getElem?_map, getD_some (d := []) (h0 k q)]; rfl) ?_
      exact ⟨rfl, rfl⟩
    obtain ⟨p, S', d1, d2, d3, d4, rfl, rfl⟩ := z
    simp only [VR] at d1
    obtain ⟨t5, rfl⟩ := d1
    have b3 := b2.mono d2 d3 (fun x o hx e => d4.keep x o hx hx e)
    have k3 : ∀ b o, s.heap.get? b = some o → s2.heap.get? b = some o := fun b o e => d4.keep b o (Nat.ne_of_lt (hlt b o e)) (Nat.ne_of_lt (hlt b o e)) (k2 b o e)
    obtain ⟨⟨h2, t2, rfl⟩, -⟩ := d4
    refine wpAny_mono (bstore (c := c') (fd := fdB L) (x := nPlain) (Q := fun _ s' => BSt c' S0 (some ((lChanged.getD k []).getD 0 [])) s' ∧ (∃ h tk, s' = { s with heap := h, toks := tk }) ∧ ∀ b o, s.heap.get? b = some o → s'.heap.get? b = some o) b3 rfl (by kernel_rfl) (by kernel_rfl) (by kernel_rfl) hB1 (fun s' g1 g2 g3 => ?_)) (fun _ s3 z => ?_) fun _ _ x => x.elim
    · obtain ⟨h4, t4, rfl⟩ := g2
      exact ⟨g1, ⟨h4, t4, rfl⟩, fun b o e => g3 b o (Nat.ne_of_lt (Nat.lt_succ_of_lt (hlt b o e))) (k3 b o e)⟩
    obtain ⟨b4, e4, k4⟩ := z
    refine wpAny_execs_cons (wpAny_Return_some (wpAny_mono (cadd (c := c') (S := S0) (pl := some ((lChanged.getD k []).getD 0 [])) (xs := lChanged.getD k []) (ys := [[98, 39], [100, 39], [109, 39]].map (· ++ (lChanged.getD k []).getD 0 [])) ?_ rfl ?_ ?_) (fun v s5 z => ?_) fun _ _ x => x.elim))
    · have h : ∀ j, j < 9 → (lChanged.getD j []).length ≤ 20 := by decide
      have := h k q
      rw [List.length_map]
      show _ + 3 ≤ _
      omega
    · refine comp_text (c := c') rfl b4 rfl ?_ (by kernel_rfl) (by kernel_rfl) ?_ (by intros; rfl)
      · have h : ∀ j, j < 9 → (lChanged.getD j []).length ≤ 20 := by decide
        have := h k q
        omega
      · repeat' walk_at "v"
        refine we_call0 (fn547 _ _ _ _) (by kernel_rfl) (by kernel_rfl) (by kernel_rfl) (by kernel_rfl) (k := 1) (by show c.A.depth + 1 + (1 + 1) ≤ _; omega) (by kernel_rfl) ?_
        refine (sp_changed _).mono ?_
        rintro p f ⟨rfl, rfl⟩
        repeat' walk_at "v"
        refine get_lst (p := .tup ((lChanged.getD k []).map .str)) (by omega) (by decide) (by rw [Int.toNat_natCast, List.getElem?_map, getD_some (d := []) (show k < lChanged.length from q)]; rfl) ?_
        exact ⟨rfl, rfl⟩
    · intro s6 b6
      refine comp_front (c := c') rfl rfl b6 rfl hpl ?_ (by decide) (by kernel_rfl) (by kernel_rfl) ?_ (by intros; rfl)
      · decide
      · repeat' walk_at "v"
        exact ⟨by decide, rfl, rfl⟩
    · exact fin _ _ v s3 s5 (by unfold startsOf; rw [if_pos q]) e4 k4 z
  · rw [decide_eq_false (by omega), if_neg (by decide)]
    refine wpAny_execs_nil ?_
    refine wpAny_execs_cons (wpAny_Assign_Name (wpAny_mono (WE.run (c := c') (fd := fdB L) (S := S0) (Q := fun p S' => p = .str [lVowels.getD (k - 9) 0] ∧ S' = S0) ?_ _ a2 a3) (fun v s2 z => ?_) fun _ _ x => x.elim) (by rfl))
    · repeat' walk_at "v"
      refine we_gstr (l := lVowels) (by kernel_rfl) (by kernel_rfl) (by kernel_rfl) (by kernel_rfl) ?_
      repeat' walk_at "v"
      have hk9 : k - 9 < lVowels.length := by show k - 9 < 10; omega
      refine get_str (ch := lVowels.getD (k - 9) 0) (by omega) (by decide) (by rw [show ((k : Int) - 9).toNat = k - 9 by omega]; exact at_getD hk9) ?_
      exact ⟨rfl, rfl⟩
    obtain ⟨p, S', d1, d2, d3, d4, rfl, rfl⟩ := z
    simp only [VR] at d1
    obtain ⟨t5, rfl⟩ := d1
    have b3 := b2.mono d2 d3 (fun x o hx e => d4.keep x o hx hx e)
    have k3 : ∀ b o, s.heap.get? b = some o → s2.heap.get? b = some o := fun b o e => d4.keep b o (Nat.ne_of_lt (hlt b o e)) (Nat.ne_of_lt (hlt b o e)) (k2 b o e)
    obtain ⟨⟨h2, t2, rfl⟩, -⟩ := d4
    refine wpAny_mono (bstore (c := c') (fd := fdB L) (x := nPlain) (Q := fun _ s' => BSt c' S0 (some [lVowels.getD (k - 9) 0]) s' ∧ (∃ h tk, s' = { s with heap := h, toks := tk }) ∧ ∀ b o, s.heap.get? b = some o → s'.heap.get? b = some o) b3 rfl (by kernel_rfl) (by kernel_rfl) (by kernel_rfl) hB1 (fun s' g1 g2 g3 => ?_)) (fun _ s3 z => ?_) fun _ _ x => x.elim
    · obtain ⟨h4, t4, rfl⟩ := g2
      exact ⟨g1, ⟨h4, t4, rfl⟩, fun b o e => g3 b o (Nat.ne_of_lt (Nat.lt_succ_of_lt (hlt b o e))) (k3 b o e)⟩
    obtain ⟨b4, e4, k4⟩ := z
    refine wpAny_execs_cons (wpAny_Return_some (wpAny_mono (cadd (c := c') (S := S0) (pl := some [lVowels.getD (k - 9) 0]) (xs := [[lVowels.getD (k - 9) 0]]) (ys := [[104, 45], [110, 45], [116, 45], [98, 39], [100, 39], [109, 39]].map (· ++ [lVowels.getD (k - 9) 0])) (Nat.le_of_ble_eq_true (by rfl)) rfl ?_ ?_) (fun v s5 z => ?_) fun _ _ x => x.elim))
    · obtain ⟨cv, hc1, hc2⟩ := b4.cell
      obtain ⟨t6, rfl⟩ := hc2 _ rfl
      refine List_ (args_cons (wpAny_Name (wpAny_loadName_cell (c := c'.L + 1) (v := .str ⟨⟨[lVowels.getD (k - 9) 0]⟩⟩ t6) (by kernel_rfl) (by kernel_rfl) (by kernel_rfl) hc1 (args_nil ?_)) (by decide)) (by rfl))
      refine wpAny_newObj_type ?_ (by show 1 ≤ sizeLine; rw [sizeLine_eq]; decide)
      refine ⟨?_, b4.mono (b4.rel.grow (tk := s3.toks) push_up) b4.ok (fun b o _ e => push_up b o e), ⟨_, s3.toks, rfl⟩, fun b o _ e => push_up b o e⟩
      simp only [VR]
      exact ⟨_, [.str ⟨⟨[lVowels.getD (k - 9) 0]⟩⟩ t6], 0, rfl, Heap.get?_push_size _ rfl, by simp only [List.map_cons, List.map_nil, VRs]; exact ⟨_, _, rfl, vr_str, rfl⟩⟩
    · intro s6 b6
      refine comp_front (c := c') rfl rfl b6 rfl (Nat.le_of_ble_eq_true (by rfl)) ?_ (by decide) (by kernel_rfl) (by kernel_rfl) ?_ (by intros; rfl)
      · decide
      · repeat' walk_at "v"
        exact ⟨by decide, rfl, rfl⟩
    · exact fin _ _ v s3 s5 (by unfold startsOf; rw [if_neg q]) e4 k4 z
end

section
variable {c : Cx} {fd : FuncData} {S : St}






/-- _law_beginnings(e) -/
theorem we_begin {xp pos e} {Q : PV → St → Prop} (hk : fd.scope.kind = .function) (hG : fd.globals = mainGlobals) (hx : fd.scope.names.lookup ⟨⟨[95, 108, 97, 119, 95, 98, 101, 103, 105, 110, 110, 105, 110, 103, 115]⟩⟩ = some .globalImplicit) (hd : c.A.depth + 5 ≤ recursionLimit)
    (h : WA c fd S pos [e] (fun ps S1 => S1.fld = .none ∧ ∃ k : Nat, k < 19 ∧ ps = [.int k] ∧ Q (.lst ((startsOf k).map .str)) S1))
    (he : ∀ env, starEach [e] env = (false, eval e env) :: starEach [] env := by intros; rfl)
    (hc : ∀ env, eval (.Call (.Name ⟨⟨[95, 108, 97, 119, 95, 98, 101, 103, 105, 110, 110, 105, 110, 103, 115]⟩⟩ xp) [e] [] pos) env = (do let f ← eval (.Name ⟨⟨[95, 108, 97, 119, 95, 98, 101, 103, 105, 110, 110, 105, 110, 103, 115]⟩⟩ xp) env; callWith pos f [] (backTo pos (starEach [e] env)) []) := by intros; rfl) :
    WE c fd S (.Call (.Name ⟨⟨[95, 108, 97, 119, 95, 98, 101, 103, 105, 110, 110, 105, 110, 103, 115]⟩⟩ xp) [e] [] pos) Q := by
  refine ⟨fun s r ok => ?_⟩
  rw [hc]
  refine wpAny_bind (wpAny_mono ((we_glob (v := .ref 594) (Q := fun p S' => p = .ref 594 ∧ S' = S) (by kernel_rfl) vr_ref hk hG hx ⟨rfl, rfl⟩ (by decide)).run s r ok) (fun f s₁ z => ?_) fun _ _ x => x)
  obtain ⟨p, S', a1, a2, a3, a4, rfl, rfl⟩ := z
  simp only [VR] at a1
  subst a1
  refine callWith_function (o := o594 c.w.params) (fd := fd594) ?_
  have hw := h.run s₁ a2 a3
  rw [he] at hw ⊢
  refine evalArgs_plain (wpAny_mono hw (fun vs s₂ z => ?_) fun _ _ x => x)
  obtain ⟨ps, S1, b1, b2, b3, b4, hf, k, hk', rfl, hQ⟩ := z
  refine ⟨⟨b2.keepB _ _ (by kernel_rfl), rfl⟩, ?_⟩
  simp only [VRs, VR] at b1
  obtain ⟨v, r', rfl, ⟨t, rfl⟩, rfl⟩ := b1
  refine wpAny_mono (call_begin b2 b3 hf hd k hk' t) (fun v s₃ z => ?_) fun _ _ x => x
  obtain ⟨d1, ⟨h3, t3, rfl⟩, d3⟩ := z
  exact ⟨_, S1, d1, b2.grow d3, b3, (a4.trans b4).trans (.grow d3), hQ⟩

theorem strsAre_of {h : Heap} : ∀ {ls : List (List Nat)} {vs : List Value}, VRs h (ls.map .str) vs → StrsAre vs (ls.map fun l => (⟨⟨l⟩⟩ : PySem.Str))
  | [], vs, r => by simp only [List.map_nil, VRs] at r; subst r; exact .nil
  | l :: ls, vs, r => by
    simp only [List.map_cons, VRs] at r
    obtain ⟨v, r', rfl, r1, r2⟩ := r
    simp only [VR] at r1
    obtain ⟨t, rfl⟩ := r1
    exact .cons _ _ (strsAre_of r2)
theorem glue_fold : ∀ (ls : List (List Nat)) (acc : Array Nat), ((ls.map fun l => (⟨⟨l⟩⟩ : PySem.Str)).foldl (fun acc p => acc ++ (⟨[]⟩ : Array Nat) ++ p.cps) acc) = ⟨acc.toList ++ ls.flatten⟩
  | [], acc => by simp
  | l :: ls, acc => by
    rw [List.map_cons, List.foldl_cons, glue_fold ls]
    simp
theorem join_empty (ls : List (List Nat)) : Txt.join ⟨⟨[]⟩⟩ (ls.map fun l => (⟨⟨l⟩⟩ : PySem.Str)) = ⟨⟨ls.flatten⟩⟩ := by
  unfold Txt.join Builtin.Str.glued
  cases ls with
  | nil => rfl
  | cons l ls =>
    rw [List.map_cons, List.drop_succ_cons, List.drop_zero]
    exact congrArg PySem.Str.mk (glue_fold ls ⟨l⟩)

/-- ''.join(e) -/
theorem we_join {k kp apos pos e} {Q : PV → St → Prop}
    (h : WE c fd S e (fun p S1 => ∃ ls : List (List Nat), p = .lst (ls.map .str) ∧ (ls.map List.length).sum ≤ 1000000 ∧ Q (.str ls.flatten) S1))
    (he : ∀ env, starEach [e] env = (false, eval e env) :: starEach [] env)
    (pl : Env → Sem Bool)
    (hc : ∀ env, eval (.Call (.Attribute (.Constant (.str ⟨⟨[]⟩⟩) k kp) ⟨⟨[106, 111, 105, 110]⟩⟩ apos) [e] [] pos) env = (do
        let ov ← eval (.Constant (.str ⟨⟨[]⟩⟩) k kp) env
        standAt apos.atName
        let __x ← holding [ov] (getMethod ov ⟨⟨[106, 111, 105, 110]⟩⟩ (pl env))
        match __x with
          | (f, first) => callWith pos f first (backTo pos (starEach [e] env)) [])) :
    WE c fd S (.Call (.Attribute (.Constant (.str ⟨⟨[]⟩⟩) k kp) ⟨⟨[106, 111, 105, 110]⟩⟩ apos) [e] [] pos) Q := by
  refine ⟨fun s r ok => MethodCall_ (pl := pl _) (wpAny_Constant_str (PySem.GM.join (callWith_method1 (args_cons (wpAny_mono (h.run _ (r.tok _) ok) (fun v s1 z => ?_) fun _ _ x => x) (he _)) (he _) rfl))) (hc _)⟩
  obtain ⟨p, S1, a1, a2, a3, a4, ls, rfl, hz, hQ⟩ := z
  simp only [VR] at a1
  obtain ⟨a, vs, n, rfl, ha, hvs⟩ := a1
  refine args_nil (join_list (items := vs.toArray) ⟨_, ha, rfl, _, rfl⟩ (strsAre_of hvs) ?_ fun t' tk => ?_)
  · rw [List.map_map]
    show (ls.map fun l => l.length).sum + _ * 0 ≤ _
    have : (ls.map fun l => l.length).sum = (ls.map List.length).sum := rfl
    omega
  · rw [join_empty]
    exact Post.trans (Fr.trans (.tok _) a4) (post_tok a2 a3 vr_str hQ)

noncomputable abbrev nNumber : PySem.Str := ⟨⟨[110, 117, 109, 98, 101, 114]⟩⟩
noncomputable abbrev nSign : PySem.Str := ⟨⟨[95, 108, 97, 119, 95, 115, 105, 103, 110]⟩⟩
theorem chs_of {ps : List PV} (h : ∀ (i : Nat) (q : PV), ps[i]? = some q → ∃ ch : Nat, q = .str [ch]) : ∃ chs : List Nat, chs.length = ps.length ∧ ps = (chs.map fun ch => [ch]).map .str := by
  induction ps with
  | nil => exact ⟨[], rfl, rfl⟩
  | cons p ps ih =>
    obtain ⟨ch, rfl⟩ := h 0 p rfl
    obtain ⟨chs, e1, e2⟩ := ih fun i q e => h (i + 1) q e
    exact ⟨ch :: chs, by simp [e1], by rw [List.map_cons, List.map_cons, ← e2]⟩

/-- [_law_sign(number) for number in e] -/
theorem we_signs {p1 p2 p3 px pos : Pos} {iter : Expr} {scope : Scope} {Q : PV → St → Prop} (hk : fd.scope.kind = .function) (hG : fd.globals = mainGlobals) (hd : c.A.depth + 3 ≤ recursionLimit) (hf : S.fld = .none)
    (hsc : scope.names = [(⟨⟨[46, 48]⟩⟩, .local), (nNumber, .local), (nSign, .globalImplicit)]) (hkind : scope.kind = .function)
    (hit : WE c fd S iter (fun p S' => S' = S ∧ ∃ ms : List Int, p = .lst (ms.map .int) ∧ ms.length ≤ 100 ∧ ∀ chs : List Nat, chs.length = ms.length → Q (.lst ((chs.map fun ch => [ch]).map .str)) S))
    (hs : ∀ env x, foldedSetIterable iter env x = pure x) :
    WE c fd S (.ListComp (.Call (.Name nSign p1) [.Name nNumber p2] [] p3) [⟨.Name nNumber px, iter, [], 0⟩] scope pos) Q := by
  refine ⟨fun s r ok => ?_⟩
  obtain ⟨knd, nms, isg, isc, mo⟩ := scope
  simp only at hsc hkind
  subst hsc hkind
  refine comp_none (cl := []) (fun i q => ∃ ch : Nat, q = .str [ch]) (by kernel_rfl) ?_ rfl ?_ (by kernel_rfl) ?_ (hs _)
  · intro y hy z
    simp only [List.mem_cons, List.not_mem_nil, or_false] at hy
    rcases hy with rfl | rfl | rfl <;> cases z
  · intro y hy z
    simp only [List.mem_cons, List.not_mem_nil, or_false] at hy
    rcases hy with rfl | rfl | rfl
    · kernel_rfl
    · kernel_rfl
    · cases z
  · refine wpAny_mono (hit.run s r ok) (fun v s1 z => ?_) fun _ _ x => x
    obtain ⟨p, S', a1, a2, a3, a4, rfl, ms, rfl, hms, hQ⟩ := z
    refine ⟨ms.map .int, .inl a1, by rw [List.all_map]; exact List.all_eq_true.mpr fun _ _ => rfl, by rw [List.length_map]; omega, a2.keepB, ?_, ?_⟩
    · intro i p hp s2 C m v2 hB hn hm hvr hC hkk
      obtain ⟨n, hn2, rfl⟩ : ∃ n, ms[i]? = some n ∧ p = .int n := by
        rw [List.getElem?_map] at hp
        cases hw : ms[i]? with
        | none => rw [hw] at hp; cases hp
        | some x => rw [hw] at hp; cases hp; exact ⟨x, rfl, rfl⟩
      let c2 : Cx := { c with L := C, dx := C }
      have rel2 : Rel c2 ⟨[(nNumber, .int n)], .none⟩ s2 := by
        refine ⟨hB, hC, ⟨m, hn, fun n' q e => ?_⟩, fun f e => by cases e⟩
        rw [lk_cons] at e
        by_cases h : nNumber = n'
        · rw [if_pos h] at e; cases e; subst h; exact ⟨v2, hm, hvr⟩
        · rw [if_neg h] at e; cases e
      have hgl : s2.heap.Ns (compEnvC ⟨.function, [(⟨⟨[46, 48]⟩⟩, .local), (nNumber, .local), (nSign, .globalImplicit)], isg, isc, mo⟩ [] C (callEnv fd c.L c.fa)).globals (c.B.nsMap mainGlobals) := by
        show s2.heap.Ns fd.globals _
        rw [hG]; exact (main_ns _ _).keeps hB
      show wpAny _ _ (do let f ← eval (.Name nSign p1) _; callWith p3 f [] (backTo p3 (starEach [.Name nNumber p2] _)) []) _ _ _
      refine wpAny_bind (Name_function_global rfl (by kernel_rfl) (loadGlobal_global hgl (v := .ref 589) (by kernel_rfl) ?_) (by decide))
      refine callWith_function (o := o589 c.w.params) (fd := fd589) (evalArgs_plain (spliced_cons (wpAny_Name (wpAny_loadName_local (v := v2) rfl (by kernel_rfl) hn hm (spliced_nil ?_)) (by decide))))
      refine ⟨⟨hB _ _ (by kernel_rfl), rfl⟩, ?_⟩
      refine wpAny_mono (call_fn2 (c := c2) (fn589 _ _ _ _) rel2 (fun _ => rfl) (k := 1) (args := fun _ => [.int n]) (vs := [v2]) (by show c.A.depth + 2 ≤ _; omega) (by simp only [VRs]; exact ⟨_, _, rfl, hvr, rfl⟩) (by kernel_rfl) (sp_sign _ n)) (fun y s3 z => ?_) fun _ _ z => z
      obtain ⟨q, f, q1, q2, q3, q4, q5, ⟨ch, rfl⟩, rfl⟩ := z
      exact ⟨_, rfl, q1, q4.same, fun b o e => q5 b o (fun z => absurd rfl z) e, ch, rfl⟩
    · intro D h' tk ps hD hlen hGq hkk
      rw [List.length_map] at hlen
      obtain ⟨chs, e1, rfl⟩ := chs_of hGq
      exact Post.trans a4 ⟨_, S', hD, a2.grow hkk, a3, .grow hkk, hQ chs (e1.trans hlen)⟩
end

section
variable {c : Cx} {fd : FuncData} {S : St}






theorem me194 (P : Params) (es ep t) : MethAt P (setO es ep t) ⟨⟨[115, 116, 101, 109, 87, 111, 114, 100, 115]⟩⟩ 194 := ⟨by kernel_rfl, by kernel_rfl⟩

/-- IrishStemmer(): a new instance, its fields laid -/
theorem make_irish {s : Shared} {Q : Value → Shared → Prop} (r : Rel c S s) (hd : c.A.depth + 5 ≤ recursionLimit)
    (h : ∀ (x dx : Addr) h' tk, s.heap.get? x = .none → s.heap.get? dx = .none → (∀ b o, s.heap.get? b = some o → h'.get? b = some o) → Lit { c with x := x, dx := dx } (some dx) (some (flds [] 0 0 0 0 0 [])) h' → Q (.ref x) { s with heap := h', toks := tk }) :
    wpAny (model pw c.w) c.A (PySem.call (.ref 525) []) Q NoE s := by
  obtain ⟨hh, g, d, t, os⟩ := s
  refine wpAny_call (make_core (makes_of (K := c.K) r.kin (by kernel_rfl)) (looks_findIn (K := c.K) r.kin (r := some (.ref 35)) (by kernel_rfl)) (fun self => bind_fn (K := c.K) r.kin self (by kernel_rfl)) (.inl rfl) ?_)
  have fx : hh.get? (hh.objs.size + 1) = .none := fresh_size (Nat.le_succ _)
  have fd0 : hh.get? hh.objs.size = .none := fresh_size (Nat.le_refl _)
  have up : ∀ b o, hh.get? b = some o → ((hh.push emptyDict).push (instObj 525 hh.objs.size)).get? b = some o := fun b o e => push_up b o (push_up b o e)
  have hB : ∀ a, hh.get? a = .none → c.B.get? a = .none := fun a ha => by
    cases q : c.B.get? a with
    | none => rfl
    | some o => have := r.keepB _ _ q; rw [ha] at this; cases this
  let c2 : Cx := { c with A := c.A.under (.builtin "type.__call__" ⟨[.ref 525], []⟩), hA := c.hA, x := hh.objs.size + 1, dx := hh.objs.size }
  have rel2 : Rel c2 ⟨[], some []⟩ ⟨(hh.push emptyDict).push (instObj 525 hh.objs.size), g, d, t, os⟩ := by
    obtain ⟨m, hm, hv⟩ := r.loc
    have hLs : c.L < hh.objs.size := hm.lt
    refine ⟨fun b o e => up _ _ (r.keepB b o e), r.BL, ⟨m, hm.keeps up, fun n p e => by cases e⟩, fun f hf => ?_⟩
    cases hf
    refine ⟨?_, Nat.ne_of_gt hLs, Nat.ne_of_gt (Nat.lt_succ_of_lt hLs), Nat.ne_of_lt (Nat.lt_succ_self _), hB _ fd0, [], 0, push_up _ _ (Heap.get?_push_size _ rfl), rfl⟩
    have := Heap.get?_push_size (hh.push emptyDict) (o := instObj 525 hh.objs.size) rfl
    rw [Heap.size_push] at this
    exact this
  have hdd : c2.A.depth + (2 + 1) ≤ recursionLimit := by
    have e : c2.A.depth = (c.A.under (.builtin "type.__call__" ⟨[.ref 525], []⟩)).depth := rfl
    rw [e]
    simp only [Around.under]
    have hw : (Code.builtin "type.__call__" ⟨[.ref 525], []⟩).weight ≤ 1 := Nat.le_of_ble_eq_true (by kernel_rfl)
    omega
  refine codeAny_mono (code_fn (c := c2) (fn35 _ _ _ _) rel2 sok_some (k := 2) (args := fun a => [.ref a]) (vs := [.ref (hh.objs.size + 1)]) hdd (by simp only [VRs]; exact ⟨_, _, rfl, vr_ref, rfl⟩) (by kernel_rfl) (sp_new _)) fun rr s' z => ?_
  rcases rr with e | (_ | _ | _ | v)
  · exact z.elim
  · exact z.elim
  · exact z.elim
  · exact z.elim
  · obtain ⟨p, f, z1, z2, z3, ⟨⟨h3, t3, rfl⟩, z4⟩, z5, rfl, rfl⟩ := z
    simp only [VR] at z1
    subst z1
    have k3 : ∀ b o, hh.get? b = some o → h3.get? b = some o := fun b o e => z5 b o (fun _ => ne_none_some fd0 e) (up b o e)
    have L3 := Lit.of z2 rfl (nsFields _ _ _ _ _ _ _ _ (.inl rfl) rfl)
    exact ⟨rfl, h _ _ h3 t3 fx fd0 k3 ⟨L3.keepB, L3.inst⟩⟩

noncomputable abbrev nForms : PySem.Str := ⟨⟨[102, 111, 114, 109, 115]⟩⟩
noncomputable abbrev nDue : PySem.Str := ⟨⟨[100, 117, 101]⟩⟩
noncomputable abbrev nIrish : PySem.Str := ⟨⟨[73, 114, 105, 115, 104, 83, 116, 101, 109, 109, 101, 114]⟩⟩
noncomputable abbrev nStemWords : PySem.Str := ⟨⟨[115, 116, 101, 109, 87, 111, 114, 100, 115]⟩⟩
theorem strs_eq {A : Around} {s : Shared} {h1 h2 : Heap} : ∀ {ls : List (List Nat)} {vs us : List Value}, VRs h1 (ls.map .str) vs → VRs h2 (ls.map .str) us → ∀ (j : Nat) (a b : Value), vs[j]? = some a → us[j]? = some b → PySem.SeqAt.EqAt A s a b true
  | [], vs, us, r, q, j, a, b, ea, eb => by simp only [List.map_nil, VRs] at r; subst r; cases ea
  | l :: ls, vs, us, r, q, j, a, b, ea, eb => by
    simp only [List.map_cons, VRs, VR] at r q
    obtain ⟨v, r', rfl, ⟨t, rfl⟩, r2⟩ := r
    obtain ⟨u, q', rfl, ⟨t', rfl⟩, q2⟩ := q
    cases j with
    | zero =>
      cases ea; cases eb
      have := PySem.SeqAt.EqAt.str_str (A := A) (s := s) ⟨⟨l⟩⟩ t ⟨⟨l⟩⟩ t'
      rwa [show ((⟨⟨l⟩⟩ : PySem.Str) == ⟨⟨l⟩⟩) = true from beq_self_eq_true _] at this
    | succ j => exact strs_eq r2 q2 j a b ea eb

theorem MethodCallC {M : Model} {A : Around} {E : Value → Shared → Prop} {s : Shared} {env : Env} {o : Expr} {name : PySem.Str} {apos pos : Pos} {args : List Expr} {pl : Sem Bool} {Q : Value → Shared → Prop}
    (h : wpAny M A (eval o env) (fun ov s₁ => wpAny M A (getMethod ov name pl) (fun fx s₂ => wpAny M A (callWith pos fx.1 fx.2 (backTo pos (starEach args env)) []) Q E s₂) E s₁) E s)
    (he : eval (.Call (.Attribute o name apos) args [] pos) env = (do
      let ov ← (eval o env >>= fun a => pure a)
      standAt apos.atName
      let (f, first) ← holding [ov] (getMethod ov name pl)
      callWith pos f first (backTo pos (starEach args env)) [])) :
    wpAny M A (eval (.Call (.Attribute o name apos) args [] pos) env) Q E s := by
  rw [he]
  refine wpAny_bind (wpAny_bind (wpAny_mono h (fun ov s₁ h₁ => wpAny_pure (wpAny_bind (wpAny_standAt (wpAny_bind (wpAny_holding (wpAny_mono h₁ (fun fx s₂ h₂ => ?_) fun _ _ x => x)))))) fun _ _ x => x))
  exact h₂
theorem we_final {p1 p2 p3 p4 p5 p6 apos : Pos} {fa da : Addr} {ws outs : List (List Nat)} {Q : PV → St → Prop} (hk : fd.scope.kind = .function) (hG : fd.globals = mainGlobals) (hx : fd.scope.names.lookup nIrish = some .globalImplicit)
    (hxf : fd.scope.names.lookup nForms = some .local) (hxd : fd.scope.names.lookup nDue = some .local) (hf : S.fld = .none) (hd : c.A.depth + 12 ≤ recursionLimit) (hu : c.A.units < cLine)
    (hlf : lk S.loc nForms = some (.lstAt fa (ws.map .str))) (hld : lk S.loc nDue = some (.lstAt da (outs.map .str))) (hz : ws.length ≤ 1000) (hlen : outs.length = ws.length)
    (H : ∀ (i : Nat) x y, ws[i]? = some x → outs[i]? = some y → StemP x y) (q : Q (.bool true) S) (pl : Env → Sem Bool)
    (he : ∀ env, eval (.Call (.Attribute (.Call (.Name nIrish p1) [] [] p2) nStemWords apos) [.Name nForms p3] [] p4) env = (do
      let ov ← eval (.Call (.Name nIrish p1) [] [] p2) env
      standAt apos.atName
      let (f, first) ← holding [ov] (getMethod ov nStemWords (pl env))
      callWith p4 f first (backTo p4 (starEach [.Name nForms p3] env)) [])) :
    WE c fd S (.Compare (.Call (.Attribute (.Call (.Name nIrish p1) [] [] p2) nStemWords apos) [.Name nForms p3] [] p4) [.Eq] [.Name nDue p5] p6) Q := by
  refine ⟨fun s r ok => wpAny_Compare1 (MethodCall_ (pl := pl _) ?_ (he _)) (by rfl)⟩
  show wpAny _ _ (do let f ← eval (.Name nIrish p1) _; callWith p2 f [] (backTo p2 (starEach [] _)) []) _ _ _
  refine wpAny_bind (wpAny_mono ((we_glob (v := .ref 525) (Q := fun p S' => p = .ref 525 ∧ S' = S) (by kernel_rfl) vr_ref hk hG hx ⟨rfl, rfl⟩ (by decide)).run s r ok) (fun f s₁ z => ?_) fun _ _ x => x)
  obtain ⟨p, S', a1, a2, a3, a4, rfl, rfl⟩ := z
  simp only [VR] at a1
  subst a1
  refine callWith_K0 (K := c.K) a2.kin (by kernel_rfl) ?_
  refine make_irish a2 (by omega) fun x dx h1 t1 fx fdx k1 L1 => ?_
  have r1 := a2.grow (tk := t1) k1
  let c3 : Cx := { c with x := x, dx := dx }
  have dxL : dx ≠ c.L := fun z => by
    obtain ⟨m, ⟨o, _, _, e, _⟩, _⟩ := a2.loc
    rw [z] at fdx
    rw [fdx] at e; cases e
  have xL : x ≠ c.L := fun z => by
    obtain ⟨m, ⟨o, _, _, e, _⟩, _⟩ := a2.loc
    rw [z] at fx
    rw [fx] at e; cases e
  obtain ⟨-, -, i1, i2, i3, i4⟩ := L1.inst _ rfl
  have rel3 : Rel c3 ⟨S'.loc, some (flds [] 0 0 0 0 0 [])⟩ { s₁ with heap := h1, toks := t1 } := by
    refine ⟨r1.keepB, r1.BL, r1.loc, fun f e => ?_⟩
    cases e
    exact ⟨i1, dxL, xL, i2, i3, i4⟩
  refine meth_of (c := c3) (me194 _ _ _ _) rel3 rfl (by kernel_rfl) ?_
  obtain ⟨m, hm, hv⟩ := r1.loc
  obtain ⟨vf, f1, f2⟩ := hv _ _ hlf
  refine callWith_function (o := o194 c.w.params) (fd := fd194) (evalArgs_plain (spliced_cons (wpAny_Name (wpAny_loadName_local (env := callEnv fd c.L c.fa) (v := vf) hk hxf hm f1 (spliced_nil ?_)) (by decide))))
  refine ⟨⟨r1.keepB _ _ (by kernel_rfl), rfl⟩, ?_⟩
  simp only [VR] at f2
  obtain ⟨fvs, fn, rfl, f3, f4⟩ := f2
  refine wpAny_mono (call_words (c := c3) (ws := ws) (outs := outs) (.inl rfl) ⟨L1.keepB, L1.inst⟩ (by show c.A.depth + 10 ≤ _; omega) (by simp only [VR]; exact ⟨fa, fvs, fn, rfl, f3, f4⟩) hz hlen H) (fun y s3 z => ?_) fun _ _ x => x
  obtain ⟨y1, ⟨h3, t3, rfl⟩, y3⟩ := z
  have k3 : ∀ b o, s₁.heap.get? b = some o → h3.get? b = some o := fun b o e => y3 b o (ne_none_some fdx e) (k1 b o e)
  have r3 := a2.grow (tk := t3) k3
  obtain ⟨m3, hm3, hv3⟩ := r3.loc
  obtain ⟨vd, d1, d2⟩ := hv3 _ _ hld
  refine wpAny_Name (wpAny_loadName_local (env := callEnv fd c.L c.fa) (v := vd) hk hxd hm3 d1 ?_) (by decide)
  simp only [VR] at d2 y1
  obtain ⟨dvs, dn, rfl, d3, d4⟩ := d2
  obtain ⟨ya, yvs, yn, rfl, y4, y5⟩ := y1
  have e1 := y5.len
  have e2 := d4.len
  refine PySem.SeqAt.eq_listAt (items := yvs.toArray) (items2 := dvs.toArray) (e := fun _ => true) ⟨_, y4, rfl, _, rfl⟩ ⟨_, d3, rfl, _, rfl⟩ (by simp; omega) hu (fun j h1 h2 => ?_) ?_
  · refine strs_eq y5 d4 j _ _ ?_ ?_
    · simp at h1; simp [h1]
    · simp at h2; simp [h2]
  · have e : ((List.range yvs.toArray.size).all fun _ => true) = true := List.all_eq_true.mpr fun _ _ => rfl
    rw [e]
    exact Post.trans a4 ⟨.bool true, S', vr_bool, r3, a3, .grow k3, q⟩
end

local macro_rules | `(tactic| walk_at "v") => `(tactic| first
  | refine wxo_cons (W1.toO ?_)
  | refine we_nameAt (by kernel_rfl) (by kernel_rfl) (by rfl) ?_
  | fail)

section
variable {c : Cx} {fd : FuncData} {S : St}






noncomputable def fd606 : FuncData := fO z37 z37 (tb 23) 3 [] (.none) (.none) (.none) (.str z3 1679) none (.ref 605) (.none) 0
noncomputable abbrev nScript : PySem.Str := ⟨⟨[115, 99, 114, 105, 112, 116]⟩⟩

noncomputable def AwL (a : Addr) (x : PySem.Str) : PL' → Prop
  | [] => True
  | (n, p) :: r => (n = x ∨ Away a p) ∧ AwL a x r
theorem AwL.of {a : Addr} {x : PySem.Str} : ∀ {l : PL'}, AwL a x l → ∀ n p, lk l n = some p → n ≠ x → Away a p
  | [], _, n, p, e, _ => by cases e
  | (m, q) :: r, ⟨h1, h2⟩, n, p, e, hn => by
    rw [lk_cons] at e
    by_cases hm : m = n
    · rw [if_pos hm] at e; cases e; exact h1.resolve_left (fun z => hn (hm ▸ z))
    · rw [if_neg hm] at e; exact AwL.of h2 n p e hn
theorem plain_strs : ∀ l : List (List Nat), (l.map PV.str).all PV.plain = true
  | [] => rfl
  | a :: r => plain_strs r
theorem plain_strs2 (l : List (List Nat)) (x : List Nat) : (l.map PV.str ++ [PV.str x]).all PV.plain = true := by rw [List.all_append, plain_strs]; rfl
theorem plain_ints : ∀ l : List Int, (l.map PV.int).all PV.plain = true
  | [] => rfl
  | a :: r => plain_ints r
theorem str_getD {l : List (List Nat)} {i : Nat} (h : i < l.length) : (l.map PV.str)[i]? = some (.str (l.getD i [])) := by
  rw [List.getElem?_map, List.getD_eq_getElem?_getD, List.getElem?_eq_getElem h]; rfl
theorem starts_fact (k : Nat) (hk : k < 19) : 0 < (startsOf k).length ∧ (startsOf k).length ≤ 10 ∧ ∀ i, ((startsOf k).getD i []).length ≤ 10 := by
  have h : ((List.range 19).all fun k => Nat.blt 0 (startsOf k).length && Nat.ble (startsOf k).length 10 && (startsOf k).all fun x => Nat.ble x.length 10) = true := by kernel_rfl
  have h := List.all_eq_true.mp h k (List.mem_range.mpr hk)
  rw [Bool.and_eq_true, Bool.and_eq_true] at h
  exact ⟨Nat.le_of_ble_eq_true h.1.1, Nat.le_of_ble_eq_true h.1.2, len_getD h.2⟩
theorem end_fact (n : Nat) : (endOf n).1.length ≤ 100 ∧ (endOf n).2.length ≤ 100 := by
  have n1 := len_getD (T := lNouns) (m := 30) (by kernel_rfl) (n / 33 % 17)
  have n2 := len_getD (T := lVerbs) (m := 30) (by kernel_rfl) (n / 561 % 13)
  have n3 := len_getD (T := lDeriving) (m := 30) (by kernel_rfl) (n / 7293 % 9)
  have n4 : ∀ i, (lLeaving.getD i ([], [])).1.length ≤ 30 ∧ (lLeaving.getD i ([], [])).2.length ≤ 30 := by
    intro i
    rw [List.getD_eq_getElem?_getD]
    cases e : lLeaving[i]? with
    | none => exact ⟨Nat.zero_le _, Nat.zero_le _⟩
    | some x =>
      have h : (lLeaving.all fun x => Nat.ble x.1.length 30 && Nat.ble x.2.length 30) = true := by kernel_rfl
      have h := List.all_eq_true.mp h x (List.mem_of_getElem? e)
      rw [Bool.and_eq_true] at h
      exact ⟨Nat.le_of_ble_eq_true h.1, Nat.le_of_ble_eq_true h.2⟩
  unfold endOf
  split
  · obtain ⟨a, b⟩ := n4 (n % 33)
    exact ⟨by rw [List.length_append]; omega, Nat.le_trans b (by decide)⟩
  · rw [List.length_append, List.length_append]
    exact ⟨by omega, Nat.zero_le _⟩
theorem wxo_weak {O : Addr → Prop} {l' : PL'} {b Q} (h : Sub l' S.loc) (w : WXO c O fd ⟨l', S.fld⟩ b Q) : WXO c O fd S b Q := ⟨fun s r ok => w.run s (r.weak h) ok⟩
/-- script[j] % d -/
noncomputable def mAt (ns : List Int) (j d : Nat) : Nat := ((ns.getD j 0).fmod (d : Int)).toNat
theorem mAt_lt (ns : List Int) (j : Nat) {d : Nat} (h : 0 < d) : mAt ns j d < d := by
  unfold mAt
  rw [Int.fmod_eq_emod_of_nonneg _ (by omega)]
  have := Int.emod_lt_of_pos (ns.getD j 0) (show (0 : Int) < d by omega)
  have := Int.emod_nonneg (ns.getD j 0) (show (d : Int) ≠ 0 by omega)
  omega
theorem fmn (ns : List Int) (j d : Nat) (h : 0 < d) : (ns.getD j 0).fmod (d : Int) = ((mAt ns j d : Nat) : Int) := by
  unfold mAt
  have : 0 ≤ (ns.getD j 0).fmod (d : Int) := by
    rw [Int.fmod_eq_emod_of_nonneg _ (by omega)]
    exact Int.emod_nonneg _ (by omega)
  omega
/-- the k-th number -/
noncomputable def numOf (ns : List Int) (k : Nat) : Nat := (ns.getD (6 + k) 0).natAbs + ((ns.take 6).sum.natAbs + k) * 196613
/-- the word's body -/
noncomputable def restOf (ns : List Int) (chs : List Nat) : List Nat :=
  [lSecond.getD (mAt ns 1 13) 0] ++ chs ++ [lVowels.getD (mAt ns 2 10) 0] ++ [lOthers.getD (mAt ns 3 21) 0] ++ [lVowels.getD (mAt ns 4 10) 0]

noncomputable def wholeOf (ns : List Int) (chs : List Nat) (k : Nat) : List Nat := restOf ns chs ++ [lLast.getD (((ns.getD 5 0 + (k / 2 : Nat)).fmod 8).toNat) 0]
noncomputable def startOf (ns : List Int) (k : Nat) : List Nat := (startsOf (mAt ns 0 19)).getD (numOf ns k % 7 % (startsOf (mAt ns 0 19)).length) []
noncomputable def formOf (ns : List Int) (chs : List Nat) (k : Nat) : List Nat := startOf ns k ++ wholeOf ns chs k ++ (endOf (numOf ns k / 7)).1
noncomputable def dueOf (ns : List Int) (chs : List Nat) (k : Nat) : List Nat := (startsOf (mAt ns 0 19)).getD 0 [] ++ wholeOf ns chs k ++ (endOf (numOf ns k / 7)).2
noncomputable abbrev lawLoc (ns : List Int) (chs : List Nat) (l sa fa da : Addr) (k : Nat) : PL' :=
  [(nScript, .lstAt l (ns.map .int)), (⟨⟨[115, 116, 97, 114, 116, 115]⟩⟩, .lstAt sa ((startsOf (mAt ns 0 19)).map .str)), (⟨⟨[114, 101, 115, 116]⟩⟩, .str (restOf ns chs)),
   (nForms, .lstAt fa (((List.range k).map (formOf ns chs)).map .str)), (nDue, .lstAt da (((List.range k).map (dueOf ns chs)).map .str))]

theorem law_body {ns : List Int} {l : Addr} (hns : ns.length ≤ 63) (hd : c.A.depth + 15 ≤ recursionLimit) (hu : c.A.units < cLine) (H : ∀ chs : List Nat, chs.length ≤ 4 → ∀ k, k < 6 → StemP (formOf ns chs k) (dueOf ns chs k)) :
    WXO c (fun _ => False) fd606 ⟨[(nScript, .lstAt l (ns.map .int))], .none⟩ (stBody (tb 23)) (fun fl S => fl.val = .bool true) := by
  refine wxo_cons (W1.toO (w1_assign_lst (by kernel_rfl) (by kernel_rfl) ?_))
  refine we_begin (by kernel_rfl) (by kernel_rfl) (by kernel_rfl) (by omega) (wa_cons (we_bin ?_))
  refine we_call (fn582 _ _ _ _) (by kernel_rfl) (by kernel_rfl) (by kernel_rfl) (by kernel_rfl) (k := 1) (by first | exact dle (by assumption) | omega) ?_
  repeat' walk_at "v"
  refine ⟨by kernel_rfl, ?_⟩
  refine (sp_at _ ns 0 hns).mono ?_
  rintro p f ⟨rfl, rfl⟩
  repeat' walk_at "v"
  refine bin_mod (by decide) ?_
  rw [show (ns.getD 0 0).fmod 19 = ((mAt ns 0 19 : Nat) : Int) from fmn ns 0 19 (by decide)]
  repeat' walk_at "v"
  refine ⟨rfl, mAt ns 0 19, mAt_lt ns 0 (by decide), rfl, _, rfl, fun sa => ?_⟩
  refine wxo_cons (W1.toO (w1_assign (by kernel_rfl) (by kernel_rfl) (we_bin (we_sub ?_))))
  refine we_gstr (l := lSecond) (by kernel_rfl) (by kernel_rfl) (by kernel_rfl) (by kernel_rfl) ?_
  repeat' walk_at "v"
  refine we_call (fn582 _ _ _ _) (by kernel_rfl) (by kernel_rfl) (by kernel_rfl) (by kernel_rfl) (k := 1) (by first | exact dle (by assumption) | omega) ?_
  repeat' walk_at "v"
  refine ⟨by kernel_rfl, ?_⟩
  refine (sp_at _ ns 1 hns).mono ?_
  rintro p f ⟨rfl, rfl⟩
  repeat' walk_at "v"
  refine bin_mod (by decide) ?_
  rw [show (ns.getD 1 0).fmod 13 = ((mAt ns 1 13 : Nat) : Int) from fmn ns 1 13 (by decide)]
  refine get_str (ch := lSecond.getD (mAt ns 1 13) 0) (by omega) (by decide) (by rw [Int.toNat_natCast]; exact at_getD (show mAt ns 1 13 < 13 from mAt_lt ns 1 (by decide))) ?_
  repeat' walk_at "v"
  refine we_join ?_ (by intros; rfl) _ (by intros; rfl)
  refine we_signs (by kernel_rfl) (by kernel_rfl) (by omega) rfl rfl rfl ?_ (by intros; rfl)
  refine we_lslice ?_
  repeat' walk_at "v"
  have hm4 : ((ns.drop 12).take 4).length ≤ 4 := by rw [List.length_take]; omega
  refine ⟨ns.map .int, 12, 16, rfl, rfl, rfl, by rw [List.length_map]; omega, rfl, (ns.drop 12).take 4, by rw [← List.map_drop, ← List.map_take], by omega, fun chs hch => ⟨chs.map fun ch => [ch], rfl, ?_, ?_⟩⟩
  · rw [List.map_map]
    have : (chs.map (List.length ∘ fun ch => [ch])).sum = chs.length := by
      clear hch
      induction chs with
      | nil => rfl
      | cons a r ih => rw [List.map_cons, List.sum_cons, ih, List.length_cons]; show 1 + r.length = _; omega
    omega
  have hfl : (chs.map fun ch => [ch]).flatten = chs := by
    clear hch
    induction chs with
    | nil => rfl
    | cons a r ih => rw [List.map_cons, List.flatten_cons, ih]; rfl
  rw [hfl]
  have hc4 : chs.length ≤ 4 := by omega
  refine bin_adds ?_ (by show 1 + chs.length ≤ _; rw [sizeLine_eq]; omega)
  refine wxo_cons (W1.toO (w1_assign (by kernel_rfl) (by kernel_rfl) (we_bin (we_bin ?_))))
  repeat' walk_at "v"
  refine we_gstr (l := lVowels) (by kernel_rfl) (by kernel_rfl) (by kernel_rfl) (by kernel_rfl) ?_
  repeat' walk_at "v"
  refine we_call (fn582 _ _ _ _) (by kernel_rfl) (by kernel_rfl) (by kernel_rfl) (by kernel_rfl) (k := 1) (by first | exact dle (by assumption) | omega) ?_
  repeat' walk_at "v"
  refine ⟨by kernel_rfl, ?_⟩
  refine (sp_at _ ns 2 hns).mono ?_
  rintro p f ⟨rfl, rfl⟩
  repeat' walk_at "v"
  refine bin_mod (by decide) ?_
  rw [show (ns.getD 2 0).fmod 10 = ((mAt ns 2 10 : Nat) : Int) from fmn ns 2 10 (by decide)]
  refine get_str (ch := lVowels.getD (mAt ns 2 10) 0) (by omega) (by decide) (by rw [Int.toNat_natCast]; exact at_getD (show mAt ns 2 10 < 10 from mAt_lt ns 2 (by decide))) ?_
  repeat' walk_at "v"
  refine bin_adds ?_ (by show List.length _ + 1 ≤ _; rw [List.length_append]; show 1 + chs.length + 1 ≤ _; rw [sizeLine_eq]; omega)
  refine we_sub ?_
  refine we_gstr (l := lOthers) (by kernel_rfl) (by kernel_rfl) (by kernel_rfl) (by kernel_rfl) ?_
  repeat' walk_at "v"
  refine we_call (fn582 _ _ _ _) (by kernel_rfl) (by kernel_rfl) (by kernel_rfl) (by kernel_rfl) (k := 1) (by first | exact dle (by assumption) | omega) ?_
  repeat' walk_at "v"
  refine ⟨by kernel_rfl, ?_⟩
  refine (sp_at _ ns 3 hns).mono ?_
  rintro p f ⟨rfl, rfl⟩
  repeat' walk_at "v"
  refine bin_mod (by decide) ?_
  rw [show (ns.getD 3 0).fmod 21 = ((mAt ns 3 21 : Nat) : Int) from fmn ns 3 21 (by decide)]
  refine get_str (ch := lOthers.getD (mAt ns 3 21) 0) (by omega) (by decide) (by rw [Int.toNat_natCast]; exact at_getD (show mAt ns 3 21 < 21 from mAt_lt ns 3 (by decide))) ?_
  repeat' walk_at "v"
  refine bin_adds ?_ (by show List.length _ + 1 ≤ _; rw [List.length_append, List.length_append]; show 1 + chs.length + 1 + 1 ≤ _; rw [sizeLine_eq]; omega)
  refine wxo_cons (W1.toO (w1_assign (by kernel_rfl) (by kernel_rfl) (we_bin ?_)))
  repeat' walk_at "v"
  refine we_gstr (l := lVowels) (by kernel_rfl) (by kernel_rfl) (by kernel_rfl) (by kernel_rfl) ?_
  repeat' walk_at "v"
  refine we_call (fn582 _ _ _ _) (by kernel_rfl) (by kernel_rfl) (by kernel_rfl) (by kernel_rfl) (k := 1) (by first | exact dle (by assumption) | omega) ?_
  repeat' walk_at "v"
  refine ⟨by kernel_rfl, ?_⟩
  refine (sp_at _ ns 4 hns).mono ?_
  rintro p f ⟨rfl, rfl⟩
  repeat' walk_at "v"
  refine bin_mod (by decide) ?_
  rw [show (ns.getD 4 0).fmod 10 = ((mAt ns 4 10 : Nat) : Int) from fmn ns 4 10 (by decide)]
  refine get_str (ch := lVowels.getD (mAt ns 4 10) 0) (by omega) (by decide) (by rw [Int.toNat_natCast]; exact at_getD (show mAt ns 4 10 < 10 from mAt_lt ns 4 (by decide))) ?_
  repeat' walk_at "v"
  refine bin_adds ?_ (by show List.length _ + 1 ≤ _; rw [List.length_append, List.length_append, List.length_append]; show 1 + chs.length + 1 + 1 + 1 ≤ _; rw [sizeLine_eq]; omega)
  refine wxo_new (by kernel_rfl) (by kernel_rfl) fun fa hfB hfA => ?_
  refine wxo_new (by kernel_rfl) (by kernel_rfl) fun da hdB hdA => ?_
  have hne : fa ≠ da := hdA nForms fa [] (by rfl)
  have hsf : sa ≠ fa := hfA ⟨⟨[115, 116, 97, 114, 116, 115]⟩⟩ sa _ (by rfl)
  have hsd : sa ≠ da := hdA ⟨⟨[115, 116, 97, 114, 116, 115]⟩⟩ sa _ (by rfl)
  have hlf : l ≠ fa := hfA nScript l _ (by rfl)
  have hld : l ≠ da := hdA nScript l _ (by rfl)
  refine wxo_cons (w1o_for (fun k S => Sub (lawLoc ns chs l sa fa da k) S.loc ∧ S.fld = .none) (by kernel_rfl) (by kernel_rfl) ?_)
  refine wi_rng (by kernel_rfl) (by kernel_rfl) (by kernel_rfl) (by kernel_rfl) ?_
  repeat' walk_at "v"
  refine .inl ⟨6, rfl, ?_, by decide, ⟨Sub.of ⟨rfl, rfl, rfl, rfl, rfl, trivial⟩, rfl⟩, ?_, ?_⟩
  · rintro z (z | rfl)
    · rcases z with z | rfl
      · exact z.elim
      · exact ⟨nForms, [], rfl⟩
    · exact ⟨nDue, [], rfl⟩
  · rintro k S2 hk ⟨hs2, hf2⟩
    have hk : k < 6 := by rwa [show (Builtin.Range.rangeSize 0 6 1).toNat = 6 by decide] at hk
    refine wxo_weak (l' := (⟨⟨[107]⟩⟩, .int (k : Int)) :: lawLoc ns chs l sa fa da k) (by rw [show (0 : Int) + (k : Int) * 1 = k by omega]; exact Sub.cons hs2 _ _) ?_
    show WXO c _ fd606 ⟨_, S2.fld⟩ _ _
    rw [hf2]
    refine wxo_cons (W1.toO (w1_assign (by kernel_rfl) (by kernel_rfl) (we_bin (we_abs (by kernel_rfl) (by kernel_rfl) (by kernel_rfl) (by kernel_rfl) (wa_cons ?_)))))
    refine we_call (fn582 _ _ _ _) (by kernel_rfl) (by kernel_rfl) (by kernel_rfl) (by kernel_rfl) (k := 1) (by first | exact dle (by assumption) | omega) ?_
    repeat' walk_at "v"
    refine ⟨by kernel_rfl, ?_⟩
    rw [show (6 : Int) + (k : Int) = ((6 + k : Nat) : Int) by omega]
    refine (sp_at _ ns (6 + k) hns).mono ?_
    rintro p f ⟨rfl, rfl⟩
    repeat' walk_at "v"
    refine bui_abs ?_
    repeat' walk_at "v"
    refine we_lslice_to ?_
    repeat' walk_at "v"
    refine ⟨ns.map .int, 6, rfl, rfl, by rw [List.length_map]; omega, ?_⟩
    rw [← List.map_take]
    refine wa_nil (bui_sum (wa_nil (bui_abs ?_)))
    repeat' walk_at "v"
    refine bin_mul (by decide) ?_
    refine bin_add ?_
    have eN : (if ns.getD (6 + k) 0 < 0 then -ns.getD (6 + k) 0 else ns.getD (6 + k) 0) + ((if (ns.take 6).sum < 0 then -(ns.take 6).sum else (ns.take 6).sum) + (k : Int)) * 196613 = ((numOf ns k : Nat) : Int) := by
      unfold numOf
      have e1 : ∀ z : Int, (if z < 0 then -z else z) = (z.natAbs : Int) := fun z => by split <;> omega
      rw [e1, e1]
      omega
    rw [eN]
    refine wxo_cons (W1.toO (w1_unpack2 (by kernel_rfl) (by kernel_rfl) (by kernel_rfl) ?_))
    refine we_call (fn601 _ _ _ _) (by kernel_rfl) (by kernel_rfl) (by kernel_rfl) (by kernel_rfl) (k := 2) (by first | exact dle (by assumption) | omega) ?_
    repeat' walk_at "v"
    refine bin_fdiv (by decide) (by decide) ?_
    rw [show ((numOf ns k : Nat) : Int).fdiv 7 = ((numOf ns k / 7 : Nat) : Int) by rw [Int.fdiv_eq_ediv_of_nonneg _ (by decide)]; omega]
    repeat' walk_at "v"
    refine ⟨by kernel_rfl, ?_⟩
    refine (sp_ending _ (numOf ns k / 7)).mono ?_
    rintro p f ⟨rfl, rfl⟩
    refine ⟨_, _, rfl, ?_⟩
    refine wxo_cons (W1.toO (w1_assign (by kernel_rfl) (by kernel_rfl) (we_bin ?_)))
    repeat' walk_at "v"
    refine we_gstr (l := lLast) (by kernel_rfl) (by kernel_rfl) (by kernel_rfl) (by kernel_rfl) ?_
    refine we_bin (we_bin (we_call (fn582 _ _ _ _) (by kernel_rfl) (by kernel_rfl) (by kernel_rfl) (by kernel_rfl) (k := 1) (by first | exact dle (by assumption) | omega) ?_))
    repeat' walk_at "v"
    refine ⟨by kernel_rfl, ?_⟩
    refine (sp_at _ ns 5 hns).mono ?_
    rintro p f ⟨rfl, rfl⟩
    repeat' walk_at "v"
    refine bin_fdiv (by decide) (by decide) ?_
    repeat' walk_at "v"
    refine bin_mod (by decide) ?_
    have e8 : (ns.getD 5 0 + ((k : Int).fdiv 2)).fmod 8 = ((((ns.getD 5 0 + (k / 2 : Nat)).fmod 8).toNat : Nat) : Int) := by
      rw [show (k : Int).fdiv 2 = ((k / 2 : Nat) : Int) by rw [Int.fdiv_eq_ediv_of_nonneg _ (by decide)]; omega]
      have : 0 ≤ (ns.getD 5 0 + ((k / 2 : Nat) : Int)).fmod 8 := by
        rw [Int.fmod_eq_emod_of_nonneg _ (by decide)]
        exact Int.emod_nonneg _ (by decide)
      omega
    have h8 : ((ns.getD 5 0 + (k / 2 : Nat)).fmod 8).toNat < 8 := by
      rw [Int.fmod_eq_emod_of_nonneg _ (by decide)]
      have := Int.emod_lt_of_pos (ns.getD 5 0 + ((k / 2 : Nat) : Int)) (show (0 : Int) < 8 by decide)
      omega
    rw [e8]
    refine get_str (ch := lLast.getD (((ns.getD 5 0 + (k / 2 : Nat)).fmod 8).toNat) 0) (by omega) (by decide) (by rw [Int.toNat_natCast]; exact at_getD h8) ?_
    have hrl : (restOf ns chs).length ≤ 8 := by
      show ([lSecond.getD (mAt ns 1 13) 0] ++ chs ++ [lVowels.getD (mAt ns 2 10) 0] ++ [lOthers.getD (mAt ns 3 21) 0] ++ [lVowels.getD (mAt ns 4 10) 0]).length ≤ 8
      simp only [List.length_append, List.length_cons, List.length_nil]
      omega
    refine bin_adds ?_ (by show List.length _ + 1 ≤ _; rw [sizeLine_eq]; omega)
    have hwl : (wholeOf ns chs k).length ≤ 9 := by
      unfold wholeOf
      rw [List.length_append]
      show _ + 1 ≤ 9
      omega
    obtain ⟨t1, t2, t3⟩ := starts_fact (mAt ns 0 19) (mAt_lt ns 0 (by decide))
    obtain ⟨u1, u2⟩ := end_fact (numOf ns k / 7)
    have ti : numOf ns k % 7 % (startsOf (mAt ns 0 19)).length < (startsOf (mAt ns 0 19)).length := Nat.mod_lt _ t1
    have tz : (startOf ns k).length ≤ 10 := t3 _
    have tz0 : ((startsOf (mAt ns 0 19)).getD 0 []).length ≤ 10 := t3 _
    have hk1 : ((List.range k).map (formOf ns chs)).length = k := by rw [List.length_map, List.length_range]
    have hk2 : ((List.range k).map (dueOf ns chs)).length = k := by rw [List.length_map, List.length_range]
    refine wxo_cons (w1o_append (a := fa) (xs := ((List.range k).map (formOf ns chs)).map .str) (by kernel_rfl) (by kernel_rfl) rfl (by rfl) (.inl (.inr rfl)) (by rw [List.length_map]; omega) (plain_strs _) hfB
      (AwL.of ⟨.inr rfl, .inr rfl, .inr rfl, .inr rfl, .inr rfl, .inr ⟨hlf, plain_ints _⟩, .inr ⟨hsf, plain_strs _⟩, .inr rfl, .inl rfl, .inr ⟨hne.symm, plain_strs _⟩, trivial⟩) ?_ (by intros; rfl) _ (by intros; rfl))
    refine we_bin (we_bin (we_sub ?_))
    repeat' walk_at "v"
    refine bin_mod (by decide) ?_
    rw [show ((numOf ns k : Nat) : Int).fmod 7 = ((numOf ns k % 7 : Nat) : Int) by rw [Int.fmod_eq_emod_of_nonneg _ (by decide)]; omega]
    repeat' walk_at "v"
    refine bui_len_lst (by rw [List.length_map]; omega) ?_
    refine bin_mod (by rw [List.length_map]; omega) ?_
    rw [show ((numOf ns k % 7 : Nat) : Int).fmod (((startsOf (mAt ns 0 19)).map PV.str).length : Nat) = ((numOf ns k % 7 % (startsOf (mAt ns 0 19)).length : Nat) : Int) by rw [List.length_map, Int.fmod_eq_emod_of_nonneg _ (by omega)]; rfl]
    refine get_lst (p := .str (startOf ns k)) (by omega) (by rw [List.length_map]; omega) (by rw [Int.toNat_natCast]; exact str_getD ti) ?_
    repeat' walk_at "v"
    refine bin_adds ?_ (by show (startOf ns k).length + (wholeOf ns chs k).length ≤ _; rw [sizeLine_eq]; omega)
    repeat' walk_at "v"
    refine bin_adds ?_ (by show (startOf ns k ++ wholeOf ns chs k).length + _ ≤ _; rw [sizeLine_eq, List.length_append]; omega)
    refine ⟨rfl, rfl, ?_⟩
    refine wxo_cons (w1o_append (a := da) (xs := ((List.range k).map (dueOf ns chs)).map .str) (by kernel_rfl) (by kernel_rfl) rfl (by rfl) (.inr rfl) (by rw [List.length_map]; omega) (plain_strs _) hdB
      (AwL.of ⟨.inr ⟨hne, plain_strs2 _ _⟩, .inr rfl, .inr rfl, .inr rfl, .inr rfl, .inr rfl, .inr ⟨hld, plain_ints _⟩, .inr ⟨hsd, plain_strs _⟩, .inr rfl, .inr ⟨hne, plain_strs _⟩, .inl rfl, trivial⟩) ?_ (by intros; rfl) _ (by intros; rfl))
    refine we_bin (we_bin (we_sub ?_))
    repeat' walk_at "v"
    refine get_lst (p := .str ((startsOf (mAt ns 0 19)).getD 0 [])) (by omega) (by rw [List.length_map]; omega) (str_getD t1) ?_
    repeat' walk_at "v"
    refine bin_adds ?_ (by show List.length _ + (wholeOf ns chs k).length ≤ _; rw [sizeLine_eq]; omega)
    repeat' walk_at "v"
    refine bin_adds ?_ (by show (_ ++ wholeOf ns chs k).length + _ ≤ _; rw [sizeLine_eq, List.length_append]; omega)
    refine ⟨rfl, rfl, ?_⟩
    refine wxo_nil ?_
    have ef : ((List.range (k + 1)).map (formOf ns chs)).map PV.str = ((List.range k).map (formOf ns chs)).map PV.str ++ [PV.str (formOf ns chs k)] := by rw [List.range_succ, List.map_append, List.map_append]; rfl
    have ed : ((List.range (k + 1)).map (dueOf ns chs)).map PV.str = ((List.range k).map (dueOf ns chs)).map PV.str ++ [PV.str (dueOf ns chs k)] := by rw [List.range_succ, List.map_append, List.map_append]; rfl
    refine ⟨Sub.of ⟨rfl, rfl, rfl, ?_, ?_, trivial⟩, rfl⟩
    · rw [ef]; rfl
    · rw [ed]; rfl
  · rintro S2 ⟨hs2, hf2⟩
    rw [show (Builtin.Range.rangeSize 0 6 1).toNat = 6 by decide] at hs2
    refine wxo_weak hs2 ?_
    rw [hf2]
    refine wxo_cons (W1.toO (w1_ret ?_))
    refine we_final (fa := fa) (da := da) (ws := (List.range 6).map (formOf ns chs)) (outs := (List.range 6).map (dueOf ns chs)) (by kernel_rfl) (by kernel_rfl) (by kernel_rfl) (by kernel_rfl) (by kernel_rfl) rfl (by omega) hu (by rfl) (by rfl) (by rw [List.length_map, List.length_range]; decide) (by rw [List.length_map, List.length_map]) ?_ rfl _ (by intros; rfl)
    intro i x y hx hy
    rw [List.getElem?_map] at hx hy
    rcases Nat.lt_or_ge i 6 with hi | hi
    · rw [List.getElem?_range hi] at hx hy
      cases hx; cases hy
      exact H chs hc4 i hi
    · rw [List.getElem?_eq_none (by simpa using hi)] at hx; cases hx
end

section
theorem fn606 (P : Params) (es ep t) : FnAt P (setO es ep t) 606 fd606 (nmOf (tb 23)) (stBody (tb 23)) where
  at_ := ⟨o606 P, by kernel_rfl, rfl⟩
  code := ⟨605, o605 P, _, _, rfl, by kernel_rfl, rfl, rfl⟩
  body := rfl
  binds := fun vs h => by
    have e : (nmOf (tb 23)).length = 1 := by kernel_rfl
    rw [e] at h
    match vs, h with
    | [_], _ => kernel_rfl
  cells := by
    have e : (fd606.scope.names.all fun x => x.2 != .cell) = true := by kernel_rfl
    intro x hx z
    have := List.all_eq_true.mp e x hx
    rw [z] at this
    exact absurd this (by decide)
  loc := by
    have e : ((nmOf (tb 23)).all fun n => fd606.scope.names.lookup n == some .local) = true := by kernel_rfl
    intro n hn
    exact beq_iff_eq.mp (List.all_eq_true.mp e n hn)
  co := by kernel_rfl
  gen := by kernel_rfl
  kind := by kernel_rfl

theorem well_ints {P : Params} {h h' : Heap} : ∀ (ns : List Int) (vs : List Value), WellAll P h vs (ns.map WData.int) → VRs h' (ns.map PV.int) vs
  | [], vs, e => by cases e; simp only [List.map_nil, VRs]
  | n :: ns, vs, e => by
    rw [List.map_cons] at e
    cases e with
    | cons a b =>
      simp only [List.map_cons, VRs]
      refine ⟨_, _, rfl, ?_, well_ints ns _ b⟩
      cases a with
      | int i t => simp only [VR]; exact ⟨t, rfl⟩

theorem walk (H : ∀ (ns : List Int) (chs : List Nat), chs.length ≤ 4 → ∀ k, k < 6 → StemP (formOf ns chs k) (dueOf ns chs k)) : WalkP := by
  intro w es ep t G s l vs ns keepB hl hW h607 hn _
  have F := fn606 w.params es ep t
  obtain ⟨o, ho, hd⟩ := F.at_
  have enm : nmOf (tb 23) = [nScript] := by kernel_rfl
  refine wpAny_call (codeAny_call_def (body := stBody (tb 23)) (binds := (nmOf (tb 23)).zip [.ref l]) (by decide) (keepB _ _ ho) hd ((nolimit _ _).keeps keepB) (F.code.keeps keepB) F.body (.of_eq (F.binds [.ref l] (by rw [enm]; rfl))) F.cells ?_ ?_ F.co F.gen F.kind)
  · intro x hx
    exact F.loc _ (List.of_mem_zip hx).1
  intro h₀ hn0 hkp
  have hL : ∀ b o, s.heap.get? b = some o → b ≠ s.heap.objs.size := fun b o e => Nat.ne_of_lt (Heap.lt_size e)
  let c : Cx := { w := w, es := es, ep := ep, t := t, G := G, A := callerA.deeper (callEnv fd606 s.heap.objs.size 606), hA := rfl, fa := 606, L := s.heap.objs.size, x := 0, dx := s.heap.objs.size }
  have hB : c.B.get? s.heap.objs.size = .none := by
    cases q : c.B.get? s.heap.objs.size with
    | none => rfl
    | some o => exact absurd rfl (hL _ _ (keepB _ _ q))
  have r : Rel c ⟨[(nScript, .lstAt l (ns.map .int))], .none⟩ { s with heap := h₀, toks := s.toks + ((nmOf (tb 23)).zip [Value.ref l]).length } := by
    refine ⟨fun b o e => hkp _ _ (keepB _ _ e), hB, ⟨_, hn0, fun n pv e => ?_⟩, fun f hf => nomatch hf⟩
    rw [lk_cons] at e
    by_cases hm : nScript = n
    · rw [if_pos hm] at e
      cases e
      subst hm
      refine ⟨.ref l, by rw [enm]; rfl, ?_⟩
      simp only [VR]
      exact ⟨vs, _, trivial, hkp _ _ hl, well_ints ns vs hW⟩
    · rw [if_neg hm] at e; cases e
  refine wpAny_mono ((law_body (c := c) (l := l) hn (show 1 + claimMargin + 1 + 15 ≤ recursionLimit by decide) (show 4 + 3 < cLine by decide) (H ns)).run _ r (fun _ => rfl)) (fun f s' z => ?_) fun _ _ x => x.elim
  obtain ⟨p, S2, b1, b2, b3, b4, b5⟩ := z
  obtain ⟨⟨h2, tk2, rfl⟩, k2⟩ := b4
  have b1 := b1.val
  rw [b5] at b1
  simp only [VR] at b1
  refine ⟨by cases f <;> exact b1, ⟨_, _, rfl⟩, fun b o e => k2 b o (hL _ _ e) (hL _ _ e) (fun z => z) (hkp _ _ e)⟩
end

section
theorem revcut {X e : List Nat} {a : Nat} (h : a ≤ e.length) : (X ++ e.take (e.length - a)).reverse = (e.reverse ++ X.reverse).drop a := by
  rw [List.reverse_append, List.drop_append_of_le_length (by rw [List.length_reverse]; exact h), List.drop_reverse]
theorem cut_app {X e : List Nat} {b m q a : Nat} (hb : b ≤ e.length) (hm : m ≤ e.length - b) (ha : a = if q = 0 then 0 else m) :
    cut (X ++ e.take (e.length - b)) m (q : Int) = X ++ e.take (e.length - (b + a)) := by
  unfold cut
  have e1 : (e.take (e.length - b)).length = e.length - b := by rw [List.length_take]; omega
  by_cases hq : q = 0
  · rw [if_pos (by omega), ha, if_pos hq]; rfl
  · rw [if_neg (by omega), ha, if_neg hq, List.length_append, e1, show X.length + (e.length - b) - m = X.length + (e.length - b - m) by omega, List.take_length_add_append, List.take_take]
    congr 2
    omega
theorem bk_whole (cur : List Nat) : bk cur cur.length = cur.reverse := by unfold bk; rw [List.take_length]

noncomputable def chkP (start s1 : List Nat) (x : Nat) (t : List Nat) : Bool :=
  match look P0 (start ++ x :: t) with
  | some (m, .ofNat q) => Nat.ble m start.length && (match q with
    | 0 => start == s1
    | q + 1 => match as0[q]? with
      | none => false
      | some s => s ++ start.drop m == s1)
  | _ => false
theorem chkP_of {start s1 : List Nat} {x : Nat} {t : List Nat} (h1 : s1.length ≤ 10) (h : chkP start s1 x t = true) : ∃ m0 r0 s0, look P0 (start ++ x :: t) = some (m0, r0) ∧ m0 ≤ start.length ∧
    (r0 ≠ 0 → 1 ≤ r0 ∧ as0[(r0 - 1).toNat]? = some s0 ∧ s0.length ≤ 50) ∧ ∀ z, s1 ++ z = (if r0 = 0 then start ++ z else s0 ++ (start ++ z).drop m0) := by
  unfold chkP at h
  split at h
  · rename_i m q e
    rw [Bool.and_eq_true] at h
    obtain ⟨h2, h3⟩ := h
    have h2 := Nat.le_of_ble_eq_true h2
    cases q with
    | zero =>
      have h3 : (start == s1) = true := h3
      have h3 := beq_iff_eq.mp h3
      refine ⟨m, 0, [], e, h2, fun z => absurd rfl z, fun z => ?_⟩
      rw [if_pos rfl, h3]
    | succ q =>
      dsimp only at h3
      cases e2 : as0[q]? with
      | none => rw [e2] at h3; cases h3
      | some s =>
        rw [e2] at h3
        have h3 : (s ++ start.drop m == s1) = true := h3
        have h3 := beq_iff_eq.mp h3
        have h4 := congrArg List.length h3
        rw [List.length_append] at h4
        refine ⟨m, _, s, e, h2, fun _ => ⟨?_, ?_, by omega⟩, fun z => ?_⟩
        · show (1 : Int) ≤ ((q + 1 : Nat) : Int); omega
        · rw [show (Int.ofNat (q + 1) - 1).toNat = q by show (((q + 1 : Nat) : Int) - 1).toNat = q; omega]; exact e2
        · rw [if_neg (by show ((q + 1 : Nat) : Int) ≠ 0; omega), List.drop_append_of_le_length h2, ← List.append_assoc, h3]
  · cases h

theorem ar1 {k b x l m n : Nat} (h1 : k ≤ b + 3) (h2 : x = b + 4) (h3 : n = x + l) (h4 : m ≤ l) : (k : Int) + 1 ≤ (n : Int) - m := by omega
theorem ar2 {x l m n : Nat} (h3 : n = x + l) (h4 : m ≤ l) : m ≤ n := by omega
theorem ar3 {m q u l : Nat} (h : m ≤ l) (e : u = if q = 0 then 0 else m) : u ≤ l := by rw [e]; split <;> omega
theorem ar4 {l b m u : Nat} (h1 : b ≤ l) (h2 : u ≤ l - b) : b + u ≤ l := by omega
theorem ar5 {l b m u : Nat} (h2 : m ≤ l - b - u) : m ≤ l - (b + u) := by omega
theorem take_len {X e : List Nat} (a : Nat) : (X ++ e.take (e.length - a)).length = X.length + (e.length - a) := by rw [List.length_append, List.length_take]; omega
theorem nb {b : Bool} (h : (!b) = true) : b = false := by cases b; rfl; cases h
theorem nb' {b : Bool} (h : (!b) = false) : b = true := by cases b; cases h; rfl
theorem first_le (P : Nat → Bool) (a b : Nat) (h : a ≤ b) (hb : P b = true) : ∃ k, a ≤ k ∧ k ≤ b ∧ P k = true ∧ ∀ j, a ≤ j → j < k → P j = false := by
  obtain ⟨d, rfl⟩ : ∃ d, b = a + d := ⟨b - a, by omega⟩
  exact first_of P d a hb
/-- the four places that part the regions -/
theorem places (V : Nat → Bool) (p : Nat) (h0 : V p = true) (h1 : V (p + 1) = false) (h2 : V (p + 2) = true) (h3 : V (p + 3) = false) : ∃ k1 k2 k3 k4, k4 ≤ p + 3 ∧ k1 < k2 ∧ k2 < k3 ∧ k3 < k4 ∧ V k1 = true ∧ (∀ j, j < k1 → V j = false) ∧
    V k2 = false ∧ (∀ j, k1 + 1 ≤ j → j < k2 → V j = true) ∧ V k3 = true ∧ (∀ j, k2 + 1 ≤ j → j < k3 → V j = false) ∧ V k4 = false ∧ (∀ j, k3 + 1 ≤ j → j < k4 → V j = true) := by
  obtain ⟨k1, a1, a2, a3, a4⟩ := first_le V 0 p (Nat.zero_le _) h0
  obtain ⟨k2, b1, b2, b3, b4⟩ := first_le (fun j => !V j) (k1 + 1) (p + 1) (Nat.succ_le_succ a2) (by show (!V _) = true; rw [h1]; rfl)
  obtain ⟨k3, c1, c2, c3, c4⟩ := first_le V (k2 + 1) (p + 2) (Nat.succ_le_succ b2) h2
  obtain ⟨k4, d1, d2, d3, d4⟩ := first_le (fun j => !V j) (k3 + 1) (p + 3) (Nat.succ_le_succ c2) (by show (!V _) = true; rw [h3]; rfl)
  exact ⟨k1, k2, k3, k4, d2, b1, c1, d1, a3, fun j h => a4 j (Nat.zero_le _) h, nb b3, fun j h h' => nb' (b4 j h h'), c3, c4, nb d3, fun j h h' => nb' (d4 j h h')⟩
theorem dcut_small {X e : List Nat} {b m q a : Nat} (hq : q ≤ 1) (hb : b ≤ e.length) (hm : m ≤ e.length - b) (ha : a = if q = 0 then 0 else m) :
    dcut (X ++ e.take (e.length - b)) m (q : Int) = X ++ e.take (e.length - (b + a)) := by
  rw [← cut_app hb hm ha]
  unfold dcut cut
  rcases Nat.lt_or_ge q 1 with z | z
  · rw [if_pos (by omega), if_pos (by omega)]
  · rw [if_neg (by omega), if_pos (by omega), if_neg (by omega)]
theorem left_is {q : Nat} (h1 : ¬ q ≤ 1) (h2 : q ≤ 6) : leftOf (q : Int) = lefts.getD q [] := by
  have : q = 2 ∨ q = 3 ∨ q = 4 ∨ q = 5 ∨ q = 6 := by omega
  rcases this with rfl | rfl | rfl | rfl | rfl <;> rfl
theorem dcut_big {X e : List Nat} {b m q : Nat} (hq : ¬ q ≤ 1) (hb : b ≤ e.length) (hm : b + m = e.length) : dcut (X ++ e.take (e.length - b)) m (q : Int) = X ++ leftOf (q : Int) := by
  unfold dcut
  rw [if_neg (by omega), if_neg (by omega), take_len, show X.length + (e.length - b) - m = X.length by omega, List.take_left' rfl]
/-- what the checks of an end say -/
theorem ends {X e left : List Nat} (hK : chk e X.reverse left = true) : ∃ m1 r1 cur2 m2 r2 cur3 m3 r3 l2 l3,
    (look R1 (bk (X ++ e) (X ++ e).length) = some (m1, r1) ∧ m1 ≤ e.length ∧ cur2 = cut (X ++ e) m1 r1 ∧ cur2.length = X.length + l2) ∧
    (look R2 (bk cur2 cur2.length) = some (m2, r2) ∧ m2 ≤ l2 ∧ cur3 = dcut cur2 m2 r2 ∧ cur3.length = X.length + l3) ∧
    (look R3 (bk cur3 cur3.length) = some (m3, r3) ∧ m3 ≤ l3 ∧ X ++ left = cut cur3 m3 r3) := by
  unfold chk at hK
  cases q1 : stepR R1 (e.reverse ++ X.reverse) e.length with
  | none => rw [q1] at hK; cases hK
  | some z1 =>
    obtain ⟨u1, r1⟩ := z1
    obtain ⟨m1, f1, f2, f3⟩ := stepR_of q1
    have lu1 : u1 ≤ e.length := ar3 f2 f3
    rw [q1] at hK
    dsimp only at hK
    clear q1
    have hc1 : X ++ e.take (e.length - u1) = cut (X ++ e) m1 (r1 : Int) := by
      have := cut_app (X := X) (e := e) (b := 0) (m := m1) (q := r1) (a := u1) (Nat.zero_le _) f2 f3
      rw [Nat.sub_zero, List.take_length, Nat.zero_add] at this
      exact this.symm
    cases q2 : stepR R2 ((e.reverse ++ X.reverse).drop u1) (e.length - u1) with
    | none => rw [q2] at hK; cases hK
    | some z2 =>
      obtain ⟨u2, r2⟩ := z2
      obtain ⟨m2, g1, g2, g3⟩ := stepR_of q2
      have lu2 : u2 ≤ e.length - u1 := ar3 g2 g3
      rw [q2] at hK
      dsimp only at hK
      clear q2
      have T1 : look R1 (bk (X ++ e) (X ++ e).length) = some (m1, (r1 : Int)) := by rw [bk_whole, List.reverse_append]; exact f1
      have T2 : look R2 (bk (X ++ e.take (e.length - u1)) (X ++ e.take (e.length - u1)).length) = some (m2, (r2 : Int)) := by rw [bk_whole, revcut lu1]; exact g1
      cases q3 : Nat.ble r2 1 with
      | true =>
        have q3 := Nat.le_of_ble_eq_true q3
        rw [Nat.ble_eq.mpr q3, cond_true] at hK
        cases q4 : stepR R3 ((e.reverse ++ X.reverse).drop (u1 + u2)) (e.length - u1 - u2) with
        | none => rw [q4] at hK; cases hK
        | some z3 =>
          obtain ⟨u3, r3⟩ := z3
          obtain ⟨m3, h1, h2, h3⟩ := stepR_of q4
          rw [q4] at hK
          have hK : (e.reverse.drop (u1 + u2 + u3) == left.reverse) = true := hK
          have hK := beq_iff_eq.mp hK
          have hleft : e.take (e.length - (u1 + u2 + u3)) = left := by
            rw [List.drop_reverse] at hK
            have := congrArg List.reverse hK
            rwa [List.reverse_reverse, List.reverse_reverse] at this
          have lu : u1 + u2 ≤ e.length := ar4 (m := 0) lu1 lu2
          refine ⟨m1, r1, _, m2, r2, _, m3, r3, _, _, ⟨T1, f2, hc1, take_len _⟩, ⟨T2, g2, (dcut_small q3 lu1 g2 g3).symm, take_len _⟩, ⟨?_, ar5 h2, ?_⟩⟩
          · rw [bk_whole, revcut lu]; exact h1
          · rw [cut_app lu (ar5 h2) h3, hleft]
      | false =>
        rw [q3, cond_false] at hK
        have q3 : ¬ r2 ≤ 1 := fun z => by rw [Nat.ble_eq.mpr z] at q3; cases q3
        cases q5 : Nat.beq (u1 + u2) e.length && (Nat.ble r2 6 && (lefts.getD r2 [] == left)) with
        | false => rw [q5] at hK; cases hK
        | true =>
          rw [q5, cond_true] at hK
          rw [Bool.and_eq_true, Bool.and_eq_true] at q5
          obtain ⟨q6, q7, q8⟩ := q5
          have q6 := Nat.eq_of_beq_eq_true q6
          have q8 := beq_iff_eq.mp q8
          rw [← left_is q3 (Nat.le_of_ble_eq_true q7)] at q8
          cases q4 : stepR R3 (left.reverse ++ X.reverse) 0 with
          | none => rw [q4] at hK; cases hK
          | some z3 =>
            obtain ⟨u3, r3⟩ := z3
            obtain ⟨m3, h1, h2, h3⟩ := stepR_of q4
            rw [q4] at hK
            have hK : Nat.beq r3 0 = true := hK
            have hK := Nat.eq_of_beq_eq_true hK
            subst hK
            rw [if_neg (show ¬ r2 = 0 from fun z => q3 (by rw [z]; exact Nat.zero_le 1))] at g3
            subst g3
            have hd := dcut_big (X := X) q3 lu1 q6
            rw [q8] at hd
            refine ⟨m1, r1, _, u2, r2, _, m3, 0, _, _, ⟨T1, f2, hc1, take_len _⟩, ⟨T2, g2, hd.symm, List.length_append⟩, ⟨?_, Nat.le_trans h2 (Nat.zero_le _), ?_⟩⟩
            · rw [bk_whole, List.reverse_append]; exact h1
            · unfold cut; rw [if_pos rfl]
theorem getD_at (B r e : List Nat) (i : Nat) (hi : i < r.length) : (B ++ r ++ e).getD (B.length + i) 0 = r.getD i 0 := by
  rw [List.append_assoc, List.getD_eq_getElem?_getD, List.getElem?_append_right (Nat.le_add_right _ _), Nat.add_sub_cancel_left, List.getElem?_append_left hi, List.getD_eq_getElem?_getD]
theorem plain_len {start chs e : List Nat} {sec v1 o v2 last : Nat} (hs : start.length ≤ 10) (hc : chs.length ≤ 4) (he : e.length ≤ 100) : (start ++ ([sec] ++ chs ++ [v1] ++ [o] ++ [v2] ++ [last]) ++ e).length ≤ 800 := by
  simp only [List.length_append, List.length_cons, List.length_nil]; omega
theorem plain_re {start chs e : List Nat} {sec v1 o v2 last : Nat} : start ++ ([sec] ++ chs ++ [v1] ++ [o] ++ [v2] ++ [last]) ++ e = start ++ sec :: (chs ++ [v1] ++ [o] ++ [v2] ++ [last] ++ e) := by
  simp only [List.append_assoc, List.cons_append, List.nil_append]
theorem plain_X {s1 chs : List Nat} {sec v1 o v2 last : Nat} : s1 ++ ([sec] ++ chs ++ [v1] ++ [o] ++ [v2] ++ [last]) = (s1 ++ [sec] ++ chs) ++ [v1, o, v2, last] := by
  simp only [List.append_assoc, List.cons_append, List.nil_append]

theorem plain_gen {start s1 chs e left : List Nat} {sec v1 o v2 last : Nat} (hP : ∀ t, chkP start s1 sec t = true) (hs : start.length ≤ 10) (hs1 : s1.length ≤ 10) (hc : chs.length ≤ 4) (he : e.length ≤ 100)
    (hv1 : vow v1 = true) (ho : vow o = false) (hv2 : vow v2 = true) (hl : vow last = false) (hchk : ∀ t, chk e (last :: t) left = true) :
    StemP (start ++ ([sec] ++ chs ++ [v1] ++ [o] ++ [v2] ++ [last]) ++ e) (s1 ++ ([sec] ++ chs ++ [v1] ++ [o] ++ [v2] ++ [last]) ++ left) := by
  obtain ⟨m0, r0, s0, p1, p2, p3, p4⟩ := chkP_of (t := chs ++ [v1] ++ [o] ++ [v2] ++ [last] ++ e) hs1 (hP _)
  have A := plain_len (sec := sec) (v1 := v1) (o := o) (v2 := v2) (last := last) hs hc he
  have A2 : m0 ≤ (start ++ ([sec] ++ chs ++ [v1] ++ [o] ++ [v2] ++ [last]) ++ e).length := by
    rw [List.append_assoc, List.length_append]; exact Nat.le_trans p2 (Nat.le_add_right _ _)
  have A3 := p4 ([sec] ++ chs ++ [v1] ++ [o] ++ [v2] ++ [last] ++ e)
  rw [← List.append_assoc, ← List.append_assoc start] at A3
  rw [← plain_re] at p1
  clear p2 p4 hP hs hs1 hc he
  rw [plain_X (s1 := s1)] at A3 ⊢
  obtain ⟨B, hB⟩ : ∃ B, B = s1 ++ [sec] ++ chs := ⟨_, rfl⟩
  rw [← hB] at A3 ⊢
  have hl4 : (B ++ [v1, o, v2, last]).length = B.length + 4 := List.length_append
  have hK := hchk (B ++ [v1, o, v2]).reverse
  rw [show last :: (B ++ [v1, o, v2]).reverse = (B ++ [v1, o, v2, last]).reverse by rw [List.reverse_append, List.reverse_append]; rfl] at hK
  obtain ⟨m1, r1, cur2, m2, r2, cur3, m3, r3, l2, l3, ⟨c1, c2, c3, c4⟩, ⟨d1, d2, d3, d4⟩, e1, e2, e3⟩ := ends hK
  obtain ⟨k1, k2, k3, k4, z0, z1, z2, z3, z4⟩ := places (fun j => vow ((B ++ [v1, o, v2, last] ++ e).getD j 0)) B.length
    (by show vow ((B ++ [v1, o, v2, last] ++ e).getD (B.length + 0) 0) = true; rw [getD_at B [v1, o, v2, last] e 0 (show 0 < 4 by decide)]; exact hv1)
    (by show vow _ = false; rw [getD_at B [v1, o, v2, last] e 1 (show 1 < 4 by decide)]; exact ho) (by show vow _ = true; rw [getD_at B [v1, o, v2, last] e 2 (show 2 < 4 by decide)]; exact hv2) (by show vow _ = false; rw [getD_at B [v1, o, v2, last] e 3 (show 3 < 4 by decide)]; exact hl)
  have hle : (B ++ [v1, o, v2, last] ++ e).length = (B ++ [v1, o, v2, last]).length + e.length := List.length_append
  exact ⟨s0, m0, r0, _, k1, k2, k3, k4, m1, r1, cur2, m2, r2, cur3, m3, r3, ⟨A, p1, A2, p3, A3⟩, ⟨z1, z2, z3, by rw [hle, hl4]; exact Nat.lt_of_le_of_lt z0 (by rw [Nat.add_assoc]; exact Nat.add_lt_add_left (Nat.lt_of_lt_of_le (by decide) (Nat.le_add_right 4 _)) _), z4⟩,
    ⟨c1, ar2 hle c2, fun _ => ar1 z0 hl4 hle c2, c3⟩, ⟨d1, ar2 c4 d2, fun _ => ar1 z0 hl4 c4 d2, d3⟩, ⟨e1, ar2 d4 e2, fun _ => ar1 (Nat.le_trans (Nat.le_of_lt (Nat.lt_trans z2 z3)) z0) hl4 d4 e2, e3⟩⟩

theorem getD_mem {α} {l : List α} {i : Nat} {d : α} (h : i < l.length) : l.getD i d ∈ l := by
  rw [List.getD_eq_getElem?_getD, List.getElem?_eq_getElem h]; exact List.getElem_mem h
theorem p_all (t : List Nat) : ((List.range 19).all fun k => (startsOf k).all fun s => lSecond.all fun x => chkP s ((startsOf k).getD 0 []) x t) = true := by kernel_rfl
theorem vow_all : (lVowels.all vow && lOthers.all (fun x => !vow x) && lLast.all fun x => !vow x) = true := by kernel_rfl

theorem idx_noun (n : Nat) : lNouns.getD (n / 33 % 17) [] ∈ lNouns := getD_mem (Nat.mod_lt _ (by decide))
theorem idx_verb (n : Nat) : lVerbs.getD (n / 561 % 13) [] ∈ lVerbs := getD_mem (Nat.mod_lt _ (by decide))
theorem idx_deriv (n : Nat) : lDeriving.getD (n / 7293 % 9) [] ∈ lDeriving := getD_mem (Nat.mod_lt _ (by decide))
theorem idx_leave {n : Nat} (h : n % 33 < 16) : lLeaving.getD (n % 33) ([], []) ∈ lLeaving := getD_mem h
theorem chk_end {a : Nat} (ha : a ∈ lLast) (t : List Nat) (n : Nat) : chk (endOf n).1 (a :: t) (endOf n).2 = true := by
  have h := chk_all ha t
  by_cases hn : n % 33 < 16
  · have e : endOf n = ((lLeaving.getD (n % 33) ([], [])).1 ++ lNouns.getD (n / 33 % 17) [], (lLeaving.getD (n % 33) ([], [])).2) := if_pos hn
    rw [e]
    exact h.2 _ (idx_noun n) _ (idx_leave hn)
  · have e : endOf n = (lVerbs.getD (n / 561 % 13) [] ++ lDeriving.getD (n / 7293 % 9) [] ++ lNouns.getD (n / 33 % 17) [], []) := if_neg hn
    rw [e]
    exact h.1 _ (idx_noun n) _ (idx_deriv n) _ (idx_verb n)

theorem law_plain (ns : List Int) (chs : List Nat) (hc : chs.length ≤ 4) (k : Nat) (hk : k < 6) : StemP (formOf ns chs k) (dueOf ns chs k) := by
  have hV := vow_all
  rw [Bool.and_eq_true, Bool.and_eq_true] at hV
  obtain ⟨⟨V1, V2⟩, V3⟩ := hV
  have h8 : ((ns.getD 5 0 + (k / 2 : Nat)).fmod 8).toNat < 8 := by
    rw [Int.fmod_eq_emod_of_nonneg _ (by decide)]
    have := Int.emod_lt_of_pos (ns.getD 5 0 + ((k / 2 : Nat) : Int)) (show (0 : Int) < 8 by decide)
    omega
  obtain ⟨t1, t2, t3⟩ := starts_fact (mAt ns 0 19) (mAt_lt ns 0 (by decide))
  have ti : numOf ns k % 7 % (startsOf (mAt ns 0 19)).length < (startsOf (mAt ns 0 19)).length := Nat.mod_lt _ t1
  have no : ∀ {b : Bool}, (!b) = true → b = false := fun {b} h => by cases b; rfl; cases h
  have hlast : lLast.getD (((ns.getD 5 0 + (k / 2 : Nat)).fmod 8).toNat) 0 ∈ lLast := getD_mem h8
  unfold formOf dueOf wholeOf restOf
  refine plain_gen ?_ (t3 _) (t3 _) hc (end_fact _).1 ?_ ?_ ?_ ?_ ?_
  · intro t
    have h := List.all_eq_true.mp (p_all t) (mAt ns 0 19) (List.mem_range.mpr (mAt_lt ns 0 (by decide)))
    exact List.all_eq_true.mp (List.all_eq_true.mp h (startOf ns k) (getD_mem ti)) _ (getD_mem (mAt_lt ns 1 (by decide)))
  · exact List.all_eq_true.mp V1 _ (getD_mem (mAt_lt ns 2 (by decide)))
  · exact no (List.all_eq_true.mp V2 _ (getD_mem (mAt_lt ns 3 (by decide))))
  · exact List.all_eq_true.mp V1 _ (getD_mem (mAt_lt ns 4 (by decide)))
  · exact no (List.all_eq_true.mp V3 _ hlast)
  · intro t
    exact chk_end hlast t _
end

end Mine
end

theorem PySem.Challenge.cw_ak0020_01_holds : PySem.Challenge.rw_ak0020_01.Holds := by
  exact Mine.holds_of_walk (Mine.walk Mine.law_plain)