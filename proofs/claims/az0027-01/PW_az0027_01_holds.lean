import PyProof.Rows.All
import Wide.All
import OpenK.AllK
import Wide.FinOn
import KE.KDictOf
import PySem.Challenge.RW_az0027_01
set_option linter.all false
section JEv
open PySem PySem.W PyProof.Rows
set_option Elab.async false
set_option maxRecDepth 100000
namespace Mine

/-- a part of a heap: the objects that are known, by their addresses -/
inductive PT where
  | nil
  | node (v : Option Obj) (l r : PT)

noncomputable def PT.get (t : PT) : Nat → Option Obj :=
  @PT.rec (fun _ => Nat → Option Obj) (fun _ => none)
    (fun v _ _ gl gr i => @Bool.rec (fun _ => Option Obj)
      (@Bool.rec (fun _ => Option Obj) (gr (Nat.sub (Nat.div i 2) 1)) (gl (Nat.div i 2)) (Nat.beq (Nat.mod i 2) 1)) v (Nat.beq i 0)) t

/-- a path to a new place -/
noncomputable def PT.mk1 (n : Nat) (o : Obj) : PT :=
  @Nat.rec (fun _ => Nat → PT) (fun _ => .nil) (fun _ ih i => @Bool.rec (fun _ => PT)
    (@Bool.rec (fun _ => PT) (.node none .nil (ih (Nat.sub (Nat.div i 2) 1))) (.node none (ih (Nat.div i 2)) .nil) (Nat.beq (Nat.mod i 2) 1)) (.node (some o) .nil .nil) (Nat.beq i 0)) 20 n

noncomputable def PT.put (t : PT) : Nat → Obj → PT :=
  @PT.rec (fun _ => Nat → Obj → PT) (fun i o => PT.mk1 i o)
    (fun v l r gl gr i o => @Bool.rec (fun _ => PT)
      (@Bool.rec (fun _ => PT) (.node v l (gr (Nat.sub (Nat.div i 2) 1) o)) (.node v (gl (Nat.div i 2) o) r) (Nat.beq (Nat.mod i 2) 1)) (.node (some o) l r) (Nat.beq i 0)) t

theorem PT.get_nil (i : Nat) : PT.nil.get i = none := rfl
theorem PT.get_node (v : Option Obj) (l r : PT) (i : Nat) : (PT.node v l r).get i = if i = 0 then v else if i % 2 = 1 then l.get (i / 2) else r.get (i / 2 - 1) := by
  show @Bool.rec (fun _ => Option Obj) (@Bool.rec (fun _ => Option Obj) (r.get (i / 2 - 1)) (l.get (i / 2)) (Nat.beq (i % 2) 1)) v (Nat.beq i 0) = _
  rw [BT.beq_eq, BT.beq_eq]
  by_cases h : i = 0
  · simp [h]
  · by_cases q : i % 2 = 1 <;> simp [h, q]
theorem PT.mk1_aux (o : Obj) : ∀ (d i b : Nat) (x : Obj),
    ((@Nat.rec (fun _ => Nat → PT) (fun _ => .nil) (fun _ ih i => @Bool.rec (fun _ => PT)
      (@Bool.rec (fun _ => PT) (.node none .nil (ih (Nat.sub (Nat.div i 2) 1))) (.node none (ih (Nat.div i 2)) .nil) (Nat.beq (Nat.mod i 2) 1)) (.node (some o) .nil .nil) (Nat.beq i 0)) d i : PT).get b = some x) → b = i ∧ x = o
  | 0, _, _, _, h => by cases (show (none : Option Obj) = some _ from h)
  | d + 1, i, b, x, h => by
    have ih := PT.mk1_aux o d
    revert h
    show (@Bool.rec (fun _ => PT) (@Bool.rec (fun _ => PT) (.node none .nil _) (.node none _ .nil) (Nat.beq (i % 2) 1)) (.node (some o) .nil .nil) (Nat.beq i 0) : PT).get b = some x → _
    rw [BT.beq_eq, BT.beq_eq]
    by_cases h0 : i = 0
    · subst h0
      simp only [decide_true]
      rw [PT.get_node]
      by_cases hb : b = 0
      · rw [if_pos hb]; intro h; cases h; exact ⟨hb, rfl⟩
      · rw [if_neg hb]; split <;> (intro h; cases h)
    · rw [decide_eq_false h0]
      by_cases h1 : i % 2 = 1
      · rw [decide_eq_true h1]
        rw [PT.get_node]
        by_cases hb : b = 0
        · simp [hb]
        · simp only [hb, if_false]
          split
          · intro h
            obtain ⟨e1, e2⟩ := ih _ _ _ h
            have e1 : b / 2 = i / 2 := e1
            exact ⟨by omega, e2⟩
          · intro h; cases h
      · rw [decide_eq_false h1]
        rw [PT.get_node]
        by_cases hb : b = 0
        · simp [hb]
        · simp only [hb, if_false]
          split
          · intro h; cases h
          · intro h
            obtain ⟨e1, e2⟩ := ih _ _ _ h
            have e1 : b / 2 - 1 = i / 2 - 1 := e1
            exact ⟨by omega, e2⟩
theorem PT.get_mk1 {i b : Nat} {o x : Obj} (h : (PT.mk1 i o).get b = some x) : b = i ∧ x = o := PT.mk1_aux o 20 i b x h
theorem PT.put_node (v : Option Obj) (l r : PT) (i : Nat) (o : Obj) : (PT.node v l r).put i o = if i = 0 then .node (some o) l r else if i % 2 = 1 then .node v (l.put (i / 2) o) r else .node v l (r.put (i / 2 - 1) o) := by
  show @Bool.rec (fun _ => PT) (@Bool.rec (fun _ => PT) (.node v l (r.put (i / 2 - 1) o)) (.node v (l.put (i / 2) o) r) (Nat.beq (i % 2) 1)) (.node (some o) l r) (Nat.beq i 0) = _
  rw [BT.beq_eq, BT.beq_eq]
  by_cases h : i = 0
  · simp [h]
  · by_cases q : i % 2 = 1 <;> simp [h, q]
theorem PT.get_put : ∀ (t : PT) (i : Nat) (o : Obj) (b : Nat) (x : Obj), (t.put i o).get b = some x → (b = i ∧ x = o) ∨ (b ≠ i ∧ t.get b = some x)
  | .nil, i, o, b, x, h => .inl (PT.get_mk1 h)
  | .node v l r, i, o, b, x, h => by
    rw [PT.put_node] at h
    rw [PT.get_node]
    by_cases h0 : i = 0
    · rw [if_pos h0, PT.get_node] at h
      by_cases hb : b = 0
      · rw [if_pos hb] at h; cases h; exact .inl ⟨by omega, rfl⟩
      · rw [if_neg hb] at h ⊢; exact .inr ⟨by omega, h⟩
    · rw [if_neg h0] at h
      by_cases h1 : i % 2 = 1
      · rw [if_pos h1, PT.get_node] at h
        by_cases hb : b = 0
        · rw [if_pos hb] at h ⊢; exact .inr ⟨by omega, h⟩
        · rw [if_neg hb] at h ⊢
          by_cases hm : b % 2 = 1
          · rw [if_pos hm] at h ⊢
            rcases PT.get_put l _ _ _ _ h with ⟨e, e2⟩ | ⟨e, e2⟩
            · exact .inl ⟨by omega, e2⟩
            · exact .inr ⟨fun q => e (by rw [q]), e2⟩
          · rw [if_neg hm] at h ⊢; exact .inr ⟨fun q => hm (q ▸ h1), h⟩
      · rw [if_neg h1, PT.get_node] at h
        by_cases hb : b = 0
        · rw [if_pos hb] at h ⊢; exact .inr ⟨by omega, h⟩
        · rw [if_neg hb] at h ⊢
          by_cases hm : b % 2 = 1
          · rw [if_pos hm] at h ⊢; exact .inr ⟨fun q => h1 (q ▸ hm), h⟩
          · rw [if_neg hm] at h ⊢
            rcases PT.get_put r _ _ _ _ h with ⟨e, e2⟩ | ⟨e, e2⟩
            · exact .inl ⟨by omega, e2⟩
            · exact .inr ⟨fun q => e (by rw [q]), e2⟩

/-- what the evaluator knows of a state -/
structure Rep (T : PT) (n k : Nat) (S : Shared) : Prop where
  size : S.heap.objs.size = n
  toks : S.toks = k
  at_ : ∀ a o, T.get a = some o → S.heap.get? a = some o
/-- what a run leaves alone -/
structure Stp (T T' : PT) (S S' : Shared) : Prop where
  dom : ∀ a, a < S.heap.objs.size → T.get a = none → T'.get a = none
  old : ∀ a, a < S.heap.objs.size → T.get a = none → S'.heap.get? a = S.heap.get? a
  size : S.heap.objs.size ≤ S'.heap.objs.size
  gens : S'.gens = S.gens
  drawn : S'.drawn = S.drawn
  os : S'.os = S.os
theorem Stp.refl (T : PT) (S : Shared) : Stp T T S S := ⟨fun _ _ h => h, fun _ _ _ => rfl, Nat.le_refl _, rfl, rfl, rfl⟩
theorem Stp.trans {T T₁ T₂ : PT} {S S₁ S₂ : Shared} (x : Stp T T₁ S S₁) (y : Stp T₁ T₂ S₁ S₂) : Stp T T₂ S S₂ where
  dom := fun a ha h => y.dom a (Nat.lt_of_lt_of_le ha x.size) (x.dom a ha h)
  old := fun a ha h => (y.old a (Nat.lt_of_lt_of_le ha x.size) (x.dom a ha h)).trans (x.old a ha h)
  size := Nat.le_trans x.size y.size
  gens := y.gens.trans x.gens
  drawn := y.drawn.trans x.drawn
  os := y.os.trans x.os

inductive Out (α : Type) where
  | val (a : α) (p : Pos) (t : PT) (n k : Nat)
  | exc (e : Value) (p : Pos) (t : PT) (n k : Nat)
  | stuck

inductive OutC where
  | res (r : Result) (t : PT) (n k : Nat)
  | stuck

/-- a code whose end is told apart -/
noncomputable abbrev Orc := Code → PT → Nat → Nat → OutC
noncomputable def noOrc : Orc := fun _ _ _ _ => .stuck

noncomputable def ctxOk (Γ : Ctx) : Bool := @Bool.rec (fun _ => Bool) false (@Bool.rec (fun _ => Bool) false (Nat.ble (unitsOf Γ.below) 100) (Nat.ble (frameCount Γ.below) 100)) Γ.handled.isNone

/-- a code's tree, through its again-s -/
noncomputable def runC (den : Code → Sem PySem.Fin) (ev : Ctx → Pos → Sem PySem.Fin → PT → Nat → Nat → Out PySem.Fin) (m : Nat) : Ctx → Pos → Sem PySem.Fin → PT → Nat → Nat → OutC :=
  @Nat.rec (fun _ => Ctx → Pos → Sem PySem.Fin → PT → Nat → Nat → OutC) (fun _ _ _ _ _ _ => .stuck)
    (fun _ ih Γ p t T n k => @Out.casesOn PySem.Fin (fun _ => OutC) (ev Γ p t T n k)
      (fun f p' T' n' k' => @PySem.Fin.casesOn (fun _ => OutC) f (fun g => .res (.ok g) T' n' k')
        (fun c => @Bool.rec (fun _ => OutC) .stuck (ih (Γ.goto c) p' (den c) T' n' k') c.quiet))
      (fun e _ T' n' k' => .res (.error e) T' n' k') .stuck) m

noncomputable def ev (den : Code → Sem PySem.Fin) (st : Setting) (orc : Orc) (m : Nat) : ∀ (α : Type), Ctx → Pos → Sem α → PT → Nat → Nat → Out α :=
  @Nat.rec (fun _ => ∀ (α : Type), Ctx → Pos → Sem α → PT → Nat → Nat → Out α) (fun _ _ _ _ _ _ _ => .stuck)
    (fun _ ih α Γ p t T n k => @Sem.casesOn α (fun _ => Out α) t
      (fun a => .val a p T n k)                                     -- pure
      (fun e => .exc e p T n k)                                     -- raise
      (fun _ => .stuck) (fun _ => .stuck)                           -- unsupported, finish
      (fun _ f => ih α Γ p (f ()) T n k)                            -- rule
      (fun q f => ih α Γ q (f ()) T n k)                            -- at
      (fun a _ f => @Option.casesOn Obj (fun _ => Out α) (T.get a) .stuck (fun o => ih α Γ p (f o) T n k))   -- load
      (fun a _ g f => @Option.casesOn Obj (fun _ => Out α) (T.get a) .stuck (fun o => @Bool.rec (fun _ => Out α) (ih α Γ p (f ()) (T.put a (g o)) n k) .stuck (g o).isFreed)) -- update
      (fun o f => @Bool.rec (fun _ => Out α) (ih α Γ p (f n) (T.put n o) (Nat.succ n) k) .stuck o.isFreed)        -- alloc
      (fun a f => @Option.casesOn Obj (fun _ => Out α) (T.get a) (@Bool.rec (fun _ => Out α) .stuck (ih α Γ p (f none) T n k) (Nat.ble n a)) (fun o => ih α Γ p (f (some o)) T n k)) -- loadIfAlive
      (fun _ f => ih α Γ p (f ()) T n k)                            -- point
      (fun _ _ => .stuck)                                           -- register
      (fun f => ih α Γ p (f k) T n (Nat.succ k))                    -- fresh
      (fun f => ih α Γ p (f st) T n k)                              -- ask
      (fun _ _ _ => .stuck)                                         -- choose
      (fun _ _ _ => .stuck)                                         -- os
      (fun c h _ _ f => @OutC.casesOn (fun _ => Out α) (orc c T n k)
        (fun r T' n' k' => @Bool.rec (fun _ => Out α) .stuck (ih α Γ p (f r) T' n' k') (ctxOk (Γ.enter c h p)))
        (@OutC.casesOn (fun _ => Out α) (runC den (ih PySem.Fin) 400 (Γ.enter c h p) p (den c) T n k) (fun r T' n' k' => ih α Γ p (f r) T' n' k') .stuck)) -- call
      (fun own f => ih α Γ p (f (@Bool.rec (fun _ => Option Value) Γ.handled Γ.own own)) T n k) -- handled
      (fun _ _ => .stuck)                                           -- newGen
      (fun _ _ => .stuck)                                           -- genState
      (fun _ _ _ _ => .stuck)                                       -- resume
      (fun _ _ _ _ => .stuck)                                       -- yield
      (fun f => ih α Γ p (f ((Γ.code, p) :: Γ.below)) T n k)        -- stack
      (fun _ _ => .stuck)                                           -- fork
      (fun f => ih α Γ p (f 0) T n k)                               -- thread
      (fun _ _ _ _ _ => .stuck))                                    -- await
    m

noncomputable def Good {α : Type} (M : Model) (Γ : Ctx) (p : Pos) (t : Sem α) (T : PT) (S : Shared) : Out α → Prop
  | .val a p' T' n' k' => ∃ S', Rep T' n' k' S' ∧ Stp T T' S S' ∧ ∀ (Q : α → Pos → Shared → Prop) (E : Value → Pos → Shared → Prop), Q a p' S' → Sem.wp M Γ t Q E p S
  | .exc e p' T' n' k' => ∃ S', Rep T' n' k' S' ∧ Stp T T' S S' ∧ ∀ (Q : α → Pos → Shared → Prop) (E : Value → Pos → Shared → Prop), E e p' S' → Sem.wp M Γ t Q E p S
  | .stuck => True
noncomputable def GoodC (M : Model) (Γ : Ctx) (p : Pos) (t : Sem PySem.Fin) (T : PT) (S : Shared) : OutC → Prop
  | .res r T' n' k' => ∃ S', Rep T' n' k' S' ∧ Stp T T' S S' ∧ Runs M Γ p t [] S (.ret r) S'
  | .stuck => True
noncomputable def OrcOk (M : Model) (orc : Orc) : Prop := ∀ (Γ : Ctx) (p : Pos) (T : PT) (n k : Nat) (S : Shared), ctxOk Γ = true → Rep T n k S → GoodC M Γ p (M.den Γ.code) T S (orc Γ.code T n k)

section
variable {M : Model} {orc : Orc}
theorem Good.step {α : Type} {Γ : Ctx} {p p₁ : Pos} {t t₁ : Sem α} {T T₁ : PT} {S S₁ : Shared} {out : Out α}
    (hw : ∀ (Q : α → Pos → Shared → Prop) (E : Value → Pos → Shared → Prop), Sem.wp M Γ t₁ Q E p₁ S₁ → Sem.wp M Γ t Q E p S) (hs : Stp T T₁ S S₁) (h : Good M Γ p₁ t₁ T₁ S₁ out) : Good M Γ p t T S out := by
  cases out with
  | val a p' T' n' k' => obtain ⟨S', r, s, q⟩ := h; exact ⟨S', r, hs.trans s, fun Q E x => hw Q E (q Q E x)⟩
  | exc e p' T' n' k' => obtain ⟨S', r, s, q⟩ := h; exact ⟨S', r, hs.trans s, fun Q E x => hw Q E (q Q E x)⟩
  | stuck => trivial

theorem runC_good {ev : Ctx → Pos → Sem PySem.Fin → PT → Nat → Nat → Out PySem.Fin}
    (he : ∀ Γ p t T n k S, Rep T n k S → Good M Γ p t T S (ev Γ p t T n k)) :
    ∀ (m : Nat) (Γ : Ctx) (p : Pos) (t : Sem PySem.Fin) (T : PT) (n k : Nat) (S : Shared), Rep T n k S → GoodC M Γ p t T S (runC M.den ev m Γ p t T n k)
  | 0, _, _, _, _, _, _, _, _ => trivial
  | m + 1, Γ, p, t, T, n, k, S, hr => by
    have h := he Γ p t T n k S hr
    show GoodC M Γ p t T S (@Out.casesOn PySem.Fin (fun _ => OutC) (ev Γ p t T n k)
      (fun f p' T' n' k' => @PySem.Fin.casesOn (fun _ => OutC) f (fun g => .res (.ok g) T' n' k')
        (fun c => @Bool.rec (fun _ => OutC) .stuck (runC M.den ev m (Γ.goto c) p' (M.den c) T' n' k') c.quiet))
      (fun e _ T' n' k' => .res (.error e) T' n' k') .stuck)
    cases q : ev Γ p t T n k with
    | stuck => trivial
    | exc e p' T' n' k' =>
      rw [q] at h
      obtain ⟨S', r, s, w⟩ := h
      refine ⟨S', r, s, ?_⟩
      have := (Sem.wp_iff_runs M Γ t (fun r s' => r = .error e ∧ s' = S') p S).mp (w _ _ ⟨rfl, rfl⟩)
      obtain ⟨r', s', hr', rfl, rfl⟩ := this
      exact hr'
    | val f p' T' n' k' =>
      rw [q] at h
      obtain ⟨S', r, s, w⟩ := h
      cases f with
      | done g =>
        refine ⟨S', r, s, ?_⟩
        have := (Sem.wp_iff_runs M Γ t (fun r s' => r = .ok g ∧ s' = S') p S).mp (w _ _ ⟨rfl, rfl⟩)
        obtain ⟨r', s', hr', rfl, rfl⟩ := this
        exact hr'
      | again c =>
        show GoodC M Γ p t T S (@Bool.rec (fun _ => OutC) .stuck (runC M.den ev m (Γ.goto c) p' (M.den c) T' n' k') c.quiet)
        cases hq : c.quiet with
        | false => trivial
        | true =>
          have ih := runC_good he m (Γ.goto c) p' (M.den c) T' n' k' S' r
          show GoodC M Γ p t T S (runC M.den ev m (Γ.goto c) p' (M.den c) T' n' k')
          cases q2 : runC M.den ev m (Γ.goto c) p' (M.den c) T' n' k' with
          | stuck => trivial
          | res r2 T2 n2 k2 =>
            rw [q2] at ih
            obtain ⟨S2, rr, ss, ru⟩ := ih
            refine ⟨S2, rr, s.trans ss, ?_⟩
            have := (Sem.wp_iff_runs M Γ t (fun r s' => r = r2 ∧ s' = S2) p S).mp (w _ _ ⟨hq, r2, S2, ru, rfl, rfl⟩)
            obtain ⟨r', s', hr', rfl, rfl⟩ := this
            exact hr'

theorem ev_good {st : Setting} (hst : (⟨M.prog, M.w.params⟩ : Setting) = st) (ho : OrcOk M orc) :
    ∀ (m : Nat) (α : Type) (Γ : Ctx) (p : Pos) (t : Sem α) (T : PT) (n k : Nat) (S : Shared), Rep T n k S → Good M Γ p t T S (ev M.den st orc m α Γ p t T n k)
  | 0, _, _, _, _, _, _, _, _, _ => trivial
  | m + 1, α, Γ, p, t, T, n, k, S, hr => by
    have ih := ev_good hst ho m
    cases t with
    | pure a => exact ⟨S, hr, .refl T S, fun Q E h => by rw [Sem.wp_pure]; exact h⟩
    | raise e => exact ⟨S, hr, .refl T S, fun Q E h => by rw [Sem.wp_raise]; exact h⟩
    | unsupported => trivial
    | finish => trivial
    | rule tag f => exact Good.step (fun Q E h => by rw [Sem.wp_rule]; exact h) (.refl T S) (ih α Γ p (f ()) T n k S hr)
    | «at» q f => exact Good.step (fun Q E h => by rw [Sem.wp_at]; exact h) (.refl T S) (ih α Γ q (f ()) T n k S hr)
    | load a q f =>
      show Good M Γ p (.load a q f) T S (@Option.casesOn Obj (fun _ => Out α) (T.get a) .stuck (fun o => ev M.den st orc m α Γ p (f o) T n k))
      cases e : T.get a with
      | none => trivial
      | some o => exact Good.step (fun Q E h => by rw [Sem.wp_load]; exact ⟨o, hr.at_ a o e, h⟩) (.refl T S) (ih α Γ p (f o) T n k S hr)
    | update a q g f =>
      show Good M Γ p (.update a q g f) T S (@Option.casesOn Obj (fun _ => Out α) (T.get a) .stuck (fun o => @Bool.rec (fun _ => Out α) (ev M.den st orc m α Γ p (f ()) (T.put a (g o)) n k) .stuck (g o).isFreed))
      cases e : T.get a with
      | none => trivial
      | some o =>
        show Good M Γ p (.update a q g f) T S (@Bool.rec (fun _ => Out α) (ev M.den st orc m α Γ p (f ()) (T.put a (g o)) n k) .stuck (g o).isFreed)
        cases hf : (g o).isFreed with
        | true => trivial
        | false =>
          have h1 := hr.at_ a o e
          have hr' : Rep (T.put a (g o)) n k { S with heap := S.heap.update a g } := by
            refine ⟨by show (S.heap.update a g).objs.size = n; rw [Heap.size_after_update]; exact hr.size, hr.toks, fun b x hb => ?_⟩
            rcases PT.get_put _ _ _ _ _ hb with ⟨rfl, rfl⟩ | ⟨hne, hb'⟩
            · exact Heap.get?_update_self g h1 hf
            · exact (Heap.get?_update_other S.heap g (Ne.symm hne)).trans (hr.at_ b x hb')
          have hs : Stp T (T.put a (g o)) S { S with heap := S.heap.update a g } := by
            refine ⟨fun b hb hn => ?_, fun b hb hn => ?_, by show _ ≤ (S.heap.update a g).objs.size; rw [Heap.size_after_update]; exact Nat.le_refl _, rfl, rfl, rfl⟩
            · cases q2 : (T.put a (g o)).get b with
              | none => rfl
              | some x =>
                rcases PT.get_put _ _ _ _ _ q2 with ⟨rfl, _⟩ | ⟨_, h3⟩
                · rw [e] at hn; cases hn
                · rw [h3] at hn; cases hn
            · exact Heap.get?_update_other S.heap g fun q3 => by rw [← q3, e] at hn; cases hn
          exact Good.step (fun Q E h => by rw [Sem.wp_update]; exact ⟨by rw [h1]; rfl, h⟩) hs (ih α Γ p (f ()) _ n k _ hr')
    | alloc o f =>
      show Good M Γ p (.alloc o f) T S (@Bool.rec (fun _ => Out α) (ev M.den st orc m α Γ p (f n) (T.put n o) (Nat.succ n) k) .stuck o.isFreed)
      cases hf : o.isFreed with
      | true => trivial
      | false =>
        have hsz := hr.size
        subst hsz
        have hr' : Rep (T.put S.heap.objs.size o) (S.heap.objs.size + 1) k { S with heap := S.heap.push o } := by
          refine ⟨Heap.size_push S.heap o, hr.toks, fun b x hb => ?_⟩
          rcases PT.get_put _ _ _ _ _ hb with ⟨rfl, rfl⟩ | ⟨hne, hb'⟩
          · exact Heap.get?_push_size S.heap hf
          · exact Heap.get?_push_of_some o (hr.at_ b x hb')
        have hs : Stp T (T.put S.heap.objs.size o) S { S with heap := S.heap.push o } := by
          refine ⟨fun b hb hn => ?_, fun b hb hn => Heap.get?_push_ne S.heap b o (Nat.ne_of_lt hb), by show _ ≤ (S.heap.push o).objs.size; rw [Heap.size_push]; exact Nat.le_succ _, rfl, rfl, rfl⟩
          cases q2 : (T.put S.heap.objs.size o).get b with
          | none => rfl
          | some x =>
            rcases PT.get_put _ _ _ _ _ q2 with ⟨h3, _⟩ | ⟨_, h3⟩
            · exact absurd h3 (Nat.ne_of_lt hb)
            · rw [h3] at hn; cases hn
        exact Good.step (fun Q E h => by rw [Sem.wp_alloc]; exact h) hs (ih α Γ p (f S.heap.objs.size) _ _ k _ hr')
    | loadIfAlive a f =>
      show Good M Γ p (.loadIfAlive a f) T S (@Option.casesOn Obj (fun _ => Out α) (T.get a) (@Bool.rec (fun _ => Out α) .stuck (ev M.den st orc m α Γ p (f none) T n k) (Nat.ble n a)) (fun o => ev M.den st orc m α Γ p (f (some o)) T n k))
      cases e : T.get a with
      | some o => exact Good.step (fun Q E h => by rw [Sem.wp_loadIfAlive, hr.at_ a o e]; exact h) (.refl T S) (ih α Γ p (f (some o)) T n k S hr)
      | none =>
        show Good M Γ p (.loadIfAlive a f) T S (@Bool.rec (fun _ => Out α) .stuck (ev M.den st orc m α Γ p (f none) T n k) (Nat.ble n a))
        cases hb : Nat.ble n a with
        | false => trivial
        | true =>
          have : S.heap.get? a = none := Heap.get?_none_of_le (by rw [hr.size]; exact Nat.le_of_ble_eq_true hb)
          exact Good.step (fun Q E h => by rw [Sem.wp_loadIfAlive, this]; exact h) (.refl T S) (ih α Γ p (f none) T n k S hr)
    | point l f => exact Good.step (fun Q E h => by rw [Sem.wp_point]; exact h) (.refl T S) (ih α Γ p (f ()) T n k S hr)
    | register => trivial
    | fresh f =>
      have ht := hr.toks
      subst ht
      have hr' : Rep T n (S.toks + 1) { S with toks := S.toks + 1 } := ⟨hr.size, rfl, hr.at_⟩
      exact Good.step (fun Q E h => by rw [Sem.wp_fresh]; exact h) (S₁ := { S with toks := S.toks + 1 }) ⟨fun _ _ h => h, fun _ _ _ => rfl, Nat.le_refl _, rfl, rfl, rfl⟩ (ih α Γ p (f S.toks) T n _ _ hr')
    | ask f => exact Good.step (fun Q E h => by rw [Sem.wp_ask, hst]; exact h) (.refl T S) (ih α Γ p (f st) T n k S hr)
    | choose => trivial
    | os => trivial
    | call c hd g l f =>
      show Good M Γ p (.call c hd g l f) T S (@OutC.casesOn (fun _ => Out α) (orc c T n k)
        (fun r T' n' k' => @Bool.rec (fun _ => Out α) .stuck (ev M.den st orc m α Γ p (f r) T' n' k') (ctxOk (Γ.enter c hd p)))
        (@OutC.casesOn (fun _ => Out α) (runC M.den (ev M.den st orc m PySem.Fin) 400 (Γ.enter c hd p) p (M.den c) T n k) (fun r T' n' k' => ev M.den st orc m α Γ p (f r) T' n' k') .stuck))
      have fin : ∀ r T' n' k', GoodC M (Γ.enter c hd p) p (M.den c) T S (.res r T' n' k') → Good M Γ p (.call c hd g l f) T S (ev M.den st orc m α Γ p (f r) T' n' k') := by
        rintro r T' n' k' ⟨S', r', s', ru⟩
        exact Good.step (fun Q E h => by rw [Sem.wp_call]; exact ⟨r, S', ru, h⟩) s' (ih α Γ p (f r) T' n' k' S' r')
      cases q : orc c T n k with
      | res r T' n' k' =>
        show Good M Γ p (.call c hd g l f) T S (@Bool.rec (fun _ => Out α) .stuck (ev M.den st orc m α Γ p (f r) T' n' k') (ctxOk (Γ.enter c hd p)))
        cases hc : ctxOk (Γ.enter c hd p) with
        | false => trivial
        | true =>
          have h1 := ho (Γ.enter c hd p) p T n k S hc hr
          have e1 : (Γ.enter c hd p).code = c := rfl
          rw [e1, q] at h1
          exact fin r T' n' k' h1
      | stuck =>
        have h1 := runC_good (ih PySem.Fin) 400 (Γ.enter c hd p) p (M.den c) T n k S hr
        show Good M Γ p (.call c hd g l f) T S (@OutC.casesOn (fun _ => Out α) (runC M.den (ev M.den st orc m PySem.Fin) 400 (Γ.enter c hd p) p (M.den c) T n k) (fun r T' n' k' => ev M.den st orc m α Γ p (f r) T' n' k') .stuck)
        cases q2 : runC M.den (ev M.den st orc m PySem.Fin) 400 (Γ.enter c hd p) p (M.den c) T n k with
        | stuck => trivial
        | res r T' n' k' =>
          rw [q2] at h1
          exact fin r T' n' k' h1
    | handled own f =>
      refine Good.step (fun Q E h => ?_) (.refl T S) (ih α Γ p (f (@Bool.rec (fun _ => Option Value) Γ.handled Γ.own own)) T n k S hr)
      rw [Sem.wp_handled]
      cases own <;> exact h
    | newGen => trivial
    | genState => trivial
    | resume => trivial
    | «yield» => trivial
    | stack f => exact Good.step (fun Q E h => by rw [Sem.wp_stack]; exact h) (.refl T S) (ih α Γ p (f ((Γ.code, p) :: Γ.below)) T n k S hr)
    | fork => trivial
    | thread f => exact Good.step (fun Q E h => by rw [Sem.wp_thread]; exact h) (.refl T S) (ih α Γ p (f 0) T n k S hr)
    | await => trivial
theorem noOrc_ok : OrcOk M noOrc := fun _ _ _ _ _ _ _ _ => trivial
end
end Mine
end JEv

section JB1
open PySem PySem.W PyProof.Rows PySem.Calls
set_option Elab.async false
set_option maxRecDepth 100000
namespace Mine
noncomputable def stAt (n : Nat) : Stmt := (PySem.Challenge.pw_az0027_01.main.body[n]?).getD (.Pass default)
noncomputable def fnBody : Stmt → List Stmt
  | .FunctionDef _ _ b _ _ _ _ _ _ _ => b
  | .ClassDef _ _ _ b _ _ _ _ _ _ _ => b
  | .For _ _ b _ _ => b
  | _ => []
noncomputable def fnScope : Stmt → Scope
  | .FunctionDef _ _ _ _ _ _ sc _ _ _ => sc
  | .ClassDef _ _ _ _ _ _ sc _ _ _ _ => sc
  | _ => default
noncomputable def sub (b : List Stmt) (i : Nat) : Stmt := (b[i]?).getD (.Pass default)

noncomputable def bytesBody : { l : List Stmt // l = fnBody (stAt 8) } := ⟨_, by conv => rhs; whnf⟩
noncomputable def bytesScope : { l : Scope // l = fnScope (stAt 8) } := ⟨_, by conv => rhs; whnf⟩
noncomputable def outerBody : { l : List Stmt // l = fnBody (sub (fnBody (stAt 8)) 2) } := ⟨_, by conv => rhs; whnf⟩
noncomputable def innerBody : { l : List Stmt // l = fnBody (sub (fnBody (sub (fnBody (stAt 8)) 2)) 1) } := ⟨_, by conv => rhs; whnf⟩

noncomputable def bEnv (L : Addr) (cd : Value) : Env := envOf "bytes_to_bits" bytesScope.1 L 41 cd

noncomputable def upd (m : Str → Option Value) (x : Str) (v : Value) : Str → Option Value := fun y => if y = x then some v else m y

theorem upd_self {m : Str → Option Value} {x : Str} {v : Value} : upd m x v x = some v := if_pos rfl
theorem upd_ne {m : Str → Option Value} {x y : Str} {v : Value} (h : y ≠ x := by decide +kernel) : upd m x v y = m y := if_neg h

section
variable {prog : Program} {w : World} {A : Around} {E : Value → Shared → Prop} {s : Shared} {L b : Addr} {cd : Value} {m : Str → Option Value}

theorem seq01 {i : Int} (h0 : 0 ≤ i) (h1 : i < 2) : ∃ c, (seqIndex? i (Str.ofString "01").length).bind ((Str.ofString "01").cps[·]?) = some c := by
  have : i = 0 ∨ i = 1 := by omega
  rcases this with rfl | rfl
  · exact ⟨48, by decide +kernel⟩
  · exact ⟨49, by decide +kernel⟩

theorem nm {x : Str} {pos : Pos} {v : Value} {Q : Value → Shared → Prop} (hns : s.heap.Ns L m) (hv : m x = some v) (h : Q v s) (hl : (bEnv L cd).kindOf x = some .local := by rfl) (hd : (x == ("__debug__" : Str)) = false := by decide) :
    wpAny (model prog w) A (eval (.Name x pos) (bEnv L cd)) Q E s := wpAny_Name (wpAny_loadName_local rfl hl hns hv h) hd
theorem stn {x : Str} {v : Value} {Q : Unit → Shared → Prop} (hns : s.heap.Ns L m)
    (h : ∀ h', h'.Ns L (upd m x v) → Heap.SameBut L s.heap h' → Q () { s with heap := h', toks := s.toks + 1 }) (hl : (bEnv L cd).kindOf x = some .local := by rfl) :
    wpAny (model prog w) A (storeName (bEnv L cd) x v) Q E s := wpAny_storeName_local hl hns h

theorem inner_turn {items : Array Value} {v k : Int} {t tk : Tok} {Q : Flow → Shared → Prop} (hns : s.heap.Ns L m) (hnum : m "num" = some (.int v t)) (hbits : m "bits" = some (.ref b)) (hi : m "i" = some (.int k tk))
    (hl : s.heap.IsList b items) (hk0 : 0 ≤ k) (hk1 : k < items.size) (hk2 : k < 2 ^ 63) (hbL : b ≠ L)
    (h : ∀ h' c t1 t2, h'.Ns L (upd m "num" (.int (v.fdiv 2) t1)) → h'.IsList b (items.setIfInBounds k.toNat (.str ⟨#[c]⟩ t2)) → h'.objs.size = s.heap.objs.size →
      (∀ a, a ≠ L → a ≠ b → h'.get? a = s.heap.get? a) → Q .next { s with heap := h', toks := s.toks + 7 }) :
    wpAny (model prog w) A (execs innerBody.1 (bEnv L cd)) Q E s := by
  unfold innerBody
  dsimp only
  have hbit : 0 ≤ Builtin.bitAnd v 1 ∧ Builtin.bitAnd v 1 < 2 := by rw [bitAnd_m1]; omega
  obtain ⟨c, hc⟩ := seq01 hbit.1 hbit.2
  refine wpAny_execs_cons (wpAny_Assign_Subscript (Subscript_ ?_))
  refine Constant_str ?_
  refine wpAny_BinOp (nm hns hnum (wpAny_Constant_int (and_int ?_)))
  refine tail_any (typeIs_str _ _ _) F.slot_str_getitem.lookup (P.getItem_str (by simp; omega) hc ?_) (by with_unfolding_all rfl)
  refine nm hns hbits ?_
  refine nm hns hi ?_
  refine wpAny_setItem_list hl hk0 hk2 hk1 fun h1 hl1 hs1 => ?_
  dsimp only
  have hns1 : h1.Ns L m := hns.sameBut hs1 (Ne.symm hbL)
  refine wpAny_execs_cons (wpAny_AugAssign_Name ?_)
  refine wpAny_loadName_local rfl rfl hns1 hnum ?_
  refine wpAny_Constant_int (irshift_int (by decide) ?_)
  refine stn hns1 fun h2 hns2 hs2 => ?_
  refine wpAny_execs_nil ?_
  exact h h2 c _ _ hns2 (hl1.at fun o e => (hs2.2 b hbL).trans e) (hs2.1.trans hs1.1) fun a h1' h2' => (hs2.2 a h1').trans (hs1.2 a h2')

/-- an emptied range iterator makes two objects and ends -/
theorem range_end {it : Addr} {x left step : Int} {Q : Option Value → Shared → Prop} (hh : A.handled = none) (hit : IsRangeIter s.heap it x left step) (hleft : left ≤ 0)
    (hQ : ∀ h', h'.objs.size = s.heap.objs.size + 2 → (∀ a, a < s.heap.objs.size → h'.get? a = s.heap.get? a) → Q none { s with heap := h' }) : wpAny (model prog w) A (pyNext (.ref it)) Q E s := by
  have hT : s.TypeIs (.ref it) "range_iterator" := ⟨_, hit, rfl⟩
  unfold pyNext
  refine wpAny_bind (wpAny_attempt (wpAny_callSpecial?_slot (name := Str.ofString "__next__") hT F.slot_range_iterator_next
    (wpAny_call_entry F.slot_range_iterator_next hT F.entry_range_iterator_next ?_ (F.args_range_iterator_next_1 _))))
  show wpAny _ _ (field (.ref it) 0 >>= _) _ _ s
  refine wpAny_bind (wpAny_field hit rfl (x := rawInt x) rfl ?_)
  show wpAny _ _ (field (.ref it) 1 >>= _) _ _ s
  refine wpAny_bind (wpAny_field hit rfl (x := rawInt left) rfl ?_)
  show wpAny _ _ (field (.ref it) 2 >>= _) _ _ s
  refine wpAny_bind (wpAny_field hit rfl (x := rawInt step) rfl ?_)
  show wpAny _ _ (if left ≤ 0 then _ else _) _ _ s
  rw [if_pos hleft]
  refine wpAny_bind (wpAny_rule ?_)
  refine wpAny_bind ?_
  show wpAny _ _ (newExc (.type "StopIteration") [] >>= _) _ _ _
  refine wpAny_bind ?_
  simp only [newExc, newTuple]
  refine wpAny_bind (wpAny_newObj_type ?_ (by size_fits))
  refine wpAny_bind (m := firstArgMember _ _) (wpAny_of_eq (a := Value.none) (by first | rfl | (simp only [firstArgMember]; rfl)) ?_)
  refine wpAny_newObj_type ?_ (by size_fits)
  simp only [raiseNew]
  refine wpAny_bind (wpAny_handled ?_)
  first | rw [show A.in1.handled = none from hh] | rw [hh]
  refine wpAny_bind (wpAny_pure (wpAny_throw ?_))
  refine wpAny_bind (wpAny_isInstance (T := "StopIteration") (b := true) ⟨_, Heap.get?_push_size _ rfl, rfl⟩ isSubtype_stop ?_)
  refine wpAny_pure (hQ _ ?_ fun a ha => ?_)
  · rw [Heap.size_push, Heap.size_push]
  · rw [Heap.get?_push_ne _ _ _ (by rw [Heap.size_push]; exact Nat.ne_of_lt (Nat.lt_succ_of_lt ha)), Heap.get?_push_ne _ _ _ (Nat.ne_of_lt ha)]

/-- the strs that stand in a list from a place on -/
noncomputable def StrsFrom (items : Array Value) (i : Nat) : Prop := ∀ j, i ≤ j → j < 8 → ∃ c t, items[j]? = some (.str ⟨#[c]⟩ t)

theorem inner_loop {items : Array Value} {v : Int} {t u1 u2 u3 : Tok} {R : Addr} {vR : Value} {pos px pi : Pos} {Q : Flow → Shared → Prop} (hh : A.handled = none) (hns : s.heap.Ns L m) (hnum : m "num" = some (.int v t)) (hbits : m "bits" = some (.ref b))
    (hR : m "bits_per_byte" = some (.ref R)) (hr : IsRange s.heap R 7 (-1) (-1) u1 u2 u3) (hlk : m "lookup" = some vR)
    (hl : s.heap.IsList b items) (hz : items.size = 8) (hbL : b ≠ L)
    (h : ∀ h' m' items', h'.Ns L m' → m' "bits" = some (.ref b) → m' "bits_per_byte" = some (.ref R) → m' "lookup" = some vR → h'.IsList b items' → items'.size = 8 → StrsFrom items' 0 → h'.objs.size = s.heap.objs.size + 3 →
      (∀ a, a < s.heap.objs.size → a ≠ L → a ≠ b → h'.get? a = s.heap.get? a) → Q .next { s with heap := h', toks := s.toks + 72 }) :
    wpAny (model prog w) A (exec (.For (.Name "i" pi) (.Name "bits_per_byte" px) innerBody.1 [] pos) (bEnv L cd)) Q E s := by
  refine wpAny_For ?_ (by intro _; rfl)
  refine nm hns hR ?_
  refine wpAny_pyIter_range hr (by decide +kernel) ?_
  have hL : L < s.heap.objs.size := hns.lt
  have hb : b < s.heap.objs.size := by obtain ⟨o, ho, _⟩ := hl; exact Heap.lt_size ho
  have hsz : Builtin.Range.rangeSize 7 (-1) (-1) = 8 := by decide +kernel
  rw [hsz]
  refine codeAny_forLoop (fun n s' => ∃ i h' m' items', i ≤ 8 ∧ n = 8 - i ∧ s' = { s with heap := h', toks := s.toks + 9 * i } ∧ h'.Ns L m' ∧ (∃ v' t', m' "num" = some (.int v' t')) ∧ m' "bits" = some (.ref b) ∧ m' "bits_per_byte" = some (.ref R) ∧ m' "lookup" = some vR ∧
    h'.IsList b items' ∧ items'.size = 8 ∧ StrsFrom items' (8 - i) ∧ h'.objs.size = s.heap.objs.size + 1 ∧ IsRangeIter h' s.heap.objs.size (7 - (i : Int)) (8 - (i : Int)) (-1) ∧ (∀ a, a < s.heap.objs.size → a ≠ L → a ≠ b → h'.get? a = s.heap.get? a)) ?turn 8 ?start
  case start =>
    refine ⟨0, _, m, items, Nat.zero_le _, rfl, rfl, hns.push _, ⟨v, t, hnum⟩, hbits, hR, hlk, ?_, hz, fun j h1 h2 => by omega, Heap.size_push .., ?_, fun a ha _ _ => Heap.get?_push_ne _ _ _ (Nat.ne_of_lt ha)⟩
    · exact hl.at fun o e => Heap.get?_push_of_some _ e
    · exact Heap.get?_push_size _ rfl
  case turn =>
    rintro n s' ⟨i, h', m', items', hi, rfl, rfl, hns', ⟨v', t', hnum'⟩, hb', hR', hlk', hl', hz', hst, hsz', hit, hold⟩
    by_cases h8 : i = 8
    · subst h8
      refine range_end hh hit (by omega) fun h2 hz2 ho2 => wpAny_execs_nil ?_
      dsimp only at hz2 ho2
      have hL2 : L < h'.objs.size := by rw [hsz']; exact Nat.lt_succ_of_lt hL
      have hb2 : b < h'.objs.size := by rw [hsz']; exact Nat.lt_succ_of_lt hb
      refine h h2 m' items' ?_ hb' hR' hlk' ?_ hz' (by simpa using hst) (by omega) fun a ha h1 h3 => (ho2 a (by omega)).trans (hold a ha h1 h3)
      · exact hns'.at' fun o e => (ho2 L hL2).trans e
      · exact hl'.at fun o e => (ho2 b hb2).trans e
    · have hlt : i < 8 := by omega
      refine wpAny_pyNext_range_item hit (by omega) fun h1 hit1 hs1 => ?_
      have hIL : s.heap.objs.size ≠ L := Nat.ne_of_gt hL
      have hIb : s.heap.objs.size ≠ b := Nat.ne_of_gt hb
      refine wpAny_assign_Name (stn (hns'.sameBut hs1 (Ne.symm hIL)) fun h2 hns2 hs2 => ?_)
      have hl2 : h2.IsList b items' := hl'.at fun o e => (hs2.2 b hbL).trans ((hs1.2 b (Ne.symm hIb)).trans e)
      refine inner_turn (items := items') (v := v') (t := t') (tk := s.toks + 9 * i) (k := 7 - (i : Int)) hns2 ?_ ?_ ?_ hl2 (by omega) (by omega) (by omega) hbL fun h3 c t1 t2 hns3 hl3 hz3 ho3 => ?_
      · simp only [upd]; rw [if_neg (by decide +kernel)]; exact hnum'
      · simp only [upd]; rw [if_neg (by decide +kernel)]; exact hb'
      · exact upd_self
      · refine ⟨8 - (i + 1), by omega, i + 1, h3, _, _, by omega, rfl, ?_, hns3, ⟨v'.fdiv 2, t1, upd_self⟩, ?_, ?_, ?_, hl3, ?_, ?_, ?_, ?_, ?_⟩
        · rfl
        · simp only [upd]; rw [if_neg (by decide +kernel), if_neg (by decide +kernel)]; exact hb'
        · simp only [upd]; rw [if_neg (by decide +kernel), if_neg (by decide +kernel)]; exact hR'
        · simp only [upd]; rw [if_neg (by decide +kernel), if_neg (by decide +kernel)]; exact hlk'
        · rw [Array.size_setIfInBounds]; exact hz'
        · intro j hj1 hj2
          have ek : (7 - (i : Int)).toNat = 7 - i := by omega
          rw [ek]
          by_cases ej : j = 7 - i
          · subst ej
            exact ⟨c, t2, by rw [Array.getElem?_setIfInBounds]; simp [hz']; omega⟩
          · obtain ⟨c', t3, e⟩ := hst j (by omega) hj2
            exact ⟨c', t3, by rw [Array.getElem?_setIfInBounds, if_neg (by omega)]; exact e⟩
        · exact hz3.trans (hs2.1.trans (hs1.1.trans hsz'))
        · have e1 : (7 - ((i + 1 : Nat) : Int)) = 7 - (i : Int) + -1 := by push_cast; omega
          have e2 : (8 - ((i + 1 : Nat) : Int)) = 8 - (i : Int) - 1 := by push_cast; omega
          rw [e1, e2]
          exact (ho3 _ hIL hIb).trans ((hs2.2 _ hIL).trans hit1)
        · intro a ha hn1 hn2
          exact (ho3 a hn1 hn2).trans ((hs2.2 a hn1).trans ((hs1.2 a (Nat.ne_of_lt ha)).trans (hold a ha hn1 hn2)))
end
end Mine
end JB1

section JB2
open PySem PySem.W PyProof.Rows PySem.Calls
set_option Elab.async false
set_option maxRecDepth 100000
namespace Mine
section
variable {prog : Program} {w : World} {A : Around} {E : Value → Shared → Prop} {s : Shared} {L b : Addr} {cd : Value} {m : Str → Option Value}

theorem mul8 {l : Addr} {u : Tok} {d : Option Addr} {sl} {k : Nat} {Q : Value → Shared → Prop} (ho : s.heap.get? l = some { cls := .type "list", dict := d, data := .seq #[.none] k, slots := sl })
    (h : Q (.ref s.heap.objs.size) { s with heap := s.heap.push { cls := .type "list", data := .seq (Array.replicate 8 .none) } }) :
    wpAny (model prog w) A (binaryOp .Mult (.int 8 u) (.ref l)) Q E s := by
  refine lm_binaryOp_repeat_right (T := "list") (U := "int") (by decide) (fun s' => typeIs_int s' _ u) ⟨_, ho, rfl⟩ F.fills_int_mul noFill_list_mul F.slot_int_mul lm_noRepeat_int repeat_list F.slot_int_index.lookup
    (call_meets F.slot_int_mul (typeIs_int s _ u) F.entry_int_mul (F.args_int_mul_2 _ _) (lm_int_mul_list_any _ u l _ k d sl)
      ⟨ho, rfl, ⟨_, ho, rfl⟩, call_meets F.slot_list_mul ⟨_, ho, rfl⟩ F.entry_list_mul (F.args_list_mul_2 _ _)
        (lm_list_mul_any l _ k d sl _ u (by decide) (by decide) (by decide +kernel))
        ⟨ho, ?_⟩⟩)
  exact h

theorem strs_of : ∀ (xs : List Value), (∀ j, j < xs.length → ∃ c t, xs[j]? = some (.str ⟨#[c]⟩ t)) → ∃ l : List (Str × Tok), xs = strValues l ∧ ∀ p ∈ l, p.1.length = 1
  | [], _ => ⟨[], rfl, fun p hp => absurd hp (List.not_mem_nil)⟩
  | x :: xs, h => by
    obtain ⟨c, t, e⟩ := h 0 (by simp)
    obtain ⟨l, h1, h2⟩ := strs_of xs fun j hj => by simpa using h (j + 1) (by simpa using hj)
    have e' : x = .str ⟨#[c]⟩ t := by simpa using e
    refine ⟨(⟨#[c]⟩, t) :: l, by rw [e', h1]; rfl, fun p hp => ?_⟩
    rcases List.mem_cons.mp hp with rfl | hp
    · rfl
    · exact h2 p hp
theorem join8 {items : Array Value} (hz : items.size = 8) (hs : StrsFrom items 0) : ∃ l : List (Str × Tok), items = (strValues l).toArray ∧ l.length = 8 ∧ Builtin.Str.tooLong ((l.map (·.1)).toArray.foldl (· + ·.length + (Str.ofString "").length) 0) = false := by
  obtain ⟨l, h1, h2⟩ := strs_of items.toList fun j hj => by
    obtain ⟨c, t, e⟩ := hs j (Nat.zero_le _) (by simpa [hz] using hj)
    exact ⟨c, t, by simpa using e⟩
  have hlen : l.length = 8 := by have := congrArg List.length h1; simpa [strValues, hz] using this.symm
  refine ⟨l, by rw [← h1], hlen, ?_⟩
  match l, hlen, h2 with
  | [a, b, c, d, e, f, g, h], _, h2 =>
    have q : ∀ p ∈ [a, b, c, d, e, f, g, h], p.1.length = 1 := h2
    simp only [List.mem_cons, List.not_mem_nil, or_false, forall_eq_or_imp, forall_eq] at q
    obtain ⟨q1, q2, q3, q4, q5, q6, q7, q8⟩ := q
    have e0 : (Str.ofString "").length = 0 := by decide +kernel
    simp only [List.map_cons, List.map_nil, List.foldl_toArray', List.foldl_cons, List.foldl_nil, q1, q2, q3, q4, q5, q6, q7, q8, e0]
    decide +kernel

set_option maxHeartbeats 4000000 in
theorem outer_turn {items : Array Value} {v : Int} {t u1 u2 u3 : Tok} {l R : Addr} {Q : Flow → Shared → Prop} (hh : A.handled = none) (hns : s.heap.Ns L m) (hnum : m "num" = some (.int v t))
    (hlk : m "lookup" = some (.ref l)) (hR : m "bits_per_byte" = some (.ref R)) (hr : IsRange s.heap R 7 (-1) (-1) u1 u2 u3) (hl : s.heap.PlainList l items) (hz : items.size ≤ 1000) (hlL : l ≠ L) (hRL : R ≠ L) (hRl : R ≠ l)
    (h : ∀ h' m' x, h'.Ns L m' → m' "lookup" = some (.ref l) → m' "bits_per_byte" = some (.ref R) → h'.PlainList l (items.push x) → h'.objs.size = s.heap.objs.size + 5 →
      (∀ a, a < s.heap.objs.size → a ≠ L → a ≠ l → h'.get? a = s.heap.get? a) → Q .next { s with heap := h', toks := s.toks + 76 }) :
    wpAny (model prog w) A (execs outerBody.1 (bEnv L cd)) Q E s := by
  unfold outerBody
  dsimp only
  have hL : L < s.heap.objs.size := hns.lt
  have hlt : l < s.heap.objs.size := by obtain ⟨n, ho⟩ := hl; exact Heap.lt_size ho
  have hRt : R < s.heap.objs.size := Heap.lt_size hr
  refine wpAny_execs_cons (wpAny_Assign_Name ?_)
  refine wpAny_BinOp (wpAny_Constant_int (List_ (spliced_more (Constant_none (spliced_none (wpAny_newList ?_))))))
  refine mul8 (Heap.get?_push_size _ rfl) ?_
  refine stn (m := m) ((hns.push _).push _) fun h1 hns1 hs1 => ?_
  dsimp only at hs1 ⊢
  simp only [Heap.size_push] at hs1 hns1 ⊢
  have hbL : s.heap.objs.size + 1 ≠ L := Nat.ne_of_gt (Nat.lt_succ_of_lt hL)
  have hbl : s.heap.objs.size + 1 ≠ l := Nat.ne_of_gt (Nat.lt_succ_of_lt hlt)
  have hold1 : ∀ a, a < s.heap.objs.size → a ≠ L → h1.get? a = s.heap.get? a := fun a ha hn =>
    (hs1.2 a hn).trans ((Heap.get?_push_ne _ _ _ (by rw [Heap.size_push]; exact Nat.ne_of_lt (Nat.lt_succ_of_lt ha))).trans (Heap.get?_push_ne _ _ _ (Nat.ne_of_lt ha)))
  have hsz1 : h1.objs.size = s.heap.objs.size + 2 := by rw [hs1.1, Heap.size_push, Heap.size_push]
  have hb1 : h1.IsList (s.heap.objs.size + 1) (Array.replicate 8 .none) := ⟨_, (hs1.2 _ hbL).trans (by rw [← Heap.size_push s.heap]; exact Heap.get?_push_size _ rfl), rfl, _, rfl⟩
  refine wpAny_execs_cons ?_
  refine inner_loop (v := v) (t := t) (R := R) (vR := .ref l) (b := s.heap.objs.size + 1) hh hns1 ?_ upd_self ?_ ((hold1 R hRt hRL).trans hr) ?_ hb1 (by simp) hbL
    fun h2 m2 items2 hns2 hm2 hR2 hlk2 hl2 hz2 hst hsz2 hold2 => ?_
  · exact (upd_ne).trans hnum
  · exact (upd_ne).trans hR
  · exact (upd_ne).trans hlk
  dsimp only at hsz2 hold2
  have hl1 : h2.PlainList l items := hl.at fun o e => (hold2 l (by rw [hsz1]; exact Nat.lt_succ_of_lt (Nat.lt_succ_of_lt hlt)) hlL (Ne.symm hbl)).trans ((hold1 l hlt hlL).trans e)
  refine wpAny_execs_cons (wpAny_Expr ?_)
  refine MethodCall_ (nm hns2 hlk2 ?_)
  obtain ⟨n2, ho2⟩ := id hl1
  obtain ⟨ga, hga, hcan⟩ := F.plainAttrs_str.ga
  obtain ⟨js, rfl, hj8, hjl⟩ := join8 hz2 hst
  refine Calls.getMethod_list_append ho2 rfl rfl ?_
  refine callWith_method1 (spliced_more ?_)
  refine MethodCall_ (Constant_str ?_)
  dsimp only
  refine getMethod_value (T := "str") (id := "str.join") (typeIs_str _ _ _) (fun _ e => nomatch e) hga hcan F.plainAttrs_str.noGetattr F.slot_str_join.lookup F.type_str_join ?_
  refine callWith_method1 (spliced_more (nm hns2 hm2 (spliced_none ?_)))
  refine call_meets F.slot_str_join (typeIs_str _ _ _) F.entry_str_join (F.args_str_join_2 _ _) (meets_str_join_list _ _ _ js hjl) ⟨hl2, ?_⟩
  obtain ⟨x1, x2, xr, rfl⟩ : ∃ x1 x2 xr, js = x1 :: x2 :: xr := by
    match js, hj8 with
    | x1 :: x2 :: xr, _ => exact ⟨_, _, _, rfl⟩
  refine ⟨joinFit_length hjl, ?_⟩
  refine spliced_none ?_
  refine wpAny_list_append_plain (items := items) hl1 (fun h3 hl3 hs3 => ?_) (by show items.size ≤ _; exact Nat.le_trans hz (by decide +kernel))
  refine wpAny_execs_nil ?_
  dsimp only at hs3
  refine h h3 m2 _ (hns2.sameBut hs3 (Ne.symm hlL)) hlk2 hR2 hl3 ?_ ?_
  · rw [hs3.1, hsz2, hsz1]
  · intro a ha hn1 hn2
    exact (hs3.2 a hn2).trans ((hold2 a (by rw [hsz1]; exact Nat.lt_succ_of_lt (Nat.lt_succ_of_lt ha)) hn1 (Nat.ne_of_lt (Nat.lt_succ_of_lt ha))).trans (hold1 a ha hn1))

end
end Mine
end JB2

section JB3
open PySem PySem.W PyProof.Rows PySem.Calls
set_option Elab.async false
set_option maxRecDepth 100000
namespace Mine
section
variable {prog : Program} {w : World} {A : Around} {E : Value → Shared → Prop} {s : Shared} {L b : Addr} {cd : Value} {m : Str → Option Value}

set_option maxHeartbeats 4000000 in
theorem outer_loop {mg mb : Str → Option Value} {u1 u2 u3 : Tok} {l R : Addr} {pos px pn pr pc : Pos} {ck : Nat} {Q : Flow → Shared → Prop} (hh : A.handled = none) (hns : s.heap.Ns L m)
    (hg : s.heap.Ns mainGlobals mg) (hgr : mg "range" = none) (hb : s.heap.Ns builtinsNs mb) (hbr : mb "range" = some (.type "range"))
    (hlk : m "lookup" = some (.ref l)) (hR : m "bits_per_byte" = some (.ref R)) (hr : IsRange s.heap R 7 (-1) (-1) u1 u2 u3) (hl : s.heap.PlainList l #[]) (hlL : l ≠ L) (hRL : R ≠ L) (hRl : R ≠ l)
    (h : ∀ h' m', h'.Ns L m' → m' "lookup" = some (.ref l) → h'.objs.size = s.heap.objs.size + 1284 →
      (∀ a, a < s.heap.objs.size → a ≠ L → a ≠ l → h'.get? a = s.heap.get? a) → Q .next { s with heap := h', toks := s.toks + 19971 }) :
    wpAny (model prog w) A (exec (.For (.Name "num" pn) (.Call (.Name "range" pr) [.Constant (.int 256) ck pc] [] px) outerBody.1 [] pos) (bEnv L cd)) Q E s := by
  have hL : L < s.heap.objs.size := hns.lt
  have hlt : l < s.heap.objs.size := by obtain ⟨n, ho⟩ := hl; exact Heap.lt_size ho
  have hRt : R < s.heap.objs.size := Heap.lt_size hr
  refine wpAny_For ?_ (by intro _; rfl)
  refine Call_ (Name_function_global rfl rfl (loadGlobal_builtin hg hgr hb hbr ?_))
  refine callWith_type1 (spliced_more (wpAny_Constant_int (spliced_none ?_)))
  refine call_range_1 ?_
  refine wpAny_pyIter_range (IsRange.new ..) (by decide +kernel) ?_
  have hsz : Builtin.Range.rangeSize 0 256 1 = 256 := by decide +kernel
  rw [hsz]
  dsimp only
  rw [Heap.size_push]
  refine codeAny_forLoop (fun n s' => ∃ i h' m' items', i ≤ 256 ∧ n = 256 - i ∧ s' = { s with heap := h', toks := s.toks + 1 + 1 + 1 + 78 * i } ∧ h'.Ns L m' ∧ m' "lookup" = some (.ref l) ∧ m' "bits_per_byte" = some (.ref R) ∧
    h'.PlainList l items' ∧ items'.size = i ∧ h'.objs.size = s.heap.objs.size + 2 + 5 * i ∧ IsRangeIter h' (s.heap.objs.size + 1) (i : Int) (256 - (i : Int)) 1 ∧ (∀ a, a < s.heap.objs.size → a ≠ L → a ≠ l → h'.get? a = s.heap.get? a)) ?turn 256 ?start
  case start =>
    refine ⟨0, _, m, #[], Nat.zero_le _, rfl, rfl, (hns.push _).push _, hlk, hR, ?_, rfl, ?_, ?_, fun a ha _ _ => ?_⟩
    · exact hl.at fun o e => Heap.get?_push_of_some _ (Heap.get?_push_of_some _ e)
    · rw [Heap.size_push, Heap.size_push]
    · rw [← Heap.size_push s.heap]; exact Heap.get?_push_size _ rfl
    · exact (Heap.get?_push_ne _ _ _ (by rw [Heap.size_push]; exact Nat.ne_of_lt (Nat.lt_succ_of_lt ha))).trans (Heap.get?_push_ne _ _ _ (Nat.ne_of_lt ha))
  case turn =>
    rintro n s' ⟨i, h', m', items', hi, rfl, rfl, hns', hlk', hR', hl', hz', hsz', hit, hold⟩
    have hL2 : L < h'.objs.size := Nat.lt_of_lt_of_le hL (by rw [hsz']; omega)
    have hl2 : l < h'.objs.size := Nat.lt_of_lt_of_le hlt (by rw [hsz']; omega)
    by_cases h8 : i = 256
    · subst h8
      refine range_end hh hit (by omega) fun h2 hz2 ho2 => wpAny_execs_nil ?_
      dsimp only at hz2 ho2
      refine h h2 m' ?_ hlk' (by omega) fun a ha h1 h3 => (ho2 a (by omega)).trans (hold a ha h1 h3)
      exact hns'.at' fun o e => (ho2 L hL2).trans e
    · have hlt : i < 256 := by omega
      refine wpAny_pyNext_range_item hit (by omega) fun h1 hit1 hs1 => ?_
      have hIL : s.heap.objs.size + 1 ≠ L := Nat.ne_of_gt (Nat.lt_succ_of_lt hL)
      have hIl : s.heap.objs.size + 1 ≠ l := Nat.ne_of_gt (Nat.lt_succ_of_lt (by assumption))
      have hIR : s.heap.objs.size + 1 ≠ R := Nat.ne_of_gt (Nat.lt_succ_of_lt hRt)
      refine wpAny_assign_Name (stn (hns'.sameBut hs1 (Ne.symm hIL)) fun h2 hns2 hs2 => ?_)
      have hl2' : h2.PlainList l items' := hl'.at fun o e => (hs2.2 l hlL).trans ((hs1.2 l (Ne.symm hIl)).trans e)
      have hr2 : IsRange h2 R 7 (-1) (-1) u1 u2 u3 := (hs2.2 R hRL).trans ((hs1.2 R (Ne.symm hIR)).trans ((hold R hRt hRL hRl).trans hr))
      refine outer_turn (items := items') (v := (i : Int)) (t := s.toks + 1 + 1 + 1 + 78 * i) (R := R) (l := l) hh hns2 upd_self ?_ ?_ hr2 hl2' (by omega) hlL hRL hRl fun h3 m3 x hns3 hlk3 hR3 hl3 hz3 ho3 => ?_
      · exact (upd_ne).trans hlk'
      · exact (upd_ne).trans hR'
      · dsimp only at hz3 ho3
        refine ⟨256 - (i + 1), by omega, i + 1, h3, m3, items'.push x, by omega, rfl, ?_, hns3, hlk3, hR3, hl3, ?_, ?_, ?_, ?_⟩
        · rfl
        · rw [Array.size_push, hz']
        · rw [hz3, hs2.1, hs1.1, hsz']; omega
        · have e1 : (((i + 1 : Nat) : Int)) = (i : Int) + 1 := by push_cast; omega
          have e2 : (256 - ((i + 1 : Nat) : Int)) = 256 - (i : Int) - 1 := by push_cast; omega
          rw [e1, ← e1, e2, e1]
          refine (ho3 _ ?_ hIL hIl).trans ((hs2.2 _ hIL).trans hit1)
          rw [hs2.1, hs1.1, hsz']; omega
        · intro a ha hn1 hn2
          exact (ho3 a (by rw [hs2.1, hs1.1, hsz']; omega) hn1 hn2).trans ((hs2.2 a hn1).trans ((hs1.2 a (Nat.ne_of_lt (Nat.lt_succ_of_lt ha))).trans (hold a ha hn1 hn2)))

theorem star_neg {op x p rest} {env : Env} : starEach (.UnaryOp op x p :: rest) env = (false, eval (.UnaryOp op x p) env) :: starEach rest env := rfl
set_option maxHeartbeats 4000000 in
theorem bytes_body {mg mb : Str → Option Value} {Q : Flow → Shared → Prop} (hh : A.handled = none) (hns : s.heap.Ns L m)
    (hg : s.heap.Ns mainGlobals mg) (hgr : mg "range" = none) (hb : s.heap.Ns builtinsNs mb) (hbr : mb "range" = some (.type "range")) (hLg : mainGlobals ≠ L) (hLb : builtinsNs ≠ L)
    (h : ∀ h', h'.objs.size = s.heap.objs.size + 1286 → (∀ a, a < s.heap.objs.size → a ≠ L → h'.get? a = s.heap.get? a) → Q (.ret (.ref s.heap.objs.size)) { s with heap := h', toks := s.toks + 19978 }) :
    wpAny (model prog w) A (execs bytesBody.1 (bEnv L cd)) Q E s := by
  unfold bytesBody
  dsimp only
  have hL : L < s.heap.objs.size := hns.lt
  refine wpAny_execs_cons (wpAny_Assign_Name ?_)
  refine List_ (spliced_none (wpAny_newList ?_))
  refine stn (m := m) (hns.push _) fun h1 hns1 hs1 => ?_
  dsimp only at hs1 hns1 ⊢
  have hl1 : h1.PlainList s.heap.objs.size #[] := ⟨_, (hs1.2 _ (Nat.ne_of_gt hL)).trans (Heap.get?_push_size _ rfl)⟩
  have hold1 : ∀ a, a < s.heap.objs.size → a ≠ L → h1.get? a = s.heap.get? a := fun a ha hn => (hs1.2 a hn).trans (Heap.get?_push_ne _ _ _ (Nat.ne_of_lt ha))
  have hsz1 : h1.objs.size = s.heap.objs.size + 1 := by rw [hs1.1, Heap.size_push]
  have hg1 : h1.Ns mainGlobals mg := hg.at' fun o e => (hold1 _ hg.lt hLg).trans e
  have hb1 : h1.Ns builtinsNs mb := hb.at' fun o e => (hold1 _ hb.lt hLb).trans e
  refine wpAny_execs_cons (wpAny_Assign_Name ?_)
  refine Call_ (Name_function_global rfl rfl (loadGlobal_builtin hg1 hgr hb1 hbr ?_))
  refine callWith_type1 (spliced_more (wpAny_Constant_int ?_)) (by rfl) (by rw [star_neg, star_neg]; rfl)
  refine spliced_more (UnaryOp_ (wpAny_Constant_int (neg_int ?_)))
  refine spliced_more (UnaryOp_ (wpAny_Constant_int (neg_int ?_)))
  refine spliced_none ?_
  refine call_range_3 (by decide) ?_ (.inl (PyProof.noPylong_of_log2 (by decide +kernel)))
  refine stn (m := upd m "lookup" (.ref s.heap.objs.size)) (hns1.push _) fun h2 hns2 hs2 => ?_
  dsimp only at hs2 hns2 ⊢
  have hL1 : L < h1.objs.size := hns1.lt
  have hold2 : ∀ a, a < h1.objs.size → a ≠ L → h2.get? a = h1.get? a := fun a ha hn => (hs2.2 a hn).trans (Heap.get?_push_ne _ _ _ (Nat.ne_of_lt ha))
  have hsz2 : h2.objs.size = s.heap.objs.size + 2 := by rw [hs2.1, Heap.size_push, hsz1]
  have hl2 : h2.PlainList s.heap.objs.size #[] := hl1.at fun o e => (hold2 _ (Heap.lt_size e) (Nat.ne_of_gt hL)).trans e
  have hr2 : IsRange h2 h1.objs.size 7 (-1) (-1) _ _ _ := (hs2.2 _ (Nat.ne_of_gt hL1)).trans (Heap.get?_push_size _ rfl)
  have hg2 : h2.Ns mainGlobals mg := hg1.at' fun o e => (hold2 _ hg1.lt hLg).trans e
  have hb2 : h2.Ns builtinsNs mb := hb1.at' fun o e => (hold2 _ hb1.lt hLb).trans e
  refine wpAny_execs_cons ?_
  refine outer_loop (l := s.heap.objs.size) (R := h1.objs.size) hh hns2 hg2 hgr hb2 hbr ((upd_ne).trans upd_self) upd_self hr2 hl2 (Nat.ne_of_gt hL) (Nat.ne_of_gt hL1) (by rw [hsz1]; exact Nat.succ_ne_self _)
    fun h3 m3 hns3 hlk3 hz3 ho3 => ?_
  dsimp only at hz3 ho3
  refine wpAny_execs_cons (wpAny_Return_some (nm hns3 hlk3 ?_))
  refine h h3 (by omega) fun a ha hn => ?_
  exact (ho3 a (by rw [hsz2]; exact Nat.lt_succ_of_lt (Nat.lt_succ_of_lt ha)) hn (Nat.ne_of_lt ha)).trans ((hold2 a (by rw [hsz1]; exact Nat.lt_succ_of_lt ha) hn).trans (hold1 a ha hn))
end
end Mine
end JB3

section JB4
open PySem PySem.W PyProof.Rows PySem.Calls
set_option Elab.async false
set_option maxRecDepth 100000
set_option maxHeartbeats 1000000
namespace Mine
section
variable {α : Type} {prog : Program} {w : World} {A : Around} {E : Value → Shared → Prop} {s : Shared}
theorem lk_list_keys : typeLookup (.type "list") "keys" = pure none := by rw [typeLookup_type, builtinLookup_eq_fast]; kernel_rfl

theorem attrErrX {o : Value} {name : Str} {msg : Str} {Q : α → Shared → Prop} (hh : A.handled = none)
    (h : ∀ h' e, Heap.NewAttrErr s.heap h' e o name → h'.objs.size = s.heap.objs.size + 2 → (∀ a, a < s.heap.objs.size → h'.get? a = s.heap.get? a) → E (.ref e) { s with heap := h', toks := s.toks + 2 }) (hm : msg.length ≤ sizeLine := by size_fits) :
    wpAny (model prog w) A (raiseAttrError o name msg : Sem α) Q E s := by
  unfold raiseAttrError
  refine wpAny_bind (wpAny_mkStr (wpAny_bind ?_) hm)
  unfold newExc newTuple
  refine wpAny_bind (wpAny_newObj_type ?_ (by size_fits))
  refine wpAny_bind (m := firstArgMember _ _) (wpAny_of_eq (a := Value.none) (by simp only [firstArgMember, attrError_no_first]; rfl) ?_)
  rw [ownMembersOf_AttributeError]
  refine wpAny_newObj_type ?_ (by size_fits)
  obtain ⟨hp, g, d, tk, os⟩ := s
  have f1 := sub_AttributeError
  repeat (any_goals (first | assumption | wp_step))
  unfold raiseNew
  refine wpAny_bind (wpAny_handled ?_)
  rw [hh]
  first
    | refine wpAny_throw ?_
    | refine wpAny_bind (wpAny_pure (wpAny_throw ?_))
  dsimp only
  refine h _ _ ⟨fun b ob hb => ?_, Heap.get?_none_of_le (by simp), ?_⟩ ?_ fun a ha => ?_
  · have hlt : b < hp.objs.size := Heap.lt_size hb
    refine (Heap.get?_update_other _ _ ?_).trans (Heap.get?_push_of_some _ (Heap.get?_push_of_some _ hb))
    simp only [Heap.size_push]
    exact Nat.ne_of_gt (Nat.lt_succ_of_lt hlt)
  · exact ⟨_, _, Heap.get?_update_self _ (Heap.get?_push_size _ rfl) rfl⟩
  · simp [Heap.size_push]
  · refine (Heap.get?_update_other _ _ ?_).trans ((Heap.get?_push_ne _ _ _ ?_).trans (Heap.get?_push_ne _ _ _ (Nat.ne_of_lt ha)))
    · simp only [Heap.size_push]; exact Nat.ne_of_gt (Nat.lt_succ_of_lt ha)
    · simp only [Heap.size_push]; exact Nat.ne_of_lt (Nat.lt_succ_of_lt ha)

theorem meetsX (a : Addr) (xs : Array Value) (k : Nat) (sl : Array (Option Value)) (name : Str) (u : Tok) (hmiss : typeLookup (.type "list") name = pure none) (hname : (["__module__", "__name__", "__qualname__", "__doc__", "__annotations__"] : List Str).contains name = false) (hsz : name.length + 100 ≤ sizeLine := by size_fits) :
    Meets (Builtin.«object.__getattribute__» ⟨[.ref a, .str name u], []⟩) (fun A R s => s.heap.get? a = some { cls := .type "list", dict := none, data := .seq xs k, slots := sl } ∧ A.handled = none ∧
      ∀ h' e, Heap.NewAttrErr s.heap h' e (.ref a) name → h'.objs.size = s.heap.objs.size + 2 → (∀ a, a < s.heap.objs.size → h'.get? a = s.heap.get? a) → R (.error (.ref e)) { s with heap := h', toks := s.toks + 2 }) :=
  Meets.of_wp fun prog w A R s hs => by
    obtain ⟨hp, g, d, tk, os⟩ := s
    obtain ⟨hx, hs⟩ := hs
    have hT : (⟨hp, g, d, tk, os⟩ : Shared).TypeIs (.ref a) "list" := ⟨_, hx, rfl⟩
    unfold Builtin.«object.__getattribute__»
    repeat (any_goals (first | assumption | wp_step))
    simp only [hname, Bool.false_eq_true, if_false]
    repeat (any_goals (first | assumption | wp_step))
    exact attrErrX hs.1 hs.2 (attrMsg_fits (by decide +kernel) hsz)

theorem no_keys {a : Addr} {xs : Array Value} {k : Nat} {Q : Option Value → Shared → Prop} (hh : A.handled = none)
    (hx : s.heap.get? a = some { cls := .type "list", data := .seq xs k })
    (h : ∀ h', h'.objs.size = s.heap.objs.size + 2 → (∀ b, b < s.heap.objs.size → h'.get? b = s.heap.get? b) → Q none { s with heap := h', toks := s.toks + 3 }) :
    wpAny (model prog w) A (getAttr? (.ref a) "keys") Q E s := by
  obtain ⟨hp, g, d, tk, os⟩ := s
  have hT : ∀ tk', (⟨hp, g, d, tk', os⟩ : Shared).TypeIs (.ref a) "list" := fun _ => ⟨_, hx, rfl⟩
  have f1 := sub_AttributeError
  have f3 := F.slot_list_getattribute.lookup
  have f4 := F.slot_list_getattribute.bind (.ref a)
  have f5 := am_list_getattr_none
  unfold getAttr? getAttrBy? getAttrBy
  repeat (any_goals (first | assumption | exact hT _ | ((with_reducible show wpAny _ _ (call (Value.builtin "list.__getattribute__") _ _) _ _ _); refine call_meets F.slot_list_getattribute (hT _) am_entry_list_getattribute (F.args_list_getattribute_2 _ _) (meetsX a xs k #[] "keys" _ lk_list_keys (by decide +kernel)) ⟨hx, hh, fun h' e hx' hz hk => ?_⟩) | wp_step))
  dsimp only [wants, getattributeRaised]
  obtain ⟨t', u', he⟩ := hx'.there
  have hTe : ∀ tk', (⟨h', g, d, tk', os⟩ : Shared).TypeIs (.ref e) "AttributeError" := fun _ => ⟨_, he, rfl⟩
  repeat (any_goals (first | assumption | exact hTe _ | wp_step))
  all_goals first | exact h h' hz hk | trace_state
end
end Mine
end JB4

section JB5
open PySem PySem.W PyProof.Rows PySem.Calls
set_option Elab.async false
set_option maxRecDepth 100000
set_option maxHeartbeats 1000000
namespace Mine
section
variable {α : Type} {prog : Program} {w : World} {A : Around} {E : Value → Shared → Prop} {s : Shared}

theorem list_end {it l : Addr} {i : Nat} {items : Array Value} {Q : Option Value → Shared → Prop} (hh : A.handled = none)
    (hit : s.heap.IsListIter it l i) (hl : s.heap.IsList l items) (hx : items[i]? = none)
    (hQ : ∀ h', h'.objs.size = s.heap.objs.size + 2 → (∀ a, a < s.heap.objs.size → a ≠ it → h'.get? a = s.heap.get? a) → Q none { s with heap := h' }) : wpAny (model prog w) A (pyNext (.ref it)) Q E s := by
  obtain ⟨o, ho, hc, hd⟩ := id hit
  obtain ⟨ol, hol, _, nl, hdl⟩ := hl
  unfold pyNext
  refine wpAny_bind (wpAny_attempt (wpAny_callSpecial?_slot (name := Str.ofString "__next__") hit.typeIs slot_listiter_next
    (wpAny_call_entry slot_listiter_next hit.typeIs entry_listiter_next ?_ (args_listiter_next _))))
  show wpAny _ _ (field (.ref it) 0 >>= _) _ _ s
  refine wpAny_bind (wpAny_field ho hd (x := .ref l) rfl ?_)
  show wpAny _ _ (if (Value.ref l == Value.none) = true then _ else _) _ _ s
  rw [if_neg (show ¬ ((Value.ref l == Value.none) = true) from Bool.false_ne_true)]
  show wpAny _ _ (field (.ref it) 1 >>= _) _ _ s
  refine wpAny_bind (wpAny_field ho hd (x := .int i 0) rfl ?_)
  show wpAny _ _ (seqItems? (.ref l) >>= _) _ _ s
  refine wpAny_bind (wpAny_seqItems hol hdl ?_)
  simp only [Int.toNat_natCast, hx]
  refine wpAny_bind (wpAny_rule (wpAny_bind (wpAny_setField ho hd (by simp) ?_)))
  show wpAny _ _ (newExc (.type "StopIteration") [] >>= _) _ _ _
  refine wpAny_bind ?_
  simp only [newExc, newTuple]
  refine wpAny_bind (wpAny_newObj_type ?_ (by size_fits))
  refine wpAny_bind (m := firstArgMember _ _) (wpAny_of_eq (a := Value.none) (by first | rfl | (simp only [firstArgMember]; rfl)) ?_)
  refine wpAny_newObj_type ?_ (by size_fits)
  simp only [raiseNew]
  refine wpAny_bind (wpAny_handled ?_)
  rw [show A.in1.handled = none from hh]
  refine wpAny_bind (wpAny_pure (wpAny_throw ?_))
  refine wpAny_bind (wpAny_isInstance (T := "StopIteration") (b := true) ⟨_, Heap.get?_push_size _ rfl, rfl⟩ isSubtype_stop ?_)
  refine wpAny_pure (hQ _ ?_ fun a ha hn => ?_)
  · simp [Heap.size_push]
  · refine (Heap.get?_push_ne _ _ _ ?_).trans ((Heap.get?_push_ne _ _ _ ?_).trans ((Heap.SameBut.update ..).2 a hn))
    · simp only [Heap.size_push, Heap.size_update]; exact Nat.ne_of_lt (Nat.lt_succ_of_lt ha)
    · simp only [Heap.size_update]; exact Nat.ne_of_lt ha

noncomputable def IsPair (h : Heap) (v : Value) : Prop := ∃ a k t x n, v = .ref a ∧ h.get? a = some { cls := .type "tuple", data := .seq #[.int k t, x] n }

theorem entry_dul : entryFor table "dict.update.loop" = some Builtin.«dict.update.loop» := entryFor_of_tree (by kernel_rfl)

theorem dict_loop {R : Result → Shared → Prop} {d it l : Addr} {items : Array Value} (hh : A.handled = none) (hdi : d ≠ it) (hdl : d ≠ l) (hil : it ≠ l) (hsz : items.size ≤ 1000) :
    ∀ (n i : Nat) (f : Int → Option Value) (s : Shared), n + i = items.size → s.heap.IsListIter it l i → s.heap.IsList l items → (∀ (j : Nat) v, items[j]? = some v → IsPair s.heap v ∧ v ≠ .ref d ∧ v ≠ .ref it) →
      s.heap.IntMap d f → s.heap.DictLe d i →
      (∀ h', h'.objs.size = s.heap.objs.size + 2 → (∀ a, a < s.heap.objs.size → a ≠ d → a ≠ it → h'.get? a = s.heap.get? a) → R (.ok (.ret .none)) { s with heap := h', toks := s.toks + n }) →
      codeAny (model prog w) A (.builtin "dict.update.loop" ⟨[.ref d, .ref it, rawInt i, .none], []⟩) R s := by
  intro n
  induction n with
  | zero =>
    intro i f s hni hit hl hp hm hle h
    refine codeAny_builtin entry_dul ?_
    have hh' : (A.under (.builtin "dict.update.loop" ⟨[.ref d, .ref it, rawInt i, .none], []⟩)).handled = none := hh
    unfold Builtin.«dict.update.loop»
    show wpAny _ _ (pyNext (.ref it) >>= _) _ _ s
    refine wpAny_bind (list_end hh' hit hl (by simp; omega) fun h' hz hold => ?_)
    dsimp only
    refine wpAny_bind (m := Builtin.Dict.addKeywords d []) (wpAny_pure ?_)
    exact wpAny_pure (h h' hz fun a ha h1 h2 => hold a ha h2)
  | succ n ih =>
    intro i f s hni hit hl hp hm hle h
    refine codeAny_builtin entry_dul ?_
    have hh' : (A.under (.builtin "dict.update.loop" ⟨[.ref d, .ref it, rawInt i, .none], []⟩)).handled = none := hh
    unfold Builtin.«dict.update.loop»
    show wpAny _ _ (pyNext (.ref it) >>= _) _ _ s
    obtain ⟨v, hv⟩ : ∃ v, items[i]? = some v := by
      have : i < items.size := by omega
      exact ⟨_, Array.getElem?_eq_getElem this⟩
    obtain ⟨⟨a, k, t, x, nn, rfl, ha⟩, hvd, hvi⟩ := hp i _ hv
    refine wpAny_bind (wpAny_pyNext_list_item hit hl hv fun h1 hit1 hs1 => ?_)
    dsimp only
    have had : a ≠ d := fun e => hvd (by rw [e])
    have hai : a ≠ it := fun e => hvi (by rw [e])
    have ha1 : h1.get? a = some { cls := .type "tuple", data := .seq #[.int k t, x] nn } := (hs1.2 a hai).trans ha
    refine wpAny_bind (wpAny_holding (wpAny_bind (wpAny_tryCatch ?_)))
    unfold Builtin.Dict.pairItems
    refine wpAny_bind (wpAny_typeOf (T := "tuple") ⟨_, ha1, rfl⟩ ?_)
    rw [if_pos (by decide)]
    refine wpAny_bind (wpAny_seqItems ha1 rfl (wpAny_pure ?_))
    show wpAny _ _ (holding [Value.int k t, x] (dictSet d (.int k t) x)) _ _ _
    refine wpAny_holding ?_
    have hm1 : h1.IntMap d f := hm.sameBut hs1 hdi
    have hle1 : h1.DictLe d i := hle.sameBut hs1 hdi
    refine wpAny_dictSet_int_le hm1 hle1 (by have : sizeLine ≥ 1000 := by decide +kernel
                                             omega) fun h2 hm2 hle2 hs2 => ?_
    have hq : (Code.builtin "dict.update.loop" ⟨[.ref d, .ref it, rawInt ((i : Int) + 1), .none], []⟩).quiet = true := Code.quiet_builtin _ (by decide +kernel)
    refine wpAny_pure ⟨hq, ?_⟩
    have e1 : ((i : Int) + 1) = ((i + 1 : Nat) : Int) := by push_cast; rfl
    rw [e1]
    dsimp only at hs2 ⊢
    refine ih (i + 1) _ _ (by omega) ?_ ?_ ?_ hm2 hle2 fun h3 hz3 ho3 => ?_
    · obtain ⟨o, ho, r⟩ := hit1; exact ⟨o, (hs2.2 it (Ne.symm hdi)).trans ho, r⟩
    · exact hl.at fun o e => (hs2.2 l (Ne.symm hdl)).trans ((hs1.2 l (Ne.symm hil)).trans e)
    · intro j v hj
      obtain ⟨⟨a', k', t', x', n', rfl, ha'⟩, h1d, h1i⟩ := hp j v hj
      exact ⟨⟨a', k', t', x', n', rfl, (hs2.2 a' fun e => h1d (by rw [e])).trans ((hs1.2 a' fun e => h1i (by rw [e])).trans ha')⟩, h1d, h1i⟩
    · have e2 : s.toks + 1 + n = s.toks + (n + 1) := by omega
      dsimp only at hz3 ho3 ⊢
      rw [e2]
      refine h h3 (by rw [hz3, hs2.1, hs1.1]) fun a ha hn1 hn2 => ?_
      exact (ho3 a (by rw [hs2.1, hs1.1]; exact ha) hn1 hn2).trans ((hs2.2 a hn1).trans (hs1.2 a hn2))
theorem dict_of_pairs {l : Addr} {items : Array Value} {ep : Nat} {Q : Value → Shared → Prop} (hh : A.handled = none) (hsz : items.size ≤ 1000) (hl : s.heap.get? l = some { cls := .type "list", data := .seq items ep })
    (hp : ∀ (j : Nat) v, items[j]? = some v → IsPair s.heap v)
    (h : ∀ h', h'.objs.size = s.heap.objs.size + 6 → (∀ a, a < s.heap.objs.size → h'.get? a = s.heap.get? a) → Q (.ref s.heap.objs.size) { s with heap := h', toks := s.toks + 3 + items.size }) :
    wpAny (model prog w) A (call (.type "dict") [.ref l]) Q E s := by
  refine callType_codes (Q₁ := fun obj s₁ => obj = .ref s.heap.objs.size ∧ s₁ = { s with heap := s.heap.push { cls := .type "dict", data := .dict #[] } }) F.kt_called_dict (F.kt_typeCall_dict_1 _) F.entry_dict_init (kt_code_dict_new _ ⟨rfl, rfl⟩) ?_
  rintro obj s₁ ⟨rfl, rfl⟩
  have hlt : l < s.heap.objs.size := Heap.lt_size hl
  have hl' : (s.heap.push { cls := .type "dict", data := .dict #[] }).get? l = some { cls := .type "list", data := .seq items ep } := Heap.get?_push_of_some _ hl
  have hnewT : (⟨s.heap.push { cls := .type "dict", data := .dict #[] }, s.gens, s.drawn, s.toks, s.os⟩ : Shared).TypeIs (.ref s.heap.objs.size) "dict" := ⟨_, Heap.get?_push_size _ rfl, rfl⟩
  refine ⟨hnewT, F.args_dict_init_2 _ _, ?_⟩
  unfold Builtin.«dict.__init__»
  refine wpAny_bind ?_
  unfold Builtin.Dict.selfAndRest
  refine wpAny_bind (wpAny_notOrdered_dict hnewT ?_)
  show wpAny _ _ (pure (s.heap.objs.size, [Value.ref l])) _ _ _
  refine wpAny_pure ?_
  show wpAny _ _ (Builtin.Dict.updateFrom "dict.__init__" s.heap.objs.size (.ref l) [] .none) _ _ _
  unfold Builtin.Dict.updateFrom
  refine wpAny_bind (wpAny_typeOf (T := "list") ⟨_, hl', rfl⟩ ?_)
  rw [if_pos (by decide)]
  refine wpAny_bind (no_keys hh hl' fun h1 hz1 ho1 => ?_)
  dsimp only at hz1 ho1 ⊢
  rw [if_pos (by rfl)]
  have hK : ∀ b o, (s.heap.push { cls := .type "dict", data := .dict #[] }).get? b = some o → h1.get? b = some o := fun b o e => (ho1 b (Heap.lt_size e)).trans e
  have hl1 : h1.get? l = some { cls := .type "list", data := .seq items ep } := hK _ _ hl'
  refine wpAny_bind (wpAny_rule (wpAny_bind (wpAny_pyIter_list (items := items) ⟨_, hl1, rfl, _, rfl⟩ ?_)))
  have hq : (Code.builtin "dict.update.loop" ⟨[.ref s.heap.objs.size, .ref h1.objs.size, rawInt 0, .none], []⟩).quiet = true := Code.quiet_builtin _ (by decide +kernel)
  refine wpAny_pure ⟨hq, ?_⟩
  rw [Heap.size_push] at hz1
  have hdn : s.heap.objs.size < h1.objs.size := by rw [hz1]; omega
  have hln : l < h1.objs.size := Nat.lt_trans hlt hdn
  show codeAny _ A.in1 (.builtin "dict.update.loop" ⟨[.ref s.heap.objs.size, .ref h1.objs.size, rawInt ((0 : Nat) : Int), .none], []⟩) _ _
  refine dict_loop (A := A.in1) (l := l) (items := items) hh (Nat.ne_of_lt hdn) (Nat.ne_of_gt hlt) (Nat.ne_of_gt hln) hsz items.size 0 (fun _ => none) _ rfl ?_ ?_ ?_ ?_ ?_ fun h2 hz2 ho2 => ?_
  · exact ⟨_, Heap.get?_push_size _ rfl, rfl, rfl⟩
  · exact ⟨_, Heap.get?_push_of_some _ hl1, rfl, _, rfl⟩
  · intro j v hj
    obtain ⟨a, k, t, x, n, rfl, ha⟩ := hp j v hj
    have hat : a < s.heap.objs.size := Heap.lt_size ha
    refine ⟨⟨a, k, t, x, n, rfl, Heap.get?_push_of_some _ (hK _ _ (Heap.get?_push_of_some _ ha))⟩, ?_, ?_⟩
    · intro e; exact Nat.ne_of_lt hat (by injection e)
    · intro e; exact Nat.ne_of_lt (Nat.lt_trans hat hdn) (by injection e)
  · have := Heap.IntMap.new s.heap
    obtain ⟨o, es, ep', ho, r⟩ := this
    exact ⟨o, es, ep', Heap.get?_push_of_some _ (hK _ _ ho), r⟩
  · have := Heap.DictLe.new s.heap
    exact this.of_same (Heap.get?_push_size _ rfl) (Heap.get?_push_of_some _ (hK _ _ (Heap.get?_push_size _ rfl)))
  · refine ⟨rfl, ?_⟩
    dsimp only at hz2 ho2 ⊢
    rw [Heap.size_push] at hz2 ho2
    refine h h2 (by omega) fun a ha => ?_
    have h3 : a < h1.objs.size := Nat.lt_trans ha hdn
    refine (ho2 a (Nat.lt_succ_of_lt h3) (Nat.ne_of_lt ha) (Nat.ne_of_lt h3)).trans ((Heap.get?_push_ne _ _ _ (Nat.ne_of_lt h3)).trans ?_)
    exact (ho1 a (by rw [Heap.size_push]; exact Nat.lt_succ_of_lt ha)).trans (Heap.get?_push_ne _ _ _ (Nat.ne_of_lt ha))
end
end Mine
end JB5

section JB6
open PySem PySem.W PyProof.Rows PySem.Calls
set_option Elab.async false
set_option maxRecDepth 100000
set_option maxHeartbeats 1000000
namespace Mine
section
variable {prog : Program} {w : World} {A : Around} {E : Value → Shared → Prop} {s : Shared}

/-- the environment of a comprehension at the top of a text -/
noncomputable def cE (scope : Scope) (L : Addr) (env : Env) : Env :=
  { scope, locals := L, globals := env.globals, cells := [], qual := env.qual, func := none, code := env.code, frame := env.frame, builtins := env.builtins }

section
variable {env : Env} {scope : Scope} {L : Addr} {m mg : Str → Option Value} {W M : Int} {tw tm : Tok} {wn mn : Str} {i : Nat} {ti : Tok}
structure TabEnv (env : Env) (scope : Scope) (wn : Str) : Prop where
  kind : scope.kind = .function
  glob : env.globals = mainGlobals
  i : scope.names.lookup ("i" : Str) = some NameKind.local
  wd : scope.names.lookup wn = some NameKind.globalImplicit
  wn : (wn == ("__debug__" : Str)) = false

theorem tab_i {Q : Value → Shared → Prop} {pos : Pos} (H : TabEnv env scope wn) (hns : s.heap.Ns L m) (hi : m "i" = some (.int i ti)) (h : Q (.int i ti) s) :
    wpAny (model prog w) A (eval (.Name "i" pos) (cE scope L env)) Q E s :=
  wpAny_Name (wpAny_loadName_local (env := cE scope L env) H.kind H.i hns hi h) (by decide)
theorem tab_g {Q : Value → Shared → Prop} {pos : Pos} {v : Value} {x : Str} (H : TabEnv env scope wn) (hx : scope.names.lookup x = some .globalImplicit) (hd : (x == ("__debug__" : Str)) = false) (hg : s.heap.Ns mainGlobals mg) (hv : mg x = some v) (h : Q v s) :
    wpAny (model prog w) A (eval (.Name x pos) (cE scope L env)) Q E s :=
  Name_function_global (env := cE scope L env) H.kind hx (loadGlobal_global (env := cE scope L env) (by show s.heap.Ns env.globals mg; rw [H.glob]; exact hg) hv h) hd

theorem pow2 {b : Int} {t u : Tok} {Q : Value → Shared → Prop} (h0 : 0 ≤ b) (h1 : b ≤ 128) (h : Q (.int (2 ^ b.toNat) s.toks) { s with toks := s.toks + 1 }) : wpAny (model prog w) A (binaryOp .Pow (.int 2 t) (.int b u)) Q E s := by
  by_cases hb : b = 0
  · subst hb
    exact AutoIntOps.pow_0 (by omega) (by decide) h
  · refine AutoIntOps.pow_4 (by omega) (by simpa using hb) (by decide) (by decide) ?_ h
    have e : ((Builtin.Int.intBits 2 : Nat) : Int) = 2 := by decide +kernel
    rw [e]
    have hbl : bitsLine ≥ 300 := by decide +kernel
    simp [Builtin.Int.intTooBig]
    omega

theorem host_eval {p1 p2 p3 p4 p5 p6 p7 : Pos} {k1 k2 : Nat} {Q : Value → Shared → Prop} (H : TabEnv env scope wn) (hns : s.heap.Ns L m) (hi : m "i" = some (.int i ti)) (hg : s.heap.Ns mainGlobals mg) (hw : mg wn = some (.int W tw)) (h0 : (i : Int) ≤ W) (h1 : W ≤ 128)
    (h : ∀ t, Q (.int (2 ^ (W - i).toNat - 1) t) { s with toks := s.toks + 5 }) :
    wpAny (model prog w) A (eval (.BinOp (.BinOp (.Constant (.int 2) k1 p1) .Pow (.BinOp (.Name wn p2) .Sub (.Name "i" p3) p4) p5) .Sub (.Constant (.int 1) k2 p6) p7) (cE scope L env)) Q E s := by
  refine wpAny_BinOp (wpAny_BinOp (wpAny_Constant_int (wpAny_BinOp (tab_g H H.wd H.wn hg hw (tab_i H hns hi (sub_int ?_))))))
  refine pow2 (by omega) (by omega) ?_
  refine wpAny_Constant_int (sub_int ?_)
  exact h _
theorem mask_eval {p0 p1 p2 p3 p4 p5 p6 p7 p8 : Pos} {k1 k2 : Nat} {Q : Value → Shared → Prop} (H : TabEnv env scope wn) (hm : scope.names.lookup mn = some .globalImplicit) (hmd : (mn == ("__debug__" : Str)) = false)
    (hns : s.heap.Ns L m) (hi : m "i" = some (.int i ti)) (hg : s.heap.Ns mainGlobals mg) (hw : mg wn = some (.int W tw)) (hmx : mg mn = some (.int M tm)) (h0 : (i : Int) ≤ W) (h1 : W ≤ 128)
    (h : ∀ x t, Q (.int x t) { s with toks := s.toks + 6 }) :
    wpAny (model prog w) A (eval (.BinOp (.Name mn p0) .BitXor (.BinOp (.BinOp (.Constant (.int 2) k1 p1) .Pow (.BinOp (.Name wn p2) .Sub (.Name "i" p3) p4) p5) .Sub (.Constant (.int 1) k2 p6) p7) p8) (cE scope L env)) Q E s := by
  refine wpAny_BinOp (tab_g H hm hmd hg hmx (host_eval H hns hi hg hw h0 h1 fun t => xor_int ?_))
  exact h _ _
end

theorem star_bin {l op r p rest} {env : Env} : starEach (.BinOp l op r p :: rest) env = (false, eval (.BinOp l op r p) env) :: starEach rest env := rfl

theorem comp_loop {env : Env} {scope : Scope} {wn : Str} {mg m0 : Str → Option Value} {W : Nat} {c : Nat} {elt iter : Expr} {pi pos : Pos} {it acc L : Addr} {R : Result → Shared → Prop}
    (hh : A.handled = none) (H : TabEnv env scope wn) (hg : s.heap.Ns mainGlobals mg) (hns : s.heap.Ns L m0) (hit : IsRangeIter s.heap it 0 ((W : Int) + 1) 1) (hac : s.heap.PlainList acc #[]) (hW : W ≤ 128)
    (n1 : it ≠ L) (n2 : it ≠ acc) (n3 : acc ≠ L) (g1 : mainGlobals ≠ L) (g2 : mainGlobals ≠ it) (g3 : mainGlobals ≠ acc)
    (helt : ∀ (L : Addr) (m : Str → Option Value) (i : Nat) (t : Tok) (s' : Shared) (Q : Value → Shared → Prop) (E : Value → Shared → Prop), i ≤ W → s'.heap.Ns L m → m "i" = some (.int i t) → s'.heap.Ns mainGlobals mg →
      (∀ k t' x, Q (.ref s'.heap.objs.size) { s' with heap := s'.heap.push { cls := .type "tuple", data := .seq #[.int k t', x] }, toks := s'.toks + c }) → wpAny (model prog w) A (eval elt (cE scope L env)) Q E s')
    (h : ∀ h' m items, h'.Ns L m → h'.PlainList acc items → items.size = W + 1 → (∀ (j : Nat) v, items[j]? = some v → IsPair h' v ∧ v ≠ .ref L) → h'.objs.size = s.heap.objs.size + (W + 1) + 2 →
      (∀ a, a < s.heap.objs.size → a ≠ L → a ≠ it → a ≠ acc → h'.get? a = s.heap.get? a) → R (.ok .next) { s with heap := h', toks := s.toks + (c + 2) * (W + 1) }) :
    codeAny (model prog w) A (.compLoop (.ListComp elt [⟨.Name "i" pi, iter, [], 0⟩] scope pos) 0 (.ref it) (.ref acc) (cE scope L env)) R s := by
  have hL := hns.lt
  have hI : it < s.heap.objs.size := Heap.lt_size hit
  have hA : acc < s.heap.objs.size := by obtain ⟨n, e⟩ := hac; exact Heap.lt_size e
  refine codeAny_compLoop_list (fun n s' => ∃ i h' m items, i ≤ W + 1 ∧ n = W + 1 - i ∧ s' = { s with heap := h', toks := s.toks + (c + 2) * i } ∧ h'.Ns L m ∧ h'.PlainList acc items ∧ items.size = i ∧ (∀ (j : Nat) v, items[j]? = some v → IsPair h' v ∧ v ≠ .ref L ∧ v ≠ .ref it ∧ v ≠ .ref acc) ∧
    h'.objs.size = s.heap.objs.size + i ∧ IsRangeIter h' it (i : Int) ((W : Int) + 1 - i) 1 ∧ (∀ a, a < s.heap.objs.size → a ≠ L → a ≠ it → a ≠ acc → h'.get? a = s.heap.get? a)) ?turn (W + 1) ?start
  case start =>
    exact ⟨0, s.heap, m0, #[], Nat.zero_le _, rfl, rfl, hns, hac, rfl, fun j v e => (by simp at e), rfl, (by simpa using hit), fun _ _ _ _ _ => rfl⟩
  case turn =>
    rintro n s' ⟨i, h', m, items, hi, rfl, rfl, hns', hac', hz, hp, hsz, hit', hold⟩
    have hL' : L < h'.objs.size := by rw [hsz]; exact Nat.lt_of_lt_of_le hL (Nat.le_add_right _ _)
    have hI' : it < h'.objs.size := by rw [hsz]; exact Nat.lt_of_lt_of_le hI (Nat.le_add_right _ _)
    have hA' : acc < h'.objs.size := by rw [hsz]; exact Nat.lt_of_lt_of_le hA (Nat.le_add_right _ _)
    by_cases hend : i = W + 1
    · subst hend
      refine range_end hh hit' (by push_cast; omega) fun h2 hz2 ho2 => ?_
      dsimp only at hz2 ho2
      refine h h2 m items (hns'.at' fun o e => (ho2 L hL').trans e) (hac'.at fun o e => (ho2 acc hA').trans e) hz ?_ (by omega) fun a ha h1 h3 h5 => (ho2 a (by rw [hsz]; exact Nat.lt_of_lt_of_le ha (Nat.le_add_right _ _))).trans (hold a ha h1 h3 h5)
      intro j v hj
      obtain ⟨⟨a, k, t, x, nn, rfl, ha⟩, q1, _, _⟩ := hp j v hj
      exact ⟨⟨a, k, t, x, nn, rfl, (ho2 a (Heap.lt_size ha)).trans ha⟩, q1⟩
    · refine wpAny_pyNext_range_item hit' (by omega) fun h1 hit1 hs1 => ?_
      refine wpAny_assign_Name (wpAny_storeName_local (env := cE scope L env) (hp := by show (scope.kind == .class || (scope.kind == .module && _)) = false; rw [H.kind]; rfl) H.i (hns'.sameBut hs1 (Ne.symm n1)) fun h2 hns2 hs2 => ?_)
      have hg2 : h2.Ns mainGlobals mg := by
        refine hg.at' fun o e => (hs2.2 _ g1).trans ((hs1.2 _ g2).trans ((hold _ (Heap.lt_size e) g1 g2 g3).trans e))
      refine helt L _ i _ _ _ _ (by omega) hns2 (if_pos rfl) hg2 fun k t' x => ?_
      have hz2 : h2.objs.size = s.heap.objs.size + i := by rw [hs2.1, hs1.1, hsz]
      dsimp only
      have hac2 : h2.PlainList acc items := hac'.at fun o e => (hs2.2 _ n3).trans ((hs1.2 _ (Ne.symm n2)).trans e)
      have hfit : items.size ≤ sizeLine := by
        have : sizeLine ≥ 1000 := by decide +kernel
        omega
      refine wpAny_list_append_plain (items := items) (hac2.at fun o e => Heap.get?_push_of_some _ e) (fun h3 hac3 hs3 => ?_) hfit
      dsimp only at hs3 ⊢
      have hL2 : L < h2.objs.size := hns2.lt
      have hpush : ∀ a, a < h2.objs.size → (h2.push { cls := .type "tuple", data := .seq #[.int k t', x] }).get? a = h2.get? a := fun a ha => Heap.get?_push_ne _ _ _ (Nat.ne_of_lt ha)
      have hA2 : acc < h2.objs.size := by rw [hz2]; exact Nat.lt_of_lt_of_le hA (Nat.le_add_right _ _)
      have hI2 : it < h2.objs.size := by rw [hz2]; exact Nat.lt_of_lt_of_le hI (Nat.le_add_right _ _)
      refine ⟨W + 1 - (i + 1), by omega, i + 1, h3, _, items.push (.ref h2.objs.size), by omega, rfl, ?_, (hns2.push _).sameBut hs3 (Ne.symm n3), hac3, by rw [Array.size_push, hz], ?_, ?_, ?_, ?_⟩
      · rw [Nat.mul_add, Nat.mul_one, ← Nat.add_assoc, Nat.add_comm c 2]
        show Shared.mk _ _ _ _ _ = _
        congr 1
        omega
      · intro j v hj
        by_cases hjz : j < items.size
        · rw [Array.getElem?_push_lt hjz] at hj
          obtain ⟨⟨a, k, t, x, nn, rfl, ha⟩, q1, q2, q3⟩ := hp j v (by rw [Array.getElem?_eq_getElem hjz]; exact hj)
          have haL : a ≠ L := fun e => q1 (by rw [e])
          have haI : a ≠ it := fun e => q2 (by rw [e])
          have haA : a ≠ acc := fun e => q3 (by rw [e])
          have ha2 : h2.get? a = _ := (hs2.2 a haL).trans ((hs1.2 a haI).trans ha)
          exact ⟨⟨a, k, t, x, nn, rfl, (hs3.2 a haA).trans ((hpush a (Heap.lt_size ha2)).trans ha2)⟩, q1, q2, q3⟩
        · have hje : j = items.size := by
            have := (Array.getElem?_eq_some_iff.mp hj).1
            rw [Array.size_push] at this
            omega
          subst hje
          rw [Array.getElem?_push_size] at hj
          cases hj
          have n4 : h2.objs.size ≠ acc := Nat.ne_of_gt hA2
          refine ⟨⟨_, k, t', x, _, rfl, (hs3.2 _ n4).trans (Heap.get?_push_size _ rfl)⟩, ?_, ?_, ?_⟩
          · intro e; exact Nat.ne_of_gt hL2 (by injection e)
          · intro e; exact Nat.ne_of_gt hI2 (by injection e)
          · intro e; exact n4 (by injection e)
      · rw [hs3.1, Heap.size_push, hz2]; rfl
      · have e1 : (((i + 1 : Nat) : Int)) = (i : Int) + 1 := by push_cast; rfl
        have e2 : ((W : Int) + 1 - ((i + 1 : Nat) : Int)) = (W : Int) + 1 - i - 1 := by push_cast; omega
        rw [e2, e1]
        exact (hs3.2 it n2).trans ((hpush it hI2).trans ((hs2.2 it n1).trans hit1))
      · intro a ha q1 q2 q3
        exact (hs3.2 a q3).trans ((hpush a (by rw [hz2]; exact Nat.lt_of_lt_of_le ha (Nat.le_add_right _ _))).trans ((hs2.2 a q1).trans ((hs1.2 a q2).trans (hold a ha q1 q2 q3))))

theorem comp_list {env : Env} {scope : Scope} {wn : Str} {mg mb : Str → Option Value} {W : Nat} {tw : Tok} {c : Nat} {elt : Expr} {pi pr pc0 pw pc1 pb px pos : Pos} {k0 k1 : Nat} {Q : Value → Shared → Prop}
    (hh : A.handled = none) (H : TabEnv env scope wn) (hfree : ∀ x ∈ scope.names, x.2 ≠ .free) (hcell : ∀ x ∈ scope.names, x.2 ≠ .cell) (hnames : ∀ x ∈ scope.names, x.2 = .local → scope.names.lookup x.1 = some .local)
    (hm : env.scope.kind = .module) (hl : env.locals = env.globals) (hbi : env.builtins = builtinsNs) (hwn : (wn == ("__debug__" : Str)) = false)
    (hg : s.heap.Ns mainGlobals mg) (hgr : mg "range" = none) (hb : s.heap.Ns builtinsNs mb) (hbr : mb "range" = some (.type "range")) (hw : mg wn = some (.int W tw)) (hW : W ≤ 128)
    (helt : ∀ (L : Addr) (m : Str → Option Value) (i : Nat) (t : Tok) (s' : Shared) (Q : Value → Shared → Prop) (E : Value → Shared → Prop), i ≤ W → s'.heap.Ns L m → m "i" = some (.int i t) → s'.heap.Ns mainGlobals mg →
      (∀ k t' x, Q (.ref s'.heap.objs.size) { s' with heap := s'.heap.push { cls := .type "tuple", data := .seq #[.int k t', x] }, toks := s'.toks + c }) → wpAny (model prog w) A (eval elt (cE scope L env)) Q E s')
    (h : ∀ h' l items ep, h'.get? l = some { cls := .type "list", data := .seq items ep } → items.size = W + 1 → (∀ (j : Nat) v, items[j]? = some v → IsPair h' v) → h'.objs.size = s.heap.objs.size + (W + 1) + 6 →
      (∀ a, a < s.heap.objs.size → h'.get? a = s.heap.get? a) → Q (.ref l) { s with heap := h', toks := s.toks + 4 + (c + 2) * (W + 1) }) :
    wpAny (model prog w) A (eval (.ListComp elt [⟨.Name "i" pi, .Call (.Name "range" pr) [.Constant (.int 0) k0 pc0, .BinOp (.Name wn pw) .Add (.Constant (.int 1) k1 pc1) pb] [] px, [], 0⟩] scope pos) env) Q E s := by
  refine wpAny_ListComp hfree H.kind hnames ?_ (by intro _; rfl)
  refine Call_ (Name_module hm hl (loadGlobal_builtin (by rw [H.glob]; exact hg) hgr (by rw [hbi]; exact hb) hbr ?_))
  refine callWith_type1 (spliced_more (wpAny_Constant_int (spliced_more (wpAny_BinOp (Name_module hm hl (loadGlobal_global (by rw [H.glob]; exact hg) hw (wpAny_Constant_int (add_int (spliced_none ?_)))) hwn))))) (by rfl) (by rw [star_bin]; rfl)
  refine call_range_2 ?_
  refine wpAny_pyIter_range (IsRange.new ..) (small_one (by omega) (by omega) (by omega) (by omega)) ?_
  have hsz : Builtin.Range.rangeSize 0 ((W : Int) + 1) 1 = (W : Int) + 1 := by rw [rangeSize_one]; rw [if_pos (by omega)]; omega
  rw [hsz]
  refine wpAny_newList ?_
  refine wpAny_newFunctionEnv hcell (fun x hx => absurd hx (List.not_mem_nil)) (fun h4 hns4 hs4 => ?_) H.kind
  dsimp only at hs4 hns4 ⊢
  simp only [Option.isSome_some, if_true, Heap.size_push] at hs4 hns4 ⊢
  show codeAny _ _ (.compStart _ 0 _ _ (cE scope (s.heap.objs.size + 1 + 1 + 1) env)) _ _
  -- the four new objects: range, its iterator, the list, the names
  generalize hhp : (((s.heap.push _).push _).push _).push _ = hp at hs4
  have hpz : hp.objs.size = s.heap.objs.size + 4 := by rw [← hhp]; simp only [Heap.size_push]
  have hz4 : h4.objs.size = s.heap.objs.size + 4 := hs4.1.trans hpz
  have hold4 : ∀ a, a < s.heap.objs.size → h4.get? a = s.heap.get? a := fun a ha => by
    rw [hs4.2 a (Nat.ne_of_lt (Nat.lt_add_right 2 (Nat.lt_succ_of_lt ha))), ← hhp]
    rw [Heap.get?_push_ne _ _ _ (by simp only [Heap.size_push]; exact Nat.ne_of_lt (Nat.lt_add_right 2 (Nat.lt_succ_of_lt ha))), Heap.get?_push_ne _ _ _ (by simp only [Heap.size_push]; exact Nat.ne_of_lt (Nat.lt_succ_of_lt (Nat.lt_succ_of_lt ha))),
      Heap.get?_push_ne _ _ _ (by simp only [Heap.size_push]; exact Nat.ne_of_lt (Nat.lt_succ_of_lt ha)), Heap.get?_push_ne _ _ _ (Nat.ne_of_lt ha)]
  have hit4 : IsRangeIter h4 (s.heap.objs.size + 1) 0 ((W : Int) + 1) 1 := by
    refine (hs4.2 _ (Nat.ne_of_lt (Nat.lt_succ_of_lt (Nat.lt_succ_self _)))).trans ?_
    rw [← hhp]
    rw [Heap.get?_push_ne _ _ _ (by simp only [Heap.size_push]; exact Nat.ne_of_lt (Nat.lt_succ_of_lt (Nat.lt_succ_self _))), Heap.get?_push_ne _ _ _ (by simp only [Heap.size_push]; exact Nat.ne_of_lt (Nat.lt_succ_self _)), ← Heap.size_push s.heap]
    exact Heap.get?_push_size _ rfl
  have hac4 : h4.PlainList (s.heap.objs.size + 1 + 1) #[] := by
    refine ⟨0, (hs4.2 _ (Nat.ne_of_lt (Nat.lt_succ_self _))).trans ?_⟩
    rw [← hhp]
    rw [Heap.get?_push_ne _ _ _ (by simp only [Heap.size_push]; exact Nat.ne_of_lt (Nat.lt_succ_self _))]
    refine Eq.trans (congrArg _ ?_) (Heap.get?_push_size _ rfl)
    simp only [Heap.size_push]
  have hgl := hg.lt
  have hg4 : h4.Ns mainGlobals mg := hg.at' fun o e => (hold4 _ hgl).trans e
  have ne1 : ∀ k, mainGlobals ≠ s.heap.objs.size + k := fun k => Nat.ne_of_lt (Nat.lt_of_lt_of_le hgl (Nat.le_add_right _ _))
  have loop : ∀ (Q' : Result → Shared → Prop), (∀ h' m items, h'.Ns (s.heap.objs.size + 1 + 1 + 1) m → h'.PlainList (s.heap.objs.size + 1 + 1) items → items.size = W + 1 → (∀ (j : Nat) v, items[j]? = some v → IsPair h' v ∧ v ≠ .ref (s.heap.objs.size + 1 + 1 + 1)) → h'.objs.size = h4.objs.size + (W + 1) + 2 →
      (∀ a, a < h4.objs.size → a ≠ s.heap.objs.size + 1 + 1 + 1 → a ≠ s.heap.objs.size + 1 → a ≠ s.heap.objs.size + 1 + 1 → h'.get? a = h4.get? a) → Q' (.ok .next) { s with heap := h', toks := s.toks + 1 + 1 + 1 + 1 + (c + 2) * (W + 1) }) →
      codeAny (model prog w) A (.compLoop (.ListComp elt [⟨.Name "i" pi, .Call (.Name "range" pr) [.Constant (.int 0) k0 pc0, .BinOp (.Name wn pw) .Add (.Constant (.int 1) k1 pc1) pb] [] px, [], 0⟩] scope pos) 0 (.ref (s.heap.objs.size + 1)) (.ref (s.heap.objs.size + 1 + 1)) (cE scope (s.heap.objs.size + 1 + 1 + 1) env)) Q' { s with heap := h4, toks := s.toks + 1 + 1 + 1 + 1 } := fun Q' hQ' =>
    comp_loop hh H hg4 hns4 hit4 hac4 hW (Nat.ne_of_lt (Nat.lt_succ_of_lt (Nat.lt_succ_self _))) (Nat.ne_of_lt (Nat.lt_succ_self _)) (Nat.ne_of_lt (Nat.lt_succ_self _)) (ne1 3) (ne1 1) (ne1 2) helt hQ'
  have fin : ∀ (Q' : Result → Shared → Prop), (∀ h' m items, h'.Ns (s.heap.objs.size + 1 + 1 + 1) m → h'.PlainList (s.heap.objs.size + 1 + 1) items → items.size = W + 1 → (∀ (j : Nat) v, items[j]? = some v → IsPair h' v ∧ v ≠ .ref (s.heap.objs.size + 1 + 1 + 1)) → h'.objs.size = h4.objs.size + (W + 1) + 2 →
      (∀ a, a < h4.objs.size → a ≠ s.heap.objs.size + 1 + 1 + 1 → a ≠ s.heap.objs.size + 1 → a ≠ s.heap.objs.size + 1 + 1 → h'.get? a = h4.get? a) → Q' (.ok .next) { s with heap := h', toks := s.toks + 1 + 1 + 1 + 1 + (c + 2) * (W + 1) }) →
      codeAny (model prog w) A (.compStart (.ListComp elt [⟨.Name "i" pi, .Call (.Name "range" pr) [.Constant (.int 0) k0 pc0, .BinOp (.Name wn pw) .Add (.Constant (.int 1) k1 pc1) pb] [] px, [], 0⟩] scope pos) 0 (.ref (s.heap.objs.size + 1)) (.ref (s.heap.objs.size + 1 + 1)) (cE scope (s.heap.objs.size + 1 + 1 + 1) env)) Q' { s with heap := h4, toks := s.toks + 1 + 1 + 1 + 1 } := fun Q' hQ' =>
    codeAny_compStart_list (loop Q' hQ') (wpAny_pyIter_rangeiter hit4 (loop Q' hQ'))
  refine fin _ fun h5 m5 items hns5 hac5 hz5 hp5 hsz5 hold5 => ⟨m5, hns5, fun h6 hs6 => ?_⟩
  obtain ⟨ep, hac5⟩ := hac5
  have hs6' : Heap.SameBut (s.heap.objs.size + 1 + 1 + 1) h5 h6 := hs6
  show Q _ { s with heap := h6, toks := s.toks + 4 + (c + 2) * (W + 1) }
  refine h h6 _ items ep ((hs6'.2 _ (Nat.ne_of_lt (Nat.lt_succ_self _))).trans hac5) hz5 ?_ (by rw [hs6'.1, hsz5, hz4]; omega) fun a ha => ?_
  · intro j v hj
    obtain ⟨⟨a, k, t, x, nn, rfl, ha⟩, q1⟩ := hp5 j v hj
    exact ⟨a, k, t, x, nn, rfl, (hs6'.2 a fun e => q1 (by rw [e])).trans ha⟩
  · have b1 : a ≠ s.heap.objs.size + 1 + 1 + 1 := Nat.ne_of_lt (Nat.lt_add_right 2 (Nat.lt_succ_of_lt ha))
    have b2 : a ≠ s.heap.objs.size + 1 := Nat.ne_of_lt (Nat.lt_succ_of_lt ha)
    have b3 : a ≠ s.heap.objs.size + 1 + 1 := Nat.ne_of_lt (Nat.lt_succ_of_lt (Nat.lt_succ_of_lt ha))
    exact (hs6'.2 a b1).trans ((hold5 a (by rw [hz4]; exact Nat.lt_add_right 4 ha) b1 b2 b3).trans (hold4 a ha))
end
end Mine
end JB6

section JB7
open PySem PySem.W PyProof.Rows PySem.Calls
set_option Elab.async false
set_option maxRecDepth 100000
set_option maxHeartbeats 1000000
namespace Mine
section
variable {prog : Program} {w : World} {A : Around} {E : Value → Shared → Prop} {s : Shared}

theorem star_listcomp {elt gens scope p rest} {env : Env} : starEach (.ListComp elt gens scope p :: rest) env = (false, eval (.ListComp elt gens scope p) env) :: starEach rest env := rfl

theorem table_val {env : Env} {scope : Scope} {wn : Str} {mg mb : Str → Option Value} {W : Nat} {tw : Tok} {c : Nat} {elt : Expr} {pi pr pc0 pw pc1 pb px pos pd pp : Pos} {k0 k1 : Nat} {Q : Value → Shared → Prop}
    (hh : A.handled = none) (H : TabEnv env scope wn) (hfree : ∀ x ∈ scope.names, x.2 ≠ .free) (hcell : ∀ x ∈ scope.names, x.2 ≠ .cell) (hnames : ∀ x ∈ scope.names, x.2 = .local → scope.names.lookup x.1 = some .local)
    (hm : env.scope.kind = .module) (hl : env.locals = env.globals) (hbi : env.builtins = builtinsNs)
    (hg : s.heap.Ns mainGlobals mg) (hgr : mg "range" = none) (hgd : mg "dict" = none) (hb : s.heap.Ns builtinsNs mb) (hbr : mb "range" = some (.type "range")) (hbd : mb "dict" = some (.type "dict")) (hw : mg wn = some (.int W tw)) (hW : W ≤ 128)
    (helt : ∀ (L : Addr) (m : Str → Option Value) (i : Nat) (t : Tok) (s' : Shared) (Q : Value → Shared → Prop) (E : Value → Shared → Prop), i ≤ W → s'.heap.Ns L m → m "i" = some (.int i t) → s'.heap.Ns mainGlobals mg →
      (∀ k t' x, Q (.ref s'.heap.objs.size) { s' with heap := s'.heap.push { cls := .type "tuple", data := .seq #[.int k t', x] }, toks := s'.toks + c }) → wpAny (model prog w) A (eval elt (cE scope L env)) Q E s')
    (h : ∀ h', h'.objs.size = s.heap.objs.size + (W + 13) → (∀ a, a < s.heap.objs.size → h'.get? a = s.heap.get? a) → Q (.ref (s.heap.objs.size + (W + 7))) { s with heap := h', toks := s.toks + (7 + (c + 3) * (W + 1)) }) :
    wpAny (model prog w) A (eval (.Call (.Name "dict" pd) [.ListComp elt [⟨.Name "i" pi, .Call (.Name "range" pr) [.Constant (.int 0) k0 pc0, .BinOp (.Name wn pw) .Add (.Constant (.int 1) k1 pc1) pb] [] px, [], 0⟩] scope pos] [] pp) env) Q E s := by
  refine Call_ (Name_module hm hl (loadGlobal_builtin (by rw [H.glob]; exact hg) hgd (by rw [hbi]; exact hb) hbd ?_))
  refine callWith_type1 (spliced_more ?_ star_listcomp) star_listcomp (by rfl)
  refine comp_list hh H hfree hcell hnames hm hl hbi H.wn hg hgr hb hbr hw hW helt fun h1 l items ep hl1 hz1 hp1 hsz1 ho1 => ?_
  refine spliced_none ?_
  refine dict_of_pairs hh (by omega) hl1 hp1 fun h2 hz2 ho2 => ?_
  dsimp only at hz2 ho2 ⊢
  have e1 : h1.objs.size = s.heap.objs.size + (W + 7) := by omega
  have e2 : s.toks + 4 + (c + 2) * (W + 1) + 3 + items.size = s.toks + (7 + (c + 3) * (W + 1)) := by
    rw [hz1, show c + 3 = (c + 2) + 1 from rfl, Nat.add_mul (c + 2) 1, Nat.one_mul]; omega
  rw [e1, e2]
  refine h h2 (by omega) fun a ha => ?_
  exact (ho2 a (by omega)).trans (ho1 a ha)

section
variable {env : Env} {scope : Scope} {mg : Str → Option Value} {W : Nat} {M : Int} {tw tm : Tok} {wn mn : Str}
theorem elt_im {p0 p1 p2 p3 p4 p5 p6 p7 p8 p9 p10 : Pos} {k1 k2 k3 : Nat} (H : TabEnv env scope wn) (hm : scope.names.lookup mn = some .globalImplicit) (hmd : (mn == ("__debug__" : Str)) = false) (hw : mg wn = some (.int W tw)) (hmx : mg mn = some (.int M tm)) (hW : W ≤ 128)
    (L : Addr) (m : Str → Option Value) (i : Nat) (t : Tok) (s' : Shared) (Q : Value → Shared → Prop) (E : Value → Shared → Prop) (hi : i ≤ W) (hns : s'.heap.Ns L m) (hmi : m "i" = some (.int i t)) (hg : s'.heap.Ns mainGlobals mg)
    (h : ∀ k t' x, Q (.ref s'.heap.objs.size) { s' with heap := s'.heap.push { cls := .type "tuple", data := .seq #[.int k t', x] }, toks := s'.toks + 6 }) :
    wpAny (model prog w) A (eval (.Tuple [.Name "i" p9, .BinOp (.Name mn p0) .BitXor (.BinOp (.BinOp (.Constant (.int 2) k1 p1) .Pow (.BinOp (.Name wn p2) .Sub (.Name "i" p3) p4) p5) .Sub (.Constant (.int 1) k2 p6) p7) p8] k3 p10) (cE scope L env)) Q E s' := by
  refine Tuple_ (spliced_more (tab_i H hns hmi (spliced_more ?_)))
  refine mask_eval H hm hmd hns hmi hg hw hmx (by omega) (by omega) fun x t1 => spliced_none (wpAny_newTuple ?_)
  exact h _ _ _
theorem elt_mi {p0 p1 p2 p3 p4 p5 p6 p7 p8 p9 p10 : Pos} {k1 k2 k3 : Nat} (H : TabEnv env scope wn) (hm : scope.names.lookup mn = some .globalImplicit) (hmd : (mn == ("__debug__" : Str)) = false) (hw : mg wn = some (.int W tw)) (hmx : mg mn = some (.int M tm)) (hW : W ≤ 128)
    (L : Addr) (m : Str → Option Value) (i : Nat) (t : Tok) (s' : Shared) (Q : Value → Shared → Prop) (E : Value → Shared → Prop) (hi : i ≤ W) (hns : s'.heap.Ns L m) (hmi : m "i" = some (.int i t)) (hg : s'.heap.Ns mainGlobals mg)
    (h : ∀ k t' x, Q (.ref s'.heap.objs.size) { s' with heap := s'.heap.push { cls := .type "tuple", data := .seq #[.int k t', x] }, toks := s'.toks + 6 }) :
    wpAny (model prog w) A (eval (.Tuple [.BinOp (.Name mn p0) .BitXor (.BinOp (.BinOp (.Constant (.int 2) k1 p1) .Pow (.BinOp (.Name wn p2) .Sub (.Name "i" p3) p4) p5) .Sub (.Constant (.int 1) k2 p6) p7) p8, .Name "i" p9] k3 p10) (cE scope L env)) Q E s' := by
  refine Tuple_ (spliced_more ?_)
  refine mask_eval H hm hmd hns hmi hg hw hmx (by omega) (by omega) fun x t1 => spliced_more (tab_i H hns hmi (spliced_none (wpAny_newTuple ?_)))
  exact h _ _ _
theorem elt_hi {p1 p2 p3 p4 p5 p6 p7 p9 p10 : Pos} {k1 k2 k3 : Nat} (H : TabEnv env scope wn) (hw : mg wn = some (.int W tw)) (hW : W ≤ 128)
    (L : Addr) (m : Str → Option Value) (i : Nat) (t : Tok) (s' : Shared) (Q : Value → Shared → Prop) (E : Value → Shared → Prop) (hi : i ≤ W) (hns : s'.heap.Ns L m) (hmi : m "i" = some (.int i t)) (hg : s'.heap.Ns mainGlobals mg)
    (h : ∀ k t' x, Q (.ref s'.heap.objs.size) { s' with heap := s'.heap.push { cls := .type "tuple", data := .seq #[.int k t', x] }, toks := s'.toks + 5 }) :
    wpAny (model prog w) A (eval (.Tuple [.BinOp (.BinOp (.Constant (.int 2) k1 p1) .Pow (.BinOp (.Name wn p2) .Sub (.Name "i" p3) p4) p5) .Sub (.Constant (.int 1) k2 p6) p7, .Name "i" p9] k3 p10) (cE scope L env)) Q E s' := by
  refine Tuple_ (spliced_more ?_)
  refine host_eval H hns hmi hg hw (by omega) (by omega) fun t1 => spliced_more (tab_i H hns hmi (spliced_none (wpAny_newTuple ?_)))
  exact h _ _ _
end
end
end Mine
end JB7

section JB8
open PySem PySem.W PyProof.Rows PySem.Calls
set_option Elab.async false
set_option maxRecDepth 100000
set_option maxHeartbeats 1000000
namespace Mine
noncomputable abbrev pw := PySem.Challenge.pw_az0027_01
noncomputable def env0 : Env := { scope := pw.main.scope, locals := mainNs, globals := mainNs, cells := [], code := .ref 13, frame := some 14 }
noncomputable def B0 : List Stmt := pw.main.body
noncomputable def Γs : Ctx := ⟨.builtin "claim.caller" {}, none, none, [], none⟩
noncomputable def Γ0 : Ctx := ⟨.body B0 env0, none, none, [(.builtin "claim.caller" {}, default)], none⟩
noncomputable def A0 : Around := { handled := none, depth := 800, frames := none, guards := none, units := 100 }
theorem in_A0 : Γ0.In A0 := ⟨rfl, by decide +kernel, fun _ h => (nomatch h), fun _ h => (nomatch h), by decide +kernel⟩

noncomputable def den' : Code → Sem PySem.Fin := Fast.tw11892475500146522536 Fast.tw14364793385576792824
theorem den_eq : denote table = den' := by rw [table_eq_tree, Fast.te14364793385576792824, Fast.te11892475500146522536]; rfl

noncomputable def evP (P : Params) {α : Type} (Γ : Ctx) (t : Sem α) (T : PT) (n k : Nat) : Out α := ev den' ⟨pw, P⟩ noOrc 100000 α Γ default t T n k
theorem evP_good {w : World} {α : Type} (Γ : Ctx) (t : Sem α) (T : PT) (n k : Nat) (S : Shared) (h : Rep T n k S) : Good (model pw w) Γ default t T S (evP w.params Γ t T n k) := by
  have := ev_good (M := model pw w) (orc := noOrc) (st := ⟨pw, w.params⟩) rfl noOrc_ok 100000 α Γ default t T n k S h
  rw [show (model pw w).den = den' from den_eq] at this
  exact this

noncomputable def outT {α : Type} (o : Out α) : PT := @Out.casesOn α (fun _ => PT) o (fun _ _ t _ _ => t) (fun _ _ _ _ _ => .nil) .nil
noncomputable def outN {α : Type} (o : Out α) : Nat := @Out.casesOn α (fun _ => Nat) o (fun _ _ _ n _ => n) (fun _ _ _ _ _ => 0) 0
noncomputable def outK {α : Type} (o : Out α) : Nat := @Out.casesOn α (fun _ => Nat) o (fun _ _ _ _ k => k) (fun _ _ _ _ _ => 0) 0
noncomputable def isNext (o : Out Flow) : Bool := @Out.casesOn Flow (fun _ => Bool) o (fun a _ _ _ _ => @Flow.casesOn (fun _ => Bool) a true false false (fun _ => false)) (fun _ _ _ _ _ => false) false

noncomputable def Chunk (w : World) (t : Sem Flow) (T : PT) (n k : Nat) (T' : PT) (n' k' : Nat) : Prop :=
  ∀ p S, Rep T n k S → Sem.wp (model pw w) Γ0 t (fun f _ S' => f = .next ∧ Rep T' n' k' S' ∧ Stp T T' S S') (fun _ _ _ => False) p S

theorem chunk_ev {w : World} {t : Sem Flow} {T : PT} {n k : Nat} (hat : ∃ q f, t = .at q f) (h : isNext (evP w.params Γ0 t T n k) = true) :
    Chunk w t T n k (outT (evP w.params Γ0 t T n k)) (outN (evP w.params Γ0 t T n k)) (outK (evP w.params Γ0 t T n k)) := by
  intro p S hr
  have g := evP_good (w := w) Γ0 t T n k S hr
  revert h g
  cases e : evP w.params Γ0 t T n k with
  | stuck => intro h; cases h
  | exc => intro h; cases h
  | val a p' T' n' k' =>
    intro h g
    obtain ⟨S', h1, h2, h3⟩ := g
    obtain ⟨q, f, rfl⟩ := hat
    have ha : a = .next := by cases a <;> first | rfl | cases h
    have := h3 (fun f _ S'' => f = .next ∧ Rep T' n' k' S'' ∧ Stp T T' S S'') (fun _ _ _ => False) ⟨ha, h1, h2⟩
    rw [Sem.wp_at] at this ⊢
    exact this

theorem wp_execs_append {M : Model} {Γ : Ctx} {env : Env} {Q : Flow → Pos → Shared → Prop} {E : Value → Pos → Shared → Prop} : ∀ (a b : List Stmt) (p : Pos) (S : Shared),
    Sem.wp M Γ (execs a env) (fun f p' S' => f = .next ∧ Sem.wp M Γ (execs b env) Q E p' S') E p S → Sem.wp M Γ (execs (a ++ b) env) Q E p S
  | [], b, p, S, h => by
    have : execs [] env = pure .next := rfl
    rw [this, Sem.wp_pure'] at h
    exact h.2
  | s :: a, b, p, S, h => by
    rw [List.cons_append, execs_cons, Sem.wp_bind']
    rw [execs_cons, Sem.wp_bind'] at h
    refine Sem.wp_mono M Γ _ (fun f p' S' hf => ?_) (fun _ _ _ x => x) _ _ h
    cases f with
    | next => exact wp_execs_append a b p' S' hf
    | _ => rw [Sem.wp_pure'] at hf; cases hf.1

theorem chunk_append {w : World} {a b : List Stmt} {T T1 T2 : PT} {n n1 n2 k k1 k2 : Nat} (h : Chunk w (execs a env0) T n k T1 n1 k1) (h' : Chunk w (execs b env0) T1 n1 k1 T2 n2 k2) : Chunk w (execs (a ++ b) env0) T n k T2 n2 k2 := by
  intro p S hr
  refine wp_execs_append a b p S ?_
  refine Sem.wp_mono _ _ _ (fun f p' S' hf => ?_) (fun _ _ _ x => x) _ _ (h p S hr)
  obtain ⟨rfl, h1, h2⟩ := hf
  refine ⟨rfl, Sem.wp_mono _ _ _ (fun f p' S'' hf => ?_) (fun _ _ _ x => x) _ _ (h' p' S' h1)⟩
  exact ⟨hf.1, hf.2.1, h2.trans hf.2.2⟩

theorem wp_execs_one {M : Model} {Γ : Ctx} {env : Env} {Q : Flow → Pos → Shared → Prop} {E : Value → Pos → Shared → Prop} {s : Stmt} {p : Pos} {S : Shared} (h : Sem.wp M Γ (exec s env) Q E p S) : Sem.wp M Γ (execs [s] env) Q E p S := by
  rw [execs_cons, Sem.wp_bind']
  refine Sem.wp_mono M Γ _ (fun f p' S' hf => ?_) (fun _ _ _ x => x) _ _ h
  cases f <;> exact hf

/-- what a store at the top leaves, from a value known -/
noncomputable def evStore (P : Params) (x : Str) (pos' : Pos) (v : Value) (T : PT) (n k : Nat) : Out Flow := evP P Γ0 (do standAt pos'; bindName env0 x v; pure .next) T n k

theorem chunk_assign {w : World} {x : Str} {pos' pos : Pos} {value : Expr} {T : PT} {n k n1 k1 : Nat} {v : Value} (hs : swapsWith value (some (.Name x pos')) pos.line env0 = pure false)
    (hv : ∀ S, Rep T n k S → wpAny (model pw w) A0 (eval value env0) (fun v' S' => v' = v ∧ Rep T n1 k1 S' ∧ Stp T T S S') (fun _ _ => False) S)
    (h : isNext (evStore w.params x pos' v T n1 k1) = true) :
    Chunk w (execs [.Assign [.Name x pos'] value pos] env0) T n k (outT (evStore w.params x pos' v T n1 k1)) (outN (evStore w.params x pos' v T n1 k1)) (outK (evStore w.params x pos' v T n1 k1)) := by
  intro p S hr
  refine wp_execs_one ?_
  rw [exec_Assign_Name env0 x pos' value pos hs, Sem.wp_bind', Sem.wp_cmd_standAt, Sem.wp_bind']
  refine Sem.wp_mono _ _ _ (fun v' p' S' hq => ?_) (fun _ _ _ x => x) _ _ (hv S hr Γ0 _ in_A0)
  obtain ⟨rfl, h1, h2⟩ := hq
  refine Sem.wp_mono _ _ _ (fun f p'' S'' hf => ?_) (fun _ _ _ x => x) _ _ (chunk_ev (t := (do standAt pos'; bindName env0 x v'; pure .next)) ⟨_, _, rfl⟩ h p' S' h1)
  exact ⟨hf.1, hf.2.1, h2.trans hf.2.2⟩

/-- a namespace known to the evaluator -/
theorem Rep.ns {T : PT} {n k : Nat} {S : Shared} (h : Rep T n k S) {a : Addr} {o : Obj} {es : Array DictEntry} {ep : Nat} (ho : T.get a = some o) (hd : o.data = .dict es ep)
    (hk : (es.all fun e => match e.key with | .str _ _ => true | _ => false) = true) : S.heap.Ns a (nsFind es) := by
  refine ⟨o, es, ep, h.at_ _ _ ho, hd, ?_, fun _ => rfl⟩
  intro e he
  have := Array.all_eq_true_iff_forall_mem.mp hk e he
  cases q : e.key <;> rw [q] at this <;> first | exact ⟨_, _, rfl⟩ | cases this
end Mine
end JB8

section JB9
open PySem PySem.W PyProof.Rows PySem.Calls
set_option Elab.async false
set_option maxRecDepth 100000
set_option maxHeartbeats 1000000
namespace Mine
noncomputable def T0 (P : Params) : PT := [0, 1, 2, 3, 4, 5, 6, 7, 8, 9, 10].foldl (fun t i => @Option.casesOn Obj (fun _ => PT) ((boot_heap P).get? i) t (fun o => t.put i o)) .nil
theorem foldl_get (h : Heap) : ∀ (l : List Nat) (t : PT) (b : Nat) (x : Obj), (∀ b x, t.get b = some x → h.get? b = some x) →
    (l.foldl (fun t i => @Option.casesOn Obj (fun _ => PT) (h.get? i) t (fun o => t.put i o)) t).get b = some x → h.get? b = some x
  | [], t, b, x, ht, e => ht b x e
  | i :: l, t, b, x, ht, e => by
    refine foldl_get h l _ b x (fun b x e => ?_) e
    dsimp only at e
    cases q : h.get? i with
    | none => rw [q] at e; exact ht b x e
    | some o =>
      rw [q] at e
      rcases PT.get_put t i o b x e with ⟨rfl, rfl⟩ | ⟨_, e⟩
      · exact q
      · exact ht b x e
theorem T0_rep {P : Params} {g : Array GenState} {d : Drawn} {os : OsState} : Rep (T0 P) 11 181 ⟨boot_heap P, g, d, boot_toks, os⟩ where
  size := by show (boot_heap P).objs.size = 11; kernel_rfl
  toks := rfl
  at_ := fun a o h => foldl_get (boot_heap P) _ .nil a o (fun b x e => by rw [PT.get_nil] at e; cases e) h

noncomputable def preT : Sem (Value × Addr) := do
  let code ← moduleCode pw.main
  let frame ← newBodyFrame code mainNs mainNs
  pure (code, frame)
noncomputable def pre (P : Params) : Out (Value × Addr) := evP P Γs preT (T0 P) 11 181
theorem pre_eq (P : Params) : pre P = .val (.ref 13, 14) default (outT (pre P)) 15 187 := by kernel_rfl
noncomputable def T1 (P : Params) : PT := outT (pre P)
noncomputable def cA (P : Params) : Out Flow := evP P Γ0 (execs (B0.take 9) env0) (T1 P) 15 187
end Mine
end JB9

section JB10
open PySem PySem.W PyProof.Rows PySem.Calls
set_option Elab.async false
set_option maxRecDepth 100000
set_option maxHeartbeats 1000000
namespace Mine
noncomputable def dEs (T : PT) (a : Nat) : Array DictEntry := match T.get a with
  | some o => (match o.data with | .dict es _ => es | _ => #[])
  | none => #[]
noncomputable def isD (T : PT) (a : Nat) : Bool := match T.get a with
  | some o => (match o.data with | .dict es _ => es.all (fun e => match e.key with | .str _ _ => true | _ => false) | _ => false)
  | none => false
theorem Rep.dns {T : PT} {n k : Nat} {S : Shared} (h : Rep T n k S) {a : Addr} (hd : isD T a = true) : S.heap.Ns a (nsFind (dEs T a)) := by
  unfold isD at hd
  unfold dEs
  cases q : T.get a with
  | none => rw [q] at hd; cases hd
  | some o =>
    rw [q] at hd
    simp only at hd ⊢
    cases r : o.data <;> rw [r] at hd <;> first | cases hd | skip
    exact h.ns q r hd

noncomputable def getFn (T : PT) (a : Nat) : Option FuncData := match T.get a with
  | some o => (match o.data with | .func fd => some fd | _ => none)
  | none => none
noncomputable def getFields (T : PT) (a : Nat) : Array Value := match T.get a with
  | some o => (match o.data with | .fields vs => vs | _ => #[])
  | none => #[]
theorem getFn_some {T : PT} {a : Nat} {fd : FuncData} (h : getFn T a = some fd) : ∃ o, T.get a = some o ∧ o.data = .func fd := by
  unfold getFn at h
  cases q : T.get a with
  | none => rw [q] at h; cases h
  | some o =>
    rw [q] at h
    simp only at h
    cases r : o.data <;> rw [r] at h <;> first | cases h | skip
    exact ⟨o, rfl, by rw [r]⟩
theorem getFields_at {T : PT} {a i : Nat} {v : Value} (h : (getFields T a)[i]? = some v) : ∃ o vs, T.get a = some o ∧ o.data = .fields vs ∧ vs[i]? = some v := by
  unfold getFields at h
  cases q : T.get a with
  | none => rw [q] at h; simp at h
  | some o =>
    rw [q] at h
    simp only at h
    cases r : o.data <;> rw [r] at h <;> first | (simp at h; done) | skip
    exact ⟨o, _, rfl, r, h⟩

theorem Stp.grow {T : PT} {n k : Nat} {S : Shared} (hr : Rep T n k S) (hT : ∀ a o, T.get a = some o → a < S.heap.objs.size) {h' : Heap} {tk : Nat} (hz : S.heap.objs.size ≤ h'.objs.size) (ho : ∀ a, a < S.heap.objs.size → h'.get? a = S.heap.get? a) :
    Rep T h'.objs.size tk { S with heap := h', toks := tk } ∧ Stp T T S { S with heap := h', toks := tk } :=
  ⟨⟨rfl, rfl, fun a o e => (ho a (hT a o e)).trans (hr.at_ a o e)⟩, ⟨fun _ _ e => e, fun a ha _ => ho a ha, hz, rfl, rfl, rfl⟩⟩
theorem Rep.lt {T : PT} {n k : Nat} {S : Shared} (h : Rep T n k S) (a : Addr) (o : Obj) (e : T.get a = some o) : a < S.heap.objs.size := Heap.lt_size (h.at_ a o e)

noncomputable def fnArgs : Stmt → Arguments
  | .FunctionDef _ a _ _ _ _ _ _ _ _ => a
  | _ => default
noncomputable def asgName : Stmt → Str
  | .Assign (.Name x _ :: _) _ _ => x
  | _ => default
noncomputable def asgPos : Stmt → Pos
  | .Assign (.Name _ p :: _) _ _ => p
  | _ => default

noncomputable def TA (P : Params) : PT := outT (cA P)
noncomputable def fnView (fd : FuncData) : (FuncBody × Scope × Addr × List (Str × Addr) × Str) × (Value × Addr × Arguments × Value × Value) := ((fd.body, fd.scope, fd.globals, fd.closure, fd.qualname), (fd.code, fd.builtins, fd.params, fd.defaults, fd.kwdefaults))
theorem fn41 (P : Params) : (getFn (TA P) 41).map fnView = some ((FuncBody.stmts bytesBody.1, bytesScope.1, 3, [], Str.ofString "bytes_to_bits"), (Value.ref 40, 0, fnArgs (stAt 8), Value.none, Value.none)) := by kernel_rfl
noncomputable def strAt (v : Option Value) (x : Str) : Bool := match v with | some (.str n _) => n == x | _ => false
noncomputable def isRefTo (v : Option Value) (a : Nat) : Bool := match v with | some (.ref b) => Nat.beq b a | _ => false
noncomputable def isTyp (v : Option Value) (a : String) : Bool := match v with | some (.type b) => b == a | _ => false
noncomputable def isIntV (v : Option Value) (i : Int) : Bool := match v with | some (.int j _) => j == i | _ => false
noncomputable def ok9 (T : PT) : Bool := isD T 3 && isD T 0 && isD T 2 && isRefTo (nsFind (dEs T 3) "bytes_to_bits") 41 && (nsFind (dEs T 3) "range").isNone && isTyp (nsFind (dEs T 0) "range") "range" && (nsFind (dEs T 2) "sys.recursionlimit").isNone && strAt (getFields T 40)[1]? "bytes_to_bits"
theorem isRefTo_some {v : Option Value} {a : Nat} (h : isRefTo v a = true) : v = some (.ref a) := by
  unfold isRefTo at h
  split at h
  · rw [Nat.eq_of_beq_eq_true h]
  · cases h
theorem isTyp_some {v : Option Value} {a : String} (h : isTyp v a = true) : v = some (.type a) := by
  unfold isTyp at h
  split at h
  · rw [eq_of_beq h]
  · cases h
theorem isIntV_some {v : Option Value} {i : Int} (h : isIntV v i = true) : ∃ t, v = some (.int i t) := by
  unfold isIntV at h
  split at h
  · exact ⟨_, by rw [eq_of_beq h]⟩
  · cases h
theorem strAt_some {v : Option Value} {x : Str} (h : strAt v x = true) : ∃ t, v = some (.str x t) := by
  unfold strAt at h
  split at h
  · exact ⟨_, by rw [eq_of_beq h]⟩
  · cases h

theorem val9 {w : World} {T : PT} {fd : FuncData} (hok : ok9 T = true) (hfn : getFn T 41 = some fd) (h1 : fd.body = .stmts bytesBody.1) (h2 : fd.scope = bytesScope.1) (h3 : fd.globals = 3) (h4 : fd.closure = []) (h5 : fd.qualname = "bytes_to_bits")
    (h6 : fd.code = .ref 40) (h7 : fd.builtins = 0) (h8 : fd.params = fnArgs (stAt 8)) (h9 : fd.defaults = .none) (h10 : fd.kwdefaults = .none) {p1 p2 : Pos} (S : Shared) (hr : Rep T 42 237 S) :
    wpAny (model pw w) A0 (eval (.Call (.Name "bytes_to_bits" p1) [] [] p2) env0) (fun v S' => v = .ref 43 ∧ Rep T 1329 20215 S' ∧ Stp T T S S') (fun _ _ => False) S := by
  simp only [ok9, Bool.and_eq_true, Option.isNone_iff_eq_none] at hok
  obtain ⟨⟨⟨⟨⟨⟨⟨k3, k0⟩, k2⟩, kf⟩, kr⟩, kb⟩, kl⟩, kc⟩ := hok
  have n3 := hr.dns k3
  have n0 := hr.dns k0
  obtain ⟨o, ho, hd⟩ := getFn_some hfn
  obtain ⟨tq, hq⟩ := strAt_some kc
  obtain ⟨oc, vs, hoc, hdc, hqc⟩ := getFields_at hq
  have hsz : S.heap.objs.size = 42 := hr.size
  refine Call_Name0 (Name_module rfl rfl (loadGlobal_global n3 (isRefTo_some kf) ?_))
  refine callWith_function (o := o) (fd := fd) (evalArgs_nil3 ⟨⟨hr.at_ _ _ ho, hd⟩, ?_⟩)
  obtain ⟨nm, qn, pr, bd, sc, gl, clo, df, kd, doc, pm, an, co, ct, bi⟩ := fd
  simp only at h1 h2 h3 h4 h5 h6 h7 h8 h9 h10
  subst h1 h2 h3 h4 h5 h6 h7 h8 h9 h10
  refine wpAny_call (codeAny_call_function (o := o) (body := bytesBody.1) (by decide +kernel) (hr.at_ _ _ ho) hd rfl rfl rfl ⟨40, oc, vs, tq, rfl, hr.at_ _ _ hoc, hdc, hqc⟩ ?_)
  refine BindsTo.of_eq (binds := []) rfl _ _ _ _ ?_
  refine wpAny_newFunctionEnv (by show ∀ x ∈ bytesScope.1.names, x.2 ≠ NameKind.cell; decide +kernel) (fun x hx => absurd hx List.not_mem_nil) (fun h₀ hns₀ hsb₀ => ⟨(show S.heap.NoLimit from ⟨_, hr.dns k2, kl⟩).fresh _ hsb₀, codeAny_func ?_⟩) rfl
  dsimp only at hns₀ hsb₀ ⊢
  have hz0 : h₀.objs.size = 43 := by rw [hsb₀.1, Heap.size_push, hsz]
  have ho0 : ∀ a, a < S.heap.objs.size → h₀.get? a = S.heap.get? a := fun a ha => (hsb₀.2 a (Nat.ne_of_lt ha)).trans (Heap.get?_push_ne _ _ _ (Nat.ne_of_lt ha))
  have g3 : h₀.Ns mainGlobals (nsFind (dEs T 3)) := n3.at' fun o e => (ho0 _ n3.lt).trans e
  have g0 : h₀.Ns builtinsNs (nsFind (dEs T 0)) := n0.at' fun o e => (ho0 _ n0.lt).trans e
  show wpAny _ _ (execs bytesBody.1 (bEnv S.heap.objs.size (.ref 40))) _ _ { S with heap := h₀, toks := S.toks + 0 }
  refine bytes_body rfl hns₀ g3 kr g0 (isTyp_some kb) (by rw [hsz]; decide) (by rw [hsz]; decide) fun h' hz' ho' => ?_
  dsimp only at hz' ho' ⊢
  rw [hz0] at hz'
  have fin := Stp.grow hr hr.lt (h' := h') (tk := S.toks + 0 + 19978) (by rw [hz', hsz]; decide) (fun a ha => (ho' a (by rw [hz0]; omega) (Nat.ne_of_lt ha)).trans (ho0 a ha))
  refine ⟨by rw [hz0], ?_, fin.2⟩
  have := fin.1
  rw [hz', show S.toks + 0 + 19978 = 20215 by rw [hr.toks]] at this
  rw [show S.toks + 0 + 19978 = 20215 by rw [hr.toks]]
  exact this
end Mine
end JB10

section JB12
open PySem PySem.W PyProof.Rows PySem.Calls
set_option Elab.async false
set_option maxRecDepth 100000
set_option maxHeartbeats 1000000
namespace Mine
noncomputable def okTab (T : PT) (wn mn : Str) (W : Int) : Bool := isD T 3 && isD T 0 && (nsFind (dEs T 3) "range").isNone && (nsFind (dEs T 3) "dict").isNone && isTyp (nsFind (dEs T 0) "range") "range" && isTyp (nsFind (dEs T 0) "dict") "dict" && isIntV (nsFind (dEs T 3) wn) W &&
  (match nsFind (dEs T 3) mn with | some (.int _ _) => true | _ => false)

theorem tabval {w : World} {T : PT} {n k : Nat} {wn mn : Str} {W c : Nat} {scope : Scope} {elt : Expr} {pi pr pc0 pw pc1 pb px pos pd pp : Pos} {k0 k1 : Nat} (hok : okTab T wn mn (W : Int) = true) (H : TabEnv env0 scope wn)
    (hfree : ∀ x ∈ scope.names, x.2 ≠ .free) (hcell : ∀ x ∈ scope.names, x.2 ≠ .cell) (hnames : ∀ x ∈ scope.names, x.2 = .local → scope.names.lookup x.1 = some .local) (hW : W ≤ 128)
    (helt : ∀ (mg : Str → Option Value) (tw : Tok) (M : Int) (tm : Tok), mg wn = some (.int W tw) → mg mn = some (.int M tm) → ∀ (L : Addr) (m : Str → Option Value) (i : Nat) (t : Tok) (s' : Shared) (Q : Value → Shared → Prop) (E : Value → Shared → Prop), i ≤ W → s'.heap.Ns L m → m "i" = some (.int i t) → s'.heap.Ns mainGlobals mg →
      (∀ k t' x, Q (.ref s'.heap.objs.size) { s' with heap := s'.heap.push { cls := .type "tuple", data := .seq #[.int k t', x] }, toks := s'.toks + c }) → wpAny (model Mine.pw w) A0 (eval elt (cE scope L env0)) Q E s')
    (S : Shared) (hr : Rep T n k S) :
    wpAny (model Mine.pw w) A0 (eval (.Call (.Name "dict" pd) [.ListComp elt [⟨.Name "i" pi, .Call (.Name "range" pr) [.Constant (.int 0) k0 pc0, .BinOp (.Name wn pw) .Add (.Constant (.int 1) k1 pc1) pb] [] px, [], 0⟩] scope pos] [] pp) env0)
      (fun v S' => v = .ref (n + (W + 7)) ∧ Rep T (n + (W + 13)) (k + (7 + (c + 3) * (W + 1))) S' ∧ Stp T T S S') (fun _ _ => False) S := by
  simp only [okTab, Bool.and_eq_true, Option.isNone_iff_eq_none] at hok
  obtain ⟨⟨⟨⟨⟨⟨⟨k3, k0'⟩, kr⟩, kd⟩, kbr⟩, kbd⟩, kw⟩, km⟩ := hok
  obtain ⟨tw, hw⟩ := isIntV_some kw
  obtain ⟨M, tm, hm⟩ : ∃ M tm, nsFind (dEs T 3) mn = some (.int M tm) := by
    revert km
    split
    · intro _; exact ⟨_, _, by assumption⟩
    · intro h; cases h
  refine table_val rfl H hfree hcell hnames rfl rfl rfl (hr.dns k3) kr kd (hr.dns k0') (isTyp_some kbr) (isTyp_some kbd) hw hW (helt _ tw M tm hw hm) fun h' hz ho => ?_
  have fin := Stp.grow hr hr.lt (h' := h') (tk := S.toks + (7 + (c + 3) * (W + 1))) (by rw [hz]; exact Nat.le_add_right _ _) ho
  have e1 := hr.size
  have e2 := hr.toks
  refine ⟨by rw [e1], ?_, fin.2⟩
  have := fin.1
  rw [hz, e1, e2] at this
  rw [e2]
  exact this

noncomputable def l31 : { l : Stmt // l = stAt 31 } := ⟨_, by conv => rhs; whnf⟩
noncomputable def l32 : { l : Stmt // l = stAt 32 } := ⟨_, by conv => rhs; whnf⟩
noncomputable def l33 : { l : Stmt // l = stAt 33 } := ⟨_, by conv => rhs; whnf⟩
noncomputable def l56 : { l : Stmt // l = stAt 56 } := ⟨_, by conv => rhs; whnf⟩
noncomputable def l57 : { l : Stmt // l = stAt 57 } := ⟨_, by conv => rhs; whnf⟩
noncomputable def l58 : { l : Stmt // l = stAt 58 } := ⟨_, by conv => rhs; whnf⟩

theorem chunk9 {w : World} {T : PT} (hok : ok9 T = true) (hfn : (getFn T 41).map fnView = some ((FuncBody.stmts bytesBody.1, bytesScope.1, 3, [], Str.ofString "bytes_to_bits"), (Value.ref 40, 0, fnArgs (stAt 8), Value.none, Value.none)))
    (h : isNext (evStore w.params (asgName (stAt 9)) (asgPos (stAt 9)) (.ref 43) T 1329 20215) = true) :
    Chunk w (execs [stAt 9] env0) T 42 237 (outT (evStore w.params (asgName (stAt 9)) (asgPos (stAt 9)) (.ref 43) T 1329 20215)) (outN (evStore w.params (asgName (stAt 9)) (asgPos (stAt 9)) (.ref 43) T 1329 20215)) (outK (evStore w.params (asgName (stAt 9)) (asgPos (stAt 9)) (.ref 43) T 1329 20215)) := by
  obtain ⟨fd, hfd, hv⟩ := Option.map_eq_some_iff.mp hfn
  simp only [fnView, Prod.mk.injEq] at hv
  obtain ⟨⟨a1, a2, a3, a4, a5⟩, a6, a7, a8, a9, a10⟩ := hv
  exact chunk_assign rfl (fun S hr => val9 hok hfd a1 a2 a3 a4 a5 a6 a7 a8 a9 a10 S hr) h

theorem chunk31 {w : World} {T : PT} {n k : Nat} (hok : okTab T "width_ipv4" "max_int_ipv4" ((32 : Nat) : Int) = true)
    (h : isNext (evStore w.params (asgName (stAt 31)) (asgPos (stAt 31)) (.ref (n + (32 + 7))) T (n + (32 + 13)) (k + (7 + (6 + 3) * (32 + 1)))) = true) :
    Chunk w (execs [stAt 31] env0) T n k (outT (evStore w.params (asgName (stAt 31)) (asgPos (stAt 31)) (.ref (n + (32 + 7))) T (n + (32 + 13)) (k + (7 + (6 + 3) * (32 + 1)))))
      (outN (evStore w.params (asgName (stAt 31)) (asgPos (stAt 31)) (.ref (n + (32 + 7))) T (n + (32 + 13)) (k + (7 + (6 + 3) * (32 + 1))))) (outK (evStore w.params (asgName (stAt 31)) (asgPos (stAt 31)) (.ref (n + (32 + 7))) T (n + (32 + 13)) (k + (7 + (6 + 3) * (32 + 1))))) := by
  show Chunk w (execs [stAt 31] env0) _ _ _ _ _ _
  rw [← l31.2] at h ⊢
  unfold l31 at h ⊢
  dsimp only at h ⊢
  refine chunk_assign rfl (fun S hr => ?_) h
  refine tabval (W := 32) (c := 6) hok ?H ?_ ?_ ?_ (by decide) ?_ S hr
  case H => exact ⟨rfl, rfl, rfl, rfl, by decide⟩
  · decide
  · decide
  · decide
  · exact fun mg tw M tm hw hm => elt_im ⟨rfl, rfl, rfl, rfl, by decide⟩ rfl (by decide) hw hm (by decide)

theorem chunk32 {w : World} {T : PT} {n k : Nat} (hok : okTab T "width_ipv4" "max_int_ipv4" ((32 : Nat) : Int) = true)
    (h : isNext (evStore w.params (asgName (stAt 32)) (asgPos (stAt 32)) (.ref (n + (32 + 7))) T (n + (32 + 13)) (k + (7 + (6 + 3) * (32 + 1)))) = true) :
    Chunk w (execs [stAt 32] env0) T n k (outT (evStore w.params (asgName (stAt 32)) (asgPos (stAt 32)) (.ref (n + (32 + 7))) T (n + (32 + 13)) (k + (7 + (6 + 3) * (32 + 1)))))
      (outN (evStore w.params (asgName (stAt 32)) (asgPos (stAt 32)) (.ref (n + (32 + 7))) T (n + (32 + 13)) (k + (7 + (6 + 3) * (32 + 1))))) (outK (evStore w.params (asgName (stAt 32)) (asgPos (stAt 32)) (.ref (n + (32 + 7))) T (n + (32 + 13)) (k + (7 + (6 + 3) * (32 + 1))))) := by
  show Chunk w (execs [stAt 32] env0) _ _ _ _ _ _
  rw [← l32.2] at h ⊢
  unfold l32 at h ⊢
  dsimp only at h ⊢
  refine chunk_assign rfl (fun S hr => ?_) h
  refine tabval (W := 32) (c := 6) hok ?H ?_ ?_ ?_ (by decide) ?_ S hr
  case H => exact ⟨rfl, rfl, rfl, rfl, by decide⟩
  · decide
  · decide
  · decide
  · exact fun mg tw M tm hw hm => elt_mi ⟨rfl, rfl, rfl, rfl, by decide⟩ rfl (by decide) hw hm (by decide)

theorem chunk33 {w : World} {T : PT} {n k : Nat} (hok : okTab T "width_ipv4" "max_int_ipv4" ((32 : Nat) : Int) = true)
    (h : isNext (evStore w.params (asgName (stAt 33)) (asgPos (stAt 33)) (.ref (n + (32 + 7))) T (n + (32 + 13)) (k + (7 + (5 + 3) * (32 + 1)))) = true) :
    Chunk w (execs [stAt 33] env0) T n k (outT (evStore w.params (asgName (stAt 33)) (asgPos (stAt 33)) (.ref (n + (32 + 7))) T (n + (32 + 13)) (k + (7 + (5 + 3) * (32 + 1)))))
      (outN (evStore w.params (asgName (stAt 33)) (asgPos (stAt 33)) (.ref (n + (32 + 7))) T (n + (32 + 13)) (k + (7 + (5 + 3) * (32 + 1))))) (outK (evStore w.params (asgName (stAt 33)) (asgPos (stAt 33)) (.ref (n + (32 + 7))) T (n + (32 + 13)) (k + (7 + (5 + 3) * (32 + 1))))) := by
  show Chunk w (execs [stAt 33] env0) _ _ _ _ _ _
  rw [← l33.2] at h ⊢
  unfold l33 at h ⊢
  dsimp only at h ⊢
  refine chunk_assign rfl (fun S hr => ?_) h
  refine tabval (W := 32) (c := 5) hok ?H ?_ ?_ ?_ (by decide) ?_ S hr
  case H => exact ⟨rfl, rfl, rfl, rfl, by decide⟩
  · decide
  · decide
  · decide
  · exact fun mg tw M tm hw hm => elt_hi ⟨rfl, rfl, rfl, rfl, by decide⟩ hw (by decide)

theorem chunk56 {w : World} {T : PT} {n k : Nat} (hok : okTab T "width_ipv6" "max_int_ipv6" ((128 : Nat) : Int) = true)
    (h : isNext (evStore w.params (asgName (stAt 56)) (asgPos (stAt 56)) (.ref (n + (128 + 7))) T (n + (128 + 13)) (k + (7 + (6 + 3) * (128 + 1)))) = true) :
    Chunk w (execs [stAt 56] env0) T n k (outT (evStore w.params (asgName (stAt 56)) (asgPos (stAt 56)) (.ref (n + (128 + 7))) T (n + (128 + 13)) (k + (7 + (6 + 3) * (128 + 1)))))
      (outN (evStore w.params (asgName (stAt 56)) (asgPos (stAt 56)) (.ref (n + (128 + 7))) T (n + (128 + 13)) (k + (7 + (6 + 3) * (128 + 1))))) (outK (evStore w.params (asgName (stAt 56)) (asgPos (stAt 56)) (.ref (n + (128 + 7))) T (n + (128 + 13)) (k + (7 + (6 + 3) * (128 + 1))))) := by
  show Chunk w (execs [stAt 56] env0) _ _ _ _ _ _
  rw [← l56.2] at h ⊢
  unfold l56 at h ⊢
  dsimp only at h ⊢
  refine chunk_assign rfl (fun S hr => ?_) h
  refine tabval (W := 128) (c := 6) hok ?H ?_ ?_ ?_ (by decide) ?_ S hr
  case H => exact ⟨rfl, rfl, rfl, rfl, by decide⟩
  · decide
  · decide
  · decide
  · exact fun mg tw M tm hw hm => elt_im ⟨rfl, rfl, rfl, rfl, by decide⟩ rfl (by decide) hw hm (by decide)

theorem chunk57 {w : World} {T : PT} {n k : Nat} (hok : okTab T "width_ipv6" "max_int_ipv6" ((128 : Nat) : Int) = true)
    (h : isNext (evStore w.params (asgName (stAt 57)) (asgPos (stAt 57)) (.ref (n + (128 + 7))) T (n + (128 + 13)) (k + (7 + (6 + 3) * (128 + 1)))) = true) :
    Chunk w (execs [stAt 57] env0) T n k (outT (evStore w.params (asgName (stAt 57)) (asgPos (stAt 57)) (.ref (n + (128 + 7))) T (n + (128 + 13)) (k + (7 + (6 + 3) * (128 + 1)))))
      (outN (evStore w.params (asgName (stAt 57)) (asgPos (stAt 57)) (.ref (n + (128 + 7))) T (n + (128 + 13)) (k + (7 + (6 + 3) * (128 + 1))))) (outK (evStore w.params (asgName (stAt 57)) (asgPos (stAt 57)) (.ref (n + (128 + 7))) T (n + (128 + 13)) (k + (7 + (6 + 3) * (128 + 1))))) := by
  show Chunk w (execs [stAt 57] env0) _ _ _ _ _ _
  rw [← l57.2] at h ⊢
  unfold l57 at h ⊢
  dsimp only at h ⊢
  refine chunk_assign rfl (fun S hr => ?_) h
  refine tabval (W := 128) (c := 6) hok ?H ?_ ?_ ?_ (by decide) ?_ S hr
  case H => exact ⟨rfl, rfl, rfl, rfl, by decide⟩
  · decide
  · decide
  · decide
  · exact fun mg tw M tm hw hm => elt_mi ⟨rfl, rfl, rfl, rfl, by decide⟩ rfl (by decide) hw hm (by decide)

theorem chunk58 {w : World} {T : PT} {n k : Nat} (hok : okTab T "width_ipv6" "max_int_ipv6" ((128 : Nat) : Int) = true)
    (h : isNext (evStore w.params (asgName (stAt 58)) (asgPos (stAt 58)) (.ref (n + (128 + 7))) T (n + (128 + 13)) (k + (7 + (5 + 3) * (128 + 1)))) = true) :
    Chunk w (execs [stAt 58] env0) T n k (outT (evStore w.params (asgName (stAt 58)) (asgPos (stAt 58)) (.ref (n + (128 + 7))) T (n + (128 + 13)) (k + (7 + (5 + 3) * (128 + 1)))))
      (outN (evStore w.params (asgName (stAt 58)) (asgPos (stAt 58)) (.ref (n + (128 + 7))) T (n + (128 + 13)) (k + (7 + (5 + 3) * (128 + 1))))) (outK (evStore w.params (asgName (stAt 58)) (asgPos (stAt 58)) (.ref (n + (128 + 7))) T (n + (128 + 13)) (k + (7 + (5 + 3) * (128 + 1))))) := by
  show Chunk w (execs [stAt 58] env0) _ _ _ _ _ _
  rw [← l58.2] at h ⊢
  unfold l58 at h ⊢
  dsimp only at h ⊢
  refine chunk_assign rfl (fun S hr => ?_) h
  refine tabval (W := 128) (c := 5) hok ?H ?_ ?_ ?_ (by decide) ?_ S hr
  case H => exact ⟨rfl, rfl, rfl, rfl, by decide⟩
  · decide
  · decide
  · decide
  · exact fun mg tw M tm hw hm => elt_hi ⟨rfl, rfl, rfl, rfl, by decide⟩ hw (by decide)
end Mine
end JB12

section JC1
open PySem PySem.W PyProof.Rows PySem.Calls
set_option Elab.async false
set_option maxRecDepth 100000
set_option maxHeartbeats 1000000
namespace Mine
noncomputable abbrev pwBody : List Stmt := PySem.Challenge.pw_az0027_01.main.body
noncomputable def sAt (l : List Stmt) (i : Nat) : Stmt := l[i]?.getD (.Pass default)
noncomputable def bodyOf : Stmt → List Stmt
  | .FunctionDef _ _ b .. => b
  | .ClassDef _ _ _ b .. => b
  | _ => []
noncomputable def paramsOf : Stmt → Arguments
  | .FunctionDef _ a .. => a
  | _ => ⟨[], [], none, [], [], none, []⟩
noncomputable def scopeOf : Stmt → Scope
  | .FunctionDef _ _ _ _ _ _ sc .. => sc
  | _ => default
noncomputable def fp2212 : {x : Arguments // x = paramsOf (sAt (bodyOf (sAt pwBody 74)) 0)} := ⟨_, by conv => rhs; whnf⟩
noncomputable def fb2212 : {x : List Stmt // x = bodyOf (sAt (bodyOf (sAt pwBody 74)) 0)} := ⟨_, by conv => rhs; whnf⟩
noncomputable def fs2212 : {x : Scope // x = scopeOf (sAt (bodyOf (sAt pwBody 74)) 0)} := ⟨_, by conv => rhs; whnf⟩
noncomputable def fp2338 : {x : Arguments // x = paramsOf (sAt (bodyOf (sAt pwBody 75)) 0)} := ⟨_, by conv => rhs; whnf⟩
noncomputable def fb2338 : {x : List Stmt // x = bodyOf (sAt (bodyOf (sAt pwBody 75)) 0)} := ⟨_, by conv => rhs; whnf⟩
noncomputable def fs2338 : {x : Scope // x = scopeOf (sAt (bodyOf (sAt pwBody 75)) 0)} := ⟨_, by conv => rhs; whnf⟩
noncomputable def fp2642 : {x : Arguments // x = paramsOf (sAt (bodyOf (sAt pwBody 78)) 0)} := ⟨_, by conv => rhs; whnf⟩
noncomputable def fb2642 : {x : List Stmt // x = bodyOf (sAt (bodyOf (sAt pwBody 78)) 0)} := ⟨_, by conv => rhs; whnf⟩
noncomputable def fs2642 : {x : Scope // x = scopeOf (sAt (bodyOf (sAt pwBody 78)) 0)} := ⟨_, by conv => rhs; whnf⟩
noncomputable def fp2624 : {x : Arguments // x = paramsOf (sAt pwBody 77)} := ⟨_, by conv => rhs; whnf⟩
noncomputable def fb2624 : {x : List Stmt // x = bodyOf (sAt pwBody 77)} := ⟨_, by conv => rhs; whnf⟩
noncomputable def fs2624 : {x : Scope // x = scopeOf (sAt pwBody 77)} := ⟨_, by conv => rhs; whnf⟩
noncomputable def fp2776 : {x : Arguments // x = paramsOf (sAt (bodyOf (sAt pwBody 78)) 17)} := ⟨_, by conv => rhs; whnf⟩
noncomputable def fb2776 : {x : List Stmt // x = bodyOf (sAt (bodyOf (sAt pwBody 78)) 17)} := ⟨_, by conv => rhs; whnf⟩
noncomputable def fs2776 : {x : Scope // x = scopeOf (sAt (bodyOf (sAt pwBody 78)) 17)} := ⟨_, by conv => rhs; whnf⟩
noncomputable def fp2790 : {x : Arguments // x = paramsOf (sAt (bodyOf (sAt pwBody 78)) 19)} := ⟨_, by conv => rhs; whnf⟩
noncomputable def fb2790 : {x : List Stmt // x = bodyOf (sAt (bodyOf (sAt pwBody 78)) 19)} := ⟨_, by conv => rhs; whnf⟩
noncomputable def fs2790 : {x : Scope // x = scopeOf (sAt (bodyOf (sAt pwBody 78)) 19)} := ⟨_, by conv => rhs; whnf⟩
noncomputable def fp2980 : {x : Arguments // x = paramsOf (sAt pwBody 84)} := ⟨_, by conv => rhs; whnf⟩
noncomputable def fb2980 : {x : List Stmt // x = bodyOf (sAt pwBody 84)} := ⟨_, by conv => rhs; whnf⟩
noncomputable def fs2980 : {x : Scope // x = scopeOf (sAt pwBody 84)} := ⟨_, by conv => rhs; whnf⟩
noncomputable def fp2985 : {x : Arguments // x = paramsOf (sAt pwBody 85)} := ⟨_, by conv => rhs; whnf⟩
noncomputable def fb2985 : {x : List Stmt // x = bodyOf (sAt pwBody 85)} := ⟨_, by conv => rhs; whnf⟩
noncomputable def fs2985 : {x : Scope // x = scopeOf (sAt pwBody 85)} := ⟨_, by conv => rhs; whnf⟩
noncomputable def fp2990 : {x : Arguments // x = paramsOf (sAt pwBody 86)} := ⟨_, by conv => rhs; whnf⟩
noncomputable def fb2990 : {x : List Stmt // x = bodyOf (sAt pwBody 86)} := ⟨_, by conv => rhs; whnf⟩
noncomputable def fs2990 : {x : Scope // x = scopeOf (sAt pwBody 86)} := ⟨_, by conv => rhs; whnf⟩
noncomputable def fp2995 : {x : Arguments // x = paramsOf (sAt pwBody 88)} := ⟨_, by conv => rhs; whnf⟩
noncomputable def fb2995 : {x : List Stmt // x = bodyOf (sAt pwBody 88)} := ⟨_, by conv => rhs; whnf⟩
noncomputable def fs2995 : {x : Scope // x = scopeOf (sAt pwBody 88)} := ⟨_, by conv => rhs; whnf⟩
noncomputable def fp2313 : {x : Arguments // x = paramsOf (sAt (bodyOf (sAt pwBody 74)) 14)} := ⟨_, by conv => rhs; whnf⟩
noncomputable def fb2313 : {x : List Stmt // x = bodyOf (sAt (bodyOf (sAt pwBody 74)) 14)} := ⟨_, by conv => rhs; whnf⟩
noncomputable def fs2313 : {x : Scope // x = scopeOf (sAt (bodyOf (sAt pwBody 74)) 14)} := ⟨_, by conv => rhs; whnf⟩
noncomputable def fp2656 : {x : Arguments // x = paramsOf (sAt (bodyOf (sAt pwBody 78)) 2)} := ⟨_, by conv => rhs; whnf⟩
noncomputable def fb2656 : {x : List Stmt // x = bodyOf (sAt (bodyOf (sAt pwBody 78)) 2)} := ⟨_, by conv => rhs; whnf⟩
noncomputable def fs2656 : {x : Scope // x = scopeOf (sAt (bodyOf (sAt pwBody 78)) 2)} := ⟨_, by conv => rhs; whnf⟩
noncomputable def fp2681 : {x : Arguments // x = paramsOf (sAt (bodyOf (sAt pwBody 78)) 5)} := ⟨_, by conv => rhs; whnf⟩
noncomputable def fb2681 : {x : List Stmt // x = bodyOf (sAt (bodyOf (sAt pwBody 78)) 5)} := ⟨_, by conv => rhs; whnf⟩
noncomputable def fs2681 : {x : Scope // x = scopeOf (sAt (bodyOf (sAt pwBody 78)) 5)} := ⟨_, by conv => rhs; whnf⟩
noncomputable def fp2697 : {x : Arguments // x = paramsOf (sAt (bodyOf (sAt pwBody 78)) 7)} := ⟨_, by conv => rhs; whnf⟩
noncomputable def fb2697 : {x : List Stmt // x = bodyOf (sAt (bodyOf (sAt pwBody 78)) 7)} := ⟨_, by conv => rhs; whnf⟩
noncomputable def fs2697 : {x : Scope // x = scopeOf (sAt (bodyOf (sAt pwBody 78)) 7)} := ⟨_, by conv => rhs; whnf⟩
noncomputable def fp2730 : {x : Arguments // x = paramsOf (sAt (bodyOf (sAt pwBody 78)) 11)} := ⟨_, by conv => rhs; whnf⟩
noncomputable def fb2730 : {x : List Stmt // x = bodyOf (sAt (bodyOf (sAt pwBody 78)) 11)} := ⟨_, by conv => rhs; whnf⟩
noncomputable def fs2730 : {x : Scope // x = scopeOf (sAt (bodyOf (sAt pwBody 78)) 11)} := ⟨_, by conv => rhs; whnf⟩
noncomputable def fp2746 : {x : Arguments // x = paramsOf (sAt (bodyOf (sAt pwBody 78)) 13)} := ⟨_, by conv => rhs; whnf⟩
noncomputable def fb2746 : {x : List Stmt // x = bodyOf (sAt (bodyOf (sAt pwBody 78)) 13)} := ⟨_, by conv => rhs; whnf⟩
noncomputable def fs2746 : {x : Scope // x = scopeOf (sAt (bodyOf (sAt pwBody 78)) 13)} := ⟨_, by conv => rhs; whnf⟩
noncomputable def addrsK : List Addr := [2, 3, 1637, 1638, 1643, 1644, 2190, 2191, 2196, 2197, 2211, 2212, 2312, 2313, 2314, 2316, 2317, 2325, 2330, 2331, 2337, 2338, 2564, 2565, 2612, 2613, 2616, 2617, 2623, 2624, 2628, 2633, 2634, 2635, 2641, 2642, 2655, 2656, 2666, 2680, 2681, 2682, 2696, 2697, 2698, 2729, 2730, 2731, 2745, 2746, 2747, 2775, 2776, 2789, 2790, 2867, 2868, 2945, 2946, 2979, 2980, 2984, 2985, 2989, 2990, 2994, 2995]
noncomputable def K : Params → Frag := fun P =>
  (nat_lit 2, ⟨.none, none, .dict [⟨PyData.keyHash P "type.__subclasses__.Exception.0", .str "type.__subclasses__.Exception.0" 220, .int (31) 0⟩, ⟨PyData.keyHash P "type.__subclasses__.Exception.n", .str "type.__subclasses__.Exception.n" 221, .int (1) 0⟩].toArray 2, [].toArray⟩) ::
  (nat_lit 3, ⟨.type "dict", none, .dict [⟨PyData.keyHash P "__name__", .str "__name__" 165, .str "law_az0027_01" 25910⟩, ⟨PyData.keyHash P "__doc__", .str "__doc__" 166, .none⟩, ⟨PyData.keyHash P "__package__", .str "__package__" 167, .none⟩, ⟨PyData.keyHash P "__loader__", .str "__loader__" 168, .builtin "__main__.__loader__#opaque"⟩, ⟨PyData.keyHash P "__spec__", .str "__spec__" 169, .none⟩, ⟨PyData.keyHash P "__annotations__", .str "__annotations__" 170, .ref 6⟩, ⟨PyData.keyHash P "__builtins__", .str "__builtins__" 171, .ref 4⟩, ⟨PyData.keyHash P "__file__", .str "__file__" 173, .str "/claim/cut.py" 172⟩, ⟨PyData.keyHash P "__cached__", .str "__cached__" 174, .none⟩, ⟨PyData.keyHash P "_wall", .str "_wall" 193, .ref 21⟩, ⟨PyData.keyHash P "INET_PTON", .str "INET_PTON" 197, .int (1) 196⟩, ⟨PyData.keyHash P "ZEROFILL", .str "ZEROFILL" 199, .int (2) 198⟩, ⟨PyData.keyHash P "NOHOST", .str "NOHOST" 201, .int (4) 200⟩, ⟨PyData.keyHash P "INET_ATON", .str "INET_ATON" 203, .int (8) 202⟩, ⟨PyData.keyHash P "AddrFormatError", .str "AddrFormatError" 223, .ref 31⟩, ⟨PyData.keyHash P "bytes_to_bits", .str "bytes_to_bits" 236, .ref 41⟩, ⟨PyData.keyHash P "BYTES_TO_BITS", .str "BYTES_TO_BITS" 20215, .ref 43⟩, ⟨PyData.keyHash P "int_to_words", .str "int_to_words" 20229, .ref 2114⟩, ⟨PyData.keyHash P "int_to_words_strategy", .str "int_to_words_strategy" 20230, .ref 1335⟩, ⟨PyData.keyHash P "int_to_bits", .str "int_to_bits" 20245, .ref 2122⟩, ⟨PyData.keyHash P "int_to_bits_strategy", .str "int_to_bits_strategy" 20246, .ref 1343⟩, ⟨PyData.keyHash P "AF_INET", .str "AF_INET" 20250, .int (2) 20249⟩, ⟨PyData.keyHash P "AF_INET6", .str "AF_INET6" 20252, .int (10) 20251⟩, ⟨PyData.keyHash P "inet_ntoa", .str "inet_ntoa" 20259, .ref 1350⟩, ⟨PyData.keyHash P "_compact_ipv6_tokens", .str "_compact_ipv6_tokens" 20276, .ref 1357⟩, ⟨PyData.keyHash P "inet_ntop", .str "inet_ntop" 20282, .ref 1362⟩, ⟨PyData.keyHash P "_inet_pton_af_inet", .str "_inet_pton_af_inet" 20288, .ref 1367⟩, ⟨PyData.keyHash P "inet_pton", .str "inet_pton" 20294, .ref 1372⟩, ⟨PyData.keyHash P "_aton_number", .str "_aton_number" 20305, .ref 1379⟩, ⟨PyData.keyHash P "inet_aton", .str "inet_aton" 20316, .ref 1386⟩, ⟨PyData.keyHash P "width_ipv4", .str "width_ipv4" 20320, .int (32) 20319⟩, ⟨PyData.keyHash P "word_size_ipv4", .str "word_size_ipv4" 20322, .int (8) 20321⟩, ⟨PyData.keyHash P "family_name_ipv4", .str "family_name_ipv4" 20324, .str "IPv4" 20323⟩, ⟨PyData.keyHash P "version_ipv4", .str "version_ipv4" 20326, .int (4) 20325⟩, ⟨PyData.keyHash P "max_int_ipv4", .str "max_int_ipv4" 20331, .int (4294967295) 20330⟩, ⟨PyData.keyHash P "num_words_ipv4", .str "num_words_ipv4" 20333, .int (4) 20332⟩, ⟨PyData.keyHash P "prefix_to_netmask_ipv4", .str "prefix_to_netmask_ipv4" 20638, .ref 1426⟩, ⟨PyData.keyHash P "netmask_to_prefix_ipv4", .str "netmask_to_prefix_ipv4" 20943, .ref 1471⟩, ⟨PyData.keyHash P "hostmask_to_prefix_ipv4", .str "hostmask_to_prefix_ipv4" 21215, .ref 1516⟩, ⟨PyData.keyHash P "str_to_int", .str "str_to_int" 21222, .ref 2090⟩, ⟨PyData.keyHash P "str_to_int_ipv4", .str "str_to_int_ipv4" 21223, .ref 1527⟩, ⟨PyData.keyHash P "int_to_str", .str "int_to_str" 21231, .ref 2096⟩, ⟨PyData.keyHash P "int_to_str_ipv4", .str "int_to_str_ipv4" 21232, .ref 1535⟩, ⟨PyData.keyHash P "int_to_packed", .str "int_to_packed" 21239, .ref 2101⟩, ⟨PyData.keyHash P "int_to_packed_ipv4", .str "int_to_packed_ipv4" 21240, .ref 1542⟩, ⟨PyData.keyHash P "int_to_words_ipv4", .str "int_to_words_ipv4" 21248, .ref 1549⟩, ⟨PyData.keyHash P "int_to_bits_ipv4", .str "int_to_bits_ipv4" 21257, .ref 1557⟩, ⟨PyData.keyHash P "expand_partial_address", .str "expand_partial_address" 21263, .ref 1562⟩, ⟨PyData.keyHash P "expand_partial_address_ipv4", .str "expand_partial_address_ipv4" 21264, .ref 1562⟩, ⟨PyData.keyHash P "Ipv4Names", .str "Ipv4Names" 21366, .ref 1638⟩, ⟨PyData.keyHash P "ipv4_ipv4", .str "ipv4_ipv4" 21382, .ref 1644⟩, ⟨PyData.keyHash P "width_ipv6", .str "width_ipv6" 21386, .int (128) 21385⟩, ⟨PyData.keyHash P "word_size_ipv6", .str "word_size_ipv6" 21388, .int (16) 21387⟩, ⟨PyData.keyHash P "word_sep", .str "word_sep" 21390, .str ":" 21389⟩, ⟨PyData.keyHash P "family_name_ipv6", .str "family_name_ipv6" 21392, .str "IPv6" 21391⟩, ⟨PyData.keyHash P "version_ipv6", .str "version_ipv6" 21394, .int (6) 21393⟩, ⟨PyData.keyHash P "max_int_ipv6", .str "max_int_ipv6" 21399, .int (340282366920938463463374607431768211455) 21398⟩, ⟨PyData.keyHash P "num_words_ipv6", .str "num_words_ipv6" 21401, .int (8) 21400⟩, ⟨PyData.keyHash P "prefix_to_netmask_ipv6", .str "prefix_to_netmask_ipv6" 22570, .ref 1781⟩, ⟨PyData.keyHash P "netmask_to_prefix_ipv6", .str "netmask_to_prefix_ipv6" 23739, .ref 1922⟩, ⟨PyData.keyHash P "hostmask_to_prefix_ipv6", .str "hostmask_to_prefix_ipv6" 24779, .ref 2063⟩, ⟨PyData.keyHash P "ipv6_compact", .str "ipv6_compact" 24802, .ref 2078⟩, ⟨PyData.keyHash P "str_to_int_ipv6", .str "str_to_int_ipv6" 24813, .ref 2090⟩, ⟨PyData.keyHash P "int_to_str_ipv6", .str "int_to_str_ipv6" 24820, .ref 2096⟩, ⟨PyData.keyHash P "int_to_packed_ipv6", .str "int_to_packed_ipv6" 24827, .ref 2101⟩, ⟨PyData.keyHash P "packed_to_int", .str "packed_to_int" 24833, .ref 2106⟩, ⟨PyData.keyHash P "int_to_words_ipv6", .str "int_to_words_ipv6" 24843, .ref 2114⟩, ⟨PyData.keyHash P "int_to_bits_ipv6", .str "int_to_bits_ipv6" 24852, .ref 2122⟩, ⟨PyData.keyHash P "Ipv6Names", .str "Ipv6Names" 24946, .ref 2191⟩, ⟨PyData.keyHash P "ipv6_ipv6", .str "ipv6_ipv6" 24962, .ref 2197⟩, ⟨PyData.keyHash P "BaseIP", .str "BaseIP" 25104, .ref 2317⟩, ⟨PyData.keyHash P "IPAddress", .str "IPAddress" 25381, .ref 2565⟩, ⟨PyData.keyHash P "IPListMixin", .str "IPListMixin" 25438, .ref 2613⟩, ⟨PyData.keyHash P "parse_ip_network", .str "parse_ip_network" 25457, .ref 2624⟩, ⟨PyData.keyHash P "IPNetwork", .str "IPNetwork" 25748, .ref 2868⟩, ⟨PyData.keyHash P "IPRange", .str "IPRange" 25841, .ref 2946⟩, ⟨PyData.keyHash P "cidr_partition", .str "cidr_partition" 25858, .ref 2955⟩, ⟨PyData.keyHash P "spanning_cidr", .str "spanning_cidr" 25864, .ref 2960⟩, ⟨PyData.keyHash P "iter_iprange", .str "iter_iprange" 25878, .ref 2968⟩, ⟨PyData.keyHash P "iprange_to_cidrs", .str "iprange_to_cidrs" 25891, .ref 2975⟩, ⟨PyData.keyHash P "smallest_matching_cidr", .str "smallest_matching_cidr" 25897, .ref 2980⟩, ⟨PyData.keyHash P "largest_matching_cidr", .str "largest_matching_cidr" 25903, .ref 2985⟩, ⟨PyData.keyHash P "all_matching_cidrs", .str "all_matching_cidrs" 25909, .ref 2990⟩, ⟨PyData.keyHash P "law", .str "law" 25917, .ref 2995⟩].toArray 84, [].toArray⟩) ::
  (nat_lit 1637, ⟨.type "dict", none, .dict [⟨PyData.keyHash P "__module__", .str "__module__" 21272, .str "netaddr.strategy.ipv4" 20317⟩, ⟨PyData.keyHash P "__firstlineno__", .str "__firstlineno__" 21276, .int (301) 21275⟩, ⟨PyData.keyHash P "__init__", .str "__init__" 21283, .ref 1576⟩, ⟨PyData.keyHash P "str_to_int", .str "str_to_int" 21293, .ref 1584⟩, ⟨PyData.keyHash P "int_to_str", .str "int_to_str" 21302, .ref 1592⟩, ⟨PyData.keyHash P "int_to_arpa", .str "int_to_arpa" 21310, .ref 1599⟩, ⟨PyData.keyHash P "int_to_packed", .str "int_to_packed" 21318, .ref 1606⟩, ⟨PyData.keyHash P "int_to_words", .str "int_to_words" 21326, .ref 1613⟩, ⟨PyData.keyHash P "int_to_bits", .str "int_to_bits" 21335, .ref 1621⟩, ⟨PyData.keyHash P "int_to_bin", .str "int_to_bin" 21343, .ref 1628⟩, ⟨PyData.keyHash P "expand_partial_address", .str "expand_partial_address" 21351, .ref 1635⟩, ⟨PyData.keyHash P "__static_attributes__", .str "__static_attributes__" 21359, .ref 1636⟩, ⟨PyData.keyHash P "__dict__", .str "__dict__" 21361, .ref 1639⟩, ⟨PyData.keyHash P "__weakref__", .str "__weakref__" 21363, .ref 1640⟩, ⟨PyData.keyHash P "__doc__", .str "__doc__" 21364, .none⟩].toArray 4, [].toArray⟩) ::
  (nat_lit 1638, ⟨.type "type", none, .cls ({ name := Str.ofString "Ipv4Names", bases := [Value.type "object"], mro := [Value.ref 1638, Value.type "object"], ns := 1637, qualname := Str.ofString "Ipv4Names" }), [(some (.ref 1563)), none, (some (.str "Ipv4Names" 21265)), (some (.str "Ipv4Names" 21273)), (some (.builtin "object.__new__")), (some (.bool true))].toArray⟩) ::
  (nat_lit 1643, ⟨.type "dict", none, .dict [⟨PyData.keyHash P "width", .str "width" 21369, .int (32) 20319⟩, ⟨PyData.keyHash P "family_name", .str "family_name" 21371, .str "IPv4" 20323⟩, ⟨PyData.keyHash P "version", .str "version" 21373, .int (4) 20325⟩, ⟨PyData.keyHash P "max_int", .str "max_int" 21375, .int (4294967295) 20330⟩, ⟨PyData.keyHash P "prefix_to_netmask", .str "prefix_to_netmask" 21377, .ref 1426⟩, ⟨PyData.keyHash P "netmask_to_prefix", .str "netmask_to_prefix" 21379, .ref 1471⟩, ⟨PyData.keyHash P "hostmask_to_prefix", .str "hostmask_to_prefix" 21381, .ref 1516⟩].toArray 7, [].toArray⟩) ::
  (nat_lit 1644, ⟨.ref 1638, (some 1643), .plain, [].toArray⟩) ::
  (nat_lit 2190, ⟨.type "dict", none, .dict [⟨PyData.keyHash P "__module__", .str "__module__" 24860, .str "netaddr.strategy.ipv6" 21383⟩, ⟨PyData.keyHash P "__firstlineno__", .str "__firstlineno__" 24864, .int (399) 24863⟩, ⟨PyData.keyHash P "__init__", .str "__init__" 24871, .ref 2136⟩, ⟨PyData.keyHash P "str_to_int", .str "str_to_int" 24881, .ref 2144⟩, ⟨PyData.keyHash P "int_to_str", .str "int_to_str" 24890, .ref 2152⟩, ⟨PyData.keyHash P "int_to_arpa", .str "int_to_arpa" 24898, .ref 2159⟩, ⟨PyData.keyHash P "int_to_packed", .str "int_to_packed" 24906, .ref 2166⟩, ⟨PyData.keyHash P "int_to_words", .str "int_to_words" 24914, .ref 2173⟩, ⟨PyData.keyHash P "int_to_bits", .str "int_to_bits" 24923, .ref 2181⟩, ⟨PyData.keyHash P "int_to_bin", .str "int_to_bin" 24931, .ref 2188⟩, ⟨PyData.keyHash P "__static_attributes__", .str "__static_attributes__" 24939, .ref 2189⟩, ⟨PyData.keyHash P "__dict__", .str "__dict__" 24941, .ref 2192⟩, ⟨PyData.keyHash P "__weakref__", .str "__weakref__" 24943, .ref 2193⟩, ⟨PyData.keyHash P "__doc__", .str "__doc__" 24944, .none⟩].toArray 4, [].toArray⟩) ::
  (nat_lit 2191, ⟨.type "type", none, .cls ({ name := Str.ofString "Ipv6Names", bases := [Value.type "object"], mro := [Value.ref 2191, Value.type "object"], ns := 2190, qualname := Str.ofString "Ipv6Names" }), [(some (.ref 2123)), none, (some (.str "Ipv6Names" 24853)), (some (.str "Ipv6Names" 24861)), (some (.builtin "object.__new__")), (some (.bool true))].toArray⟩) ::
  (nat_lit 2196, ⟨.type "dict", none, .dict [⟨PyData.keyHash P "width", .str "width" 24949, .int (128) 21385⟩, ⟨PyData.keyHash P "family_name", .str "family_name" 24951, .str "IPv6" 21391⟩, ⟨PyData.keyHash P "version", .str "version" 24953, .int (6) 21393⟩, ⟨PyData.keyHash P "max_int", .str "max_int" 24955, .int (340282366920938463463374607431768211455) 21398⟩, ⟨PyData.keyHash P "prefix_to_netmask", .str "prefix_to_netmask" 24957, .ref 1781⟩, ⟨PyData.keyHash P "netmask_to_prefix", .str "netmask_to_prefix" 24959, .ref 1922⟩, ⟨PyData.keyHash P "hostmask_to_prefix", .str "hostmask_to_prefix" 24961, .ref 2063⟩].toArray 7, [].toArray⟩) ::
  (nat_lit 2197, ⟨.ref 2191, (some 2196), .plain, [].toArray⟩) ::
  (nat_lit 2211, ⟨.type "code", none, .fields [.str "__init__" 24977, .str "BaseIP.__init__" 24978, .str "/claim/cut.py" 24979, .int (434) 0, .int (1) 0, .int (0) 0, .int (0) 0, .int (3) 0, .ref 2206, .bool true, .int (181) 0, .ref 2207, .none, .ref 2208, .ref 2209, .ref 2210, .int (24981) 0, .int (434) 0, .str "/claim/cut.py" 24982].toArray, [].toArray⟩) ::
  (nat_lit 2212, ⟨.type "function", none, .func ⟨"__init__", "BaseIP.__init__", fp2212.val, .stmts fb2212.val, fs2212.val, 3, [], .none, .none, .none, .str "netaddr.ip" 24963, none, .ref 2211, .none, 0⟩, [].toArray⟩) ::
  (nat_lit 2312, ⟨.type "code", none, .fields [.str "version" 25086, .str "BaseIP.version" 25087, .str "/claim/cut.py" 25088, .int (501) 0, .int (1) 0, .int (0) 0, .int (0) 0, .int (3) 0, .ref 2307, .bool true, .int (181) 0, .ref 2308, .none, .ref 2309, .ref 2310, .ref 2311, .int (25090) 0, .int (501) 0, .str "/claim/cut.py" 25091].toArray, [].toArray⟩) ::
  (nat_lit 2313, ⟨.type "function", none, .func ⟨"version", "BaseIP.version", fp2313.val, .stmts fb2313.val, fs2313.val, 3, [], .none, .none, .none, .str "netaddr.ip" 24963, none, .ref 2312, .none, 0⟩, [].toArray⟩) ::
  (nat_lit 2314, ⟨.type "property", none, .fields [.ref 2313, .none, .none, .none, .str "version" 25093, .bool false].toArray, [].toArray⟩) ::
  (nat_lit 2316, ⟨.type "dict", none, .dict [⟨PyData.keyHash P "__module__", .str "__module__" 24972, .str "netaddr.ip" 24963⟩, ⟨PyData.keyHash P "__firstlineno__", .str "__firstlineno__" 24976, .int (432) 24975⟩, ⟨PyData.keyHash P "__init__", .str "__init__" 24983, .ref 2212⟩, ⟨PyData.keyHash P "_set_value", .str "_set_value" 24991, .ref 2219⟩, ⟨PyData.keyHash P "value", .str "value" 24999, .ref 2236⟩, ⟨PyData.keyHash P "key", .str "key" 25016, .ref 2243⟩, ⟨PyData.keyHash P "sort_key", .str "sort_key" 25023, .ref 2250⟩, ⟨PyData.keyHash P "__eq__", .str "__eq__" 25031, .ref 2257⟩, ⟨PyData.keyHash P "__ne__", .str "__ne__" 25039, .ref 2264⟩, ⟨PyData.keyHash P "__lt__", .str "__lt__" 25047, .ref 2271⟩, ⟨PyData.keyHash P "__le__", .str "__le__" 25055, .ref 2278⟩, ⟨PyData.keyHash P "__gt__", .str "__gt__" 25063, .ref 2285⟩, ⟨PyData.keyHash P "__ge__", .str "__ge__" 25071, .ref 2292⟩, ⟨PyData.keyHash P "is_ipv4_mapped", .str "is_ipv4_mapped" 25078, .ref 2299⟩, ⟨PyData.keyHash P "is_ipv4_compat", .str "is_ipv4_compat" 25085, .ref 2306⟩, ⟨PyData.keyHash P "version", .str "version" 25093, .ref 2314⟩, ⟨PyData.keyHash P "__static_attributes__", .str "__static_attributes__" 25096, .ref 2315⟩, ⟨PyData.keyHash P "__dict__", .str "__dict__" 25098, .ref 2318⟩, ⟨PyData.keyHash P "__weakref__", .str "__weakref__" 25100, .ref 2319⟩, ⟨PyData.keyHash P "__doc__", .str "__doc__" 25101, .none⟩, ⟨PyData.keyHash P "__hash__", .str "__hash__" 25102, .none⟩].toArray 5, [].toArray⟩) ::
  (nat_lit 2317, ⟨.type "type", none, .cls ({ name := Str.ofString "BaseIP", bases := [Value.type "object"], mro := [Value.ref 2317, Value.type "object"], ns := 2316, qualname := Str.ofString "BaseIP", subclasses := [Value.ref 2565, Value.ref 2613] }), [(some (.ref 2199)), none, (some (.str "BaseIP" 24965)), (some (.str "BaseIP" 24973)), (some (.builtin "object.__new__")), (some (.bool true))].toArray⟩) ::
  (nat_lit 2325, ⟨.type "cell", none, .cell (some (.ref 2565)), [].toArray⟩) ::
  (nat_lit 2330, ⟨.type "tuple", none, .seq [.none, .int (0) 25117].toArray 0, [].toArray⟩) ::
  (nat_lit 2331, ⟨.type "tuple", none, .seq [.ref 2325].toArray 0, [].toArray⟩) ::
  (nat_lit 2337, ⟨.type "code", none, .fields [.str "__init__" 25118, .str "IPAddress.__init__" 25119, .str "/claim/cut.py" 25120, .int (506) 0, .int (4) 0, .int (0) 0, .int (0) 0, .int (3) 0, .ref 2332, .bool true, .int (181) 0, .ref 2333, .none, .ref 2334, .ref 2335, .ref 2336, .int (25127) 0, .int (506) 0, .str "/claim/cut.py" 25128].toArray, [].toArray⟩) ::
  (nat_lit 2338, ⟨.type "function", none, .func ⟨"__init__", "IPAddress.__init__", fp2338.val, .stmts fb2338.val, fs2338.val, 3, [("__class__", 2325)], .ref 2330, .none, .none, .str "netaddr.ip" 24963, none, .ref 2337, .ref 2331, 0⟩, [].toArray⟩) ::
  (nat_lit 2564, ⟨.type "dict", none, .dict [⟨PyData.keyHash P "__module__", .str "__module__" 25112, .str "netaddr.ip" 24963⟩, ⟨PyData.keyHash P "__firstlineno__", .str "__firstlineno__" 25116, .int (504) 25115⟩, ⟨PyData.keyHash P "__init__", .str "__init__" 25129, .ref 2338⟩, ⟨PyData.keyHash P "netmask_bits", .str "netmask_bits" 25139, .ref 2345⟩, ⟨PyData.keyHash P "is_hostmask", .str "is_hostmask" 25147, .ref 2352⟩, ⟨PyData.keyHash P "is_netmask", .str "is_netmask" 25155, .ref 2359⟩, ⟨PyData.keyHash P "__iadd__", .str "__iadd__" 25164, .ref 2366⟩, ⟨PyData.keyHash P "__isub__", .str "__isub__" 25173, .ref 2373⟩, ⟨PyData.keyHash P "__add__", .str "__add__" 25182, .ref 2380⟩, ⟨PyData.keyHash P "__radd__", .str "__radd__" 25190, .ref 2387⟩, ⟨PyData.keyHash P "__sub__", .str "__sub__" 25199, .ref 2394⟩, ⟨PyData.keyHash P "__rsub__", .str "__rsub__" 25208, .ref 2401⟩, ⟨PyData.keyHash P "key", .str "key" 25215, .ref 2408⟩, ⟨PyData.keyHash P "sort_key", .str "sort_key" 25222, .ref 2415⟩, ⟨PyData.keyHash P "__int__", .str "__int__" 25229, .ref 2422⟩, ⟨PyData.keyHash P "__index__", .str "__index__" 25236, .ref 2429⟩, ⟨PyData.keyHash P "__bytes__", .str "__bytes__" 25243, .ref 2436⟩, ⟨PyData.keyHash P "bits", .str "bits" 25251, .ref 2444⟩, ⟨PyData.keyHash P "packed", .str "packed" 25259, .ref 2452⟩, ⟨PyData.keyHash P "words", .str "words" 25267, .ref 2460⟩, ⟨PyData.keyHash P "bin", .str "bin" 25275, .ref 2468⟩, ⟨PyData.keyHash P "reverse_dns", .str "reverse_dns" 25283, .ref 2476⟩, ⟨PyData.keyHash P "ipv4", .str "ipv4" 25290, .ref 2483⟩, ⟨PyData.keyHash P "ipv6", .str "ipv6" 25298, .ref 2491⟩, ⟨PyData.keyHash P "format", .str "format" 25306, .ref 2499⟩, ⟨PyData.keyHash P "__or__", .str "__or__" 25314, .ref 2506⟩, ⟨PyData.keyHash P "__and__", .str "__and__" 25322, .ref 2513⟩, ⟨PyData.keyHash P "__xor__", .str "__xor__" 25330, .ref 2520⟩, ⟨PyData.keyHash P "__lshift__", .str "__lshift__" 25338, .ref 2527⟩, ⟨PyData.keyHash P "__rshift__", .str "__rshift__" 25346, .ref 2534⟩, ⟨PyData.keyHash P "__bool__", .str "__bool__" 25353, .ref 2541⟩, ⟨PyData.keyHash P "__str__", .str "__str__" 25360, .ref 2548⟩, ⟨PyData.keyHash P "__repr__", .str "__repr__" 25367, .ref 2555⟩, ⟨PyData.keyHash P "to_canonical", .str "to_canonical" 25374, .ref 2562⟩, ⟨PyData.keyHash P "__static_attributes__", .str "__static_attributes__" 25377, .ref 2563⟩, ⟨PyData.keyHash P "__doc__", .str "__doc__" 25379, .none⟩].toArray 3, [].toArray⟩) ::
  (nat_lit 2565, ⟨.type "type", none, .cls ({ name := Str.ofString "IPAddress", bases := [Value.ref 2317], mro := [Value.ref 2565, Value.ref 2317, Value.type "object"], ns := 2564, qualname := Str.ofString "IPAddress" }), [(some (.ref 2322)), none, (some (.str "IPAddress" 25105)), (some (.str "IPAddress" 25113)), (some (.builtin "object.__new__")), (some (.bool true))].toArray⟩) ::
  (nat_lit 2612, ⟨.type "dict", none, .dict [⟨PyData.keyHash P "__module__", .str "__module__" 25389, .str "netaddr.ip" 24963⟩, ⟨PyData.keyHash P "__firstlineno__", .str "__firstlineno__" 25393, .int (691) 25392⟩, ⟨PyData.keyHash P "__iter__", .str "__iter__" 25402, .ref 2581⟩, ⟨PyData.keyHash P "size", .str "size" 25410, .ref 2589⟩, ⟨PyData.keyHash P "__len__", .str "__len__" 25418, .ref 2596⟩, ⟨PyData.keyHash P "__getitem__", .str "__getitem__" 25427, .ref 2603⟩, ⟨PyData.keyHash P "__bool__", .str "__bool__" 25434, .ref 2610⟩, ⟨PyData.keyHash P "__static_attributes__", .str "__static_attributes__" 25435, .ref 2611⟩, ⟨PyData.keyHash P "__doc__", .str "__doc__" 25436, .none⟩].toArray 2, [].toArray⟩) ::
  (nat_lit 2613, ⟨.type "type", none, .cls ({ name := Str.ofString "IPListMixin", bases := [Value.ref 2317], mro := [Value.ref 2613, Value.ref 2317, Value.type "object"], ns := 2612, qualname := Str.ofString "IPListMixin", subclasses := [Value.ref 2868, Value.ref 2946] }), [(some (.ref 2568)), none, (some (.str "IPListMixin" 25382)), (some (.str "IPListMixin" 25390)), (some (.builtin "object.__new__")), (some (.bool true))].toArray⟩) ::
  (nat_lit 2616, ⟨.type "tuple", none, .seq [.int (0) 25439].toArray 0, [].toArray⟩) ::
  (nat_lit 2617, ⟨.type "dict", none, .dict [⟨PyData.keyHash P "expand_partial", .str "expand_partial" 25440, .bool false⟩].toArray 1, [].toArray⟩) ::
  (nat_lit 2623, ⟨.type "code", none, .fields [.str "parse_ip_network" 25441, .str "parse_ip_network" 25442, .str "/claim/cut.py" 25443, .int (724) 0, .int (3) 0, .int (0) 0, .int (1) 0, .int (3) 0, .ref 2618, .bool true, .int (181) 0, .ref 2619, .none, .ref 2620, .ref 2621, .ref 2622, .int (25455) 0, .int (724) 0, .str "/claim/cut.py" 25456].toArray, [].toArray⟩) ::
  (nat_lit 2624, ⟨.type "function", none, .func ⟨"parse_ip_network", "parse_ip_network", fp2624.val, .stmts fb2624.val, fs2624.val, 3, [], .ref 2616, .ref 2617, .none, .str "netaddr.ip" 24963, none, .ref 2623, .none, 0⟩, [].toArray⟩) ::
  (nat_lit 2628, ⟨.type "cell", none, .cell (some (.ref 2868)), [].toArray⟩) ::
  (nat_lit 2633, ⟨.type "tuple", none, .seq [.none, .int (0) 25470].toArray 0, [].toArray⟩) ::
  (nat_lit 2634, ⟨.type "dict", none, .dict [⟨PyData.keyHash P "expand_partial", .str "expand_partial" 25471, .bool false⟩].toArray 1, [].toArray⟩) ::
  (nat_lit 2635, ⟨.type "tuple", none, .seq [.ref 2628].toArray 0, [].toArray⟩) ::
  (nat_lit 2641, ⟨.type "code", none, .fields [.str "__init__" 25472, .str "IPNetwork.__init__" 25473, .str "/claim/cut.py" 25474, .int (766) 0, .int (4) 0, .int (0) 0, .int (1) 0, .int (3) 0, .ref 2636, .bool true, .int (181) 0, .ref 2637, .none, .ref 2638, .ref 2639, .ref 2640, .int (25485) 0, .int (766) 0, .str "/claim/cut.py" 25486].toArray, [].toArray⟩) ::
  (nat_lit 2642, ⟨.type "function", none, .func ⟨"__init__", "IPNetwork.__init__", fp2642.val, .stmts fb2642.val, fs2642.val, 3, [("__class__", 2628)], .ref 2633, .ref 2634, .none, .str "netaddr.ip" 24963, none, .ref 2641, .ref 2635, 0⟩, [].toArray⟩) ::
  (nat_lit 2655, ⟨.type "code", none, .fields [.str "prefixlen" 25496, .str "IPNetwork.prefixlen" 25497, .str "/claim/cut.py" 25498, .int (813) 0, .int (1) 0, .int (0) 0, .int (0) 0, .int (3) 0, .ref 2650, .bool true, .int (181) 0, .ref 2651, .none, .ref 2652, .ref 2653, .ref 2654, .int (25500) 0, .int (813) 0, .str "/claim/cut.py" 25501].toArray, [].toArray⟩) ::
  (nat_lit 2656, ⟨.type "function", none, .func ⟨"prefixlen", "IPNetwork.prefixlen", fp2656.val, .stmts fb2656.val, fs2656.val, 3, [], .none, .none, .none, .str "netaddr.ip" 24963, none, .ref 2655, .none, 0⟩, [].toArray⟩) ::
  (nat_lit 2666, ⟨.type "property", none, .fields [.ref 2656, .ref 2665, .none, .none, .str "prefixlen" 25503, .bool false].toArray, [].toArray⟩) ::
  (nat_lit 2680, ⟨.type "code", none, .fields [.str "network" 25522, .str "IPNetwork.network" 25523, .str "/claim/cut.py" 25524, .int (825) 0, .int (1) 0, .int (0) 0, .int (0) 0, .int (3) 0, .ref 2675, .bool true, .int (181) 0, .ref 2676, .none, .ref 2677, .ref 2678, .ref 2679, .int (25526) 0, .int (825) 0, .str "/claim/cut.py" 25527].toArray, [].toArray⟩) ::
  (nat_lit 2681, ⟨.type "function", none, .func ⟨"network", "IPNetwork.network", fp2681.val, .stmts fb2681.val, fs2681.val, 3, [], .none, .none, .none, .str "netaddr.ip" 24963, none, .ref 2680, .none, 0⟩, [].toArray⟩) ::
  (nat_lit 2682, ⟨.type "property", none, .fields [.ref 2681, .none, .none, .none, .str "network" 25529, .bool false].toArray, [].toArray⟩) ::
  (nat_lit 2696, ⟨.type "code", none, .fields [.str "first" 25538, .str "IPNetwork.first" 25539, .str "/claim/cut.py" 25540, .int (833) 0, .int (1) 0, .int (0) 0, .int (0) 0, .int (3) 0, .ref 2691, .bool true, .int (181) 0, .ref 2692, .none, .ref 2693, .ref 2694, .ref 2695, .int (25542) 0, .int (833) 0, .str "/claim/cut.py" 25543].toArray, [].toArray⟩) ::
  (nat_lit 2697, ⟨.type "function", none, .func ⟨"first", "IPNetwork.first", fp2697.val, .stmts fb2697.val, fs2697.val, 3, [], .none, .none, .none, .str "netaddr.ip" 24963, none, .ref 2696, .none, 0⟩, [].toArray⟩) ::
  (nat_lit 2698, ⟨.type "property", none, .fields [.ref 2697, .none, .none, .none, .str "first" 25545, .bool false].toArray, [].toArray⟩) ::
  (nat_lit 2729, ⟨.type "code", none, .fields [.str "_netmask_int" 25575, .str "IPNetwork._netmask_int" 25576, .str "/claim/cut.py" 25577, .int (856) 0, .int (1) 0, .int (0) 0, .int (0) 0, .int (3) 0, .ref 2724, .bool true, .int (181) 0, .ref 2725, .none, .ref 2726, .ref 2727, .ref 2728, .int (25579) 0, .int (856) 0, .str "/claim/cut.py" 25580].toArray, [].toArray⟩) ::
  (nat_lit 2730, ⟨.type "function", none, .func ⟨"_netmask_int", "IPNetwork._netmask_int", fp2730.val, .stmts fb2730.val, fs2730.val, 3, [], .none, .none, .none, .str "netaddr.ip" 24963, none, .ref 2729, .none, 0⟩, [].toArray⟩) ::
  (nat_lit 2731, ⟨.type "property", none, .fields [.ref 2730, .none, .none, .none, .str "_netmask_int" 25582, .bool false].toArray, [].toArray⟩) ::
  (nat_lit 2745, ⟨.type "code", none, .fields [.str "_hostmask_int" 25592, .str "IPNetwork._hostmask_int" 25593, .str "/claim/cut.py" 25594, .int (865) 0, .int (1) 0, .int (0) 0, .int (0) 0, .int (3) 0, .ref 2740, .bool true, .int (181) 0, .ref 2741, .none, .ref 2742, .ref 2743, .ref 2744, .int (25596) 0, .int (865) 0, .str "/claim/cut.py" 25597].toArray, [].toArray⟩) ::
  (nat_lit 2746, ⟨.type "function", none, .func ⟨"_hostmask_int", "IPNetwork._hostmask_int", fp2746.val, .stmts fb2746.val, fs2746.val, 3, [], .none, .none, .none, .str "netaddr.ip" 24963, none, .ref 2745, .none, 0⟩, [].toArray⟩) ::
  (nat_lit 2747, ⟨.type "property", none, .fields [.ref 2746, .none, .none, .none, .str "_hostmask_int" 25599, .bool false].toArray, [].toArray⟩) ::
  (nat_lit 2775, ⟨.type "code", none, .fields [.str "__contains__" 25626, .str "IPNetwork.__contains__" 25627, .str "/claim/cut.py" 25628, .int (891) 0, .int (2) 0, .int (0) 0, .int (0) 0, .int (3) 0, .ref 2770, .bool true, .int (181) 0, .ref 2771, .none, .ref 2772, .ref 2773, .ref 2774, .int (25634) 0, .int (891) 0, .str "/claim/cut.py" 25635].toArray, [].toArray⟩) ::
  (nat_lit 2776, ⟨.type "function", none, .func ⟨"__contains__", "IPNetwork.__contains__", fp2776.val, .stmts fb2776.val, fs2776.val, 3, [], .none, .none, .none, .str "netaddr.ip" 24963, none, .ref 2775, .none, 0⟩, [].toArray⟩) ::
  (nat_lit 2789, ⟨.type "code", none, .fields [.str "sort_key" 25644, .str "IPNetwork.sort_key" 25645, .str "/claim/cut.py" 25646, .int (909) 0, .int (1) 0, .int (0) 0, .int (0) 0, .int (3) 0, .ref 2784, .bool true, .int (181) 0, .ref 2785, .none, .ref 2786, .ref 2787, .ref 2788, .int (25651) 0, .int (909) 0, .str "/claim/cut.py" 25652].toArray, [].toArray⟩) ::
  (nat_lit 2790, ⟨.type "function", none, .func ⟨"sort_key", "IPNetwork.sort_key", fp2790.val, .stmts fb2790.val, fs2790.val, 3, [], .none, .none, .none, .str "netaddr.ip" 24963, none, .ref 2789, .none, 0⟩, [].toArray⟩) ::
  (nat_lit 2867, ⟨.type "dict", none, .dict [⟨PyData.keyHash P "__module__", .str "__module__" 25465, .str "netaddr.ip" 24963⟩, ⟨PyData.keyHash P "__firstlineno__", .str "__firstlineno__" 25469, .int (764) 25468⟩, ⟨PyData.keyHash P "__init__", .str "__init__" 25487, .ref 2642⟩, ⟨PyData.keyHash P "_set_prefixlen", .str "_set_prefixlen" 25495, .ref 2649⟩, ⟨PyData.keyHash P "prefixlen", .str "prefixlen" 25503, .ref 2666⟩, ⟨PyData.keyHash P "ip", .str "ip" 25521, .ref 2674⟩, ⟨PyData.keyHash P "network", .str "network" 25529, .ref 2682⟩, ⟨PyData.keyHash P "broadcast", .str "broadcast" 25537, .ref 2690⟩, ⟨PyData.keyHash P "first", .str "first" 25545, .ref 2698⟩, ⟨PyData.keyHash P "last", .str "last" 25554, .ref 2706⟩, ⟨PyData.keyHash P "netmask", .str "netmask" 25563, .ref 2723⟩, ⟨PyData.keyHash P "_netmask_int", .str "_netmask_int" 25582, .ref 2731⟩, ⟨PyData.keyHash P "hostmask", .str "hostmask" 25591, .ref 2739⟩, ⟨PyData.keyHash P "_hostmask_int", .str "_hostmask_int" 25599, .ref 2747⟩, ⟨PyData.keyHash P "cidr", .str "cidr" 25607, .ref 2755⟩, ⟨PyData.keyHash P "__iadd__", .str "__iadd__" 25616, .ref 2762⟩, ⟨PyData.keyHash P "__isub__", .str "__isub__" 25625, .ref 2769⟩, ⟨PyData.keyHash P "__contains__", .str "__contains__" 25636, .ref 2776⟩, ⟨PyData.keyHash P "key", .str "key" 25643, .ref 2783⟩, ⟨PyData.keyHash P "sort_key", .str "sort_key" 25653, .ref 2790⟩, ⟨PyData.keyHash P "ipv4", .str "ipv4" 25660, .ref 2797⟩, ⟨PyData.keyHash P "ipv6", .str "ipv6" 25668, .ref 2805⟩, ⟨PyData.keyHash P "previous", .str "previous" 25677, .ref 2813⟩, ⟨PyData.keyHash P "next", .str "next" 25686, .ref 2821⟩, ⟨PyData.keyHash P "supernet", .str "supernet" 25695, .ref 2829⟩, ⟨PyData.keyHash P "subnet", .str "subnet" 25710, .ref 2837⟩, ⟨PyData.keyHash P "iter_hosts", .str "iter_hosts" 25717, .ref 2844⟩, ⟨PyData.keyHash P "_usable_range", .str "_usable_range" 25724, .ref 2851⟩, ⟨PyData.keyHash P "__str__", .str "__str__" 25732, .ref 2858⟩, ⟨PyData.keyHash P "__repr__", .str "__repr__" 25739, .ref 2865⟩, ⟨PyData.keyHash P "__static_attributes__", .str "__static_attributes__" 25744, .ref 2866⟩, ⟨PyData.keyHash P "__doc__", .str "__doc__" 25746, .none⟩].toArray 3, [].toArray⟩) ::
  (nat_lit 2868, ⟨.type "type", none, .cls ({ name := Str.ofString "IPNetwork", bases := [Value.ref 2613], mro := [Value.ref 2868, Value.ref 2613, Value.ref 2317, Value.type "object"], ns := 2867, qualname := Str.ofString "IPNetwork" }), [(some (.ref 2625)), none, (some (.str "IPNetwork" 25458)), (some (.str "IPNetwork" 25466)), (some (.builtin "object.__new__")), (some (.bool true))].toArray⟩) ::
  (nat_lit 2945, ⟨.type "dict", none, .dict [⟨PyData.keyHash P "__module__", .str "__module__" 25756, .str "netaddr.ip" 24963⟩, ⟨PyData.keyHash P "__firstlineno__", .str "__firstlineno__" 25760, .int (962) 25759⟩, ⟨PyData.keyHash P "__init__", .str "__init__" 25771, .ref 2885⟩, ⟨PyData.keyHash P "__contains__", .str "__contains__" 25782, .ref 2892⟩, ⟨PyData.keyHash P "first", .str "first" 25790, .ref 2900⟩, ⟨PyData.keyHash P "last", .str "last" 25798, .ref 2908⟩, ⟨PyData.keyHash P "key", .str "key" 25805, .ref 2915⟩, ⟨PyData.keyHash P "sort_key", .str "sort_key" 25813, .ref 2922⟩, ⟨PyData.keyHash P "cidrs", .str "cidrs" 25820, .ref 2929⟩, ⟨PyData.keyHash P "__str__", .str "__str__" 25827, .ref 2936⟩, ⟨PyData.keyHash P "__repr__", .str "__repr__" 25834, .ref 2943⟩, ⟨PyData.keyHash P "__static_attributes__", .str "__static_attributes__" 25838, .ref 2944⟩, ⟨PyData.keyHash P "__doc__", .str "__doc__" 25839, .none⟩].toArray 2, [].toArray⟩) ::
  (nat_lit 2946, ⟨.type "type", none, .cls ({ name := Str.ofString "IPRange", bases := [Value.ref 2613], mro := [Value.ref 2946, Value.ref 2613, Value.ref 2317, Value.type "object"], ns := 2945, qualname := Str.ofString "IPRange" }), [(some (.ref 2871)), none, (some (.str "IPRange" 25749)), (some (.str "IPRange" 25757)), (some (.builtin "object.__new__")), (some (.bool true))].toArray⟩) ::
  (nat_lit 2979, ⟨.type "code", none, .fields [.str "smallest_matching_cidr" 25892, .str "smallest_matching_cidr" 25893, .str "/claim/cut.py" 25894, .int (1106) 0, .int (2) 0, .int (0) 0, .int (0) 0, .int (3) 0, .ref 2976, .bool true, .int (181) 0, .ref 2977, .none, .none, .none, .ref 2978, .int (25895) 0, .int (1106) 0, .str "/claim/cut.py" 25896].toArray, [].toArray⟩) ::
  (nat_lit 2980, ⟨.type "function", none, .func ⟨"smallest_matching_cidr", "smallest_matching_cidr", fp2980.val, .stmts fb2980.val, fs2980.val, 3, [], .none, .none, .none, .str "netaddr.ip" 24963, none, .ref 2979, .none, 0⟩, [].toArray⟩) ::
  (nat_lit 2984, ⟨.type "code", none, .fields [.str "largest_matching_cidr" 25898, .str "largest_matching_cidr" 25899, .str "/claim/cut.py" 25900, .int (1117) 0, .int (2) 0, .int (0) 0, .int (0) 0, .int (3) 0, .ref 2981, .bool true, .int (181) 0, .ref 2982, .none, .none, .none, .ref 2983, .int (25901) 0, .int (1117) 0, .str "/claim/cut.py" 25902].toArray, [].toArray⟩) ::
  (nat_lit 2985, ⟨.type "function", none, .func ⟨"largest_matching_cidr", "largest_matching_cidr", fp2985.val, .stmts fb2985.val, fs2985.val, 3, [], .none, .none, .none, .str "netaddr.ip" 24963, none, .ref 2984, .none, 0⟩, [].toArray⟩) ::
  (nat_lit 2989, ⟨.type "code", none, .fields [.str "all_matching_cidrs" 25904, .str "all_matching_cidrs" 25905, .str "/claim/cut.py" 25906, .int (1127) 0, .int (2) 0, .int (0) 0, .int (0) 0, .int (3) 0, .ref 2986, .bool true, .int (181) 0, .ref 2987, .none, .none, .none, .ref 2988, .int (25907) 0, .int (1127) 0, .str "/claim/cut.py" 25908].toArray, [].toArray⟩) ::
  (nat_lit 2990, ⟨.type "function", none, .func ⟨"all_matching_cidrs", "all_matching_cidrs", fp2990.val, .stmts fb2990.val, fs2990.val, 3, [], .none, .none, .none, .str "netaddr.ip" 24963, none, .ref 2989, .none, 0⟩, [].toArray⟩) ::
  (nat_lit 2994, ⟨.type "code", none, .fields [.str "law" 25912, .str "law" 25913, .str "/claim/cut.py" 25914, .int (1139) 0, .int (1) 0, .int (0) 0, .int (0) 0, .int (3) 0, .ref 2991, .bool true, .int (181) 0, .ref 2992, .none, .none, .none, .ref 2993, .int (25915) 0, .int (1139) 0, .str "/claim/cut.py" 25916].toArray, [].toArray⟩) ::
  (nat_lit 2995, ⟨.type "function", none, .func ⟨"law", "law", fp2995.val, .stmts fb2995.val, fs2995.val, 3, [], .none, .none, .none, .str "law_az0027_01" 25910, none, .ref 2994, .none, 0⟩, [].toArray⟩) :: []
end Mine
end JC1

section JBIG
open PySem PySem.W PyProof.Rows PySem.Calls
set_option Elab.async false
set_option maxRecDepth 100000
set_option maxHeartbeats 1000000
namespace Mine
noncomputable def s9 (P : Params) : Out Flow := evStore P (asgName (stAt 9)) (asgPos (stAt 9)) (.ref 43) (TA P) 1329 20215
noncomputable def cB (P : Params) : Out Flow := evP P Γ0 (execs ((B0.drop 10).take 21) env0) (outT (s9 P)) 1329 20216
noncomputable def st31 (P : Params) : Out Flow := evStore P (asgName (stAt 31)) (asgPos (stAt 31)) (.ref 1426) (outT (cB P)) 1432 20638
noncomputable def st32 (P : Params) : Out Flow := evStore P (asgName (stAt 32)) (asgPos (stAt 32)) (.ref 1471) (outT (st31 P)) 1477 20943
noncomputable def st33 (P : Params) : Out Flow := evStore P (asgName (stAt 33)) (asgPos (stAt 33)) (.ref 1516) (outT (st32 P)) 1522 21215
noncomputable def cC (P : Params) : Out Flow := evP P Γ0 (execs ((B0.drop 34).take 22) env0) (outT (st33 P)) 1522 21216
noncomputable def st56 (P : Params) : Out Flow := evStore P (asgName (stAt 56)) (asgPos (stAt 56)) (.ref 1781) (outT (cC P)) 1787 22570
noncomputable def st57 (P : Params) : Out Flow := evStore P (asgName (stAt 57)) (asgPos (stAt 57)) (.ref 1922) (outT (st56 P)) 1928 23739
noncomputable def st58 (P : Params) : Out Flow := evStore P (asgName (stAt 58)) (asgPos (stAt 58)) (.ref 2063) (outT (st57 P)) 2069 24779
noncomputable def cD (P : Params) : Out Flow := evP P Γ0 (execs (B0.drop 59) env0) (outT (st58 P)) 2069 24780
noncomputable def outIs (o : Out Flow) (n k : Nat) : Bool := isNext o && Nat.beq (outN o) n && Nat.beq (outK o) k
noncomputable def okAll (P : Params) : Bool := outIs (cA P) 42 237 && ok9 (TA P) && outIs (s9 P) 1329 20216 && outIs (cB P) 1387 20334 && okTab (outT (cB P)) "width_ipv4" "max_int_ipv4" 32 && outIs (st31 P) 1432 20639 && okTab (outT (st31 P)) "width_ipv4" "max_int_ipv4" 32 && outIs (st32 P) 1477 20944
  && okTab (outT (st32 P)) "width_ipv4" "max_int_ipv4" 32 && outIs (st33 P) 1522 21216 && outIs (cC P) 1646 21402 && okTab (outT (cC P)) "width_ipv6" "max_int_ipv6" 128 && outIs (st56 P) 1787 22571 && okTab (outT (st56 P)) "width_ipv6" "max_int_ipv6" 128 && outIs (st57 P) 1928 23740 && okTab (outT (st57 P)) "width_ipv6" "max_int_ipv6" 128 && outIs (st58 P) 2069 24780
  && outIs (cD P) 2996 25918
noncomputable def TF (P : Params) : PT := outT (cD P)
noncomputable def low : List Nat := [0, 1, 2, 3, 4, 5, 6, 7, 8, 9, 10]
noncomputable def kept : List Nat := [0, 1, 4, 5, 7, 8, 9, 10]
noncomputable def HF (P : Params) : Heap := { objs := (low.map fun i => ((TF P).get i).getD default).toArray }
noncomputable def okH (h₀ h : Heap) : Bool := h.isNs 0 && h.isNs 2 && h.isNs 3 && staticsOk [] h₀ h && namesBound pw h && laidKept h₀ h && h.accountedOkI [] && h.bmainOk && h.noSeerOk && (h.nsMap 2 "sys.recursionlimit").isNone && (h.nsMap 2 "sys.int_max_str_digits").isNone
noncomputable def okF (P : Params) : Bool := low.all (fun i => ((TF P).get i).isSome) && okH (boot_heap P) (HF P)
noncomputable def obsF (P : Params) := (okF P, kept.map (TF P).get, (HF P).bltView)
noncomputable def qv : Program := view pw [88]
noncomputable def looseN : List Str := pw.boundNames
noncomputable def dead : Obj := { cls := .none, data := .freed }
noncomputable def HB (P : Params) : Heap := { objs := ((List.range 2996).map fun i => ((TF P).get i).getD dead).toArray }
theorem big (P : Params) (os : OsState) : (okAll P, obsF P, addrsK.map (TF P).get, [(2977 : Addr), 2982, 2987].map (TF P).get, openSeen qv looseN [] (xlAt qv []) true ⟨HB P, #[], boot_drawn, 25918, os⟩)
    = (true, (true, kept.map (T0 P).get, bltViewBooted), (K P).map (fun p => some p.2), [some (tabObj #[]), some (tabObj #[]), some (tabObj #[])], openGood qv looseN) := by kernel_rfl
theorem big1 (P : Params) : okAll P = true := (Prod.mk.inj (big P default)).1
theorem big2 (P : Params) : obsF P = (true, kept.map (T0 P).get, bltViewBooted) := (Prod.mk.inj (Prod.mk.inj (big P default)).2).1
theorem big3 (P : Params) : addrsK.map (TF P).get = (K P).map (fun p => some p.2) := (Prod.mk.inj (Prod.mk.inj (Prod.mk.inj (big P default)).2).2).1
theorem big4 (P : Params) : [(2977 : Addr), 2982, 2987].map (TF P).get = [some (tabObj #[]), some (tabObj #[]), some (tabObj #[])] := (Prod.mk.inj (Prod.mk.inj (Prod.mk.inj (Prod.mk.inj (big P default)).2).2).2).1
theorem big5 (P : Params) (os : OsState) : openSeen qv looseN [] (xlAt qv []) true ⟨HB P, #[], boot_drawn, 25918, os⟩ = openGood qv looseN := (Prod.mk.inj (Prod.mk.inj (Prod.mk.inj (Prod.mk.inj (big P os)).2).2).2).2
end Mine
end JBIG

section JB11
open PySem PySem.W PyProof.Rows PySem.Calls
set_option Elab.async false
set_option maxRecDepth 100000
set_option maxHeartbeats 1000000
namespace Mine
theorem all_ok (P : Params) : okAll P = true := big1 P

theorem outIs_eq {o : Out Flow} {n k : Nat} (h : outIs o n k = true) : isNext o = true ∧ outN o = n ∧ outK o = k := by
  simp only [outIs, Bool.and_eq_true] at h
  exact ⟨h.1.1, Nat.eq_of_beq_eq_true h.1.2, Nat.eq_of_beq_eq_true h.2⟩
theorem chunk_is {w : World} {t : Sem Flow} {T : PT} {n k n' k' : Nat} {o : Out Flow} (h : Chunk w t T n k (outT o) (outN o) (outK o)) (ho : outIs o n' k' = true) : Chunk w t T n k (outT o) n' k' := by
  obtain ⟨_, rfl, rfl⟩ := outIs_eq ho
  exact h
theorem B0_split : B0 = B0.take 9 ++ ([stAt 9] ++ ((B0.drop 10).take 21 ++ ([stAt 31] ++ ([stAt 32] ++ ([stAt 33] ++ ((B0.drop 34).take 22 ++ ([stAt 56] ++ ([stAt 57] ++ ([stAt 58] ++ B0.drop 59))))))))) := by kernel_rfl
noncomputable def isAtB (t : Sem Flow) : Bool := match t with | .at _ _ => true | _ => false
theorem isAtB_spec {t : Sem Flow} (h : isAtB t = true) : ∃ q f, t = .at q f := by
  cases t <;> first | exact ⟨_, _, rfl⟩ | exact Bool.noConfusion h
theorem at_A : ∃ q f, execs (B0.take 9) env0 = .at q f := isAtB_spec (by kernel_rfl)
theorem at_B : ∃ q f, execs ((B0.drop 10).take 21) env0 = .at q f := isAtB_spec (by kernel_rfl)
theorem at_C : ∃ q f, execs ((B0.drop 34).take 22) env0 = .at q f := isAtB_spec (by kernel_rfl)
theorem at_D : ∃ q f, execs (B0.drop 59) env0 = .at q f := isAtB_spec (by kernel_rfl)
theorem top_chunk (w : World) : Chunk w (execs B0 env0) (T1 w.params) 15 187 (outT (cD w.params)) 2996 25918 := by
  have h := all_ok w.params
  simp only [okAll, Bool.and_eq_true] at h
  obtain ⟨⟨⟨⟨⟨⟨⟨⟨⟨⟨⟨⟨⟨⟨⟨⟨⟨hA, h9⟩, hs9⟩, hB⟩, t31⟩, h31⟩, t32⟩, h32⟩, t33⟩, h33⟩, hC⟩, t56⟩, h56⟩, t57⟩, h57⟩, t58⟩, h58⟩, hD⟩ := h
  rw [B0_split]
  refine chunk_append (chunk_is (chunk_ev at_A (outIs_eq hA).1) hA) ?_
  refine chunk_append (chunk_is (o := s9 w.params) (chunk9 h9 (fn41 w.params) (outIs_eq hs9).1) hs9) ?_
  refine chunk_append (chunk_is (o := cB w.params) (chunk_ev at_B (outIs_eq hB).1) hB) ?_
  refine chunk_append (chunk_is (o := st31 w.params) (chunk31 t31 (outIs_eq h31).1) h31) ?_
  refine chunk_append (chunk_is (o := st32 w.params) (chunk32 t32 (outIs_eq h32).1) h32) ?_
  refine chunk_append (chunk_is (o := st33 w.params) (chunk33 t33 (outIs_eq h33).1) h33) ?_
  refine chunk_append (chunk_is (o := cC w.params) (chunk_ev at_C (outIs_eq hC).1) hC) ?_
  refine chunk_append (chunk_is (o := st56 w.params) (chunk56 t56 (outIs_eq h56).1) h56) ?_
  refine chunk_append (chunk_is (o := st57 w.params) (chunk57 t57 (outIs_eq h57).1) h57) ?_
  refine chunk_append (chunk_is (o := st58 w.params) (chunk58 t58 (outIs_eq h58).1) h58) ?_
  exact chunk_is (o := cD w.params) (chunk_ev at_D (outIs_eq hD).1) hD
end Mine
end JB11

section JB13
open PySem PySem.W PyProof.Rows PySem.Calls
set_option Elab.async false
set_option maxRecDepth 100000
set_option maxHeartbeats 1000000
namespace Mine
noncomputable def stubTree : Sem PySem.Fin := (topStub pw).cur
theorem stub_is : topStub pw = ⟨stubTree, .builtin "claim.caller" {}, default, []⟩ := rfl
theorem env0_is : ({ scope := pw.main.scope, locals := mainNs, globals := mainNs, cells := [], code := .ref 13, frame := some 14 } : Env) = env0 := rfl
theorem enter_is : Γs.enter (.body B0 env0) none default = Γ0 := by rfl
theorem body_is : behindTheImports pw = B0 := by kernel_rfl
theorem noStart : blockStart B0 env0 = pure () := by
  unfold blockStart
  rw [show hasAnns B0 = false by decide +kernel, show docOf B0 = none by kernel_rfl]
  rfl

theorem body_wp (w : World) (S : Shared) (hr : Rep (T1 w.params) 15 187 S) :
    wpCode (model pw w) Γ0 (fun r S' => r = .ok .next ∧ Rep (TF w.params) 2996 25918 S' ∧ Stp (T1 w.params) (TF w.params) S S') default S := by
  rw [wpCode_iff_wp]
  show Sem.wp (model pw w) Γ0 (do blockStart B0 env0; return Fin.done (← (execs B0 env0).onRaise (leaving env0))) _ _ default S
  rw [Sem.wp_bind', noStart, Sem.wp_pure', Sem.wp_bind', Sem.wp_onRaise]
  refine Sem.wp_mono _ _ _ (fun f p' S' hf => ?_) (fun _ _ _ x => x.elim) _ _ (top_chunk w default S hr)
  obtain ⟨rfl, h1, h2⟩ := hf
  rw [Sem.wp_pure']
  exact ⟨rfl, h1, h2⟩

theorem stub_runs (w : World) (S : Shared) (hr : Rep (T0 w.params) 11 181 S) :
    ∃ S', Runs (model pw w) Γs default stubTree [] S (.ret (.ok (.ret .none))) S' ∧ Rep (TF w.params) 2996 25918 S' ∧ Stp (T0 w.params) (TF w.params) S S' := by
  have g := evP_good (w := w) Γs preT (T0 w.params) 11 181 S hr
  rw [show evP w.params Γs preT (T0 w.params) 11 181 = .val (.ref 13, 14) default (outT (pre w.params)) 15 187 from pre_eq w.params] at g
  obtain ⟨S1, r1, s1, q⟩ := g
  have h : Sem.wp (model pw w) Γs stubTree (Sem.finPost (model pw w) Γs fun r S' => r = .ok (.ret .none) ∧ Rep (TF w.params) 2996 25918 S' ∧ Stp (T0 w.params) (TF w.params) S S')
      (fun e _ S' => (Except.error e : Result) = .ok (.ret .none) ∧ Rep (TF w.params) 2996 25918 S' ∧ Stp (T0 w.params) (TF w.params) S S') default S := by
    have := q (fun x p' S' => Sem.wp (model pw w) Γs (do
        let _ ← run (.body (behindTheImports pw) { scope := pw.main.scope, locals := mainNs, globals := mainNs, cells := [], code := x.1, frame := some x.2 })
        ret .none) (Sem.finPost (model pw w) Γs fun r S' => r = .ok (.ret .none) ∧ Rep (TF w.params) 2996 25918 S' ∧ Stp (T0 w.params) (TF w.params) S S')
      (fun e _ S' => (Except.error e : Result) = .ok (.ret .none) ∧ Rep (TF w.params) 2996 25918 S' ∧ Stp (T0 w.params) (TF w.params) S S') p' S')
      (fun e _ S' => (Except.error e : Result) = .ok (.ret .none) ∧ Rep (TF w.params) 2996 25918 S' ∧ Stp (T0 w.params) (TF w.params) S S') ?_
    · unfold preT at this
      show Sem.wp (model pw w) Γs (do
        let code ← moduleCode pw.main
        let frame ← newBodyFrame code mainNs mainNs
        let _ ← run (.body (behindTheImports pw) { scope := pw.main.scope, locals := mainNs, globals := mainNs, cells := [], code, frame := some frame })
        ret .none) _ _ default S
      simp only [Sem.wp_bind', Sem.wp_pure'] at this ⊢
      exact this
    · dsimp only
      rw [Sem.wp_bind', Sem.wp_run, body_is, env0_is, enter_is]
      obtain ⟨r, S', hrun, rfl, h1, h2⟩ := body_wp w S1 r1
      refine ⟨_, S', hrun, ?_⟩
      show Sem.wp (model pw w) Γs (ret .none) _ _ default S'
      show Sem.wp (model pw w) Γs (pure (PySem.Fin.done (.ret .none))) _ _ default S'
      rw [Sem.wp_pure']
      exact ⟨rfl, h1, s1.trans h2⟩
  obtain ⟨r, S', hrun, rfl, h1, h2⟩ := (Sem.wp_iff_runs _ _ _ _ _ _).mp h
  exact ⟨S', hrun, h1, h2⟩

noncomputable def notDone : Step → Bool := fun x => match x with | .halt (.done _) _ => false | _ => true
theorem halt_done {den : Code → Sem PySem.Fin} {p : Program} {w : World} {s s' : Shared} {t : Thread} {f : Flow} (h : step den p w s t = .halt (.done f) s') : s' = s ∧ through t = true := by
  refine ⟨step_halt_same den p w s s' t _ h, ?_⟩
  obtain ⟨heap, gens, drawn, toks, os⟩ := s
  obtain ⟨cur, code, pos, stack⟩ := t
  have key : notDone (step den p w ⟨heap, gens, drawn, toks, os⟩ ⟨cur, code, pos, stack⟩) = false := congrArg notDone h
  clear h
  have fin : ∀ (o : Outcome) (s : Shared), (∀ x, o ≠ .done x) → notDone (finish o s) = true := fun o s ho => by
    unfold finish
    cases leftWithCleanup s.gens
    · cases o
      case done x => exact absurd rfl (ho x)
      all_goals rfl
    · rfl
  cases cur
  case pure r =>
    cases r
    case again c => exact Bool.noConfusion (show true = false from key)
    case done f' =>
      cases stack
      case nil => rfl
      case cons fr rest => cases fr <;> exact Bool.noConfusion (show true = false from key)
  case «raise» e =>
    cases stack
    case nil => exact Bool.noConfusion ((fin (.uncaught e) _ (fun _ q => by cases q)).symm.trans key)
    case cons fr rest => cases fr <;> exact Bool.noConfusion (show true = false from key)
  case finish e =>
    revert key
    show notDone (if leftWithCleanup gens then _ else _) = false → _
    cases leftWithCleanup gens <;> exact fun q => Bool.noConfusion (show true = false from q)
  case load a b k =>
    revert key
    show notDone (match heap.get? a with | some o => _ | none => _) = false → _
    cases heap.get? a <;> exact fun q => Bool.noConfusion (show true = false from q)
  case update a b f' k =>
    revert key
    show notDone (if (heap.get? a).isSome then _ else _) = false → _
    cases (heap.get? a).isSome <;> exact fun q => Bool.noConfusion (show true = false from q)
  case choose src n k =>
    cases n <;> exact Bool.noConfusion (show true = false from key)
  case genState g k =>
    revert key
    show notDone (match gens[g]? with | none => _ | some st => _) = false → _
    cases gens[g]? <;> exact fun q => Bool.noConfusion (show true = false from q)
  case resume g r l k =>
    cases hg : gens[g]? with
    | none => refine Bool.noConfusion (key.symm.trans ?_ : false = true); simp only [step, hg]; rfl
    | some st =>
      refine Bool.noConfusion (key.symm.trans ?_ : false = true)
      cases st
      case fresh c =>
        cases r
        case send v => cases v <;> (simp only [step, hg]; rfl)
        all_goals (simp only [step, hg]; rfl)
      all_goals (simp only [step, hg]; rfl)
  case yield v g0 l kk =>
    cases hg : splitAtGen stack with
    | none => refine Bool.noConfusion (key.symm.trans ?_ : false = true); simp only [step, hg]; rfl
    | some q =>
      obtain ⟨fs, ⟨g, k, c, p⟩, rest⟩ := q
      refine Bool.noConfusion (key.symm.trans ?_ : false = true); simp only [step, hg]; rfl
  all_goals exact Bool.noConfusion (show true = false from key)
theorem run_through {den : Code → Sem PySem.Fin} {p : Program} {w : World} {f : Flow} {s'' : Shared} : ∀ (n : Nat) (s : Shared) (t : Thread), runN den p w n s t = .halted (.done f) s'' → ∃ m t1, runN den p w m s t = .running s'' t1 ∧ through t1 = true
  | 0, s, t, h => by cases h
  | n + 1, s, t, h => by
    simp only [runN] at h
    cases hs : step den p w s t with
    | go s₁ t₁ =>
      simp only [hs] at h
      obtain ⟨m, t1, hm, ht⟩ := run_through n s₁ t₁ h
      exact ⟨m + 1, t1, by simp only [runN, hs]; exact hm, ht⟩
    | halt o s₁ =>
      simp only [hs] at h
      injection h with h1 h2
      subst h1 h2
      obtain ⟨rfl, ht⟩ := halt_done hs
      exact ⟨0, t, rfl, ht⟩
theorem top_sched (w : World) (S : Shared) (hr : Rep (T0 w.params) 11 181 S) (hg : S.gens = #[]) (ha : S.asleep) :
    ∃ S', (∃ n t, schedN (denote table) pw w n (.single S (topStub pw)) = .running (.single S' t) ∧ through t = true) ∧ S'.heap.life = S.heap.life ∧ Rep (TF w.params) 2996 25918 S' ∧ Stp (T0 w.params) (TF w.params) S S' := by
  obtain ⟨S1, hrun, hr1, hs1⟩ := stub_runs w S hr
  have hg1 : S1.gens = #[] := hs1.gens.trans hg
  obtain ⟨n, hn⟩ := (halts_iff (M := model pw w) (c := .builtin "claim.caller" {}) (p := default) (st := [])).mpr ⟨hrun, by rw [hg1]; simp [leftWithCleanup]⟩
  obtain ⟨S2, hN, hf, hc⟩ := runNI_real (denote table) pw w hn rfl
  have hS : S2 = S1 := by
    obtain ⟨h1, g1, d1, k1, o1⟩ := S1
    obtain ⟨h2, g2, d2, k2, o2⟩ := S2
    simp only [Shared.forget, Shared.mk.injEq] at hf
    simp only at hg1
    subst hg1
    obtain ⟨rfl, hg2, rfl, rfl, rfl⟩ := hf
    have : g2 = #[] := by
      have := congrArg Array.size hg2
      simpa using this
    rw [this]
  subst hS
  obtain ⟨m, t1, hm, ht⟩ := run_through n S _ hN
  have hne : ∀ k s₂, runN (denote table) pw w k S ⟨stubTree, .builtin "claim.caller" {}, default, []⟩ ≠ .halted (.unsupported "lifetime:generator-with-cleanup-left-suspended") s₂ := by
    intro k s₂ hk
    have a := runN_mono (denote table) pw w n k S _ _ S2 hN
    have b := runN_mono (denote table) pw w k n S _ _ s₂ hk
    rw [Nat.add_comm, b] at a
    injection a with a1 _
    cases a1
  refine ⟨S2, ⟨m, t1, ?_, ht⟩, runN_life (denote table) pw w hN, hr1, hs1⟩
  rw [stub_is, schedN_eq_runN (denote table) pw w S _ ha ⟨hc, hne⟩ m, hm]
  rfl
end Mine
end JB13

section JB15
open PySem PySem.W PyProof.Rows PySem.Calls
set_option Elab.async false
set_option maxRecDepth 100000
set_option maxHeartbeats 1000000
namespace Mine
theorem boot_mine (w : World) : (importEnds treeTable (opening pw) w 600 (start (opening pw)).1 (start (opening pw)).2).map (fun s => (s.heap, s.gens, s.drawn, s.toks)) = some (boot_heap w.params, Array.mk [], boot_drawn, boot_toks) := by kernel_rfl
end Mine
end JB15

section JB14
open PySem PySem.W PyProof.Rows PySem.Calls
set_option Elab.async false
set_option maxRecDepth 100000
set_option maxHeartbeats 1000000
namespace Mine

theorem fence_is (s : Shared) : fenceModules? pw s = some s := by kernel_rfl
theorem opens_is : opensWell pw = true := by kernel_rfl
theorem T0_low (P : Params) : low.map (T0 P).get = low.map (boot_heap P).get? := by kernel_rfl
theorem boot_ann (P : Params) : (globalOf (boot_heap P) "__annotations__" == some (.ref 6) && (boot_heap P).isNs 3) = true := by kernel_rfl
noncomputable def modsP : List Str := importedModules pw.main.body
theorem mods_nil : modsP = [] := by kernel_rfl
theorem obsF_eq (P : Params) : obsF P = (true, kept.map (T0 P).get, bltViewBooted) := big2 P

section
variable {h h' : Heap} {a : Addr}
theorem isNs_c (e : h.get? a = h'.get? a) : h.isNs a = h'.isNs a := by unfold Heap.isNs; rw [e]
theorem nsMap_c (e : h.get? a = h'.get? a) : h.nsMap a = h'.nsMap a := by funext x; unfold Heap.nsMap; rw [e]
theorem nsKeys_c (e : h.get? a = h'.get? a) : h.nsKeys a = h'.nsKeys a := by unfold Heap.nsKeys; rw [e]
theorem nsPairs_c (e : h.get? a = h'.get? a) : h.nsPairs a = h'.nsPairs a := by unfold Heap.nsPairs; rw [e]
end

theorem agree {P : Params} {S : Shared} (hr : Rep (TF P) 2996 25918 S) (ok : low.all (fun i => ((TF P).get i).isSome) = true) : ∀ i ∈ low, S.heap.get? i = (HF P).get? i := by
  intro i hi
  have h1 := List.all_eq_true.mp ok i hi
  obtain ⟨o, ho⟩ := Option.isSome_iff_exists.mp h1
  have hS := hr.at_ i o ho
  rw [hS]
  have hlt : i < 11 := by
    have : ∀ i ∈ low, i < 11 := by decide
    exact this i hi
  have hobj : (HF P).objs[i]? = some o := by
    have e : low[i]? = some i := by
      have : ∀ i ∈ low, low[i]? = some i := by decide
      exact this i hi
    show ((low.map fun i => ((TF P).get i).getD default).toArray)[i]? = some o
    rw [List.getElem?_toArray, List.getElem?_map, e]
    simp [ho]
  cases o with
  | mk c d dat sl =>
    cases dat
    case freed =>
      unfold Heap.get? at hS
      split at hS
      · cases hS
      · rename_i hx
        exact (hx _ _ _ hS).elim
    all_goals (unfold Heap.get?; rw [hobj])

theorem low_lt : ∀ i, i < 11 → i ∈ low := by decide
theorem lows_gen {h₀ H h : Heap} (hsz : H.objs.size = 11) (ag : ∀ i ∈ low, h.get? i = H.get? i) (hok : okH h₀ H = true) (hblt : H.bltView = bltViewBooted) :
    h.isNs 3 = true ∧ h.isNs 0 = true ∧ h.isNs 2 = true ∧ h.bltView = bltViewBooted ∧ h.noSeerOk = true ∧ h.bmainOk = true ∧ h.accountedOkI [] = true ∧ staticsOk [] h₀ h = true ∧ namesBound pw h = true ∧ laidKept h₀ h = true ∧ h.nsMap 2 "sys.recursionlimit" = none ∧ h.nsMap 2 "sys.int_max_str_digits" = none := by
  simp only [okH, Bool.and_eq_true, Option.isNone_iff_eq_none] at hok
  obtain ⟨⟨⟨⟨⟨⟨⟨⟨⟨⟨n0, n2⟩, n3⟩, hstat⟩, hnb⟩, hlk⟩, hacc⟩, hbm⟩, hseer⟩, hlim⟩, hdig⟩ := hok
  have a0 := ag 0 (by decide)
  have a1 := ag 1 (by decide)
  have a2 := ag 2 (by decide)
  have a3 := ag 3 (by decide)
  have m3 : h.isNs 3 = true := (isNs_c a3).trans n3
  have m0 : h.isNs 0 = true := (isNs_c a0).trans n0
  have m2 : h.isNs 2 = true := (isNs_c a2).trans n2
  have mblt : h.bltView = bltViewBooted := by
    rw [← hblt]; unfold Heap.bltView; rw [show h.nsPairs builtinsNs = H.nsPairs builtinsNs from nsPairs_c a0]
  have mseer : h.noSeerOk = true := by
    rw [← hseer]; unfold Heap.noSeerOk
    rw [show h.isNs cStatics = _ from isNs_c a2, show h.nsMap cStatics = _ from nsMap_c a2, show h.isNs sysModules = _ from isNs_c a1, show h.nsMap sysModules = _ from nsMap_c a1]
  have mbm : h.bmainOk = true := by
    obtain ⟨bm, ob, b1, b2, b3, b4, b5, b6⟩ := Heap.bmainOk_spec hbm
    have hlow : bm ∈ low := by
      have hlt := Heap.lt_size b3
      rw [hsz] at hlt
      exact low_lt bm hlt
    have q : h.get? bm = some ob := (ag bm hlow).trans b3
    rw [← hbm]; unfold Heap.bmainOk
    rw [show h.nsMap mainGlobals = _ from nsMap_c a3, b1]
    simp only [q, b3]
  have macc : h.accountedOkI [] = true := by
    rw [← hacc]; unfold Heap.accountedOkI
    simp only [show h.isNs cStatics = _ from isNs_c a2, show h.nsMap cStatics = _ from nsMap_c a2, show h.nsKeys cStatics = _ from nsKeys_c a2]
  have mstat : staticsOk [] h₀ h = true := by
    rw [← hstat]; unfold staticsOk
    simp only [show h.isNs cStatics = _ from isNs_c a2, show h.nsMap cStatics = _ from nsMap_c a2, show h.nsKeys cStatics = _ from nsKeys_c a2]
  have mnb : namesBound pw h = true := by
    rw [← hnb]; unfold namesBound
    rw [show h.isNs mainGlobals = _ from isNs_c a3, show h.nsKeys mainGlobals = _ from nsKeys_c a3]
  have mlk : laidKept h₀ h = true := by
    rw [← hlk]; unfold laidKept
    simp only [show h.isNs mainGlobals = _ from isNs_c a3, show h.nsMap mainGlobals = _ from nsMap_c a3]
  exact ⟨m3, m0, m2, mblt, mseer, mbm, macc, mstat, mnb, mlk, (congrFun (nsMap_c a2) _).trans hlim, (congrFun (nsMap_c a2) _).trans hdig⟩

theorem kept_gen {T T' : PT} {h₀ : Heap} (hsz : h₀.objs.size = 11) (e : low.map T.get = low.map h₀.get?) (hkept : kept.map T'.get = kept.map T.get) (han : (globalOf h₀ "__annotations__" == some (.ref 6) && h₀.isNs 3) = true) {b : Addr} {o : Obj} (hb : h₀.get? b = some o)
    (hnot : ¬ (b = 3 ∨ b = 2 ∨ globalOf h₀ "__annotations__" = some (.ref b))) : T'.get b = some o := by
  have hlt : b < 11 := by
    have := Heap.lt_size hb
    rwa [hsz] at this
  have hb0 : T.get b = some o := by
    have : ∀ b, b < 11 → low[b]? = some b := by decide
    have e2 := congrArg (fun l => l[b]?) e
    simp only [List.getElem?_map, this b hlt, Option.map_some, Option.some.injEq] at e2
    exact e2.trans hb
  simp only [Bool.and_eq_true, beq_iff_eq] at han
  have hk : b ∈ kept := by
    have : ∀ b, b < 11 → b = 3 ∨ b = 2 ∨ b = 6 ∨ b ∈ kept := by decide
    rcases this b hlt with rfl | rfl | rfl | q
    · exact absurd (.inl rfl) hnot
    · exact absurd (.inr (.inl rfl)) hnot
    · exact absurd (.inr (.inr han.1)) hnot
    · exact q
  obtain ⟨j, hj⟩ := List.getElem?_of_mem hk
  have e2 := congrArg (fun l => l[j]?) hkept
  simp only [List.getElem?_map, hj, Option.map_some, Option.some.injEq] at e2
  exact e2.trans hb0

theorem HF_size (P : Params) : (HF P).objs.size = 11 := by
  show (List.toArray (low.map fun i => ((TF P).get i).getD default)).size = 11
  rw [List.size_toArray, List.length_map]
  rfl
theorem obs_take (P : Params) : low.all (fun i => ((TF P).get i).isSome) = true ∧ okH (boot_heap P) (HF P) = true ∧ kept.map (TF P).get = kept.map (T0 P).get ∧ (HF P).bltView = bltViewBooted := by
  have ob := Prod.mk.inj (obsF_eq P)
  have o2 := Prod.mk.inj ob.2
  exact ⟨(Bool.and_eq_true_iff.mp ob.1).1, (Bool.and_eq_true_iff.mp ob.1).2, o2.1, o2.2⟩
theorem head_top (w : World) : (∃ s, AfterRun (opening pw) w s) ∧ ∀ s, AfterRun (opening pw) w s → ∃ s₀, fenceModules? pw s = some s₀ ∧ s₀.gens = #[] ∧ ∃ s₁, TopRan pw w s₀ s₁ ∧ s₁.asleep ∧ s₁.gens = #[] ∧ Rep (TF w.params) 2996 25918 s₁ ∧
    s₁.heap.isNs 3 = true ∧ s₁.heap.isNs 0 = true ∧ s₁.heap.bltView = bltViewBooted ∧ s₁.heap.noSeerOk = true ∧ s₁.heap.bmainOk = true ∧ s₁.heap.nsMap 2 "sys.recursionlimit" = none ∧ s₁.heap.nsMap 2 "sys.int_max_str_digits" = none ∧ s₁.heap.isNs 2 = true := by
  obtain ⟨s, hs, hv⟩ := Option.map_eq_some_iff.mp (boot_mine w)
  rw [← table_eq_tree] at hs
  have A := AfterImport.of_importEnds hs
  refine ⟨⟨s, A⟩, fun s' hs' => ?_⟩
  obtain rfl : s' = s := AfterImport.unique hs' A
  obtain ⟨hp, g, d, k, os⟩ := s'
  simp only [Prod.mk.injEq] at hv
  obtain ⟨rfl, rfl, rfl, rfl⟩ := hv
  refine ⟨_, fence_is _, rfl, ?_⟩
  have ha : (⟨boot_heap w.params, Array.mk [], boot_drawn, boot_toks, os⟩ : Shared).asleep := A.life
  obtain ⟨s₁, hsch, hlife, hr, hst⟩ := top_sched w _ T0_rep rfl ha
  obtain ⟨hsome, hok, hkept, hblt⟩ := obs_take w.params
  obtain ⟨m3, m0, m2, mblt, mseer, mbm, macc, mstat, mnb, mlk, mlim, mdig⟩ := lows_gen (HF_size w.params) (agree hr hsome) hok hblt
  have hg1 : s₁.gens = #[] := hst.gens
  have hgen : ∀ g ∈ s₁.gens, match g with | GenState.finished => True | _ => False := fun g hg => by rw [hg1] at hg; simp at hg
  obtain ⟨bm, ob, b1, b2, b3, b4, b5, b6⟩ := Heap.bmainOk_spec mbm
  refine ⟨s₁, ⟨hsch, hlife, Shared.rest_eq hst.os, ?_, ?_, ?_, Pin.keysAreStrs_of m3, fun x hx => (Pin.builtinOf_eq m0 x).trans (Heap.of_bltView m0 mblt x hx), ⟨bm, ob, (Pin.globalOf_eq m3 _).trans b1, b3, b4, b5⟩,
    hgen, names_of_bound mnb, laid_of_kept mlk⟩, Shared.asleep_of_life hlife ha, hg1, hr, m3, m0, mblt, mseer, mbm, mlim, mdig, m2⟩
  · intro b o hb hnot
    exact hr.at_ b o (kept_gen ((T0_rep (P := w.params) (g := #[]) (d := boot_drawn) (os := os)).size) (T0_low w.params) hkept (boot_ann w.params) hb hnot)
  · show staticsAccountedI s₁.heap modsP
    rw [mods_nil]
    exact Heap.accountedI_of_ok macc
  · show staticsBehindTheTop modsP _ _
    rw [mods_nil]
    exact statics_of_ok mstat
end Mine
end JB14

section JB16
open PySem PySem.W PyProof.Rows PySem.Calls
set_option Elab.async false
set_option maxRecDepth 100000
set_option maxHeartbeats 1000000
namespace Mine
theorem HB_ext {P : Params} {S : Shared} (hr : Rep (TF P) 2996 25918 S) : ∀ b o, (HB P).get? b = some o → S.heap.get? b = some o := by
  intro b o h
  have hlt : b < 2996 := by
    have := Heap.lt_size h
    have e : (HB P).objs.size = 2996 := by
      show (((List.range 2996).map fun i => ((TF P).get i).getD dead).toArray).size = 2996
      rw [List.size_toArray, List.length_map, List.length_range]
    rwa [e] at this
  have e : (HB P).objs[b]? = some (((TF P).get b).getD dead) := by
    show (((List.range 2996).map fun i => ((TF P).get i).getD dead).toArray)[b]? = _
    rw [List.getElem?_toArray, List.getElem?_map, List.getElem?_range hlt]
    rfl
  unfold Heap.get? at h
  rw [e] at h
  cases q : (TF P).get b with
  | none => rw [q] at h; cases h
  | some o' =>
    rw [q] at h
    have hS := hr.at_ b o' q
    simp only [Option.getD_some] at h
    split at h
    · cases h
    · rw [hS]; exact h
theorem seen_ok (P : Params) (os : OsState) : openSeen qv looseN [] (xlAt qv []) true ⟨HB P, #[], boot_drawn, 25918, os⟩ = openGood qv looseN := big5 P os
end Mine
end JB16

section JB17
open PySem PySem.W PyProof.Rows PySem.Calls
set_option Elab.async false
set_option maxRecDepth 100000
set_option maxHeartbeats 1000000
namespace Mine
theorem owns_nil : ownsOf qv = [] := by kernel_rfl
theorem ground_gen {w : World} {S : Shared} {H : Heap} (ext : ∀ b o, H.get? b = some o → S.heap.get? b = some o) (he : openSeen qv looseN [] (xlAt qv []) true ⟨H, #[], boot_drawn, 25918, S.os⟩ = openGood qv looseN) : Ground qv looseN [] (XL qv []) w S (S.heap.nsMap mainGlobals) (S.heap.nsMap builtinsNs) S.heap := by
  obtain ⟨G, _, hg, _, _, _, _⟩ := ground_of_open (w := w) (XP := XL qv []) (fun s e => xl_of s e) (by kernel_rfl) he
  have hb : (H).isNs builtinsNs = true := by
    have := G.T.b
    obtain ⟨o, es, ep, ho, hd, hk, _⟩ := this
    unfold Heap.isNs
    rw [ho]
    simp only [hd]
    rw [Array.all_eq_true_iff_forall_mem]
    intro e he
    obtain ⟨n, t, q⟩ := hk e he
    rw [q]
  have same : ∀ a, (H).isNs a = true → (H).get? a = S.heap.get? a := by
    intro a ha
    unfold Heap.isNs at ha
    cases q : (H).get? a with
    | none => rw [q] at ha; cases ha
    | some o => exact (ext a o q).symm
  have e3 := nsMap_c (same mainGlobals hg)
  have e0 := nsMap_c (same builtinsNs hb)
  have m3 : S.heap.isNs mainGlobals = true := (isNs_c (same mainGlobals hg)).symm.trans hg
  have G1 := G.keeps XL.keeps ext
  rw [show (Shared.heap ⟨H, #[], boot_drawn, 25918, S.os⟩) = H from rfl, e3, e0] at G1
  exact ⟨⟨G1.T.g, G1.T.b, G1.T.nolimit, G1.T.nodigits, G1.T.fn, (fun o ho => (by rw [owns_nil] at ho; exact absurd ho List.not_mem_nil)), G1.T.const, G1.T.free, G1.T.builtins, G1.T.tab, G1.T.bmain, G1.T.seer⟩, G1.B, G1.D, G1.TE, G1.TD, G1.W, G1.X,
    fun c a => ⟨fun hc => (Pin.globalOf_eq m3 c).symm.trans (classAt_global hc), fun hc => by unfold classAt; rw [Pin.globalOf_eq m3, hc]⟩, fun c hc => (nomatch hc), fun c c' a hc => (nomatch hc), fun c fs hf => (nomatch hf), G1.K⟩
theorem ground1 {w : World} {S : Shared} (hr : Rep (TF w.params) 2996 25918 S) : Ground qv looseN [] (XL qv []) w S (S.heap.nsMap mainGlobals) (S.heap.nsMap builtinsNs) S.heap :=
  ground_gen (HB_ext hr) (seen_ok w.params S.os)
end Mine
end JB17

section JB18
open PySem PySem.W PyProof.Rows PySem.Calls
set_option Elab.async false
set_option maxRecDepth 100000
set_option maxHeartbeats 1000000
namespace Mine
noncomputable abbrev rw0 : OpenLaw := PySem.Challenge.rw_az0027_01
noncomputable abbrev rowO : OpenRow := OpenLaw.row PySem.Challenge.rw_az0027_01
theorem frees_ok : (frees rowO.toRowW && rowO.within.isEmpty) = true := by kernel_rfl
theorem bare_is : rowO.prog.bare := ⟨rfl, rfl, rfl, rfl, rfl, by decide +kernel⟩
theorem holds_row {d : DefRec} {kwd : List (Str × Expr)} (def_is : defOf qv rowO.name = some (d, kwd)) (the_def : rowO.prog.theDef rowO.name = some (d.params, d.body, d.scope)) (kw_is : kwWritten? d.params.kwonlyargs d.params.kw_defaults = some kwd) {YP : World → Heap → Prop} (hY : ∀ w S, Rep (TF w.params) 2996 25918 S → YP w S.heap) (hYk : ∀ w h h', YP w h → (∀ b o, h.get? b = some o → h'.get? b = some o) → YP w h')
    (k1 : rowO.wellSaid = true) (hw : rowO.toRowW.promised) (call : WalkO qv looseN (XL qv []) YP rowO.toRowW d kwd fun f vs => PySem.call f vs) : rowO.Holds := by
  obtain ⟨k5, k6⟩ := Bool.and_eq_true_iff.mp frees_ok
  obtain ⟨hsame, hu, ha, hap, hm⟩ := frees_parts k5
  refine ⟨k1, hw, ⟨bare_is, opens_is, rfl⟩, hw.witness, fun w => ⟨(head_top w).1, fun s' hs' => ?_⟩⟩
  obtain ⟨s₀, hf, hg0, s, hT, hz, hgens, hr, hg, _⟩ := (head_top w).2 s' hs'
  have G := ground1 hr
  have y := hY w s hr
  refine ⟨s₀, hf, hg0, s, hT, fun n hn => ?_, fun x hx => (nomatch hx), fun x hx => (nomatch hx), ?_⟩
  · obtain rfl : n = rowO.name := by
      have : n ∈ [rowO.name] := hn
      simpa using this
    exact pinned_of_view hg G def_is the_def kw_is
  · refine ClaimW.callFrom_of_specG (c := rowO.toRowW.claim) (tree := fun vs => do match ← nsGet mainNs rowO.name with
      | some f => do ret (← PySem.call f vs)
      | none => unsupported "claim.caller:no-such-global") hz hgens fun args hpre hlay ord hord => ?_
    obtain ⟨⟨vs, s₁⟩, hlaid⟩ := Option.isSome_iff_exists.mp (layAllW_isSome (P := w.params) (ord := ord) G.has args rowO.args s (pre_splitW hpre).1)
    have keeps := layAllW_keeps _ _ _ hlaid
    have hal := layAllW_rest _ _ _ hlaid
    obtain ⟨as, hrd, hin, hold⟩ := reads_layAllW hord _ _ _ hlaid hlay s₁.heap (fun _ _ e => e)
    have L : Laid rowO.records w s s₁ args vs as := ⟨⟨ord, hord, hlaid⟩, hrd, hin, hold, keeps, hal.1.trans hgens, hal.2.2.1⟩
    have G₁ := G.keeps XL.keeps keeps
    obtain ⟨a, o, pm, cd, doc, dV, kV, h1, h2, h3, h4, h5⟩ := G₁.fn def_is
    have h := call w s s₁ _ _ G₁ (hYk _ _ _ y keeps) a o pm cd doc dV kV h2 h3 h4 h5 (defOf_name def_is ▸ h1) L.gens args vs as hpre hlay L.reads L.well (L.low G.low)
    have hi := ident_freeW hu ha hap
    have hwi : rowO.toRowW.claim.within = [] := List.isEmpty_iff.mp k6
    refine ⟨vs, s₁, hlaid, wpAny_bind (wpAny_nsGet G₁.T.g (by rw [h1]; exact wpAny_bind (wpAny_mono h (fun v s' g => wpAny_pure ⟨_, rfl, have z := g.laid (c := rowO.toRowW.claim) hsame hwi hi L; ⟨z.1, z.2.1, z.2.2, fun q => (nomatch q)⟩⟩) fun e s' g => have z := g.laid (c := rowO.toRowW.claim) hsame hwi hi L; ⟨z.1, z.2.1, z.2.2, fun q => (nomatch q)⟩)))⟩
theorem hookY {K : Params → Frag} {as : List Addr} {e : ∀ P, as = (K P).map (·.1)} (h : ∀ P, as.map (TF P).get = (K P).map (fun p => some p.2)) (w : World) (S : Shared) (hr : Rep (TF w.params) 2996 25918 S) : (kHook K as e).says w S.heap := by
  refine Frag.in_of (e w.params) ?_
  rw [← h w.params]
  refine List.map_congr_left fun a ha => ?_
  have h1 : (TF w.params).get a ∈ as.map (TF w.params).get := List.mem_map.mpr ⟨a, ha, rfl⟩
  rw [h w.params] at h1
  obtain ⟨p, _, hp⟩ := List.mem_map.mp h1
  rw [← hp]
  exact hr.at_ a p.2 hp.symm
end Mine
end JB18

section JSAID
open PySem PySem.W PyProof.Rows PySem.Calls
set_option Elab.async false
set_option maxRecDepth 100000
set_option maxHeartbeats 4000000
namespace Mine
theorem re_looks {b1 b2 b3 b4 b5 b6 : Bool} (h : (b1 && b2 && b3 && b4 && b6) = true) (h5 : b5 = true) : (b1 && b2 && b3 && b4 && b5 && b6) = true := by
  subst h5; revert h; cases b1 <;> cases b2 <;> cases b3 <;> cases b4 <;> cases b6 <;> decide
theorem looks_ok : looksOpen rowO.prog = true := by
  delta looksOpen
  rw [Fast.te8326940854005059898, Fast.te8377067652309620493, Fast.te17119622794617984870]
  exact re_looks (by decide +kernel) (by decide +kernel)
theorem said_ok : OpenLaw.wellSaid PySem.Challenge.rw_az0027_01 = true := by
  delta OpenLaw.wellSaid OpenRow.wellSaid OpenRow.partSaid
  rw [looks_ok, Fast.te8326940854005059898, Fast.te17119622794617984870, Fast.named_eq]
  kernel_rfl
end Mine
end JSAID

section JC2
open PySem PySem.W PyProof.Rows PySem.Calls
set_option Elab.async false
set_option maxRecDepth 100000
set_option maxHeartbeats 1000000
namespace Mine
theorem addrsK_is (P : Params) : addrsK = (K P).map (·.1) := by kernel_rfl
theorem K_at (P : Params) : addrsK.map (TF P).get = (K P).map (fun p => some p.2) := big3 P
end Mine
end JC2

section JC3
open PySem PySem.W PyProof.Rows PySem.Calls
set_option Elab.async false
set_option maxRecDepth 100000
set_option maxHeartbeats 1000000
namespace Mine
noncomputable abbrev pwL : Program := PySem.Challenge.pw_az0027_01
noncomputable abbrev mkA (d : Nat) (fr : Option (List Env)) (gs : Option (List Code)) (u : Nat) : Around := ⟨none, d, fr, gs, u⟩
theorem InstAt_keeps {h h' : Heap} {x C : Addr} {ox : Obj} {od : Option Obj} (I : InstAt h x ox C od) (k : ∀ b o, h.get? b = some o → h'.get? b = some o) : InstAt h' x ox C od := by
  obtain ⟨a, b, c, d⟩ := I
  refine ⟨k _ _ a, b, c, ?_⟩
  revert d
  cases ox.dict <;> cases od <;> intro d <;> first | exact d | exact k _ _ d

section
variable {w : World} {A : Around} {s : Shared} {h₀ : Heap} {mg mb : Str → Option Value} {news : List (Addr × Obj)} {p : Program} {loose : List Str} {mean : ExcName → Option Value}
  {R : Result → Shared → Prop} {name qual : Str} {params : Arguments} {body : List Stmt} {scope : Scope} {cl : List (Str × Addr)} {dV kV doc pm cdv ct oc : Value} {an od : Option Addr} {osl : Array (Option Value)} {f : Addr} {args : Args} {binds : List (Str × Value)}

theorem enterX {KF : Frag} (st : h₀.StaysIn s.heap) (hn : ∀ q ∈ news, s.heap.get? q.1 = some q.2 ∧ h₀.get? q.1 = none) (X : KF.In h₀) (T : Top p loose mean mg mb h₀)
    (ho : KF.lookup f = some ⟨oc, od, .func (fnX name qual params body scope cl dV kV doc pm an cdv ct), osl⟩) (hcd : codeIn KF cdv qual = true) (hroom : A.depth < recursionLimit)
    (hbind : BindsTo s (fnX name qual params body scope cl dV kV doc pm an cdv ct) args binds) (hloc : ∀ y ∈ binds, scope.names.lookup y.1 = some .local)
    (h : ∀ g L' h₁, g = hideAll s.heap (news.map (·.1)) → Fr g L' h₁ (fun y => binds.reverse.lookup y) → News g L' h₁ news → KF.In g → Top p loose mean mg mb g → h₀.StaysIn g → GSub s.heap g (news.map (·.1)) → (∀ q ∈ news, q.1 < L') →
      wpAny (model pwL w) (A.deeper (envX qual scope L' f cdv cl)) (execs body (envX qual scope L' f cdv cl))
        (fun fl s' => R (.ok (.ret (match fl with | .ret v => v | _ => .none))) s') (fun _ _ => False) { s with heap := h₁, toks := s.toks + binds.length })
    (hco : scope.isCoroutine = false) (hgen : scope.isGenerator = false) (hk : scope.kind = .function) (hcell : ∀ x ∈ scope.names, x.2 ≠ .cell) :
    codeAny (model pwL w) A (.call (.ref f) args) R s := by
  have nm : ∀ b o, h₀.get? b = some o → b ∉ news.map (·.1) := fun b o e q => by
    obtain ⟨r, hr, rfl⟩ := List.mem_map.mp q
    rw [(hn r hr).2] at e; cases e
  have sg : h₀.StaysIn (hideAll s.heap (news.map (·.1))) := fun b o e => hideAll_get _ (st b o e) (nm b o e)
  refine codeAny_call_def (fd := fnX name qual params body scope cl dV kV doc pm an cdv ct) (body := body) (binds := binds) hroom ((X.keeps st) _ _ ho) rfl (T.nolimit.keeps st) (codeRec_of (X.keeps st) hcd) rfl hbind hcell hloc (fun h₁ hns hk₁ => ?_) hco hgen hk
  exact wpAny_mono (h _ s.heap.objs.size h₁ rfl ⟨hns, fun b o e => hk₁ b o (of_hideAll _ e), Nat.le_of_eq (hideAll_size _ _)⟩
    (fun q hq => ⟨hk₁ _ _ (hn q hq).1, Nat.ne_of_lt (Heap.lt_size (hn q hq).1), hideAll_none _ (List.mem_map_of_mem hq)⟩) (X.keeps sg) (T.keeps sg) sg (fun b o e n => hideAll_get _ e n) (fun q hq => Heap.lt_size (hn q hq).1)) (fun fl s' hl => hl) fun _ _ y => y.elim

/-- a def that changes nothing that stands -/
theorem enterP {KF : Frag} (X : KF.In s.heap) (T : Top p loose mean mg mb s.heap)
    (ho : KF.lookup f = some ⟨oc, od, .func (fnX name qual params body scope [] dV kV doc pm an cdv ct), osl⟩) (hcd : codeIn KF cdv qual = true) (hroom : A.depth < recursionLimit)
    (hbind : BindsTo s (fnX name qual params body scope [] dV kV doc pm an cdv ct) args binds) (hloc : ∀ y ∈ binds, scope.names.lookup y.1 = some .local)
    (h : ∀ L' h₁, Fr s.heap L' h₁ (fun y => binds.reverse.lookup y) → News s.heap L' h₁ [] →
      wpAny (model pwL w) (A.deeper (envOf qual scope L' f cdv)) (execs body (envOf qual scope L' f cdv))
        (fun fl s' => R (.ok (.ret (match fl with | .ret v => v | _ => .none))) s') (fun _ _ => False) { s with heap := h₁, toks := s.toks + binds.length })
    (hco : scope.isCoroutine = false) (hgen : scope.isGenerator = false) (hk : scope.kind = .function) (hcell : ∀ x ∈ scope.names, x.2 ≠ .cell) :
    codeAny (model pwL w) A (.call (.ref f) args) R s :=
  enterX (news := []) (h₀ := s.heap) (fun _ _ e => e) (fun _ h => (nomatch h)) X T ho hcd hroom hbind hloc (fun g L' h₁ e F N _ _ _ _ _ => by subst e; exact h L' h₁ F N) hco hgen hk hcell
end

/-! the two families -/
inductive Kd where | v4 | v6
noncomputable def Kd.addr : Kd → Addr | .v4 => 1644 | .v6 => 2197
noncomputable def Kd.cls : Kd → Addr | .v4 => 1638 | .v6 => 2191
noncomputable def Kd.dict : Kd → Addr | .v4 => 1643 | .v6 => 2196
noncomputable def Kd.wid : Kd → Nat | .v4 => 32 | .v6 => 128
noncomputable def Kd.ver : Kd → Int | .v4 => 4 | .v6 => 6
noncomputable def Kd.max (k : Kd) : Int := 2 ^ k.wid - 1
noncomputable def Kd.vtok : Kd → Tok | .v4 => 20325 | .v6 => 21393
noncomputable def Kd.wtok : Kd → Tok | .v4 => 20319 | .v6 => 21385
noncomputable def Kd.mtok : Kd → Tok | .v4 => 20330 | .v6 => 21398
section
variable {w : World} {A : Around} {s : Shared} {E : Value → Shared → Prop} {Q : Value → Shared → Prop} {e : Bool}
theorem get_kd {k : Kd} {name : Str} {i : Int} {t : Tok} (h1 : ∀ P, plainGet (K P) k.cls name = true) (h2 : ∀ P, hasDictIn (K P) k.cls = true) (h3 : ∀ P, findIn (K P) (.ref k.cls) name = some none)
    (h4 : ∀ P, ∃ es n, (K P).lookup k.addr = some ⟨.ref k.cls, some k.dict, .plain, [].toArray⟩ ∧ (K P).lookup k.dict = some (dictOf es n) ∧ getL name es = some (some (.int i t)))
    (X : (K w.params).In s.heap) (h : Q (.int i t) { s with toks := s.toks + 1 }) : wpAny (model pwL w) A (getAttr (.ref k.addr) name e) Q E s := by
  obtain ⟨es, n, a1, a2, a3⟩ := h4 w.params
  exact get_value X (InstAt.of_K X a1 a2) (plainGet_of (h1 _)).1 (findObj_own (h2 _) (h3 _) rfl a3) rfl h
theorem get_width {k : Kd} (X : (K w.params).In s.heap) (h : Q (.int k.wid k.wtok) { s with toks := s.toks + 1 }) : wpAny (model pwL w) A (getAttr (.ref k.addr) (Str.ofString "width") e) Q E s := by
  cases k
  · exact get_kd (k := .v4) (fun _ => by kernel_rfl) (fun _ => by kernel_rfl) (fun _ => by kernel_rfl) (fun _ => ⟨_, _, rfl, rfl, rfl⟩) X h
  · exact get_kd (k := .v6) (fun _ => by kernel_rfl) (fun _ => by kernel_rfl) (fun _ => by kernel_rfl) (fun _ => ⟨_, _, rfl, rfl, rfl⟩) X h
theorem get_version {k : Kd} (X : (K w.params).In s.heap) (h : Q (.int k.ver k.vtok) { s with toks := s.toks + 1 }) : wpAny (model pwL w) A (getAttr (.ref k.addr) (Str.ofString "version") e) Q E s := by
  cases k
  · exact get_kd (k := .v4) (fun _ => by kernel_rfl) (fun _ => by kernel_rfl) (fun _ => by kernel_rfl) (fun _ => ⟨_, _, rfl, rfl, rfl⟩) X h
  · exact get_kd (k := .v6) (fun _ => by kernel_rfl) (fun _ => by kernel_rfl) (fun _ => by kernel_rfl) (fun _ => ⟨_, _, rfl, rfl, rfl⟩) X h
theorem get_max {k : Kd} (X : (K w.params).In s.heap) (h : Q (.int k.max k.mtok) { s with toks := s.toks + 1 }) : wpAny (model pwL w) A (getAttr (.ref k.addr) (Str.ofString "max_int") e) Q E s := by
  cases k
  · exact get_kd (k := .v4) (i := Kd.max .v4) (fun _ => by kernel_rfl) (fun _ => by kernel_rfl) (fun _ => by kernel_rfl) (fun _ => ⟨_, _, rfl, rfl, by kernel_rfl⟩) X h
  · exact get_kd (k := .v6) (i := Kd.max .v6) (fun _ => by kernel_rfl) (fun _ => by kernel_rfl) (fun _ => by kernel_rfl) (fun _ => ⟨_, _, rfl, rfl, by kernel_rfl⟩) X h
end

end Mine
end JC3

section JC4
open PySem PySem.W PyProof.Rows PySem.Calls
set_option Elab.async false
set_option maxRecDepth 100000
set_option maxHeartbeats 4000000
namespace Mine
theorem filled : (PySem.Challenge.rw_az0027_01, K) = (PySem.Challenge.rw_az0027_01, K) := by k_fill; rfl
noncomputable def netEs (P : Params) (t1 t2 t3 : Tok) (v : Int) (tv : Tok) (ma : Addr) (p : Int) (tp : Tok) : List DictEntry :=
  [⟨PyData.keyHash P (Str.ofString "_value"), .str (Str.ofString "_value") t1, .int v tv⟩, ⟨PyData.keyHash P (Str.ofString "_module"), .str (Str.ofString "_module") t2, .ref ma⟩, ⟨PyData.keyHash P (Str.ofString "_prefixlen"), .str (Str.ofString "_prefixlen") t3, .int p tp⟩]
noncomputable def addrEs (P : Params) (t1 t2 : Tok) (v : Int) (tv : Tok) (ma : Addr) : List DictEntry :=
  [⟨PyData.keyHash P (Str.ofString "_value"), .str (Str.ofString "_value") t1, .int v tv⟩, ⟨PyData.keyHash P (Str.ofString "_module"), .str (Str.ofString "_module") t2, .ref ma⟩]
noncomputable def NetAt (P : Params) (h : Heap) (x : Addr) (v p : Int) (k : Kd) : Prop :=
  ∃ dx t1 t2 t3 tv tp n, h.get? x = some (instObj 2868 dx) ∧ h.get? dx = some (dictOf (netEs P t1 t2 t3 v tv k.addr p tp) n)
noncomputable def AddrAt (P : Params) (h : Heap) (x : Addr) (v : Int) (k : Kd) : Prop :=
  ∃ dx t1 t2 tv n, h.get? x = some (instObj 2565 dx) ∧ h.get? dx = some (dictOf (addrEs P t1 t2 v tv k.addr) n)
theorem NetAt.keeps {P : Params} {h h' : Heap} {x : Addr} {v p : Int} {k : Kd} (N : NetAt P h x v p k) (st : h.StaysIn h') : NetAt P h' x v p k := by
  obtain ⟨dx, t1, t2, t3, tv, tp, n, a, b⟩ := N
  exact ⟨dx, t1, t2, t3, tv, tp, n, st _ _ a, st _ _ b⟩
theorem AddrAt.keeps {P : Params} {h h' : Heap} {x : Addr} {v : Int} {k : Kd} (N : AddrAt P h x v k) (st : h.StaysIn h') : AddrAt P h' x v k := by
  obtain ⟨dx, t1, t2, tv, n, a, b⟩ := N
  exact ⟨dx, t1, t2, tv, n, st _ _ a, st _ _ b⟩
noncomputable def hostI (k : Kd) (p : Int) : Int := 1 * 2 ^ ((k.wid : Int) - p).toNat - 1
noncomputable def maskI (k : Kd) (p : Int) : Int := Builtin.bitXor k.max (hostI k p)
noncomputable def firstI (k : Kd) (v p : Int) : Int := Builtin.bitAnd v (maskI k p)
theorem wid_le (k : Kd) : (k.wid : Int) ≤ 128 := by cases k <;> decide
local macro_rules | `(tactic| k_inst) => `(tactic| first | (refine' InstAt_keeps ?I ?k; (case I => assumption); (case k => exact Fr.keep (by k_asm))) | fail "no ground")
local macro_rules | `(tactic| walk_at "getAttr ref") => `(tactic| (k_here; (with_reducible first | refine get_width (by k_in) ?_ | refine get_version (by k_in) ?_ | refine get_max (by k_in) ?_)))

section
variable {w : World} {ad au : Nat} {afr : Option (List Env)} {ags : Option (List Code)} {s : Shared} {h₀ : Heap} {L : Addr} {m : Str → Option Value} {news : List (Addr × Obj)} {mg mb : Str → Option Value} {p : Program} {loose : List Str} {mean : ExcName → Option Value} {R : Result → Shared → Prop} {Q : Value → Shared → Prop} {E : Value → Shared → Prop} {e : Bool}

theorem c_host {x : Addr} {v pl : Int} {k : Kd} (X : (K w.params).In s.heap) (T : Top p loose mean mg mb s.heap) (hN : NetAt w.params s.heap x v pl k) (hp : 0 ≤ pl ∧ pl ≤ k.wid) (hroom : ad + 2 < recursionLimit)
    (hR : ∀ h' tk t, s.heap.StaysIn h' → R (.ok (.ret (.int (hostI k pl) t))) { s with heap := h', toks := tk }) : codeAny (model pwL w) (mkA ad afr ags au) (.call (.ref 2746) ⟨[.ref x], []⟩) R s := by
  have hN0 := hN
  obtain ⟨dx, t1, t2, t3, tv, tp, n, hx, hd⟩ := hN0
  have I : InstAt s.heap x (instObj 2868 dx) 2868 (some (dictOf (netEs w.params t1 t2 t3 v tv k.addr pl tp) n)) := ⟨hx, rfl, rfl, hd⟩
  unfold netEs at I
  refine' enterP (binds := [(Str.ofString "self", .ref x)]) X T ?ho ?hc ?hr ?hb ?hl ?_ ?c1 ?c2 ?c3 ?c4
  case ho => k_is
  case hc => k_is
  case hr => (first | omega | (simp only [depth_under_make, depth_under_kw, depth_in1, depth_deeper]; omega) | (simp only [Around.deeper, Around.in1, Around.under]; omega))
  case hb => exact BindsTo.of_eq rfl
  case hl => exact locs rfl
  case c1 => rfl
  case c2 => rfl
  case c3 => rfl
  case c4 => decide
  intro L' h₁ F N
  simp only [fb2746]
  have hw := wid_le k
  (try k_fold)
  k_steps
  exact hR _ _ _ (Fr.keep (by assumption))
theorem g_host {A : Around} {x : Addr} {v pl : Int} {k : Kd} (F : Fr h₀ L s.heap m) (N : News h₀ L s.heap news) (X₀ : (K w.params).In h₀) (T : Top p loose mean mg mb h₀) (hN : NetAt w.params s.heap x v pl k) (hp : 0 ≤ pl ∧ pl ≤ k.wid) (hA : A.handled = none) (hroom : A.depth + 2 < recursionLimit)
    (h : ∀ h' tk t, s.heap.StaysIn h' → Fr h₀ L h' m → News h₀ L h' news → Q (.int (hostI k pl) t) { s with heap := h', toks := tk }) : wpAny (model pwL w) A (getAttr (.ref x) (Str.ofString "_hostmask_int") e) Q E s := by
  obtain ⟨ah, ad, afr, ags, au⟩ := A
  dsimp only at hA hroom
  subst hA
  have hN0 := hN
  obtain ⟨dx, t1, t2, t3, tv, tp, n, hx, hd⟩ := hN0
  refine' get_prop F X₀ (⟨hx, rfl, rfl, hd⟩ : InstAt s.heap x (instObj 2868 dx) 2868 (some (dictOf (netEs w.params t1 t2 t3 v tv k.addr pl tp) n))) ?a1 ?a2 ?a3 ?a4 ?a5 ?a6 ?_
  case a1 => k_is
  case a2 => k_is
  case a3 => k_is
  case a4 => k_is
  case a5 => k_is
  case a6 => k_is
  exact c_host (s := { s with toks := s.toks + 1 }) (X₀.keeps F.keep) (T.keeps F.keep) hN hp hroom (fun h' tk t st => handed_on rfl (h h' tk t st (F.keeps st) (N.grown st)))
local macro_rules | `(tactic| walk_at "getAttr ref") => `(tactic| (k_here; (with_reducible refine' g_host ?F ?N ?X ?T ?hN ?hp ?hA ?hr ?_); (case hA => rfl); (case F => k_asm); (case N => k_asm); (case X => k_asm); (case T => k_asm); (case hN => first | assumption | exact NetAt.keeps (by assumption) (Fr.keep (by k_asm))); (case hp => assumption); (case hr => (first | omega | (simp only [depth_under_make, depth_under_kw, depth_in1, depth_deeper]; omega) | (simp only [Around.deeper, Around.in1, Around.under]; omega))); intro h8' tk8 t st8' F' N'; (try k_sweep)))

theorem c_mask {x : Addr} {v pl : Int} {k : Kd} (X : (K w.params).In s.heap) (T : Top p loose mean mg mb s.heap) (hN : NetAt w.params s.heap x v pl k) (hp : 0 ≤ pl ∧ pl ≤ k.wid) (hroom : ad + 3 < recursionLimit)
    (hR : ∀ h' tk t, s.heap.StaysIn h' → R (.ok (.ret (.int (maskI k pl) t))) { s with heap := h', toks := tk }) : codeAny (model pwL w) (mkA ad afr ags au) (.call (.ref 2730) ⟨[.ref x], []⟩) R s := by
  have hN0 := hN
  obtain ⟨dx, t1, t2, t3, tv, tp, n, hx, hd⟩ := hN0
  have I : InstAt s.heap x (instObj 2868 dx) 2868 (some (dictOf (netEs w.params t1 t2 t3 v tv k.addr pl tp) n)) := ⟨hx, rfl, rfl, hd⟩
  unfold netEs at I
  refine' enterP (binds := [(Str.ofString "self", .ref x)]) X T ?ho ?hc ?hr ?hb ?hl ?_ ?c1 ?c2 ?c3 ?c4
  case ho => k_is
  case hc => k_is
  case hr => (first | omega | (simp only [depth_under_make, depth_under_kw, depth_in1, depth_deeper]; omega) | (simp only [Around.deeper, Around.in1, Around.under]; omega))
  case hb => exact BindsTo.of_eq rfl
  case hl => exact locs rfl
  case c1 => rfl
  case c2 => rfl
  case c3 => rfl
  case c4 => decide
  intro L' h₁ F N
  simp only [fb2730]
  have hw := wid_le k
  (try k_fold)
  k_steps
  exact hR _ _ _ (Fr.keep (by assumption))
theorem g_mask {A : Around} {x : Addr} {v pl : Int} {k : Kd} (F : Fr h₀ L s.heap m) (N : News h₀ L s.heap news) (X₀ : (K w.params).In h₀) (T : Top p loose mean mg mb h₀) (hN : NetAt w.params s.heap x v pl k) (hp : 0 ≤ pl ∧ pl ≤ k.wid) (hA : A.handled = none) (hroom : A.depth + 3 < recursionLimit)
    (h : ∀ h' tk t, s.heap.StaysIn h' → Fr h₀ L h' m → News h₀ L h' news → Q (.int (maskI k pl) t) { s with heap := h', toks := tk }) : wpAny (model pwL w) A (getAttr (.ref x) (Str.ofString "_netmask_int") e) Q E s := by
  obtain ⟨ah, ad, afr, ags, au⟩ := A
  dsimp only at hA hroom
  subst hA
  have hN0 := hN
  obtain ⟨dx, t1, t2, t3, tv, tp, n, hx, hd⟩ := hN0
  refine' get_prop F X₀ (⟨hx, rfl, rfl, hd⟩ : InstAt s.heap x (instObj 2868 dx) 2868 (some (dictOf (netEs w.params t1 t2 t3 v tv k.addr pl tp) n))) ?a1 ?a2 ?a3 ?a4 ?a5 ?a6 ?_
  case a1 => k_is
  case a2 => k_is
  case a3 => k_is
  case a4 => k_is
  case a5 => k_is
  case a6 => k_is
  exact c_mask (s := { s with toks := s.toks + 1 }) (X₀.keeps F.keep) (T.keeps F.keep) hN hp hroom (fun h' tk t st => handed_on rfl (h h' tk t st (F.keeps st) (N.grown st)))
local macro_rules | `(tactic| walk_at "getAttr ref") => `(tactic| (k_here; (with_reducible refine' g_mask ?F ?N ?X ?T ?hN ?hp ?hA ?hr ?_); (case hA => rfl); (case F => k_asm); (case N => k_asm); (case X => k_asm); (case T => k_asm); (case hN => first | assumption | exact NetAt.keeps (by assumption) (Fr.keep (by k_asm))); (case hp => assumption); (case hr => (first | omega | (simp only [depth_under_make, depth_under_kw, depth_in1, depth_deeper]; omega) | (simp only [Around.deeper, Around.in1, Around.under]; omega))); intro h8' tk8 t st8' F' N'; (try k_sweep)))

theorem c_first {x : Addr} {v pl : Int} {k : Kd} (X : (K w.params).In s.heap) (T : Top p loose mean mg mb s.heap) (hN : NetAt w.params s.heap x v pl k) (hp : 0 ≤ pl ∧ pl ≤ k.wid) (hroom : ad + 3 < recursionLimit)
    (hR : ∀ h' tk t, s.heap.StaysIn h' → R (.ok (.ret (.int (firstI k v pl) t))) { s with heap := h', toks := tk }) : codeAny (model pwL w) (mkA ad afr ags au) (.call (.ref 2697) ⟨[.ref x], []⟩) R s := by
  have hN0 := hN
  obtain ⟨dx, t1, t2, t3, tv, tp, n, hx, hd⟩ := hN0
  have I : InstAt s.heap x (instObj 2868 dx) 2868 (some (dictOf (netEs w.params t1 t2 t3 v tv k.addr pl tp) n)) := ⟨hx, rfl, rfl, hd⟩
  unfold netEs at I
  refine' enterP (binds := [(Str.ofString "self", .ref x)]) X T ?ho ?hc ?hr ?hb ?hl ?_ ?c1 ?c2 ?c3 ?c4
  case ho => k_is
  case hc => k_is
  case hr => (first | omega | (simp only [depth_under_make, depth_under_kw, depth_in1, depth_deeper]; omega) | (simp only [Around.deeper, Around.in1, Around.under]; omega))
  case hb => exact BindsTo.of_eq rfl
  case hl => exact locs rfl
  case c1 => rfl
  case c2 => rfl
  case c3 => rfl
  case c4 => decide
  intro L' h₁ F N
  simp only [fb2697]
  have hw := wid_le k
  (try k_fold)
  k_steps
  exact hR _ _ _ (Fr.keep (by assumption))
theorem g_first {A : Around} {x : Addr} {v pl : Int} {k : Kd} (F : Fr h₀ L s.heap m) (N : News h₀ L s.heap news) (X₀ : (K w.params).In h₀) (T : Top p loose mean mg mb h₀) (hN : NetAt w.params s.heap x v pl k) (hp : 0 ≤ pl ∧ pl ≤ k.wid) (hA : A.handled = none) (hroom : A.depth + 3 < recursionLimit)
    (h : ∀ h' tk t, s.heap.StaysIn h' → Fr h₀ L h' m → News h₀ L h' news → Q (.int (firstI k v pl) t) { s with heap := h', toks := tk }) : wpAny (model pwL w) A (getAttr (.ref x) (Str.ofString "first") e) Q E s := by
  obtain ⟨ah, ad, afr, ags, au⟩ := A
  dsimp only at hA hroom
  subst hA
  have hN0 := hN
  obtain ⟨dx, t1, t2, t3, tv, tp, n, hx, hd⟩ := hN0
  refine' get_prop F X₀ (⟨hx, rfl, rfl, hd⟩ : InstAt s.heap x (instObj 2868 dx) 2868 (some (dictOf (netEs w.params t1 t2 t3 v tv k.addr pl tp) n))) ?a1 ?a2 ?a3 ?a4 ?a5 ?a6 ?_
  case a1 => k_is
  case a2 => k_is
  case a3 => k_is
  case a4 => k_is
  case a5 => k_is
  case a6 => k_is
  exact c_first (s := { s with toks := s.toks + 1 }) (X₀.keeps F.keep) (T.keeps F.keep) hN hp hroom (fun h' tk t st => handed_on rfl (h h' tk t st (F.keeps st) (N.grown st)))
local macro_rules | `(tactic| walk_at "getAttr ref") => `(tactic| (k_here; (with_reducible refine' g_first ?F ?N ?X ?T ?hN ?hp ?hA ?hr ?_); (case hA => rfl); (case F => k_asm); (case N => k_asm); (case X => k_asm); (case T => k_asm); (case hN => first | assumption | exact NetAt.keeps (by assumption) (Fr.keep (by k_asm))); (case hp => assumption); (case hr => (first | omega | (simp only [depth_under_make, depth_under_kw, depth_in1, depth_deeper]; omega) | (simp only [Around.deeper, Around.in1, Around.under]; omega))); intro h8' tk8 t st8' F' N'; (try k_sweep)))

theorem c_prefix {x : Addr} {v pl : Int} {k : Kd} (X : (K w.params).In s.heap) (T : Top p loose mean mg mb s.heap) (hN : NetAt w.params s.heap x v pl k) (hroom : ad + 2 < recursionLimit)
    (hR : ∀ h' tk t, s.heap.StaysIn h' → R (.ok (.ret (.int (pl) t))) { s with heap := h', toks := tk }) : codeAny (model pwL w) (mkA ad afr ags au) (.call (.ref 2656) ⟨[.ref x], []⟩) R s := by
  have hN0 := hN
  obtain ⟨dx, t1, t2, t3, tv, tp, n, hx, hd⟩ := hN0
  have I : InstAt s.heap x (instObj 2868 dx) 2868 (some (dictOf (netEs w.params t1 t2 t3 v tv k.addr pl tp) n)) := ⟨hx, rfl, rfl, hd⟩
  unfold netEs at I
  refine' enterP (binds := [(Str.ofString "self", .ref x)]) X T ?ho ?hc ?hr ?hb ?hl ?_ ?c1 ?c2 ?c3 ?c4
  case ho => k_is
  case hc => k_is
  case hr => (first | omega | (simp only [depth_under_make, depth_under_kw, depth_in1, depth_deeper]; omega) | (simp only [Around.deeper, Around.in1, Around.under]; omega))
  case hb => exact BindsTo.of_eq rfl
  case hl => exact locs rfl
  case c1 => rfl
  case c2 => rfl
  case c3 => rfl
  case c4 => decide
  intro L' h₁ F N
  simp only [fb2656]
  have hw := wid_le k
  (try k_fold)
  k_steps
  exact hR _ _ _ (Fr.keep (by assumption))
theorem g_prefix {A : Around} {x : Addr} {v pl : Int} {k : Kd} (F : Fr h₀ L s.heap m) (N : News h₀ L s.heap news) (X₀ : (K w.params).In h₀) (T : Top p loose mean mg mb h₀) (hN : NetAt w.params s.heap x v pl k) (hA : A.handled = none) (hroom : A.depth + 2 < recursionLimit)
    (h : ∀ h' tk t, s.heap.StaysIn h' → Fr h₀ L h' m → News h₀ L h' news → Q (.int (pl) t) { s with heap := h', toks := tk }) : wpAny (model pwL w) A (getAttr (.ref x) (Str.ofString "prefixlen") e) Q E s := by
  obtain ⟨ah, ad, afr, ags, au⟩ := A
  dsimp only at hA hroom
  subst hA
  have hN0 := hN
  obtain ⟨dx, t1, t2, t3, tv, tp, n, hx, hd⟩ := hN0
  refine' get_prop F X₀ (⟨hx, rfl, rfl, hd⟩ : InstAt s.heap x (instObj 2868 dx) 2868 (some (dictOf (netEs w.params t1 t2 t3 v tv k.addr pl tp) n))) ?a1 ?a2 ?a3 ?a4 ?a5 ?a6 ?_
  case a1 => k_is
  case a2 => k_is
  case a3 => k_is
  case a4 => k_is
  case a5 => k_is
  case a6 => k_is
  exact c_prefix (s := { s with toks := s.toks + 1 }) (X₀.keeps F.keep) (T.keeps F.keep) hN hroom (fun h' tk t st => handed_on rfl (h h' tk t st (F.keeps st) (N.grown st)))
local macro_rules | `(tactic| walk_at "getAttr ref") => `(tactic| (k_here; (with_reducible refine' g_prefix ?F ?N ?X ?T ?hN ?hA ?hr ?_); (case hA => rfl); (case F => k_asm); (case N => k_asm); (case X => k_asm); (case T => k_asm); (case hN => first | assumption | exact NetAt.keeps (by assumption) (Fr.keep (by k_asm))); (case hr => (first | omega | (simp only [depth_under_make, depth_under_kw, depth_in1, depth_deeper]; omega) | (simp only [Around.deeper, Around.in1, Around.under]; omega))); intro h8' tk8 t st8' F' N'; (try k_sweep)))

theorem c_version {x : Addr} {v pl : Int} {k : Kd} (X : (K w.params).In s.heap) (T : Top p loose mean mg mb s.heap) (hN : NetAt w.params s.heap x v pl k) (hroom : ad + 2 < recursionLimit)
    (hR : ∀ h' tk, s.heap.StaysIn h' → R (.ok (.ret (.int (k.ver) k.vtok))) { s with heap := h', toks := tk }) : codeAny (model pwL w) (mkA ad afr ags au) (.call (.ref 2313) ⟨[.ref x], []⟩) R s := by
  have hN0 := hN
  obtain ⟨dx, t1, t2, t3, tv, tp, n, hx, hd⟩ := hN0
  have I : InstAt s.heap x (instObj 2868 dx) 2868 (some (dictOf (netEs w.params t1 t2 t3 v tv k.addr pl tp) n)) := ⟨hx, rfl, rfl, hd⟩
  unfold netEs at I
  refine' enterP (binds := [(Str.ofString "self", .ref x)]) X T ?ho ?hc ?hr ?hb ?hl ?_ ?c1 ?c2 ?c3 ?c4
  case ho => k_is
  case hc => k_is
  case hr => (first | omega | (simp only [depth_under_make, depth_under_kw, depth_in1, depth_deeper]; omega) | (simp only [Around.deeper, Around.in1, Around.under]; omega))
  case hb => exact BindsTo.of_eq rfl
  case hl => exact locs rfl
  case c1 => rfl
  case c2 => rfl
  case c3 => rfl
  case c4 => decide
  intro L' h₁ F N
  simp only [fb2313]
  have hw := wid_le k
  (try k_fold)
  k_steps
  exact hR _ _ (Fr.keep (by assumption))
theorem g_version {A : Around} {x : Addr} {v pl : Int} {k : Kd} (F : Fr h₀ L s.heap m) (N : News h₀ L s.heap news) (X₀ : (K w.params).In h₀) (T : Top p loose mean mg mb h₀) (hN : NetAt w.params s.heap x v pl k) (hA : A.handled = none) (hroom : A.depth + 2 < recursionLimit)
    (h : ∀ h' tk, s.heap.StaysIn h' → Fr h₀ L h' m → News h₀ L h' news → Q (.int (k.ver) k.vtok) { s with heap := h', toks := tk }) : wpAny (model pwL w) A (getAttr (.ref x) (Str.ofString "version") e) Q E s := by
  obtain ⟨ah, ad, afr, ags, au⟩ := A
  dsimp only at hA hroom
  subst hA
  have hN0 := hN
  obtain ⟨dx, t1, t2, t3, tv, tp, n, hx, hd⟩ := hN0
  refine' get_prop F X₀ (⟨hx, rfl, rfl, hd⟩ : InstAt s.heap x (instObj 2868 dx) 2868 (some (dictOf (netEs w.params t1 t2 t3 v tv k.addr pl tp) n))) ?a1 ?a2 ?a3 ?a4 ?a5 ?a6 ?_
  case a1 => k_is
  case a2 => k_is
  case a3 => k_is
  case a4 => k_is
  case a5 => k_is
  case a6 => k_is
  exact c_version (s := { s with toks := s.toks + 1 }) (X₀.keeps F.keep) (T.keeps F.keep) hN hroom (fun h' tk st => handed_on rfl (h h' tk st (F.keeps st) (N.grown st)))
local macro_rules | `(tactic| walk_at "getAttr ref") => `(tactic| (k_here; (with_reducible refine' g_version ?F ?N ?X ?T ?hN ?hA ?hr ?_); (case hA => rfl); (case F => k_asm); (case N => k_asm); (case X => k_asm); (case T => k_asm); (case hN => first | assumption | exact NetAt.keeps (by assumption) (Fr.keep (by k_asm))); (case hr => (first | omega | (simp only [depth_under_make, depth_under_kw, depth_in1, depth_deeper]; omega) | (simp only [Around.deeper, Around.in1, Around.under]; omega))); intro h8' tk8 st8' F' N'; (try k_sweep)))
end
end Mine
end JC4

section JC5
open PySem PySem.W PyProof.Rows PySem.Calls
set_option Elab.async false
set_option maxRecDepth 100000
set_option maxHeartbeats 4000000
namespace Mine
section
variable {w : World} {A : Around} {ad au : Nat} {afr : Option (List Env)} {ags : Option (List Code)} {s : Shared} {h₀ : Heap} {L : Addr} {m : Str → Option Value} {news : List (Addr × Obj)} {mg mb : Str → Option Value} {p : Program} {loose : List Str} {mean : ExcName → Option Value} {R : Result → Shared → Prop} {Q : Value → Shared → Prop} {E : Value → Shared → Prop} {e : Bool}
  {name qual : Str} {params : Arguments} {body : List Stmt} {scope : Scope} {cl : List (Str × Addr)} {dV kV doc pm cdv ct oc : Value} {an od : Option Addr} {osl : Array (Option Value)} {f cc : Addr} {args : Args} {binds : List (Str × Value)}

/-- a def whose class is known to it, with a ledger of what it may change -/
theorem enterS {KF : Frag} (st : h₀.StaysIn s.heap) (hn : ∀ q ∈ news, s.heap.get? q.1 = some q.2 ∧ h₀.get? q.1 = none) (X : KF.In h₀) (T : Top p loose mean mg mb h₀)
    (ho : KF.lookup f = some ⟨oc, od, .func (ksFn name qual params body scope dV kV doc pm an cdv ct cc), osl⟩) (hcd : codeIn KF cdv qual = true) (hroom : A.depth < recursionLimit)
    (hbind : BindsTo s (ksFn name qual params body scope dV kV doc pm an cdv ct cc) args binds) (hloc : ∀ y ∈ binds, scope.names.lookup y.1 = some .local)
    (h : ∀ g L' h₁, g = hideAll s.heap (news.map (·.1)) → Fr g L' h₁ (fun y => binds.reverse.lookup y) → News g L' h₁ news → KF.In g → Top p loose mean mg mb g → h₀.StaysIn g → GSub s.heap g (news.map (·.1)) → (∀ q ∈ news, q.1 < L') →
      PySem.wpAt (model pwL w) (A.deeper (ksEnv qual scope L' f cdv cc)) (.func body (ksEnv qual scope L' f cdv cc)) (execs body (ksEnv qual scope L' f cdv cc))
        (fun fl s' => R (.ok (.ret (match fl with | .ret v => v | _ => .none))) s') (fun _ _ => False) { s with heap := h₁, toks := s.toks + binds.length })
    (hco : scope.isCoroutine = false) (hgen : scope.isGenerator = false) (hk : scope.kind = .function) (hcell : ∀ x ∈ scope.names, x.2 ≠ .cell) :
    codeAny (model pwL w) A (.call (.ref f) args) R s := by
  have nm : ∀ b o, h₀.get? b = some o → b ∉ news.map (·.1) := fun b o e q => by
    obtain ⟨r, hr, rfl⟩ := List.mem_map.mp q
    rw [(hn r hr).2] at e; cases e
  have sg : h₀.StaysIn (hideAll s.heap (news.map (·.1))) := fun b o e => hideAll_get _ (st b o e) (nm b o e)
  refine ks_codeAny_call_defAt (fd := ksFn name qual params body scope dV kV doc pm an cdv ct cc) (body := body) (binds := binds) hroom ((X.keeps st) _ _ ho) rfl (T.nolimit.keeps st) (codeRec_of (X.keeps st) hcd) rfl hbind hcell hloc (fun h₁ hns hk₁ => ?_) hco hgen hk
  exact ks_wpAt_mono (h _ s.heap.objs.size h₁ rfl ⟨hns, fun b o e => hk₁ b o (of_hideAll _ e), Nat.le_of_eq (hideAll_size _ _)⟩
    (fun q hq => ⟨hk₁ _ _ (hn q hq).1, Nat.ne_of_lt (Heap.lt_size (hn q hq).1), hideAll_none _ (List.mem_map_of_mem hq)⟩) (X.keeps sg) (T.keeps sg) sg (fun b o e n => hideAll_get _ e n) (fun q hq => Heap.lt_size (hn q hq).1)) (fun fl s' hl => hl) fun _ _ y => y.elim

/-- an object is made -/
theorem makeX {KF : Frag} {C fI : Addr} {pos : List Value} {kw : List (Str × Value)} (X : KF.In s.heap) (hm : makesIn KF C = true) (hi : findIn KF (.ref C) "__init__" = some (some (.ref fI))) (hf : typeIn KF (.ref fI) = some (.type "function"))
    (h : ∀ x dx h', s.heap.StaysIn h' → h'.get? x = some (instObj C dx) → h'.get? dx = some (dictOf [] 0) → s.heap.get? x = none → s.heap.get? dx = none → dx < x →
      codeAny (model pwL w) (A.under (.builtin "type.__call__" ⟨.ref C :: pos, kw⟩)) (.call (.ref fI) ⟨.ref x :: pos, kw⟩) (InitBack x R) { s with heap := h' }) : codeAny (model pwL w) A (.call (.ref C) ⟨pos, kw⟩) R s := by
  obtain ⟨hh, g, d, t, os⟩ := s
  refine make_core (makes_of X hm) (looks_findIn X hi) (fun self => bind_fn X self hf) (.inl rfl) (h (hh.objs.size + 1) hh.objs.size _ (fun b o e => Heap.get?_push_of_some _ (Heap.get?_push_of_some _ e)) ?_ ?_ ?_ ?_ (Nat.lt_succ_self _))
  · have := Heap.get?_push_size (hh.push emptyDict) (o := instObj C hh.objs.size) rfl
    rwa [Heap.size_push] at this
  · exact Heap.get?_push_of_some _ (Heap.get?_push_size _ rfl)
  · exact Heap.get?_none_of_le (Nat.le_succ _)
  · exact Heap.get?_none_of_le (Nat.le_refl _)

theorem none_of_stays {h h' : Heap} {b : Addr} (st : h.StaysIn h') (e : h'.get? b = none) : h.get? b = none := by
  cases q : h.get? b with
  | none => rfl
  | some o => rw [st _ _ q] at e; cases e
theorem fresh_ne {h : Heap} {b : Addr} (F : Fr h₀ L h m) (e : h.get? b = none) : b ≠ L := by
  rintro rfl
  obtain ⟨o, _, _, ho, _⟩ := F.ns
  rw [ho] at e; cases e
/-- a made thing goes onto the ledger -/
theorem News_made {h h' : Heap} {b : Addr} {o : Obj} (F : Fr h₀ L h m) (N : News h₀ L h' news) (hn : h.get? b = none) (ho : h'.get? b = some o) : News h₀ L h' ((b, o) :: news) := by
  intro q hq
  rcases List.mem_cons.mp hq with rfl | hq
  · exact ⟨ho, fresh_ne F hn, none_of_stays F.keep hn⟩
  · exact N q hq

noncomputable def nullEs (P : Params) (t1 t2 : Tok) : List DictEntry := [⟨PyData.keyHash P (Str.ofString "_value"), .str (Str.ofString "_value") t1, .none⟩, ⟨PyData.keyHash P (Str.ofString "_module"), .str (Str.ofString "_module") t2, .none⟩]
theorem c_base {C x dx : Addr} {gg : Obj → List (Addr × Obj)} (hC : C = 2565 ∨ C = 2868) (F : Fr h₀ L s.heap m) (N : News h₀ L s.heap news) (X₀ : (K w.params).In h₀) (T : Top p loose mean mg mb h₀) (hx : (x, instObj C dx) ∈ news) (U : UpdF dx (dictOf [] 0) news gg) (hxd : x ≠ dx)
    (hroom : A.depth + 1 < recursionLimit)
    (hR : ∀ h' tk t1 t2, Fr h₀ L h' m → News h₀ L h' (gg (dictOf (nullEs w.params t1 t2) 2)) → R (.ok (.ret .none)) { s with heap := h', toks := tk }) : codeAny (model pwL w) A (.call (.ref 2212) ⟨[.ref x], []⟩) R s := by
  obtain ⟨pre, post, rfl, hg, n1, n2⟩ := U.split
  have ax := N _ hx
  have ad := N (dx, dictOf [] 0) (List.mem_append_right _ (.head _))
  refine' enterX (news := [(x, instObj C dx), (dx, dictOf [] 0)]) (binds := [(Str.ofString "self", .ref x)]) (cl := []) F.keep ?hn X₀ T ?ho ?hc ?hr ?hb ?hl ?_ ?c1 ?c2 ?c3 ?c4
  case hn =>
    intro q hq
    rcases List.mem_cons.mp hq with rfl | hq
    · exact ⟨ax.1, ax.2.2⟩
    · rcases List.mem_singleton.mp hq with rfl
      exact ⟨ad.1, ad.2.2⟩
  case ho => k_is
  case hc => k_is
  case hr => (first | omega | (simp only [depth_under_make, depth_under_kw, depth_in1, depth_deeper]; omega) | (simp only [Around.deeper, Around.in1, Around.under]; omega))
  case hb => exact BindsTo.of_eq rfl
  case hl => exact locs rfl
  case c1 => rfl
  case c2 => rfl
  case c3 => rfl
  case c4 => decide
  intro g L' h₁ hg' F1 N1 X1 T1 st G l1
  have key : ∀ h' t1 t2, (∀ b o, g.get? b = some o → h'.get? b = some o) → h'.get? x = some (instObj C dx) → h'.get? dx = some (dictOf (nullEs w.params t1 t2) 2) → ∀ tk, R (.ok (.ret .none)) { s with heap := h', toks := tk } := by
    intro h' t1 t2 st' hx' hd' tk
    have same : ∀ b o, s.heap.get? b = some o → b ≠ dx → h'.get? b = some o := fun b o e1 e2 => by
      by_cases q : b = x
      · subst q; rw [ax.1] at e1; rw [hx', ← e1]
      · exact st' b o (G b o e1 (by simp [q, e2]))
    refine hR h' tk t1 t2 ?_ ?_
    · obtain ⟨oL, es, ep, hL, hr⟩ := F.ns
      exact ⟨⟨oL, es, ep, same _ _ hL (Ne.symm ad.2.1), hr⟩, fun b o e1 => same b o (F.keep b o e1) (fun q => by rw [q, ad.2.2] at e1; cases e1), F.above⟩
    · rw [hg]
      intro q hq
      rcases List.mem_append.mp hq with hq | hq
      · have := N q (List.mem_append_left _ hq)
        exact ⟨same _ _ this.1 (n1 q hq), this.2⟩
      · rcases List.mem_cons.mp hq with rfl | hq
        · exact ⟨hd', ad.2⟩
        · have := N q (List.mem_append_right _ (.tail _ hq))
          exact ⟨same _ _ this.1 (n2 q hq), this.2⟩
  clear hR hx U N ad ax
  simp only [fb2212]
  have hne := hxd
  rcases hC with rfl | rfl
  all_goals (
    (try k_fold)
    k_steps
    exact key _ _ _ (Fr.keep (by assumption)) (News.get (by assumption) (by k_mem)) (News.get (by assumption) (by k_mem)) _)
end
end Mine
end JC5

section JC6
open PySem PySem.W PyProof.Rows PySem.Calls
set_option Elab.async false
set_option maxRecDepth 100000
set_option maxHeartbeats 4000000
namespace Mine
local macro_rules | `(tactic| k_inst) => `(tactic| first | (refine' InstAt_keeps ?I ?k; (case I => assumption); (case k => exact Fr.keep (by k_asm))) | fail "no ground")
local macro_rules | `(tactic| walk_at "getAttr ref") => `(tactic| (k_here; (with_reducible first | refine get_width (by k_in) ?_ | refine get_version (by k_in) ?_ | refine get_max (by k_in) ?_)))
local macro_rules | `(tactic| walk_at "call ref") => `(tactic| (k_here; k_dflt (refine' call_meth ?k1 ?k2 ?_; (case k1 => k_asm); (case k2 => k_mem)); k_dflt (refine' c_base ?C ?F ?N ?X ?T ?x ?U ?ne ?r ?_; (case F => k_asm); (case N => k_asm); (case X => k_asm); (case T => k_asm); (case x => k_mem); (case C => first | exact .inl rfl | exact .inr rfl); (case U => k_updF); (case ne => assumption); (case r => (first | omega | (simp only [depth_under_make, depth_under_kw, depth_in1, depth_deeper]; omega) | (simp only [Around.deeper, Around.in1, Around.under]; omega)))); intro h8' tk8 u1' u2' F' N'; (try dsimp only at N'); (try k_sweep)))

section
variable {w : World} {ad au : Nat} {afr : Option (List Env)} {ags : Option (List Code)} {s : Shared} {h₀ : Heap} {L : Addr} {m : Str → Option Value} {news : List (Addr × Obj)} {mg mb : Str → Option Value} {p : Program} {loose : List Str} {mean : ExcName → Option Value} {R : Result → Shared → Prop} {Q : Value → Shared → Prop} {E : Value → Shared → Prop} {e : Bool}
theorem n_addr {v : Int} {t u : Tok} {k : Kd} (X : (K w.params).In s.heap) (T : Top p loose mean mg mb s.heap) (hv : 0 ≤ v ∧ v ≤ k.max) (hroom : ad + 4 < recursionLimit)
    (hR : ∀ x dx t1 t2 tv n h' tk, s.heap.StaysIn h' → h'.get? x = some (instObj 2565 dx) → h'.get? dx = some (dictOf (addrEs w.params t1 t2 v tv k.addr) n) → s.heap.get? x = none → s.heap.get? dx = none → dx < x → R (.ok (.ret (.ref x))) { s with heap := h', toks := tk }) :
    codeAny (model pwL w) (mkA ad afr ags au) (.call (.ref 2565) ⟨[.int v t, .int k.ver u], []⟩) R s := by
  refine' makeX X ?m ?i ?f ?_
  case m => k_is
  case i => k_is
  case f => k_is
  intro x dx h1 st hx hd nx nd lt
  have hxd : x ≠ dx := Nat.ne_of_gt lt
  refine' enterS (h₀ := s.heap) (news := [(x, instObj 2565 dx), (dx, dictOf [] 0)]) (binds := [(Str.ofString "self", .ref x), (Str.ofString "addr", .int v t), (Str.ofString "version", .int k.ver u), (Str.ofString "flags", .int 0 25117)]) st ?hn X T ?ho ?hc ?hr ?hb ?hl ?_ ?c1 ?c2 ?c3 ?c4
  case hn =>
    intro q hq
    rcases List.mem_cons.mp hq with rfl | hq
    · exact ⟨hx, nx⟩
    · rcases List.mem_singleton.mp hq with rfl
      exact ⟨hd, nd⟩
  case ho => k_is
  case hc => k_is
  case hr => (first | omega | (simp only [depth_under_make, depth_under_kw, depth_in1, depth_deeper]; omega) | (simp only [Around.deeper, Around.in1, Around.under]; omega))
  case hb => (refine' kp_binds ?kx ?ke; (case kx => exact X.keeps st); (case ke => exact fun _ => rfl))
  case hl => exact locs rfl
  case c1 => rfl
  case c2 => rfl
  case c3 => rfl
  case c4 => decide
  intro g L' h₁ hg' F1 N1 X1 T1 sg G l1
  have key : ∀ t1 t2 tv n h' tk, s.heap.StaysIn h' → h'.get? x = some (instObj 2565 dx) → h'.get? dx = some (dictOf (addrEs w.params t1 t2 v tv k.addr) n) → R (.ok (.ret (.ref x))) { s with heap := h', toks := tk } := fun t1 t2 tv n h' tk a b c => hR x dx t1 t2 tv n h' tk a b c nx nd lt
  clear hR G l1 hg'
  simp only [fb2338]
  refine ks_wpAt_execs_cons ?_
  refine ks_wpAt_Expr_any ?_
  refine ks_wpAt_MethodCall ?_
  k_dflt (refine ks_node (by k_asm) (by k_asm) (by k_asm) (by k_asm) (by k_is) (by rfl) (by rfl) (by k_inst) (by k_is) (by rfl) (by first | rfl | decide +kernel) (by k_is) (by k_is) (by k_is) (by k_is) (by decide) (by rfl) (by rfl) (by rfl) (by rfl) (by decide +kernel) (by first | boot_by_name | rfl | kernel_rfl) ?_; intro so' h2' F' N' l1; (try k_lt l1))
  clear F1 N1
  cases k
  all_goals (
    dsimp only [Kd.ver, Kd.max, Kd.wid] at *
    (try k_fold)
    k_steps
    exact ⟨rfl, key _ _ _ _ _ _ (fun b o e => Fr.keep (by assumption) b o (sg b o e)) (News.get (by assumption) (by k_mem)) (News.get (by assumption) (by k_mem))⟩)
end
end Mine
end JC6

section JC7
open PySem PySem.W PyProof.Rows PySem.Calls
set_option Elab.async false
set_option maxRecDepth 100000
set_option maxHeartbeats 4000000
namespace Mine
theorem stays_back {s h₀ g h' : Heap} {L' : Addr} {m' : Str → Option Value} {news news' : List (Addr × Obj)} (hn : ∀ q ∈ news, s.get? q.1 = some q.2 ∧ h₀.get? q.1 = none) (G : GSub s g (news.map (·.1))) (F' : Fr g L' h' m') (N' : News g L' h' news') (hs : ∀ q ∈ news, q ∈ news') : s.StaysIn h' := by
  intro b o e
  by_cases hb : b ∈ news.map (·.1)
  · obtain ⟨q, hq, rfl⟩ := List.mem_map.mp hb
    rw [(hn q hq).1] at e
    cases e
    exact (N' q (hs q hq)).1
  · exact F'.keep b o (G b o e hb)
theorem fresh_back {s g : Heap} {as : List Addr} {b : Addr} (G : GSub s g as) (e : g.get? b = none) (hb : b ∉ as) : s.get? b = none := by
  cases q : s.get? b with
  | none => rfl
  | some o => rw [G b o q hb] at e; cases e
noncomputable def AllNe (d : Addr) : List (Addr × Obj) → Prop
  | [] => True
  | q :: r => @Ne Nat q.1 d ∧ AllNe d r
theorem allNe_mem {d : Addr} : ∀ {l : List (Addr × Obj)}, (∀ q ∈ l, q.1 ≠ d) → AllNe d l
  | [], _ => trivial
  | q :: _, h => ⟨h q (.head _), allNe_mem fun r hr => h r (.tail _ hr)⟩
theorem allNe_of {h₀ h : Heap} {L d : Addr} {news : List (Addr × Obj)} (N : News h₀ L h news) (hn : h.get? d = none) : AllNe d news :=
  allNe_mem fun q hq z => by have := (N q hq).1; rw [z, hn] at this; cases this
noncomputable abbrev tup2 (a b : Value) : Obj := { cls := .type "tuple", data := .seq [a, b].toArray }
local macro_rules | `(tactic| k_inst) => `(tactic| first | (refine' InstAt_keeps ?I ?k; (case I => assumption); (case k => exact Fr.keep (by k_asm))) | fail "no ground")
local macro_rules | `(tactic| walk_at "getAttr ref") => `(tactic| (k_here; (with_reducible first | refine get_width (by k_in) ?_ | refine get_version (by k_in) ?_ | refine get_max (by k_in) ?_)))
local macro_rules | `(tactic| walk_at "call ref") => `(tactic| (k_here; k_dflt (refine' call_meth ?k1 ?k2 ?_; (case k1 => k_asm); (case k2 => k_mem)); k_dflt (refine' c_base ?C ?F ?N ?X ?T ?x ?U ?ne ?r ?_; (case F => k_asm); (case N => k_asm); (case X => k_asm); (case T => k_asm); (case x => k_mem); (case C => first | exact .inl rfl | exact .inr rfl); (case U => k_updF); (case ne => assumption); (case r => (first | omega | (simp only [depth_under_make, depth_under_kw, depth_in1, depth_deeper]; omega) | (simp only [Around.deeper, Around.in1, Around.under]; omega)))); intro h8' tk8 u1' u2' F' N'; (try dsimp only at N'); (try k_sweep)))

section
variable {w : World} {ad au : Nat} {afr : Option (List Env)} {ags : Option (List Code)} {s : Shared} {h₀ : Heap} {L : Addr} {m : Str → Option Value} {news : List (Addr × Obj)} {mg mb : Str → Option Value} {p : Program} {loose : List Str} {mean : ExcName → Option Value} {R : Result → Shared → Prop} {Q : Value → Shared → Prop} {E : Value → Shared → Prop} {e : Bool}
/-- an address copied -/
theorem n_addrcopy {y : Addr} {v : Int} {k : Kd} (X : (K w.params).In s.heap) (T : Top p loose mean mg mb s.heap) (hy : AddrAt w.params s.heap y v k) (hroom : ad + 4 < recursionLimit)
    (hR : ∀ x dx t1 t2 tv n h' tk, s.heap.StaysIn h' → h'.get? x = some (instObj 2565 dx) → h'.get? dx = some (dictOf (addrEs w.params t1 t2 v tv k.addr) n) → s.heap.get? x = none → s.heap.get? dx = none → dx < x → R (.ok (.ret (.ref x))) { s with heap := h', toks := tk }) :
    codeAny (model pwL w) (mkA ad afr ags au) (.call (.ref 2565) ⟨[.ref y], []⟩) R s := by
  obtain ⟨dy, u1, u2, uv, un, ya, yd⟩ := hy
  refine' makeX X ?m ?i ?f ?_
  case m => k_is
  case i => k_is
  case f => k_is
  intro x dx h1 st hx hd nx nd lt
  have hxd : @Ne Nat x dx := Nat.ne_of_gt lt
  refine' enterS (h₀ := s.heap) (news := [(x, instObj 2565 dx), (dx, dictOf [] 0)]) (binds := [(Str.ofString "self", .ref x), (Str.ofString "addr", .ref y), (Str.ofString "version", .none), (Str.ofString "flags", .int 0 25117)]) st ?hn X T ?ho ?hc ?hr ?hb ?hl ?_ ?c1 ?c2 ?c3 ?c4
  case hn =>
    intro q hq
    rcases List.mem_cons.mp hq with rfl | hq
    · exact ⟨hx, nx⟩
    · rcases List.mem_singleton.mp hq with rfl
      exact ⟨hd, nd⟩
  case ho => k_is
  case hc => k_is
  case hr => (first | omega | (simp only [depth_under_make, depth_under_kw, depth_in1, depth_deeper]; omega) | (simp only [Around.deeper, Around.in1, Around.under]; omega))
  case hb => (refine' kp_binds ?kx ?ke; (case kx => exact X.keeps st); (case ke => exact fun _ => rfl))
  case hl => exact locs rfl
  case c1 => rfl
  case c2 => rfl
  case c3 => rfl
  case c4 => decide
  intro g L' h₁ hg' F1 N1 X1 T1 sg G l1
  have I : InstAt g y (instObj 2565 dy) 2565 (some (dictOf (addrEs w.params u1 u2 v uv k.addr) un)) := ⟨sg _ _ ya, rfl, rfl, sg _ _ yd⟩
  unfold addrEs at I
  have key : ∀ t1 t2 tv n h' tk, s.heap.StaysIn h' → h'.get? x = some (instObj 2565 dx) → h'.get? dx = some (dictOf (addrEs w.params t1 t2 v tv k.addr) n) → R (.ok (.ret (.ref x))) { s with heap := h', toks := tk } := fun t1 t2 tv n h' tk a b c => hR x dx t1 t2 tv n h' tk a b c nx nd lt
  clear hR G l1 hg'
  simp only [fb2338]
  refine ks_wpAt_execs_cons ?_
  refine ks_wpAt_Expr_any ?_
  refine ks_wpAt_MethodCall ?_
  k_dflt (refine ks_node (by k_asm) (by k_asm) (by k_asm) (by k_asm) (by k_is) (by rfl) (by rfl) (by k_inst) (by k_is) (by rfl) (by first | rfl | decide +kernel) (by k_is) (by k_is) (by k_is) (by k_is) (by decide) (by rfl) (by rfl) (by rfl) (by rfl) (by decide +kernel) (by first | boot_by_name | rfl | kernel_rfl) ?_; intro so' h2' F' N' l1; (try k_lt l1))
  clear F1 N1
  (try k_fold)
  k_steps
  exact ⟨rfl, key _ _ _ _ _ _ (fun b o e => Fr.keep (by assumption) b o (sg b o e)) (News.get (by assumption) (by k_mem)) (News.get (by assumption) (by k_mem))⟩

/-- a pair looked at -/
theorem c_parse {tup : Addr} {v pl : Int} {tv tp tf : Tok} {k : Kd} {kw : List (Str × Value)} (hkw : kw = [] ∨ kw = [(Str.ofString "expand_partial", .bool false)]) (X : (K w.params).In h₀) (T : Top p loose mean mg mb h₀) (st : h₀.StaysIn s.heap) (hn0 : h₀.get? tup = none) (ht : s.heap.get? tup = some (tup2 (.int v tv) (.int pl tp)))
    (hv : 0 ≤ v ∧ v ≤ k.max) (hp : 0 ≤ pl ∧ pl ≤ k.wid) (hroom : ad + 2 < recursionLimit)
    (hR : ∀ r h' tk, s.heap.StaysIn h' → h'.get? r = some (tup2 (.int v tv) (.int pl tp)) → s.heap.get? r = none → R (.ok (.ret (.ref r))) { s with heap := h', toks := tk }) :
    codeAny (model pwL w) (mkA ad afr ags au) (.call (.ref 2624) ⟨[.ref k.addr, .ref tup, .int 0 tf], kw⟩) R s := by
  have hn : ∀ q ∈ [(tup, tup2 (.int v tv) (.int pl tp))], s.heap.get? q.1 = some q.2 ∧ h₀.get? q.1 = none := by
    intro q hq
    rcases List.mem_singleton.mp hq with rfl
    exact ⟨ht, hn0⟩
  refine' enterX (h₀ := h₀) (news := [(tup, tup2 (.int v tv) (.int pl tp))]) (binds := [(Str.ofString "module", .ref k.addr), (Str.ofString "addr", .ref tup), (Str.ofString "flags", .int 0 tf), (Str.ofString "expand_partial", .bool false)]) (cl := []) st hn X T ?ho ?hc ?hr ?hb ?hl ?_ ?c1 ?c2 ?c3 ?c4
  case ho => k_is
  case hc => k_is
  case hr => (first | omega | (simp only [depth_under_make, depth_under_kw, depth_in1, depth_deeper]; omega) | (simp only [Around.deeper, Around.in1, Around.under]; omega))
  case hb =>
    rcases hkw with rfl | rfl
    · (refine' kp_binds ?kx ?ke; (case kx => exact X.keeps st); (case ke => exact fun _ => rfl))
    · (refine' kp_binds ?kx ?ke; (case kx => exact X.keeps st); (case ke => exact fun _ => rfl))
  case hl => exact locs rfl
  case c1 => rfl
  case c2 => rfl
  case c3 => rfl
  case c4 => decide
  intro g L' h₁ hg' F1 N1 X1 T1 sg G l1
  simp only [fb2624]
  have hw := wid_le k
  (try k_lt l1)
  clear hg'
  (try k_fold)
  k_steps
  exact hR _ _ _ (stays_back hn G (by assumption) (by assumption) (fun q hq => List.mem_cons_of_mem _ hq)) (News.get (by assumption) (by k_mem)) (fresh_back G (News.fresh (by assumption) (by k_mem)) (fun z => absurd (List.mem_singleton.mp z) (Nat.ne_of_gt (by assumption))))
theorem u_parse {A : Around} {tup : Addr} {v pl : Int} {tv tp tf : Tok} {k : Kd} {kw : List (Str × Value)} (hkw : kw = [] ∨ kw = [(Str.ofString "expand_partial", .bool false)]) (F : Fr h₀ L s.heap m) (N : News h₀ L s.heap news) (X : (K w.params).In h₀) (T : Top p loose mean mg mb h₀) (hm : (tup, tup2 (.int v tv) (.int pl tp)) ∈ news)
    (hv : 0 ≤ v ∧ v ≤ k.max) (hp : 0 ≤ pl ∧ pl ≤ k.wid) (hA : A.handled = none) (hroom : A.depth + 2 < recursionLimit)
    (h : ∀ r h' tk, Fr h₀ L h' m → News h₀ L h' ((r, tup2 (.int v tv) (.int pl tp)) :: news) → AllNe r news → Q (.ref r) { s with heap := h', toks := tk }) :
    wpAny (model pwL w) A (call (.ref 2624) [.ref k.addr, .ref tup, .int 0 tf] kw) Q E s := by
  obtain ⟨ah, ad, afr, ags, au⟩ := A
  dsimp only at hA hroom
  subst hA
  exact wpAny_call (c_parse hkw X T F.keep (N.fresh hm) (N.get hm) hv hp hroom fun r h' tk st hr hn => h r h' tk (F.keeps st) (News_made F (N.grown st) hn hr) (allNe_of N hn))
local macro_rules | `(tactic| walk_at "call ref") => `(tactic| (k_here; k_dflt (first | refine' u_parse (k := .v4) ?kw ?F ?N ?X ?T ?m ?v ?p ?hA ?r ?_ | refine' u_parse (k := .v6) ?kw ?F ?N ?X ?T ?m ?v ?p ?hA ?r ?_); (case kw => first | exact .inl rfl | exact .inr rfl); (case F => k_asm); (case N => k_asm); (case X => k_asm); (case T => k_asm); (case m => k_mem); (case v => assumption); (case p => assumption); (case hA => rfl); (case r => (first | omega | (simp only [depth_under_make, depth_under_kw, depth_in1, depth_deeper]; omega) | (simp only [Around.deeper, Around.in1, Around.under]; omega))); intro r' h8' tk8 F' N' n8; simp only [AllNe, and_true] at n8; (try k_sweep)))
/-- a network is made -/
theorem n_net {tup : Addr} {v pl : Int} {tv tp u : Tok} {k : Kd} (X : (K w.params).In h₀) (T : Top p loose mean mg mb h₀) (st0 : h₀.StaysIn s.heap) (hn0 : h₀.get? tup = none) (ht : s.heap.get? tup = some (tup2 (.int v tv) (.int pl tp)))
    (hv : 0 ≤ v ∧ v ≤ k.max) (hp : 0 ≤ pl ∧ pl ≤ k.wid) (hroom : ad + 6 < recursionLimit)
    (hR : ∀ x dx t1 t2 t3 n h' tk, s.heap.StaysIn h' → h'.get? x = some (instObj 2868 dx) → h'.get? dx = some (dictOf (netEs w.params t1 t2 t3 v tv k.addr pl tp) n) → s.heap.get? x = none → s.heap.get? dx = none → dx < x → R (.ok (.ret (.ref x))) { s with heap := h', toks := tk }) :
    codeAny (model pwL w) (mkA ad afr ags au) (.call (.ref 2868) ⟨[.ref tup, .int k.ver u], []⟩) R s := by
  refine' makeX (X.keeps st0) ?m ?i ?f ?_
  case m => k_is
  case i => k_is
  case f => k_is
  intro x dx h1 st hx hd nx nd lt
  have hxd : @Ne Nat x dx := Nat.ne_of_gt lt
  have xt : @Ne Nat x tup := fun q => by rw [q, ht] at nx; cases nx
  have dt : @Ne Nat dx tup := fun q => by rw [q, ht] at nd; cases nd
  have hn : ∀ q ∈ [(x, instObj 2868 dx), (dx, dictOf [] 0), (tup, tup2 (.int v tv) (.int pl tp))], h1.get? q.1 = some q.2 ∧ h₀.get? q.1 = none := by
    intro q hq
    rcases List.mem_cons.mp hq with rfl | hq
    · exact ⟨hx, none_of_stays st0 nx⟩
    · rcases List.mem_cons.mp hq with rfl | hq
      · exact ⟨hd, none_of_stays st0 nd⟩
      · rcases List.mem_singleton.mp hq with rfl
        exact ⟨st _ _ ht, hn0⟩
  refine' enterS (s := { s with heap := h1 }) (h₀ := h₀) (news := [(x, instObj 2868 dx), (dx, dictOf [] 0), (tup, tup2 (.int v tv) (.int pl tp))]) (binds := [(Str.ofString "self", .ref x), (Str.ofString "addr", .ref tup), (Str.ofString "version", .int k.ver u), (Str.ofString "flags", .int 0 25470), (Str.ofString "expand_partial", .bool false)]) (fun b o e => st b o (st0 b o e)) hn X T ?ho ?hc ?hr ?hb ?hl ?_ ?c1 ?c2 ?c3 ?c4
  case ho => k_is
  case hc => k_is
  case hr => (first | omega | (simp only [depth_under_make, depth_under_kw, depth_in1, depth_deeper]; omega) | (simp only [Around.deeper, Around.in1, Around.under]; omega))
  case hb => (refine' kp_binds ?kx ?ke; (case kx => exact (X.keeps st0).keeps st); (case ke => exact fun _ => rfl))
  case hl => exact locs rfl
  case c1 => rfl
  case c2 => rfl
  case c3 => rfl
  case c4 => decide
  intro g L' h₁ hg' F1 N1 X1 T1 sg G l1
  have key : ∀ t1 t2 t3 n h' tk, (∀ b o, g.get? b = some o → h'.get? b = some o) → h'.get? tup = some (tup2 (.int v tv) (.int pl tp)) → h'.get? x = some (instObj 2868 dx) → h'.get? dx = some (dictOf (netEs w.params t1 t2 t3 v tv k.addr pl tp) n) → R (.ok (.ret (.ref x))) { s with heap := h', toks := tk } := by
    intro t1 t2 t3 n h' tk a at' b c
    refine hR x dx t1 t2 t3 n h' tk (fun y o e => ?_) b c nx nd lt
    by_cases q : y = tup
    · subst q; rw [ht] at e; cases e; exact at'
    · refine a _ _ (G y o (st y o e) ?_)
      simp only [List.map_cons, List.map_nil, List.mem_cons, List.not_mem_nil, or_false, not_or]
      exact ⟨fun z => (by rw [z, nx] at e; cases e), fun z => (by rw [z, nd] at e; cases e), q⟩
  clear hR G l1 hg' hn
  simp only [fb2642]
  refine ks_wpAt_execs_cons ?_
  refine ks_wpAt_Expr_any ?_
  refine ks_wpAt_MethodCall ?_
  k_dflt (refine ks_node (by k_asm) (by k_asm) (by k_asm) (by k_asm) (by k_is) (by rfl) (by rfl) (by k_inst) (by k_is) (by rfl) (by first | rfl | decide +kernel) (by k_is) (by k_is) (by k_is) (by k_is) (by decide) (by rfl) (by rfl) (by rfl) (by rfl) (by decide +kernel) (by first | boot_by_name | rfl | kernel_rfl) ?_; intro so' h2' F' N' l1; (try k_lt l1))
  clear F1 N1
  cases k
  all_goals (
    dsimp only [Kd.ver] at *
    (try k_fold)
    k_steps
    exact ⟨rfl, key _ _ _ _ _ _ (Fr.keep (by assumption)) (News.get (by assumption) (by k_mem)) (News.get (by assumption) (by k_mem)) (News.get (by assumption) (by k_mem))⟩)
/-- a network copied -/
theorem n_netcopy {y : Addr} {v pl : Int} {k : Kd} (X : (K w.params).In s.heap) (T : Top p loose mean mg mb s.heap) (hy : NetAt w.params s.heap y v pl k) (hroom : ad + 6 < recursionLimit)
    (hR : ∀ x dx t1 t2 t3 tv tp n h' tk, s.heap.StaysIn h' → h'.get? x = some (instObj 2868 dx) → h'.get? dx = some (dictOf (netEs w.params t1 t2 t3 v tv k.addr pl tp) n) → s.heap.get? x = none → s.heap.get? dx = none → dx < x → R (.ok (.ret (.ref x))) { s with heap := h', toks := tk }) :
    codeAny (model pwL w) (mkA ad afr ags au) (.call (.ref 2868) ⟨[.ref y], []⟩) R s := by
  obtain ⟨dy, u1, u2, u3, uv, up, un, ya, yd⟩ := hy
  refine' makeX X ?m ?i ?f ?_
  case m => k_is
  case i => k_is
  case f => k_is
  intro x dx h1 st hx hd nx nd lt
  have hxd : @Ne Nat x dx := Nat.ne_of_gt lt
  refine' enterS (h₀ := s.heap) (news := [(x, instObj 2868 dx), (dx, dictOf [] 0)]) (binds := [(Str.ofString "self", .ref x), (Str.ofString "addr", .ref y), (Str.ofString "version", .none), (Str.ofString "flags", .int 0 25470), (Str.ofString "expand_partial", .bool false)]) st ?hn X T ?ho ?hc ?hr ?hb ?hl ?_ ?c1 ?c2 ?c3 ?c4
  case hn =>
    intro q hq
    rcases List.mem_cons.mp hq with rfl | hq
    · exact ⟨hx, nx⟩
    · rcases List.mem_singleton.mp hq with rfl
      exact ⟨hd, nd⟩
  case ho => k_is
  case hc => k_is
  case hr => (first | omega | (simp only [depth_under_make, depth_under_kw, depth_in1, depth_deeper]; omega) | (simp only [Around.deeper, Around.in1, Around.under]; omega))
  case hb => (refine' kp_binds ?kx ?ke; (case kx => exact X.keeps st); (case ke => exact fun _ => rfl))
  case hl => exact locs rfl
  case c1 => rfl
  case c2 => rfl
  case c3 => rfl
  case c4 => decide
  intro g L' h₁ hg' F1 N1 X1 T1 sg G l1
  have I : InstAt g y (instObj 2868 dy) 2868 (some (dictOf (netEs w.params u1 u2 u3 v uv k.addr pl up) un)) := ⟨sg _ _ ya, rfl, rfl, sg _ _ yd⟩
  unfold netEs at I
  have key : ∀ t1 t2 t3 tv tp n h' tk, s.heap.StaysIn h' → h'.get? x = some (instObj 2868 dx) → h'.get? dx = some (dictOf (netEs w.params t1 t2 t3 v tv k.addr pl tp) n) → R (.ok (.ret (.ref x))) { s with heap := h', toks := tk } := fun t1 t2 t3 tv tp n h' tk a b c => hR x dx t1 t2 t3 tv tp n h' tk a b c nx nd lt
  clear hR G l1 hg'
  simp only [fb2642]
  refine ks_wpAt_execs_cons ?_
  refine ks_wpAt_Expr_any ?_
  refine ks_wpAt_MethodCall ?_
  k_dflt (refine ks_node (by k_asm) (by k_asm) (by k_asm) (by k_asm) (by k_is) (by rfl) (by rfl) (by k_inst) (by k_is) (by rfl) (by first | rfl | decide +kernel) (by k_is) (by k_is) (by k_is) (by k_is) (by decide) (by rfl) (by rfl) (by rfl) (by rfl) (by decide +kernel) (by first | boot_by_name | rfl | kernel_rfl) ?_; intro so' h2' F' N' l1; (try k_lt l1))
  clear F1 N1
  (try k_fold)
  k_steps
  exact ⟨rfl, key _ _ _ _ _ _ _ _ (fun b o e => Fr.keep (by assumption) b o (sg b o e)) (News.get (by assumption) (by k_mem)) (News.get (by assumption) (by k_mem))⟩

/-! the same, upon a frame and a ledger -/
noncomputable def NetIn (P : Params) (news : List (Addr × Obj)) (x : Addr) (v pl : Int) (k : Kd) : Prop := ∃ dx t1 t2 t3 tv tp n, (x, instObj 2868 dx) ∈ news ∧ (dx, dictOf (netEs P t1 t2 t3 v tv k.addr pl tp) n) ∈ news
theorem u_addr {A : Around} {v : Int} {t u : Tok} {k : Kd} (F : Fr h₀ L s.heap m) (N : News h₀ L s.heap news) (X : (K w.params).In h₀) (T : Top p loose mean mg mb h₀) (hv : 0 ≤ v ∧ v ≤ k.max) (hA : A.handled = none) (hroom : A.depth + 4 < recursionLimit)
    (h : ∀ x dx t1 t2 tv n h' tk, s.heap.StaysIn h' → Fr h₀ L h' m → News h₀ L h' ((x, instObj 2565 dx) :: (dx, dictOf (addrEs w.params t1 t2 v tv k.addr) n) :: news) → AllNe x news → AllNe dx news → dx < x → Q (.ref x) { s with heap := h', toks := tk }) :
    wpAny (model pwL w) A (call (.ref 2565) [.int v t, .int k.ver u] []) Q E s := by
  obtain ⟨ah, ad, afr, ags, au⟩ := A
  dsimp only at hA hroom
  subst hA
  exact wpAny_call (n_addr (X.keeps F.keep) (T.keeps F.keep) hv hroom fun x dx t1 t2 tv n h' tk st hx hd nx nd lt => h x dx t1 t2 tv n h' tk st (F.keeps st) (News_made F (News_made F (N.grown st) nd hd) nx hx) (allNe_of N nx) (allNe_of N nd) lt)
theorem u_addrcopy {A : Around} {y : Addr} {v : Int} {k : Kd} (F : Fr h₀ L s.heap m) (N : News h₀ L s.heap news) (X : (K w.params).In h₀) (T : Top p loose mean mg mb h₀) (hy : AddrAt w.params s.heap y v k) (hA : A.handled = none) (hroom : A.depth + 4 < recursionLimit)
    (h : ∀ x dx t1 t2 tv n h' tk, s.heap.StaysIn h' → Fr h₀ L h' m → News h₀ L h' ((x, instObj 2565 dx) :: (dx, dictOf (addrEs w.params t1 t2 v tv k.addr) n) :: news) → AllNe x news → AllNe dx news → dx < x → Q (.ref x) { s with heap := h', toks := tk }) :
    wpAny (model pwL w) A (call (.ref 2565) [.ref y] []) Q E s := by
  obtain ⟨ah, ad, afr, ags, au⟩ := A
  dsimp only at hA hroom
  subst hA
  exact wpAny_call (n_addrcopy (X.keeps F.keep) (T.keeps F.keep) hy hroom fun x dx t1 t2 tv n h' tk st hx hd nx nd lt => h x dx t1 t2 tv n h' tk st (F.keeps st) (News_made F (News_made F (N.grown st) nd hd) nx hx) (allNe_of N nx) (allNe_of N nd) lt)
theorem u_net {A : Around} {tup : Addr} {v pl : Int} {tv tp u : Tok} {k : Kd} (F : Fr h₀ L s.heap m) (N : News h₀ L s.heap news) (X : (K w.params).In h₀) (T : Top p loose mean mg mb h₀) (hm : (tup, tup2 (.int v tv) (.int pl tp)) ∈ news) (hv : 0 ≤ v ∧ v ≤ k.max) (hp : 0 ≤ pl ∧ pl ≤ k.wid) (hA : A.handled = none) (hroom : A.depth + 6 < recursionLimit)
    (h : ∀ x dx t1 t2 t3 n h' tk, s.heap.StaysIn h' → Fr h₀ L h' m → News h₀ L h' ((x, instObj 2868 dx) :: (dx, dictOf (netEs w.params t1 t2 t3 v tv k.addr pl tp) n) :: news) → AllNe x news → AllNe dx news → dx < x → Q (.ref x) { s with heap := h', toks := tk }) :
    wpAny (model pwL w) A (call (.ref 2868) [.ref tup, .int k.ver u] []) Q E s := by
  obtain ⟨ah, ad, afr, ags, au⟩ := A
  dsimp only at hA hroom
  subst hA
  exact wpAny_call (n_net X T F.keep (N.fresh hm) (N.get hm) hv hp hroom fun x dx t1 t2 t3 n h' tk st hx hd nx nd lt => h x dx t1 t2 t3 n h' tk st (F.keeps st) (News_made F (News_made F (N.grown st) nd hd) nx hx) (allNe_of N nx) (allNe_of N nd) lt)
end
end Mine
end JC7

section JC8
open PySem PySem.W PyProof.Rows PySem.Calls
set_option Elab.async false
set_option maxRecDepth 100000
set_option maxHeartbeats 4000000
namespace Mine
theorem pow_le {a b : Nat} (h : a ≤ b) : (2 : Int) ^ a ≤ 2 ^ b := by
  rw [← kbt_cast, ← kbt_cast]
  exact Int.ofNat_le.mpr (Nat.pow_le_pow_right (by decide) h)
theorem maskI_eq {k : Kd} {pl : Int} (hp : 0 ≤ pl ∧ pl ≤ k.wid) : maskI k pl = 2 ^ k.wid - 2 ^ ((k.wid : Int) - pl).toNat := by
  unfold maskI hostI Kd.max
  have hpos := kbt_pos ((k.wid : Int) - pl).toNat
  have hle : (2 : Int) ^ ((k.wid : Int) - pl).toNat ≤ 2 ^ k.wid := pow_le (by omega)
  rw [bitXor_and, kbt_mask', Int.one_mul, Int.emod_eq_of_lt (by omega) (by omega)]
  omega
noncomputable def hasB (k : Kd) (v pl : Int) (k' : Kd) (u : Int) : Bool := if k.ver = k'.ver then (u.fdiv (2 ^ ((k.wid : Int) - pl).toNat) == v.fdiv (2 ^ ((k.wid : Int) - pl).toNat)) else false
theorem firstI_in {k : Kd} {v pl : Int} (hp : 0 ≤ pl ∧ pl ≤ k.wid) : 0 ≤ firstI k v pl ∧ firstI k v pl ≤ k.max := by
  have h1 := maskI_eq hp
  have hpos := kbt_pos ((k.wid : Int) - pl).toNat
  have hle : (2 : Int) ^ ((k.wid : Int) - pl).toNat ≤ 2 ^ k.wid := pow_le (by omega)
  have h2 := bitAnd_range v (y := maskI k pl) (by rw [h1]; omega)
  unfold firstI
  refine ⟨h2.1, Int.le_trans h2.2 ?_⟩
  rw [h1]; unfold Kd.max; omega
local macro_rules | `(tactic| k_inst) => `(tactic| first | (refine' InstAt_keeps ?I ?k; (case I => assumption); (case k => exact Fr.keep (by k_asm))) | fail "no ground")
local macro_rules | `(tactic| walk_at "getAttr ref") => `(tactic| (k_here; (with_reducible first | refine get_width (by k_in) ?_ | refine get_version (by k_in) ?_ | refine get_max (by k_in) ?_)))
local macro_rules | `(tactic| walk_at "getAttr ref") => `(tactic| (k_here; (with_reducible refine' g_host ?F ?N ?X ?T ?hN ?hp ?hA ?hr ?_); (case hA => rfl); (case F => k_asm); (case N => k_asm); (case X => k_asm); (case T => k_asm); (case hN => first | assumption | exact NetAt.keeps (by assumption) (Fr.keep (by k_asm))); (case hp => assumption); (case hr => (first | omega | (simp only [depth_under_make, depth_under_kw, depth_in1, depth_deeper]; omega) | (simp only [Around.deeper, Around.in1, Around.under]; omega))); intro h8' tk8 t st8' F' N'; (try k_sweep)))
local macro_rules | `(tactic| walk_at "getAttr ref") => `(tactic| (k_here; (with_reducible refine' g_mask ?F ?N ?X ?T ?hN ?hp ?hA ?hr ?_); (case hA => rfl); (case F => k_asm); (case N => k_asm); (case X => k_asm); (case T => k_asm); (case hN => first | assumption | exact NetAt.keeps (by assumption) (Fr.keep (by k_asm))); (case hp => assumption); (case hr => (first | omega | (simp only [depth_under_make, depth_under_kw, depth_in1, depth_deeper]; omega) | (simp only [Around.deeper, Around.in1, Around.under]; omega))); intro h8' tk8 t st8' F' N'; (try k_sweep)))
local macro_rules | `(tactic| walk_at "getAttr ref") => `(tactic| (k_here; (with_reducible refine' g_first ?F ?N ?X ?T ?hN ?hp ?hA ?hr ?_); (case hA => rfl); (case F => k_asm); (case N => k_asm); (case X => k_asm); (case T => k_asm); (case hN => first | assumption | exact NetAt.keeps (by assumption) (Fr.keep (by k_asm))); (case hp => assumption); (case hr => (first | omega | (simp only [depth_under_make, depth_under_kw, depth_in1, depth_deeper]; omega) | (simp only [Around.deeper, Around.in1, Around.under]; omega))); intro h8' tk8 t st8' F' N'; (try k_sweep)))
local macro_rules | `(tactic| walk_at "getAttr ref") => `(tactic| (k_here; (with_reducible refine' g_prefix ?F ?N ?X ?T ?hN ?hA ?hr ?_); (case hA => rfl); (case F => k_asm); (case N => k_asm); (case X => k_asm); (case T => k_asm); (case hN => first | assumption | exact NetAt.keeps (by assumption) (Fr.keep (by k_asm))); (case hr => (first | omega | (simp only [depth_under_make, depth_under_kw, depth_in1, depth_deeper]; omega) | (simp only [Around.deeper, Around.in1, Around.under]; omega))); intro h8' tk8 t st8' F' N'; (try k_sweep)))
local macro_rules | `(tactic| walk_at "getAttr ref") => `(tactic| (k_here; (with_reducible refine' g_version ?F ?N ?X ?T ?hN ?hA ?hr ?_); (case hA => rfl); (case F => k_asm); (case N => k_asm); (case X => k_asm); (case T => k_asm); (case hN => first | assumption | exact NetAt.keeps (by assumption) (Fr.keep (by k_asm))); (case hr => (first | omega | (simp only [depth_under_make, depth_under_kw, depth_in1, depth_deeper]; omega) | (simp only [Around.deeper, Around.in1, Around.under]; omega))); intro h8' tk8 st8' F' N'; (try k_sweep)))
local macro_rules | `(tactic| walk_at "call ref") => `(tactic| (k_here; (with_reducible refine' u_addr ?F ?N ?X ?T ?v ?hA ?r ?_); (case F => k_asm); (case N => k_asm); (case X => k_asm); (case T => k_asm); (case v => first | assumption | exact firstI_in (by assumption)); (case hA => rfl); (case r => (first | omega | (simp only [depth_under_make, depth_under_kw, depth_in1, depth_deeper]; omega) | (simp only [Around.deeper, Around.in1, Around.under]; omega))); intro x8' d8' t1' t2' tv' n8' h8' tk8 st8' F' N' a8 b8 l8; simp only [AllNe, and_true] at a8 b8; (try k_sweep)))

section
variable {w : World} {ad au : Nat} {afr : Option (List Env)} {ags : Option (List Code)} {s : Shared} {h₀ : Heap} {L : Addr} {m : Str → Option Value} {news : List (Addr × Obj)} {mg mb : Str → Option Value} {p : Program} {loose : List Str} {mean : ExcName → Option Value} {R : Result → Shared → Prop} {Q : Value → Shared → Prop} {E : Value → Shared → Prop} {e : Bool}
theorem c_network {x : Addr} {v pl : Int} {k : Kd} (X : (K w.params).In s.heap) (T : Top p loose mean mg mb s.heap) (hN : NetAt w.params s.heap x v pl k) (hp : 0 ≤ pl ∧ pl ≤ k.wid) (hroom : ad + 6 < recursionLimit)
    (hR : ∀ y dy t1 t2 tv n h' tk, s.heap.StaysIn h' → h'.get? y = some (instObj 2565 dy) → h'.get? dy = some (dictOf (addrEs w.params t1 t2 (firstI k v pl) tv k.addr) n) → s.heap.get? y = none → s.heap.get? dy = none → dy < y → R (.ok (.ret (.ref y))) { s with heap := h', toks := tk }) :
    codeAny (model pwL w) (mkA ad afr ags au) (.call (.ref 2681) ⟨[.ref x], []⟩) R s := by
  have hN0 := hN
  obtain ⟨dx, t1, t2, t3, tv, tp, n, hx, hd⟩ := hN0
  have I : InstAt s.heap x (instObj 2868 dx) 2868 (some (dictOf (netEs w.params t1 t2 t3 v tv k.addr pl tp) n)) := ⟨hx, rfl, rfl, hd⟩
  unfold netEs at I
  refine' enterP (binds := [(Str.ofString "self", .ref x)]) X T ?ho ?hc ?hr ?hb ?hl ?_ ?c1 ?c2 ?c3 ?c4
  case ho => k_is
  case hc => k_is
  case hr => (first | omega | (simp only [depth_under_make, depth_under_kw, depth_in1, depth_deeper]; omega) | (simp only [Around.deeper, Around.in1, Around.under]; omega))
  case hb => exact BindsTo.of_eq rfl
  case hl => exact locs rfl
  case c1 => rfl
  case c2 => rfl
  case c3 => rfl
  case c4 => decide
  intro L' h₁ F N
  simp only [fb2681]
  have hw := wid_le k
  (try k_fold)
  k_steps
  exact hR _ _ _ _ _ _ _ _ (Fr.keep (by assumption)) (News.get (by assumption) (by k_mem)) (News.get (by assumption) (by k_mem)) (News.fresh (by assumption) (by k_mem)) (News.fresh (by assumption) (by k_mem)) (by assumption)
theorem c_sortkey {x : Addr} {v pl : Int} {k : Kd} (X : (K w.params).In s.heap) (T : Top p loose mean mg mb s.heap) (hN : NetAt w.params s.heap x v pl k) (hp : 0 ≤ pl ∧ pl ≤ k.wid) (hroom : ad + 6 < recursionLimit)
    (hR : ∀ y n h' tk t1 t2 t3 t4, s.heap.StaysIn h' → h'.get? y = some { cls := .type "tuple", data := .seq [.int k.ver t1, .int (firstI k v pl) t2, .int (pl - 1) t3, .int (v - firstI k v pl) t4].toArray n } → s.heap.get? y = none → R (.ok (.ret (.ref y))) { s with heap := h', toks := tk }) :
    codeAny (model pwL w) (mkA ad afr ags au) (.call (.ref 2790) ⟨[.ref x], []⟩) R s := by
  have hN0 := hN
  obtain ⟨dx, t1, t2, t3, tv, tp, n, hx, hd⟩ := hN0
  have I : InstAt s.heap x (instObj 2868 dx) 2868 (some (dictOf (netEs w.params t1 t2 t3 v tv k.addr pl tp) n)) := ⟨hx, rfl, rfl, hd⟩
  unfold netEs at I
  refine' enterP (binds := [(Str.ofString "self", .ref x)]) X T ?ho ?hc ?hr ?hb ?hl ?_ ?c1 ?c2 ?c3 ?c4
  case ho => k_is
  case hc => k_is
  case hr => (first | omega | (simp only [depth_under_make, depth_under_kw, depth_in1, depth_deeper]; omega) | (simp only [Around.deeper, Around.in1, Around.under]; omega))
  case hb => exact BindsTo.of_eq rfl
  case hl => exact locs rfl
  case c1 => rfl
  case c2 => rfl
  case c3 => rfl
  case c4 => decide
  intro L' h₁ F N
  simp only [fb2790]
  have hw := wid_le k
  (try k_fold)
  k_steps
  exact hR _ _ _ _ _ _ _ _ (Fr.keep (by assumption)) (News.get (by assumption) (by k_mem)) (News.fresh (by assumption) (by k_mem))
theorem c_contains {x y : Addr} {v pl u : Int} {k k' : Kd} (X : (K w.params).In s.heap) (T : Top p loose mean mg mb s.heap) (hN : NetAt w.params s.heap x v pl k) (hY : AddrAt w.params s.heap y u k') (hp : 0 ≤ pl ∧ pl ≤ k.wid) (hroom : ad + 6 < recursionLimit)
    (hR : ∀ h' tk, s.heap.StaysIn h' → R (.ok (.ret (.bool (hasB k v pl k' u)))) { s with heap := h', toks := tk }) :
    codeAny (model pwL w) (mkA ad afr ags au) (.call (.ref 2776) ⟨[.ref x, .ref y], []⟩) R s := by
  have hN0 := hN
  obtain ⟨dx, t1, t2, t3, tv, tp, n, hx, hd⟩ := hN0
  have I : InstAt s.heap x (instObj 2868 dx) 2868 (some (dictOf (netEs w.params t1 t2 t3 v tv k.addr pl tp) n)) := ⟨hx, rfl, rfl, hd⟩
  unfold netEs at I
  obtain ⟨dy, u1, u2, uv, un, ya, yd⟩ := hY
  have J : InstAt s.heap y (instObj 2565 dy) 2565 (some (dictOf (addrEs w.params u1 u2 u uv k'.addr) un)) := ⟨ya, rfl, rfl, yd⟩
  unfold addrEs at J
  refine' enterP (binds := [(Str.ofString "self", .ref x), (Str.ofString "other", .ref y)]) X T ?ho ?hc ?hr ?hb ?hl ?_ ?c1 ?c2 ?c3 ?c4
  case ho => k_is
  case hc => k_is
  case hr => (first | omega | (simp only [depth_under_make, depth_under_kw, depth_in1, depth_deeper]; omega) | (simp only [Around.deeper, Around.in1, Around.under]; omega))
  case hb => exact BindsTo.of_eq rfl
  case hl => exact locs rfl
  case c1 => rfl
  case c2 => rfl
  case c3 => rfl
  case c4 => decide
  intro L' h₁ F N
  have key : ∀ b h' tk, b = hasB k v pl k' u → s.heap.StaysIn h' → R (.ok (.ret (.bool b))) { s with heap := h', toks := tk } := fun b h' tk e st => by subst e; exact hR h' tk st
  clear hR
  simp only [fb2776]
  have hw := wid_le k
  (try k_fold)
  k_steps
  · exact key _ _ _ (by unfold hasB; rw [if_neg (by omega)]) (Fr.keep (by assumption))
  · exact key _ _ _ (by unfold hasB; rw [if_pos (by omega)]) (Fr.keep (by assumption))
end
end Mine
end JC8

section JC9
open PySem PySem.W PyProof.Rows PySem.Calls
set_option Elab.async false
set_option maxRecDepth 100000
set_option maxHeartbeats 4000000
namespace Mine
/-! a comprehension over a list whose element makes things: by a relation of the item, the value and the heap that holds of the value's own objects -/
section
variable {prog : Program} {w : World} {A : Around} {E : Value → Shared → Prop} {env : Env}

noncomputable def NewPart (s₂ h' : Heap) (P : Heap → Prop) : Prop := ∀ hh : Heap, (∀ b o, s₂.get? b = none → h'.get? b = some o → hh.get? b = some o) → P hh
/-- what a turn's element must do -/
noncomputable def EltDoes (prog : Program) (w : World) (A : Around) (env : Env) (elt target : Expr) (scope : Scope) (s : Shared) (vs : List Value) (G : Heap → Value → Value → Prop) : Prop :=
  ∀ C v (s₂ : Shared) m₂ (Q' : Value → Shared → Prop) (E' : Value → Shared → Prop), v ∈ vs → s.heap.objs.size ≤ C → s₂.heap.Ns C m₂ → s.heap.StaysIn s₂.heap → (∃ h' tk, s₂ = { s with heap := h', toks := tk }) →
    (∀ y h' m' tk, h'.Ns C m' → (∀ b o, b ≠ C → s₂.heap.get? b = some o → h'.get? b = some o) → NewPart s₂.heap h' (fun hh => G hh v y) → Q' y { s₂ with heap := h', toks := tk }) →
    wpAny (model prog w) A (assign target (compEnvC scope [] C env) v) (fun _ s₃ => wpAny (model prog w) A (eval elt (compEnvC scope [] C env)) Q' E' s₃) E' s₂

theorem comp_loop_rel {elt target iter : Expr} {scope : Scope} {pos : Pos} {s : Shared} {l I D C : Addr} {vs : List Value} {R : Result → Shared → Prop} {G : Heap → Value → Value → Prop}
    (hh : A.handled = none) (hl : s.heap.IsList l vs.toArray) (hz : vs.length ≤ 1000)
    (helt : EltDoes prog w A env elt target scope s vs G) (hown : ∀ v, letOwnedTupleGo target (.ref I) v = pure ())
    (hC : s.heap.objs.size ≤ C) (hI : s.heap.objs.size ≤ I) (hD : s.heap.objs.size ≤ D) (nID : I ≠ D) (nIC : I ≠ C) (nDC : D ≠ C)
    {h₁ : Heap} {m₁ : Str → Option Value} {tk₁ : Nat} (st : s.heap.StaysIn h₁) (hi₁ : h₁.IsListIter I l 0) (hd₁ : h₁.PlainList D #[]) (hc₁ : h₁.Ns C m₁)
    (hR : ∀ ys h' m' tk, h'.Ns C m' → s.heap.StaysIn h' → h'.PlainList D (List.toArray ys) → ys.length = vs.length → (∀ (j : Nat) (v y : Value), vs[j]? = some v → ys[j]? = some y → ∀ g, (∀ b o, b ≠ C → h'.get? b = some o → g.get? b = some o) → G g v y) → R (.ok .next) { s with heap := h', toks := tk }) :
    codeAny (model prog w) A (.compLoop (.ListComp elt [⟨target, iter, [], 0⟩] scope pos) 0 (.ref I) (.ref D) (compEnvC scope [] C env)) R { s with heap := h₁, toks := tk₁ } := by
  have hsl : vs.length < sizeLine := by
    have : sizeLine ≥ 2000 := by decide +kernel
    omega
  have low : ∀ b o, s.heap.get? b = some o → b ≠ I ∧ b ≠ D ∧ b ≠ C := fun b o e => by
    have := Heap.lt_size e
    exact ⟨Nat.ne_of_lt (Nat.lt_of_lt_of_le this hI), Nat.ne_of_lt (Nat.lt_of_lt_of_le this hD), Nat.ne_of_lt (Nat.lt_of_lt_of_le this hC)⟩
  have hlI : l ≠ I := by obtain ⟨o, ho, _⟩ := hl; exact (low _ _ ho).1
  refine codeAny_compLoop_list (fun n s' => ∃ i h' m tk items, i ≤ vs.length ∧ n = vs.length - i ∧ s' = { s with heap := h', toks := tk } ∧ h'.Ns C m ∧ s.heap.StaysIn h' ∧ h'.PlainList D (List.toArray items) ∧ items.length = i ∧ h'.IsListIter I l i ∧
    (∀ (j : Nat) (v y : Value), vs[j]? = some v → items[j]? = some y → ∀ g : Heap, (∀ b o, b ≠ C → b ≠ D → b ≠ I → h'.get? b = some o → g.get? b = some o) → G g v y)) ?turn vs.length ?start (ht := fun v => hown v)
  case start => exact ⟨0, h₁, m₁, tk₁, [], Nat.zero_le _, rfl, rfl, hc₁, st, hd₁, rfl, hi₁, fun j v y _ e => (by simp at e)⟩
  case turn =>
    rintro n s' ⟨i, h', m, tk, items, hi, rfl, rfl, hns, hst, hac, hlen, hit, hG⟩
    have hl' : h'.IsList l vs.toArray := hl.at fun o e => hst l o e
    by_cases hend : i = vs.length
    · subst hend
      refine wpAny_pyNext_list_end hh hit hl' (by simp) fun h2 he => ?_
      dsimp only at he ⊢
      refine hR items h2 m tk ?_ ?_ ?_ hlen ?_
      · obtain ⟨o, es, ep, ho, r⟩ := hns
        exact ⟨o, es, ep, he _ _ (Ne.symm nIC) ho, r⟩
      · exact fun b o e => he _ _ (low b o e).1 (hst b o e)
      · exact hac.at fun o e => he _ _ (Ne.symm nID) e
      · intro j v y hv hy g hg
        refine hG j v y hv hy g fun b o b1 b2 b3 e => hg b o b1 (he b o b3 e)
    · have hlt : i < vs.length := Nat.lt_of_le_of_ne hi hend
      refine wpAny_pyNext_list_item hit hl' (x := vs[i]) (by simp [hlt]) fun h2 hit2 hs2 => ?_
      dsimp only at hs2 ⊢
      have hns2 : h2.Ns C m := hns.sameBut hs2 (Ne.symm nIC)
      have hst2 : s.heap.StaysIn h2 := fun b o e => (hs2.2 b (low b o e).1).trans (hst b o e)
      refine helt C vs[i] { s with heap := h2, toks := tk } m _ _ (List.getElem_mem hlt) hC hns2 hst2 ⟨_, _, rfl⟩ fun y h3 m3 tk3 hns3 hk3 hnew => ?_
      dsimp only at hk3 hnew ⊢
      obtain ⟨nn, hac0⟩ := hac
      have hac2 : h2.get? D = some { cls := .type "list", data := .seq (List.toArray items) nn } := (hs2.2 D (Ne.symm nID)).trans hac0
      have hac3 : h3.PlainList D (List.toArray items) := ⟨nn, hk3 _ _ nDC hac2⟩
      refine wpAny_list_append_plain hac3 (fun h4 hac4 hs4 => ?_) (by rw [List.size_toArray]; omega)
      dsimp only at hs4 ⊢
      obtain ⟨oI, hoI, rI⟩ := hit2
      have stay4 : ∀ b o, b ≠ C → b ≠ D → h2.get? b = some o → h4.get? b = some o := fun b o b1 b2 e => (hs4.2 b b2).trans (hk3 b o b1 e)
      refine ⟨vs.length - (i + 1), by omega, i + 1, h4, m3, tk3, items ++ [y], hlt, rfl, rfl, hns3.sameBut hs4 (Ne.symm nDC), ?_, ?_, by rw [List.length_append, hlen]; rfl, ⟨oI, stay4 _ _ nIC nID hoI, rI⟩, ?_⟩
      · exact fun b o e => stay4 b o (low b o e).2.2 (low b o e).2.1 (hst2 b o e)
      · simpa using hac4
      · intro j v y' hv hy' g hg
        by_cases hj : j < items.length
        · rw [List.getElem?_append_left hj] at hy'
          refine hG j v y' hv hy' g fun b o b1 b2 b3 e => hg b o b1 b2 b3 (stay4 b o b1 b2 ((hs2.2 b b3).trans e))
        · have hje : j = items.length := by
            have := (List.getElem?_eq_some_iff.mp hy').1
            rw [List.length_append, List.length_singleton] at this
            omega
          subst hje
          rw [List.getElem?_append_right (Nat.le_refl _), Nat.sub_self] at hy'
          cases hy'
          rw [hlen, List.getElem?_eq_getElem hlt] at hv
          cases hv
          refine hnew g fun b o bn e => ?_
          have bD : b ≠ D := fun q => by rw [q, hac2] at bn; cases bn
          have bC : b ≠ C := fun q => by obtain ⟨o', _, _, ho', _⟩ := hns2; rw [q, ho'] at bn; cases bn
          have bI : b ≠ I := fun q => by rw [q, hoI] at bn; cases bn
          exact hg b o bC bD bI ((hs4.2 b bD).trans e)

theorem comp_rel {elt target iter : Expr} {scope : Scope} {pos : Pos} {s : Shared} {l : Addr} {vs : List Value} {Q : Value → Shared → Prop} {G : Heap → Value → Value → Prop}
    (hh : A.handled = none) (hcell : ∀ y ∈ scope.names, y.2 ≠ .cell) (hkind : scope.kind = .function) (hl : s.heap.IsList l vs.toArray) (hz : vs.length ≤ 1000)
    (helt : EltDoes prog w A env elt target scope s vs G) (hown : ∀ it v, letOwnedTupleGo target it v = pure ())
    (h : ∀ D (ys : List Value) n h' tk, s.heap.StaysIn h' → s.heap.get? D = none → h'.get? D = some (listOf ys.toArray n) → ys.length = vs.length → (∀ (j : Nat) (v y : Value), vs[j]? = some v → ys[j]? = some y → G h' v y) → Q (.ref D) { s with heap := h', toks := tk }) :
    wpAny (model prog w) A (pyIter (.ref l)) (fun it s₂ => wpAny (model prog w) A (newList []) (fun acc s₃ => wpAny (model prog w) A (newFunctionEnv scope env.globals [] [] env.qual none .none (some env)) (fun cenv s₄ =>
      codeAny (model prog w) A (.compStart (.ListComp elt [⟨target, iter, [], 0⟩] scope pos) 0 it acc { cenv with scope := relabel scope env }) (compPost (model prog w) A E none Q acc cenv.locals) s₄) E s₃) E s₂) E s := by
  refine wpAny_pyIter_list hl ?_
  refine wpAny_newObj_type (wpAny_newFunctionEnv hcell (by intro y hy; simp at hy) (fun h₁ hns₁ hsb₁ => ?_) hkind)
  dsimp only at hns₁ hsb₁ ⊢
  simp only [Heap.size_push] at hns₁ hsb₁ ⊢
  have old : ∀ b o, s.heap.get? b = some o → h₁.get? b = some o := fun b o e => by
    have lt := Heap.lt_size e
    exact hsb₁.extBut b o (Nat.ne_of_lt (Nat.lt_succ_of_lt (Nat.lt_succ_of_lt lt))) (Heap.get?_push_of_some _ (Heap.get?_push_of_some _ (Heap.get?_push_of_some _ e)))
  have hI : h₁.IsListIter s.heap.objs.size l 0 := ⟨_, hsb₁.extBut _ _ (Nat.ne_of_lt (Nat.lt_succ_of_lt (Nat.lt_succ_self _))) (Heap.get?_push_of_some _ (Heap.get?_push_of_some _ (Heap.get?_push_size _ rfl))), rfl, rfl⟩
  have hD0 := Heap.get?_push_size (s.heap.push { cls := .type "list_iterator", data := .fields #[.ref l, .int 0 0] }) (o := { cls := .type "list", data := .seq #[] }) rfl
  rw [Heap.size_push] at hD0
  have hD : h₁.PlainList (s.heap.objs.size + 1) #[] := ⟨_, hsb₁.extBut _ _ (Nat.ne_of_lt (Nat.lt_succ_self _)) (Heap.get?_push_of_some _ hD0)⟩
  have loop : codeAny (model prog w) A (.compLoop (.ListComp elt [⟨target, iter, [], 0⟩] scope pos) 0 (.ref s.heap.objs.size) (.ref (s.heap.objs.size + 1)) (compEnvC scope [] (s.heap.objs.size + 1 + 1) env))
      (compPost (model prog w) A E none Q (.ref (s.heap.objs.size + 1)) (s.heap.objs.size + 1 + 1)) { s with heap := h₁, toks := s.toks + ([] : List (Str × Value)).length } := by
    refine comp_loop_rel hh hl hz helt (hown _) (Nat.le_succ_of_le (Nat.le_succ _)) (Nat.le_refl _) (Nat.le_succ _) (Nat.ne_of_lt (Nat.lt_succ_self _)) (Nat.ne_of_lt (Nat.lt_succ_of_lt (Nat.lt_succ_self _))) (Nat.ne_of_lt (Nat.lt_succ_self _)) old hI hD hns₁ fun ys h' m' tk hns hst hpl hlen hG => ?_
    refine ⟨m', hns, fun h'' hs'' => ?_⟩
    obtain ⟨n, hpl⟩ := hpl
    have nC : ∀ b o, s.heap.get? b = some o → b ≠ s.heap.objs.size + 1 + 1 := fun b o e => Nat.ne_of_lt (Nat.lt_succ_of_lt (Nat.lt_succ_of_lt (Heap.lt_size e)))
    refine h _ ys n h'' tk (fun b o e => (hs''.2 b (nC b o e)).trans (hst b o e)) (Heap.get?_none_of_le (Nat.le_succ _)) ((hs''.2 _ (Nat.ne_of_lt (Nat.lt_succ_self _))).trans hpl) hlen fun j v y hv hy => hG j v y hv hy h'' fun b o bC e => (hs''.2 b bC).trans e
  refine codeAny_compStart_list loop ?_
  exact wpAny_pyIter_listiter hI loop

/-- a comprehension's value, the source's value in hand -/
theorem ListComp_rel {elt target iter : Expr} {scope : Scope} {pos : Pos} {s : Shared} {Q : Value → Shared → Prop}
    (hh : A.handled = none) (hclos : closureFor scope env = pure []) (hcell : ∀ y ∈ scope.names, y.2 ≠ .cell) (hkind : scope.kind = .function) (hnames : ∀ y ∈ scope.names, y.2 = .local → scope.names.lookup y.1 = some .local)
    (hown : ∀ it v, letOwnedTupleGo target it v = pure ())
    (h : wpAny (model prog w) A (eval iter env) (fun xv s₁ => ∃ l vs, ∃ G : Heap → Value → Value → Prop, xv = .ref l ∧ s₁.heap.IsList l vs.toArray ∧ vs.length ≤ 1000 ∧ EltDoes prog w A env elt target scope s₁ vs G ∧
      (∀ D (ys : List Value) n h' tk, s₁.heap.StaysIn h' → s₁.heap.get? D = none → h'.get? D = some (listOf ys.toArray n) → ys.length = vs.length → (∀ (j : Nat) (v y : Value), vs[j]? = some v → ys[j]? = some y → G h' v y) → Q (.ref D) { s₁ with heap := h', toks := tk })) E s)
    (hs : ∀ x, foldedSetIterable iter env x = pure x := by intro _; rfl) :
    wpAny (model prog w) A (eval (.ListComp elt [⟨target, iter, [], 0⟩] scope pos) env) Q E s := by
  rw [eval_ListComp]
  refine wpAny_comprehension_free (use := none) rfl hs hclos hkind hnames (wpAny_mono h (fun xv s₁ h₁ => ?_) fun _ _ e => e)
  obtain ⟨l, vs, G, rfl, hl, hz, helt, hQ⟩ := h₁
  exact comp_rel hh hcell hkind hl hz helt hown hQ
end
end Mine
end JC9

section JC10
open PySem PySem.W PyProof.Rows PySem.Calls
set_option Elab.async false
set_option maxRecDepth 100000
set_option maxHeartbeats 4000000
namespace Mine
theorem none_sb {C b : Addr} {h h1 : Heap} {m : Str → Option Value} (hs : Heap.SameBut C h h1) (hn : h1.Ns C m) (e : h1.get? b = none) : h.get? b = none := by
  by_cases q : b = C
  · subst q
    obtain ⟨o, _, _, ho, _⟩ := hn
    rw [ho] at e; cases e
  · rw [← hs.2 b q]; exact e
theorem Kd_addr_inj {k k' : Kd} (e : k.addr = k'.addr) : k = k' := by cases k <;> cases k' <;> first | rfl | (exact absurd e (by decide))
theorem NetAt_inj {P : Params} {h : Heap} {x : Addr} {v v' p p' : Int} {k k' : Kd} (a : NetAt P h x v p k) (b : NetAt P h x v' p' k') : v = v' ∧ p = p' ∧ k = k' := by
  obtain ⟨dx, t1, t2, t3, tv, tp, n, a1, a2⟩ := a
  obtain ⟨dx', u1, u2, u3, uv, up, n', b1, b2⟩ := b
  rw [a1] at b1
  have e1 : dx = dx' := by injection b1 with b1; injection b1 with _ q; injection q
  subst e1
  rw [a2] at b2
  have e2 : netEs P t1 t2 t3 v tv k.addr p tp = netEs P u1 u2 u3 v' uv k'.addr p' up := by
    injection b2 with b2
    injection b2 with _ _ q
    injection q with q
    exact congrArg Array.toList q
  unfold netEs at e2
  injection e2 with e3 e4
  injection e4 with e4 e5
  injection e5 with e5
  injection e3 with _ _ e3
  injection e4 with _ _ e4
  injection e5 with _ _ e5
  injection e3 with e3
  injection e4 with e4
  injection e5 with e5
  exact ⟨e3, e5, Kd_addr_inj e4⟩
structure ND where
  k : Kd
  v : Int
  p : Int
noncomputable def ND.ok (d : ND) : Prop := (0 ≤ d.p ∧ d.p ≤ d.k.wid) ∧ 0 ≤ d.v ∧ d.v ≤ d.k.max
noncomputable def NetD (P : Params) (h : Heap) (y : Value) (d : ND) : Prop := ∃ x, y = .ref x ∧ NetAt P h x d.v d.p d.k
noncomputable def NetsD (P : Params) (h : Heap) : List Value → List ND → Prop
  | [], [] => True
  | y :: ys, d :: ds => NetD P h y d ∧ NetsD P h ys ds
  | _, _ => False
theorem NetD.keeps {P : Params} {h h' : Heap} {y : Value} {d : ND} (N : NetD P h y d) (st : h.StaysIn h') : NetD P h' y d := by
  obtain ⟨x, e, a⟩ := N
  exact ⟨x, e, a.keeps st⟩
theorem NetsD.keeps {P : Params} {h h' : Heap} (st : h.StaysIn h') : ∀ {ys : List Value} {ds : List ND}, NetsD P h ys ds → NetsD P h' ys ds
  | [], [], _ => trivial
  | _ :: _, _ :: _, ⟨a, b⟩ => ⟨a.keeps st, NetsD.keeps st b⟩
theorem NetsD.len {P : Params} {h : Heap} : ∀ {ys : List Value} {ds : List ND}, NetsD P h ys ds → ys.length = ds.length
  | [], [], _ => rfl
  | _ :: _, _ :: _, ⟨_, b⟩ => by rw [List.length_cons, List.length_cons, NetsD.len b]
theorem NetsD.get {P : Params} {h : Heap} : ∀ {ys : List Value} {ds : List ND}, NetsD P h ys ds → ∀ (j : Nat) (y : Value) (d : ND), ys[j]? = some y → ds[j]? = some d → NetD P h y d
  | _ :: _, _ :: _, ⟨a, _⟩, 0, y, d, e1, e2 => by cases e1; cases e2; exact a
  | _ :: _, _ :: _, ⟨_, b⟩, j + 1, y, d, e1, e2 => NetsD.get b j y d e1 e2
theorem NetsD.mem {P : Params} {h : Heap} {ys : List Value} {ds : List ND} (H : NetsD P h ys ds) {y : Value} (hy : y ∈ ys) : ∃ d, d ∈ ds ∧ NetD P h y d := by
  obtain ⟨j, hj⟩ := List.getElem?_of_mem hy
  have hlt := (List.getElem?_eq_some_iff.mp hj).1
  rw [H.len] at hlt
  exact ⟨ds[j], List.getElem_mem hlt, H.get j y _ hj (List.getElem?_eq_getElem hlt)⟩
local macro_rules | `(tactic| k_inst) => `(tactic| first | (refine' InstAt_keeps ?I ?k; (case I => assumption); (case k => exact Fr.keep (by k_asm))) | fail "no ground")
local macro_rules | `(tactic| walk_at "getAttr ref") => `(tactic| (k_here; (with_reducible first | refine get_width (by k_in) ?_ | refine get_version (by k_in) ?_ | refine get_max (by k_in) ?_)))

section
variable {w : World} {ad au : Nat} {afr : Option (List Env)} {ags : Option (List Code)} {s : Shared} {h₀ : Heap} {L : Addr} {m : Str → Option Value} {news : List (Addr × Obj)} {mg mb : Str → Option Value} {p : Program} {loose : List Str} {mean : ExcName → Option Value} {R : Result → Shared → Prop} {Q : Value → Shared → Prop} {E : Value → Shared → Prop} {e : Bool}
end
end Mine
end JC10

section JC11
open PySem PySem.W PyProof.Rows PySem.Calls
set_option Elab.async false
set_option maxRecDepth 100000
set_option maxHeartbeats 4000000
namespace Mine
/-! the sort's order: the library says of ints under `sortRuns'` that they come out in order, and of any keys which questions it asks; a run is one, so both hold of the same run -/
noncomputable def A9 : Around := ⟨none, 900, none, none, 100⟩
noncomputable def Γ9 : PySem.Ctx := PySem.Ctx.of (.builtin "claim.caller" {}) []
theorem in9 : Γ9.In A9 := ⟨rfl, by decide +kernel, fun _ h => (nomatch h), fun _ h => (nomatch h), by decide +kernel⟩
theorem both {α : Type} {M : Model} {t : Sem α} {s : Shared} {Q1 Q2 : α → Prop} (h1 : wpAny M A9 t (fun a _ => Q1 a) (fun _ _ => False) s) (h2 : wpAny M A9 t (fun a _ => Q2 a) (fun _ _ => False) s) : ∃ a, Q1 a ∧ Q2 a := by
  classical
  let code : α → Int := fun a => if Q1 a then (if Q2 a then 3 else 1) else (if Q2 a then 2 else 0)
  let g : α → Sem PySem.Fin := fun a => .pure (.done (.ret (.int (code a) 0)))
  have run : ∀ Q : α → Prop, wpAny M A9 t (fun a _ => Q a) (fun _ _ => False) s → ∃ r s', Runs M Γ9 default (t.bind g) [] s (.ret r) s' ∧ ∃ a, Q a ∧ r = .ok (.ret (.int (code a) 0)) := by
    intro Q h
    refine (Sem.wp_iff_runs M Γ9 (t.bind g) (fun r _ => ∃ a, Q a ∧ r = .ok (.ret (.int (code a) 0))) default s).mp ?_
    rw [Sem.wp_bind]
    exact Sem.wp_mono M Γ9 t (fun a p' s' (hq : Q a) => (⟨a, hq, rfl⟩ : ∃ a', Q a' ∧ (Except.ok (Flow.ret (.int (code a) 0)) : Result) = .ok (.ret (.int (code a') 0)))) (fun _ _ _ (hf : False) => hf.elim) default s (h Γ9 default in9)
  obtain ⟨r1, s1, u1, a1, q1, e1⟩ := run Q1 h1
  obtain ⟨r2, s2, u2, a2, q2, e2⟩ := run Q2 h2
  have := (Reach.det (runs_iff_reach.mp u1) (runs_iff_reach.mp u2)).2
  injection this with this
  rw [e1, e2] at this
  injection this with this
  injection this with this
  injection this with this
  by_cases q : Q2 a1
  · exact ⟨a1, q1, q⟩
  · exfalso
    simp only [code, q1, q2, q, if_true, if_false] at this
    split at this <;> omega

noncomputable def runT {α : Type} (c : Nat → Nat → Bool) : KasT α → α
  | .ret a => a
  | .ask i j k => runT c (k (c i j))
/-- it asks of places below n alone, and what comes out has P -/
noncomputable def Asks {α : Type} (n : Nat) (P : α → Prop) : KasT α → Prop
  | .ret a => P a
  | .ask i j k => i < n ∧ j < n ∧ ∀ b, Asks n P (k b)
theorem Asks.bind {α β : Type} {n : Nat} {P : α → Prop} {Q : β → Prop} {f : α → KasT β} (hf : ∀ a, P a → Asks n Q (f a)) : ∀ (t : KasT α), Asks n P t → Asks n Q (t.bind f)
  | .ret a, h => hf a h
  | .ask _ _ k, h => ⟨h.1, h.2.1, fun b => Asks.bind hf (k b) (h.2.2 b)⟩
theorem kasWp_pure {α : Type} {n : Nat} {P : α → Prop} {c : Nat → Nat → Bool} {ask : Nat → Nat → (Bool → Shared → Prop) → Shared → Prop} {s : Shared} (ha : ∀ i j C, i < n → j < n → C (c i j) s → ask i j C s) {G : α → Shared → Prop} : ∀ (t : KasT α), Asks n P t → G (runT c t) s → t.kasWp ask G s
  | .ret _, _, h => h
  | .ask i j k, q, h => ha i j _ q.1 q.2.1 (kasWp_pure ha (k (c i j)) (q.2.2 _) h)

noncomputable def OkP (n : Nat) (p : Array Nat) : Prop := ∀ x ∈ p.toList, x < n
theorem OkP.get {n : Nat} {p : Array Nat} (h : OkP n p) (h0 : 0 < n) (k : Nat) : p.getD k 0 < n := by
  by_cases q : k < p.size
  · have e : p.getD k 0 = p[k] := by simp [Array.getD, q]
    rw [e]
    exact h _ (by simp)
  · have e : p.getD k 0 = 0 := by simp [Array.getD, q]
    rw [e]; exact h0
theorem OkP.perm {n : Nat} {p q : Array Nat} (h : OkP n p) (e : q.Perm p) : OkP n q := fun x hx => h x ((Array.perm_iff_toList_perm.mp e).mem_iff.mp hx)
theorem OkP.rev {n : Nat} {p : Array Nat} (h : OkP n p) (i j : Nat) : OkP n (kas_rev p i j) := h.perm (mirror_perm _ _ _ _)
theorem OkP.bub {n : Nat} {p : Array Nat} (h : OkP n p) (i j : Nat) : OkP n (bubble p i j) := h.perm (bubble_perm _ _ _)
section
variable {n : Nat} (h0 : 0 < n)
include h0
theorem asks_asc {p : Array Nat} (hp : OkP n p) : ∀ f k, Asks n (fun _ => True) (kas_asc p f k)
  | 0, _ => trivial
  | f + 1, k => ⟨hp.get h0 _, hp.get h0 _, fun b => by
    cases b
    · exact asks_asc hp f (k + 1)
    · exact trivial⟩
theorem asks_desc : ∀ f (p : Array Nat) k q, OkP n p → Asks n (fun r => OkP n r.1) (kas_desc f p k q)
  | 0, _, _, _, hp => hp
  | f + 1, p, k, q, hp => ⟨hp.get h0 _, hp.get h0 _, fun b => by
    cases b
    · refine ⟨hp.get h0 _, hp.get h0 _, fun b => ?_⟩
      cases b
      · exact asks_desc f p (k + 1) (q + 1) hp
      · exact hp
    · show Asks n _ (if q > 0 then _ else _)
      split
      · exact asks_desc f _ (k + 1) 0 (hp.rev _ _)
      · exact asks_desc f _ (k + 1) 0 hp⟩
theorem asks_tail3 {k nrem : Nat} {p : Array Nat} (hp : OkP n p) : Asks n (fun r => OkP n r.2) (kas_tail3 k nrem p) := by
  refine Asks.bind (P := fun _ => True) (fun r _ => ?_) _ (asks_asc h0 (hp.rev _ _) _ _)
  exact hp.rev _ _
theorem asks_descPart {k nrem : Nat} {p : Array Nat} (hp : OkP n p) : Asks n (fun r => OkP n r.2) (kas_descPart k nrem p) := by
  refine Asks.bind (fun r hr => ?_) _ (asks_desc h0 _ p _ _ hp)
  split
  · exact asks_tail3 h0 (OkP.rev hr _ _)
  · exact asks_tail3 h0 hr
theorem asks_count {nrem : Nat} {p : Array Nat} (hp : OkP n p) : Asks n (fun r => OkP n r.2) (kas_count nrem p) := by
  refine Asks.bind (fun r _ => ?_) _ (asks_asc h0 hp _ _)
  split
  · exact hp
  · split
    · refine ⟨hp.get h0 _, hp.get h0 _, fun b => ?_⟩
      cases b
      · exact asks_descPart h0 (hp.rev _ _)
      · exact hp
    · exact asks_descPart h0 hp
theorem asks_place {p : Array Nat} (hp : OkP n p) (k : Nat) : ∀ f l r, Asks n (fun _ => True) (kas_place p k f l r)
  | 0, _, _ => trivial
  | f + 1, l, r => by
    show Asks n _ (if l ≥ r then _ else _)
    split
    · exact trivial
    · refine ⟨hp.get h0 _, hp.get h0 _, fun b => ?_⟩
      cases b
      · exact asks_place hp k f _ _
      · exact asks_place hp k f _ _
theorem asks_bin : ∀ f (p : Array Nat) k, OkP n p → Asks n (fun q => OkP n q) (kas_bin f p k)
  | 0, _, _, hp => hp
  | f + 1, p, k, hp => Asks.bind (fun _ _ => asks_bin f _ _ (hp.bub _ _)) _ (asks_place h0 hp k _ _ _)
theorem asks_sort : Asks n (fun q => OkP n q) (kas_sort n) := by
  have hr : OkP n (List.toArray (List.range n)) := fun x hx => List.mem_range.mp (by simpa using hx)
  refine Asks.bind (fun r hr => ?_) _ (asks_count h0 hr)
  split
  · exact asks_bin h0 _ _ _ hr
  · exact hr
end

theorem Asks.run {α : Type} {n : Nat} {P : α → Prop} (c : Nat → Nat → Bool) : ∀ (t : KasT α), Asks n P t → P (runT c t)
  | .ret _, h => h
  | .ask _ _ k, h => Asks.run c (k _) (h.2.2 _)
theorem sort_is (w : World) (s : Shared) {n : Nat} (h2 : 2 ≤ n) (h64 : n < 64) (r : Nat → Int) :
    (runT (fun i j => decide (r i < r j)) (kas_sort n)).toList.Perm (List.range n) ∧ ∀ i j, i ≤ j → j < n → r ((runT (fun i j => decide (r i < r j)) (kas_sort n)).getD i 0) ≤ r ((runT (fun i j => decide (r i < r j)) (kas_sort n)).getD j 0) := by
  let it : Array Keyed := ((List.range n).map fun i => (Value.int (r i) 0, Value.int i 0)).toArray
  have hit : it.size = n := by simp [it]
  have item : ∀ i, i < n → kas_item it i = (Value.int (r i) 0, Value.int i 0) := by
    intro i hi
    unfold kas_item
    simp [it, Array.getD, hi]
  have base : SBase it (kas_st oneType' it (List.toArray (List.range n))) := ⟨by
    show (Array.map (kas_item it) (List.toArray (List.range n))).Perm it
    have := kas_range it
    rw [hit] at this
    rw [this], rfl, rfl, rfl⟩
  have hints : IntKeys it := by
    intro p hp
    simp only [it, List.toList_toArray, List.mem_map] at hp
    obtain ⟨i, _, rfl⟩ := hp
    exact ⟨_, _, rfl⟩
  have w1 := wpS_sortRuns (w := w) (prog := pwL) (A := A9) (E := fun _ _ => False) (s := s) (Q := fun _ st' => (arrOf st').Perm it ∧ SortedTo (arrOf st') n) hints base (by rw [hit]; exact h2) (by rw [hit]; exact h64) (fun st' a _ c => ⟨a, by rw [hit] at c; exact c⟩)
  have w2 := kas_runs (w := w) (prog := pwL) (A := A9) (E := fun _ _ => False) (s := s) (κ := oneType') (it := it) (Q := fun _ st' _ => arrOf st' = (runT (fun i j => decide (r i < r j)) (kas_sort n)).map (kas_item it) ∧ (runT (fun i j => decide (r i < r j)) (kas_sort n)).size = n)
    (G := fun p _ => p = runT (fun i j => decide (r i < r j)) (kas_sort n)) h2 h64 (fun p' st' s' a b _ e => by subst e; exact ⟨b, a⟩)
    (kasWp_pure (n := n) (fun i j C hi hj hc => by
      show wpAny _ _ (keyLt' oneType' (kas_item it i).1 (kas_item it j).1) C _ s
      rw [item i hi, item j hj]
      exact kat_lt_int hc) _ (asks_sort (by omega)) rfl)
  obtain ⟨⟨u, st'⟩, ⟨q1, q2⟩, ⟨q3, q4⟩⟩ := both (Q1 := fun x : Unit × SortSt => (arrOf x.2).Perm it ∧ SortedTo (arrOf x.2) n) (wpAny_mono w1 (fun a _ h => h.2) fun _ _ h => h) (wpAny_mono w2 (fun a _ h => h) fun _ _ h => h)
  dsimp only at q1 q2 q3 q4
  have hok : OkP n (runT (fun i j => decide (r i < r j)) (kas_sort n)) := Asks.run _ _ (asks_sort (by omega))
  generalize runT (fun i j => decide (r i < r j)) (kas_sort n) = p at *
  have hmap : (arrOf st').toList = p.toList.map fun i => (Value.int (r i) 0, Value.int (i : Nat) 0) := by
    rw [q3, Array.toList_map]
    exact List.map_congr_left fun i hi => item i (hok i hi)
  refine ⟨?_, fun i j hij hj => ?_⟩
  · have h1 := Array.perm_iff_toList_perm.mp q1
    rw [hmap] at h1
    have h2 := h1.map (fun k : Keyed => (numOf k.2).toNat)
    simp only [it, List.toList_toArray, List.map_map] at h2
    have e : ∀ l : List Nat, l.map ((fun k : Keyed => (numOf k.2).toNat) ∘ fun i => (Value.int (r i) 0, Value.int (i : Nat) 0)) = l := by
      intro l
      conv => rhs; rw [← List.map_id l]
      exact List.map_congr_left fun i _ => by simp [numOf]
    rw [e, e] at h2
    exact h2
  · have key : ∀ k, k < n → PyProof.Rows.K (arrOf st') k = r (p.getD k 0) := by
      intro k hk
      have e : p.getD k 0 = p[k]'(by omega) := by simp [Array.getD, q4, hk]
      unfold PyProof.Rows.K
      rw [← Array.getElem?_toList, hmap, List.getElem?_map, Array.getElem?_toList, Array.getElem?_eq_getElem (by omega), e]
      rfl
    have := q2 i j hij hj
    rw [key i (by omega), key j hj] at this
    exact this
end Mine
end JC11

section JC12
open PySem PySem.W PyProof.Rows PySem.Calls
set_option Elab.async false
set_option maxRecDepth 100000
set_option maxHeartbeats 4000000
namespace Mine
/-- a tuple of ints -/
noncomputable def TupI (h : Heap) (k : Value) (xs : List Int) : Prop := ∃ y vs n, k = .ref y ∧ h.get? y = some { cls := .type "tuple", data := .seq (List.toArray vs) n } ∧ IntsAre vs xs
noncomputable def lexLt : List Int → List Int → Bool
  | x :: xs, y :: ys => if x = y then lexLt xs ys else decide (x < y)
  | [], _ :: _ => true
  | _, _ => false
section
variable {w : World} {A : Around} {E : Value → Shared → Prop} {s : Shared}
theorem lex_ask {Q : Bool → Shared → Prop} : ∀ {vs us : List Value} {xs ys : List Int} (i : Nat), IntsAre vs xs → IntsAre us ys → xs.length = ys.length → Q (lexLt xs ys) s → KatLex pwL w A true false Q (vs.zip us) i s
  | [], [], _, _, _, .nil, .nil, _, h => kat_nil h
  | _ :: _, _ :: _, _, _, i, .cons (ns := xs) x t a, .cons (ns := ys) y u b, e, h => by
    refine kat_cons (wpAny_eqBool_int (kat_go (fun q => ?_) (fun q => ?_)))
    · have q : x = y := by simpa using q
      subst q
      refine kat_yes (lex_ask (i + 1) a b (by simpa using e) ?_)
      have : lexLt (x :: xs) (x :: ys) = lexLt xs ys := by simp [lexLt]
      rw [this] at h; exact h
    · have q : x ≠ y := by simpa using q
      have e2 : lexLt (x :: xs) (y :: ys) = decide (x < y) := by simp [lexLt, q]
      rw [e2] at h
      refine kat_no ?_
      by_cases hi : i = 0
      · subst hi
        exact oneLt_int h
      · have e3 : (true && i == 0) = false := by simp [hi]
        rw [e3]
        exact kat_one _ _ (lt_int h)
  | [], _ :: _, _, _, _, .nil, .cons .., e, _ => by simp at e
  | _ :: _, [], _, _, _, .cons .., .nil, e, _ => by simp at e

theorem ask_tups {ks : List Value} {xss : List (List Int)} {i j : Nat} {C : Bool → Shared → Prop} {m : Nat} (hk : ∀ (i : Nat) (v : Value) (xs : List Int), ks[i]? = some v → xss[i]? = some xs → TupI s.heap v xs) (hl : ks.length = xss.length) (hm : ∀ xs ∈ xss, xs.length = m) (hi : i < ks.length) (hj : j < ks.length)
    (h : C (lexLt (xss.getD i []) (xss.getD j [])) s) : kas_ask pwL w A (tuples' true) ks i j C s := by
  have gi : ks[i]? = some ks[i] := List.getElem?_eq_getElem hi
  have gj : ks[j]? = some ks[j] := List.getElem?_eq_getElem hj
  have hi' : i < xss.length := hl ▸ hi
  have hj' : j < xss.length := hl ▸ hj
  have xi : xss[i]? = some xss[i] := List.getElem?_eq_getElem hi'
  have xj : xss[j]? = some xss[j] := List.getElem?_eq_getElem hj'
  obtain ⟨y, vs, n, e1, e2, e3⟩ := hk i _ _ gi xi
  obtain ⟨z, us, n', f1, f2, f3⟩ := hk j _ _ gj xj
  have d1 : xss.getD i [] = xss[i] := by simp [List.getD, xi]
  have d2 : xss.getD j [] = xss[j] := by simp [List.getD, xj]
  have d3 : ks.getD i Value.none = ks[i] := by simp [List.getD, gi]
  have d4 : ks.getD j Value.none = ks[j] := by simp [List.getD, gj]
  rw [d1, d2] at h
  unfold kas_ask
  rw [d3, d4, e1, f1]
  have lz : (xss[i]).length = (xss[j]).length := (hm _ (List.getElem_mem hi')).trans (hm _ (List.getElem_mem hj')).symm
  have z1 := e3.length
  have z2 := f3.length
  have fin : decide ((List.toArray vs).size < (List.toArray us).size) = false := by
    rw [List.size_toArray, List.size_toArray]
    exact decide_eq_false (by omega)
  refine kat_lt e2 rfl f2 rfl ?_
  rw [fin]
  exact lex_ask 0 e3 f3 lz h

/-- the order that comes out -/
noncomputable def SortOut (rk : Nat → Int) (n : Nat) (p : Array Nat) : Prop := p.toList.Perm (List.range n) ∧ ∀ i j, i ≤ j → j < n → rk (p.getD i 0) ≤ rk (p.getD j 0)
theorem run_tups {ks vs : List Value} {xss : List (List Int)} {m : Nat} {rk : Nat → Int} (hk : ∀ (i : Nat) (v : Value) (xs : List Int), ks[i]? = some v → xss[i]? = some xs → TupI s.heap v xs) (hl : ks.length = xss.length) (hv : ks.length = vs.length) (hm : ∀ xs ∈ xss, xs.length = m)
    (h2 : 2 ≤ vs.length) (h64 : vs.length < 64) (hr : ∀ i j, i < vs.length → j < vs.length → lexLt (xss.getD i []) (xss.getD j []) = decide (rk i < rk j)) :
    wpAny (model pwL w) A ((sortRuns').run (SortSt.mk' (tuples' true) (ks.toArray.zip vs.toArray) #[] 7 none)) (fun r s' => s' = s ∧ failedOf r.2 = none ∧ ∃ p : Array Nat, p.size = vs.length ∧ arrOf r.2 = p.map (kas_item (ks.toArray.zip vs.toArray)) ∧ SortOut rk vs.length p) E s := by
  refine kat_run (G := fun p s' => s' = s ∧ p = runT (fun i j => decide (rk i < rk j)) (kas_sort vs.length)) (Q := fun st' s' => s' = s ∧ failedOf st' = none ∧ ∃ p : Array Nat, p.size = vs.length ∧ arrOf st' = p.map (kas_item (ks.toArray.zip vs.toArray)) ∧ SortOut rk vs.length p) hv h2 h64 (fun p st' s' a b c d => ⟨d.1, c, p, a, b, ?_⟩) ?_
  · rw [d.2]; exact sort_is w s h2 h64 rk
  · refine kasWp_pure (n := vs.length) (P := fun q => OkP vs.length q) (ask := kas_ask pwL w A (tuples' true) ks) (c := fun i j => decide (rk i < rk j)) (fun i j C hi hj hc => ?_) _ (asks_sort (by omega)) ⟨rfl, rfl⟩
    rw [← hr i j hi hj] at hc
    exact ask_tups hk hl hm (hv ▸ hi) (hv ▸ hj) hc

/-- which key kind tuples of ints are -/
theorem kind_tups {ks : List Value} {xss : List (List Int)} {m : Nat} {Q : SortKind → Shared → Prop} (hk : ∀ (i : Nat) (v : Value) (xs : List Int), ks[i]? = some v → xss[i]? = some xs → TupI s.heap v xs) (hl : ks.length = xss.length) (hm : ∀ xs ∈ xss, xs.length = m + 1) (h0 : 0 < ks.length)
    (h : Q (tuples' true) s) : wpAny (model pwL w) A (keyKind' ks.toArray) Q E s := by
  have main : ∀ (ks : List Value) (xss : List (List Int)), ks.length = xss.length → (∀ (i : Nat) (v : Value) (xs : List Int), ks[i]? = some v → xss[i]? = some xs → TupI s.heap v xs) → (∀ xs ∈ xss, xs.length = m + 1) →
      ∃ fs, KatTups s.heap ks fs ∧ fs.length = ks.length ∧ ∀ v ∈ fs, ∃ (x : Int) (t : Tok), v = .int x t := by
    intro ks
    induction ks with
    | nil => intro _ _ _ _; exact ⟨[], trivial, rfl, fun _ h => (nomatch h)⟩
    | cons k ks ih =>
      intro xss hl hk hm
      cases xss with
      | nil => simp at hl
      | cons xs xss =>
        obtain ⟨fs, a, b, c⟩ := ih xss (by simpa using hl) (fun i v x e1 e2 => hk (i + 1) v x e1 e2) fun x hx => hm x (.tail _ hx)
        obtain ⟨y, vs, n, rfl, g, ia⟩ := hk 0 k xs rfl rfl
        have hlen := hm xs (.head _)
        cases ia with
        | nil => simp at hlen
        | cons x t r => exact ⟨.int x t :: fs, KatTups.cons g rfl rfl (by simp) a, by simp [b], fun v hv => by
            rcases List.mem_cons.mp hv with rfl | hv
            · exact ⟨x, t, rfl⟩
            · exact c v hv⟩
  obtain ⟨fs, a, b, c⟩ := main ks xss hl hk hm
  refine kat_kind (T := .type "int") a (by omega) (fun v hv => ?_) (by decide) h
  obtain ⟨x, t, rfl⟩ := c v hv
  exact Looks.of_pure rfl
end
end Mine
end JC12

section JC13
open PySem PySem.W PyProof.Rows PySem.Calls
set_option Elab.async false
set_option maxRecDepth 100000
set_option maxHeartbeats 4000000
namespace Mine
section
variable {w : World} {A : Around} {E : Value → Shared → Prop} {s : Shared}
noncomputable def keptBut (a b : Addr) (h h' : Heap) : Prop := ∀ c o, c ≠ a → c ≠ b → h.get? c = some o → h'.get? c = some o

theorem tail_raw {a kS : Addr} {e1 e : Nat} {ks out : List Value} {st : SortSt} {P : PySem.Fin → Shared → Prop} (hne : a ≠ kS) (ha : s.heap.get? a = some (seqObj "list" #[] e1)) (hk : s.heap.get? kS = some (seqObj "list" ks.toArray e))
    (hout : (arrOf st).map (·.2) = List.toArray out) (hz : out.length < 64) (hkz : ks.length < 64) (hf : failedOf st = none)
    (h : ∀ h' c, keptBut a kS s.heap h' → h'.get? a = some (seqObj "list" (List.toArray out) c) → P (.done (.ret .none)) { s with heap := h' }) : wpAny (model pwL w) A (ksk_tail a false e1 (.ref kS) st) P E s := by
  have s1 := Heap.SameBut.update s.heap kS (Obj.mapSeq fun _ => (#[] : Array Value))
  have ha1 : (s.heap.update kS (Obj.mapSeq fun _ => (#[] : Array Value))).get? a = some (seqObj "list" #[] e1) := (s1.2 a hne).trans ha
  have s2 := Heap.SameBut.update (s.heap.update kS (Obj.mapSeq fun _ => (#[] : Array Value))) a (Obj.mapSeq fun _ => List.toArray out)
  have ha2 := get?_update_seq ha1 fun _ => List.toArray out
  unfold ksk_tail
  try dsimp only
  rw [hout]
  refine wpAny_bind (listUpdate_at hk rfl ?_ (by rw [List.size_toArray, sizeLine_eq]; omega) (Nat.zero_le _))
  refine wpAny_bind (wpAny_letGo ?_)
  refine wpAny_bind (seqEpoch_at ha1 rfl ?_)
  simp only [Bool.false_eq_true, if_false]
  refine wpAny_bind (listUpdate_at ha1 rfl ?_ (Nat.zero_le _) (by rw [List.size_toArray, sizeLine_eq]; omega))
  rw [hf]
  simp only [bne_self_eq_false, Bool.false_eq_true, if_false]
  exact wpAny_pure (h _ _ (fun c o ca ck e => (s2.2 c ca).trans ((s1.2 c ck).trans e)) ha2)

theorem small_out {rk : Nat → Int} {n : Nat} (h : n < 2) : SortOut rk n (List.toArray (List.range n)) := by
  refine ⟨by simp, fun i j hij hj => ?_⟩
  have : i = j := by omega
  subst this
  exact Int.le_refl _
theorem range_out {vs : List Value} : (List.toArray (List.range vs.length)).toList.map (fun i => vs.getD i Value.none) = vs := by
  apply List.ext_getElem?
  intro i
  simp only [List.toList_toArray, List.getElem?_map]
  by_cases h : i < vs.length
  · rw [List.getElem?_range h]
    simp [List.getD, List.getElem?_eq_getElem h]
  · have h1 : (List.range vs.length)[i]? = none := by simp; omega
    rw [h1]
    simp; omega

theorem end_raw {a kS : Addr} {e1 e : Nat} {ks vs : List Value} {xss : List (List Int)} {m : Nat} {rk : Nat → Int} {P : PySem.Fin → Shared → Prop} (hne : a ≠ kS) (ha : s.heap.get? a = some (seqObj "list" #[] e1)) (hks : s.heap.get? kS = some (seqObj "list" ks.toArray e))
    (hk : ∀ (i : Nat) (v : Value) (xs : List Int), ks[i]? = some v → xss[i]? = some xs → TupI s.heap v xs) (hl : ks.length = xss.length) (hv : ks.length = vs.length) (hm : ∀ xs ∈ xss, xs.length = m + 1) (h64 : vs.length < 64)
    (hr : ∀ i j, i < vs.length → j < vs.length → lexLt (xss.getD i []) (xss.getD j []) = decide (rk i < rk j))
    (h : ∀ p h' c, SortOut rk vs.length p → keptBut a kS s.heap h' → h'.get? a = some (seqObj "list" (List.toArray (p.toList.map fun i => vs.getD i Value.none)) c) → P (.done (.ret .none)) { s with heap := h' }) :
    wpAny (model pwL w) A (ksk_end a false vs.toArray e1 (.ref kS) ks.toArray) P E s := by
  unfold ksk_end
  simp only [Bool.false_eq_true, if_false]
  by_cases h2 : vs.length < 2
  · have h2' : vs.toArray.size < 2 := by rw [List.size_toArray]; exact h2
    rw [if_pos h2', if_pos h2']
    refine wpAny_bind (wpAny_pure ?_)
    show wpAny _ _ ((pure () : StateT SortSt Sem Unit).run _ >>= _) _ _ _
    rw [StateT.run_pure]
    refine wpAny_bind (wpAny_pure ?_)
    dsimp only
    refine tail_raw (out := vs) hne ha hks ?_ h64 (by omega) rfl fun h' c kb hg => h _ h' c (small_out h2) kb (by rw [range_out]; exact hg)
    show ((ks.toArray.zip vs.toArray).map (·.2)) = vs.toArray
    apply Array.toList_inj.mp
    rw [Array.toList_map, Array.toList_zip]
    exact List.map_snd_zip (by simp; omega)
  · have h2' : ¬ vs.toArray.size < 2 := by rw [List.size_toArray]; exact h2
    rw [if_neg h2', if_neg h2']
    refine wpAny_bind (kind_tups hk hl hm (by omega) ?_)
    refine wpAny_bind (wpAny_mono (run_tups hk hl hv hm (by omega) h64 hr) (fun r s' q => ?_) fun _ _ e => e)
    obtain ⟨rfl, hf, p, hp, har, so⟩ := q
    exact tail_raw hne ha hks (kat_snds hv har) (by rw [List.length_map, Array.length_toList, hp]; exact h64) (by omega) hf fun h' c kb hg => h p h' c so kb hg
end
end Mine
end JC13

section JC14
open PySem PySem.W PyProof.Rows PySem.Calls
set_option Elab.async false
set_option maxRecDepth 100000
set_option maxHeartbeats 4000000
namespace Mine
section
variable {w : World} {A : Around} {E : Value → Shared → Prop} {s : Shared}
/-- a key's call: a new tuple of ints -/
noncomputable def KeyCall (w : World) (A : Around) (s : Shared) (a : Addr) (f v : Value) (xs : List Int) : Prop :=
  ∀ (s' : Shared) (Q' : Value → Shared → Prop), (∃ h' tk, s' = { s with heap := h', toks := tk }) → (∀ c o, c ≠ a → s.heap.get? c = some o → s'.heap.get? c = some o) →
    (∀ k h' tk, s'.heap.StaysIn h' → (∃ y us n, k = .ref y ∧ s'.heap.get? y = none ∧ h'.get? y = some { cls := .type "tuple", data := .seq (List.toArray us) n } ∧ IntsAre us xs) → Q' k { s' with heap := h', toks := tk }) →
    wpAny (model pwL w) A (call f [v]) Q' (fun _ _ => False) s'
theorem tree_raw {a : Addr} {f : Value} {n0 m : Nat} {vs : List Value} {xss : List (List Int)} {rk : Nat → Int} {P : PySem.Fin → Shared → Prop} (ho : s.heap.get? a = some (seqObj "list" vs.toArray n0)) (h64 : vs.length < 64) (hl : vs.length = xss.length) (hm : ∀ xs ∈ xss, xs.length = m + 1)
    (hkey : ∀ (i : Nat) (v : Value) (xs : List Int), vs[i]? = some v → xss[i]? = some xs → KeyCall w A s a f v xs)
    (hr : ∀ i j, i < vs.length → j < vs.length → lexLt (xss.getD i []) (xss.getD j []) = decide (rk i < rk j))
    (h : ∀ p h' c tk, SortOut rk vs.length p → (∀ b o, b ≠ a → s.heap.get? b = some o → h'.get? b = some o) → h'.get? a = some (seqObj "list" (List.toArray (p.toList.map fun i => vs.getD i Value.none)) c) → P (.done (.ret .none)) { s with heap := h', toks := tk }) :
    wpAny (model pwL w) A (ksk_tree a f false) P E s := by
  have hlt : a < s.heap.objs.size := Heap.lt_size ho
  have s1 := Heap.SameBut.update s.heap a (Obj.mapSeq fun _ => (#[] : Array Value))
  obtain ⟨e1, ho1⟩ : ∃ e1, (s.heap.update a (Obj.mapSeq fun _ => (#[] : Array Value))).get? a = some (seqObj "list" #[] e1) := ⟨_, get?_update_seq ho fun _ => #[]⟩
  unfold ksk_tree
  refine wpAny_bind (listItems_at ho rfl ?_)
  refine wpAny_bind (listUpdate_at ho rfl ?_ (by rw [List.size_toArray, sizeLine_eq]; omega) (Nat.zero_le _))
  refine wpAny_bind (seqEpoch_at ho1 rfl ?_)
  refine wpAny_bind (wpAny_newTuple ?_ (by show vs.length ≤ _; rw [sizeLine_eq]; omega))
  refine wpAny_bind (wpAny_newList ?_ (Nat.zero_le _))
  refine wpAny_holding ?_
  generalize hH : (s.heap.update a (Obj.mapSeq fun _ => (#[] : Array Value))).push { cls := .type "tuple", data := .seq vs.toArray.toList.toArray } = H
  have hHs : H.objs.size = s.heap.objs.size + 1 := by rw [← hH, Heap.size_push, Heap.size_update]
  have hfr : s.heap.get? H.objs.size = none := Heap.get?_none_of_le (by rw [hHs]; exact Nat.le_succ _)
  have old : ∀ b o, b ≠ a → s.heap.get? b = some o → (H.push { cls := .type "list", data := .seq (List.toArray ([] : List Value)) }).get? b = some o := fun b o hb e => by
    refine Heap.get?_push_of_some _ ?_
    rw [← hH]
    exact Heap.get?_push_of_some _ ((s1.2 b hb).trans e)
  have ha1 : (H.push { cls := .type "list", data := .seq (List.toArray ([] : List Value)) }).get? a = some (seqObj "list" #[] e1) := Heap.get?_push_of_some _ (by rw [← hH]; exact Heap.get?_push_of_some _ ho1)
  have hk1 : (H.push { cls := .type "list", data := .seq (List.toArray ([] : List Value)) }).get? H.objs.size = some (seqObj "list" #[] 0) := Heap.get?_push_size _ rfl
  have hne : a ≠ H.objs.size := Nat.ne_of_lt (by rw [hHs]; exact Nat.lt_succ_of_lt hlt)
  dsimp only
  generalize H.push { cls := .type "list", data := .seq (List.toArray ([] : List Value)) } = H2 at *
  generalize H.objs.size = kS at *
  unfold ksk_rest
  refine wpAny_bind (wpAny_rule ?_)
  rw [List.forIn_toArray]
  refine wpAny_bind (ksk_fold (fun i s' => ∃ h' tk ks e, s' = { s with heap := h', toks := tk } ∧ ks.length = i ∧ (∀ b o, b ≠ a → s.heap.get? b = some o → h'.get? b = some o) ∧ h'.get? a = some (seqObj "list" #[] e1) ∧ h'.get? kS = some (seqObj "list" (List.toArray ks) e) ∧
    (∀ (j : Nat) (v : Value) (xs : List Int), ks[j]? = some v → xss[j]? = some xs → ∃ y us n, v = .ref y ∧ y ≠ a ∧ y ≠ kS ∧ h'.get? y = some { cls := .type "tuple", data := .seq (List.toArray us) n } ∧ IntsAre us xs)) vs 0 _
    ⟨H2, s.toks, [], 0, rfl, rfl, old, ha1, hk1, fun j v xs e => (by simp at e)⟩ ?step ?done)
  case step =>
    rintro j x s' hx ⟨h', tk, ks, e, rfl, hlen, hold, ha', hk', hks⟩
    rw [Nat.zero_add] at hlen
    have hj : j < vs.length := (List.getElem?_eq_some_iff.mp hx).1
    have hxs : xss[j]? = some xss[j] := List.getElem?_eq_getElem (hl ▸ hj)
    refine wpAny_bind (wpAny_attempt (wpAny_mono (hkey j x _ hx hxs { s with heap := h', toks := tk } (fun k s'' => ∃ h2 tk2, s'' = { s with heap := h2, toks := tk2 } ∧ h'.StaysIn h2 ∧ (∃ y us n, k = .ref y ∧ h'.get? y = none ∧ h2.get? y = some { cls := .type "tuple", data := .seq (List.toArray us) n } ∧ IntsAre us xss[j])) ⟨h', tk, rfl⟩ hold
      (fun k h2 tk2 st hy => ⟨h2, tk2, rfl, st, hy⟩)) (fun k s'' q => ?_) fun _ _ q => q.elim))
    obtain ⟨h2, tk2, rfl, st, y, us, n, rfl, yn, yg, yi⟩ := q
    have ya : y ≠ a := fun z => by rw [z, ha'] at yn; cases yn
    have yk : y ≠ kS := fun z => by rw [z, hk'] at yn; cases yn
    have hk2 : h2.get? kS = some (seqObj "list" (List.toArray ks) e) := st _ _ hk'
    have s3 := Heap.SameBut.update h2 kS (Obj.mapSeq (·.push (.ref y)))
    have ea : (List.toArray ks).push (.ref y) = List.toArray (ks ++ [.ref y]) := by simp
    have hk3 := get?_update_seq hk2 (·.push (.ref y))
    rw [ea] at hk3
    have hks64 : ks.length < 64 := by omega
    try dsimp only
    refine wpAny_bind (listUpdate_at hk2 rfl ?_ (by rw [List.size_toArray, sizeLine_eq]; omega) (Nat.le_trans (Nat.le_of_eq (Array.size_push ..)) (by rw [List.size_toArray, sizeLine_eq]; omega)))
    refine wpAny_pure ⟨rfl, _, tk2, ks ++ [.ref y], _, rfl, by rw [List.length_append, hlen, Nat.zero_add]; rfl, fun b o hb e => ?_, (s3.2 a hne).trans (st _ _ ha'), hk3, ?_⟩
    · have bk : b ≠ kS := fun z => by rw [z, hfr] at e; cases e
      exact (s3.2 b bk).trans (st _ _ (hold b o hb e))
    · intro i v xs e2 e3
      by_cases hi : i < ks.length
      · rw [List.getElem?_append_left hi] at e2
        obtain ⟨y', us', n', q1, q2, q3, q4, q5⟩ := hks i v xs e2 e3
        exact ⟨y', us', n', q1, q2, q3, (s3.2 _ q3).trans (st _ _ q4), q5⟩
      · have hie : i = ks.length := by
          have := (List.getElem?_eq_some_iff.mp e2).1
          rw [List.length_append, List.length_singleton] at this
          omega
        subst hie
        rw [List.getElem?_append_right (Nat.le_refl _), Nat.sub_self] at e2
        cases e2
        rw [hlen, hxs] at e3
        cases e3
        exact ⟨y, us, n, rfl, ya, yk, (s3.2 _ yk).trans yg, yi⟩
  case done =>
    rintro s' ⟨h', tk, ks, e, rfl, hlen, hold, ha', hk', hks⟩
    rw [Nat.zero_add] at hlen
    refine wpAny_bind (listItems_at hk' rfl ?_)
    refine end_raw (s := { s with heap := h', toks := tk }) hne ha' hk' (fun i v xs e2 e3 => ?_) (hlen.trans hl) hlen hm h64 hr fun p h2 c so kb hg => ?_
    · obtain ⟨y, us, n, q1, _, _, q4, q5⟩ := hks i v xs e2 e3
      exact ⟨y, us, n, q1, q4, q5⟩
    · exact h p h2 c tk so (fun b o hb e => kb b o hb (fun z => by rw [z, hfr] at e; cases e) (hold b o hb e)) hg
end
end Mine
end JC14

section JC15
open PySem PySem.W PyProof.Rows PySem.Calls
set_option Elab.async false
set_option maxRecDepth 100000
set_option maxHeartbeats 4000000
namespace Mine
section
variable {w : World} {A : Around} {E : Value → Shared → Prop} {s : Shared}
noncomputable def KeyCall0 (w : World) (A : Around) (s : Shared) (f v : Value) (xs : List Int) : Prop :=
  ∀ (s' : Shared) (Q' : Value → Shared → Prop), (∃ h' tk, s' = { s with heap := h', toks := tk }) → s.heap.StaysIn s'.heap →
    (∀ k h' tk, s'.heap.StaysIn h' → (∃ y us n, k = .ref y ∧ s'.heap.get? y = none ∧ h'.get? y = some { cls := .type "tuple", data := .seq (List.toArray us) n } ∧ IntsAre us xs) → Q' k { s' with heap := h', toks := tk }) →
    wpAny (model pwL w) A (call f [v]) Q' (fun _ _ => False) s'
theorem sorted_raw {l q : Addr} {m : Nat} {vs : List Value} {xss : List (List Int)} {rk : Nat → Int} {Q : Value → Shared → Prop} (hl0 : s.heap.IsList l vs.toArray) (h64 : vs.length < 64) (hl : vs.length = xss.length) (hm : ∀ xs ∈ xss, xs.length = m + 1)
    (hkey : ∀ (i : Nat) (v : Value) (xs : List Int), vs[i]? = some v → xss[i]? = some xs → KeyCall0 w A.in1.in1 s (.ref q) v xs)
    (hr : ∀ i j, i < vs.length → j < vs.length → lexLt (xss.getD i []) (xss.getD j []) = decide (rk i < rk j))
    (h : ∀ D p h' c tk, SortOut rk vs.length p → s.heap.StaysIn h' → s.heap.get? D = none → h'.get? D = some (seqObj "list" (List.toArray (p.toList.map fun i => vs.getD i Value.none)) c) → Q (.ref D) { s with heap := h', toks := tk }) :
    wpAny (model pwL w) A (call (.builtin "sorted") [.ref l] [(Str.ofString "key", .ref q)]) Q E s := by
  refine call_function_entry_kw kind_sorted plain_sorted entry_sorted (ksk_s1 _ _) ?_
  unfold Builtin.«sorted»
  refine wpAny_bind (m := checkCount "sorted" 1 1 _) (wpAny_pure ?_)
  refine wpAny_bind (collect_list hl0 ?_ (by rw [sizeLine_eq]; omega))
  refine wpAny_bind (wpAny_newList ?_ (by rw [sizeLine_eq]; omega))
  have hz : ((s.heap.push (seqObj "list" #[] 0)).update s.heap.objs.size (Obj.mapSeq (· ++ vs.toArray))).objs.size = s.heap.objs.size + 1 := by
    rw [Heap.size_update, Heap.size_push]
  dsimp only
  have keep1 : ∀ b o, s.heap.get? b = some o → ((s.heap.push (seqObj "list" #[] 0)).update s.heap.objs.size (Obj.mapSeq (· ++ vs.toArray))).get? b = some o := fun b o e => by
    have lt := Heap.lt_size e
    rw [Heap.get?_update_ne _ _ _ _ (Nat.ne_of_lt lt)]
    exact Heap.get?_push_of_some _ e
  generalize (s.heap.push (seqObj "list" #[] 0)).update s.heap.objs.size (Obj.mapSeq (· ++ vs.toArray)) = H at *
  have hD : (H.push { cls := .type "list", data := .seq vs.toArray }).get? H.objs.size = some (seqObj "list" vs.toArray 0) := Heap.get?_push_size _ rfl
  have keep2 : ∀ b o, s.heap.get? b = some o → (H.push { cls := .type "list", data := .seq vs.toArray }).get? b = some o := fun b o e => Heap.get?_push_of_some _ (keep1 b o e)
  have fr : s.heap.get? H.objs.size = none := Heap.get?_none_of_le (by rw [hz]; exact Nat.le_succ _)
  generalize H.objs.size = D at *
  refine wpAny_bind (wpAny_holding (wpAny_call_entry_kw slot_list_sort ⟨_, hD, rfl⟩ entry_list_sort ?body (ksk_l1 _ _)))
  case body =>
    rw [ksk_t1]
    refine tree_raw (s := { s with heap := H.push { cls := .type "list", data := .seq vs.toArray } }) hD h64 hl hm (fun i v xs e1 e2 => ?_) hr fun p h' c tk so kb hg => ?_
    · intro s' Q' hs' hk hq
      obtain ⟨h1, tk1, rfl⟩ := hs'
      exact hkey i v xs e1 e2 _ Q' ⟨h1, tk1, rfl⟩ (fun b o e => hk b o (fun z => by rw [z, fr] at e; cases e) (keep2 b o e)) hq
    · exact ⟨_, rfl, wpAny_pure ⟨_, rfl, h D p h' c tk so (fun b o e => kb b o (fun z => by rw [z, fr] at e; cases e) (keep2 b o e)) fr hg⟩⟩

/-- a list of tuples of ints sorted where it stands -/
theorem lsort_raw {a : Addr} {n0 m : Nat} {vs : List Value} {xss : List (List Int)} {rk : Nat → Int} {Q : Value → Shared → Prop} (ho : s.heap.get? a = some (seqObj "list" vs.toArray n0)) (h64 : vs.length < 64)
    (hk : ∀ (i : Nat) (v : Value) (xs : List Int), vs[i]? = some v → xss[i]? = some xs → ∃ y us n, v = .ref y ∧ y ≠ a ∧ s.heap.get? y = some { cls := .type "tuple", data := .seq (List.toArray us) n } ∧ IntsAre us xs) (hl : vs.length = xss.length) (hm : ∀ xs ∈ xss, xs.length = m + 1)
    (hr : ∀ i j, i < vs.length → j < vs.length → lexLt (xss.getD i []) (xss.getD j []) = decide (rk i < rk j))
    (h : ∀ p h' c, SortOut rk vs.length p → (∀ b o, b ≠ a → s.heap.get? b = some o → h'.get? b = some o) → h'.get? a = some (seqObj "list" (List.toArray (p.toList.map fun i => vs.getD i Value.none)) c) → Q .none { s with heap := h' }) :
    wpAny (model pwL w) A (call (.builtin "list.sort") [.ref a]) Q E s := by
  have hlt : a < s.heap.objs.size := Heap.lt_size ho
  have s1 := Heap.SameBut.update s.heap a (Obj.mapSeq fun _ => (#[] : Array Value))
  obtain ⟨e1, ho1⟩ : ∃ e1, (s.heap.update a (Obj.mapSeq fun _ => (#[] : Array Value))).get? a = some (seqObj "list" #[] e1) := ⟨_, get?_update_seq ho fun _ => #[]⟩
  refine wpAny_call_entry slot_list_sort ⟨_, ho, rfl⟩ entry_list_sort ?_ (args_list_sort _)
  rw [list_sort_plain]
  refine wpAny_bind (listItems_at ho rfl ?_)
  refine wpAny_bind (listUpdate_at ho rfl ?_ (by rw [List.size_toArray, sizeLine_eq]; omega) (Nat.zero_le _))
  refine wpAny_bind (seqEpoch_at ho1 rfl ?_)
  refine wpAny_bind (wpAny_newTuple ?_ (by show vs.length ≤ _; rw [sizeLine_eq]; omega))
  refine wpAny_bind (wpAny_newList ?_ (Nat.zero_le _))
  refine wpAny_holding ?_
  have old : ∀ b o, b ≠ a → s.heap.get? b = some o → ((((s.heap.update a (Obj.mapSeq fun _ => (#[] : Array Value))).push { cls := .type "tuple", data := .seq vs.toArray.toList.toArray }).push { cls := .type "list", data := .seq (List.toArray ([] : List Value)) }).get? b = some o) := fun b o hb e =>
    Heap.get?_push_of_some _ (Heap.get?_push_of_some _ ((s1.2 b hb).trans e))
  have ha1 : (((s.heap.update a (Obj.mapSeq fun _ => (#[] : Array Value))).push { cls := .type "tuple", data := .seq vs.toArray.toList.toArray }).push { cls := .type "list", data := .seq (List.toArray ([] : List Value)) }).get? a = some (seqObj "list" #[] e1) := Heap.get?_push_of_some _ (Heap.get?_push_of_some _ ho1)
  dsimp only
  generalize ((s.heap.update a (Obj.mapSeq fun _ => (#[] : Array Value))).push { cls := .type "tuple", data := .seq vs.toArray.toList.toArray }).push { cls := .type "list", data := .seq (List.toArray ([] : List Value)) } = H2 at *
  have hk2 : ∀ (i : Nat) (v : Value) (xs : List Int), vs[i]? = some v → xss[i]? = some xs → TupI H2 v xs := fun i v xs e2 e3 => by
    obtain ⟨y, us, n, q1, q2, q3, q4⟩ := hk i v xs e2 e3
    exact ⟨y, us, n, q1, old _ _ q2 q3, q4⟩
  by_cases h2 : vs.length < 2
  · have h2' : vs.toArray.size < 2 := by rw [List.size_toArray]; exact h2
    rw [if_pos h2', if_pos h2']
    refine wpAny_bind (wpAny_pure ?_)
    show wpAny _ _ ((pure () : StateT SortSt Sem Unit).run _ >>= _) _ _ _
    rw [StateT.run_pure]
    refine wpAny_bind (wpAny_pure ?_)
    dsimp only
    have hout : Array.map (fun x : Keyed => x.2) (arrOf (SortSt.mk' general' (vs.toArray.zip vs.toArray) #[] 7 none)) = List.toArray ((List.toArray (List.range vs.length)).toList.map fun i => vs.getD i Value.none) := by
      rw [range_out]
      show ((vs.toArray.zip vs.toArray).map (·.2)) = vs.toArray
      apply Array.toList_inj.mp
      rw [Array.toList_map, Array.toList_zip]
      exact List.map_snd_zip (Nat.le_refl _)
    have s2 := Heap.SameBut.update H2 a (Obj.mapSeq fun _ => List.toArray ((List.toArray (List.range vs.length)).toList.map fun i => vs.getD i Value.none))
    refine wpAny_bind (seqEpoch_at ha1 rfl ?_)
    refine wpAny_bind (listUpdate_at ha1 rfl ?_ (Nat.zero_le _) (by rw [hout, List.size_toArray, List.length_map, Array.length_toList, show (List.toArray (List.range vs.length)).size = vs.length by simp, sizeLine_eq]; omega))
    simp only [bne_self_eq_false, Bool.false_eq_true, if_false]
    rw [hout]
    exact wpAny_pure ⟨_, rfl, h (List.toArray (List.range vs.length)) _ _ (small_out h2) (fun b o hb e => (s2.2 b hb).trans (old b o hb e)) (get?_update_seq ha1 _)⟩
  · have h2' : ¬ vs.toArray.size < 2 := by rw [List.size_toArray]; exact h2
    rw [if_neg h2', if_neg h2']
    refine wpAny_bind (kind_tups hk2 hl hm (by omega) ?_)
    refine wpAny_bind (wpAny_mono (run_tups hk2 hl rfl hm (by omega) h64 hr) (fun r s' q => ?_) fun _ _ e => e)
    obtain ⟨rfl, hf, p, hp, har, so⟩ := q
    have hout := kat_snds rfl har
    try dsimp only
    have s2 := Heap.SameBut.update H2 a (Obj.mapSeq fun _ => List.toArray (p.toList.map fun i => vs.getD i Value.none))
    refine wpAny_bind (seqEpoch_at ha1 rfl ?_)
    refine wpAny_bind (listUpdate_at ha1 rfl ?_ (Nat.zero_le _) (by rw [hout, List.size_toArray, List.length_map, Array.length_toList, hp, sizeLine_eq]; omega))
    rw [hf]
    simp only [bne_self_eq_false, Bool.false_eq_true, if_false]
    rw [hout]
    exact wpAny_pure ⟨_, rfl, h p _ _ so (fun b o hb e => (s2.2 b hb).trans (old b o hb e)) (get?_update_seq ha1 _)⟩
end
end Mine
end JC15

section JC16
open PySem PySem.W PyProof.Rows PySem.Calls
set_option Elab.async false
set_option maxRecDepth 100000
set_option maxHeartbeats 4000000
namespace Mine
/-! a loop over a list, by what holds between its turns -/
noncomputable def keptOut (wr : List Addr) (h h' : Heap) : Prop := ∀ b o, b ∉ wr → h.get? b = some o → h'.get? b = some o
section
variable {prog : Program} {w : World} {A : Around} {E : Value → Shared → Prop} {s : Shared} {env : Env}
end
end Mine
end JC16

section JC17
open PySem PySem.W PyProof.Rows PySem.Calls
set_option Elab.async false
set_option maxRecDepth 100000
set_option maxHeartbeats 4000000
namespace Mine
/-! the order of networks -/
noncomputable def ND.first (d : ND) : Int := firstI d.k d.v d.p
noncomputable def ND.key (d : ND) : List Int := [d.k.ver, d.first, d.p - 1, d.v - d.first]
noncomputable def ND.rank (d : ND) : Int := ((d.k.ver * 2 ^ 130 + d.first) * 2 ^ 10 + d.p) * 2 ^ 130 + (d.v - d.first)
theorem Kd_max_le (k : Kd) : k.max < 2 ^ 128 := by cases k <;> decide
theorem first_le {d : ND} (h : d.ok) : 0 ≤ d.first ∧ d.first ≤ d.v := by
  have h1 := maskI_eq (k := d.k) h.1
  have h3 : 0 ≤ maskI d.k d.p := by
    rw [h1]
    have := pow_le (a := ((d.k.wid : Int) - d.p).toNat) (b := d.k.wid) (by have := h.1; omega)
    omega
  have h2 := bitAnd_range d.v h3
  have h4 := bitAnd_range (maskI d.k d.p) h.2.1
  unfold ND.first firstI
  rw [bitAnd_comm] at h4
  exact ⟨h2.1, h4.2⟩
theorem rank_lex {d e : ND} (hd : d.ok) (he : e.ok) : lexLt d.key e.key = decide (d.rank < e.rank) := by
  have a := first_le hd
  have b := first_le he
  have c := Kd_max_le d.k
  have c' := Kd_max_le e.k
  have w := wid_le d.k
  have w' := wid_le e.k
  obtain ⟨⟨p1, p2⟩, v1, v2⟩ := hd
  obtain ⟨⟨q1, q2⟩, u1, u2⟩ := he
  have kd : d.k.ver = 4 ∨ d.k.ver = 6 := by cases d.k <;> simp [Kd.ver]
  have ke : e.k.ver = 4 ∨ e.k.ver = 6 := by cases e.k <;> simp [Kd.ver]
  unfold ND.key ND.rank
  generalize d.k.ver = x1 at *
  generalize e.k.ver = y1 at *
  generalize d.first = x2 at *
  generalize e.first = y2 at *
  generalize d.p = x3 at *
  generalize e.p = y3 at *
  generalize d.v = x4 at *
  generalize e.v = y4 at *
  generalize d.k.max = m1 at *
  generalize e.k.max = m2 at *
  generalize (d.k.wid : Int) = w1 at *
  generalize (e.k.wid : Int) = w2 at *
  simp only [lexLt]
  by_cases h1 : x1 = y1
  · rw [if_pos h1]
    by_cases h2 : x2 = y2
    · rw [if_pos h2]
      by_cases h3 : x3 - 1 = y3 - 1
      · rw [if_pos h3]
        by_cases h4 : x4 - x2 = y4 - y2
        · rw [if_pos h4]; symm; apply decide_eq_false; omega
        · rw [if_neg h4]; apply decide_eq_decide.mpr; omega
      · rw [if_neg h3]; apply decide_eq_decide.mpr; omega
    · rw [if_neg h2]; apply decide_eq_decide.mpr; omega
  · rw [if_neg h1]; apply decide_eq_decide.mpr; rcases kd with rfl | rfl <;> rcases ke with rfl | rfl <;> omega
local macro_rules | `(tactic| k_inst) => `(tactic| first | (refine' InstAt_keeps ?I ?k; (case I => assumption); (case k => exact Fr.keep (by k_asm))) | fail "no ground")
local macro_rules | `(tactic| walk_at "getAttr ref") => `(tactic| (k_here; (with_reducible first | refine get_width (by k_in) ?_ | refine get_version (by k_in) ?_ | refine get_max (by k_in) ?_)))

section
variable {w : World} {ad au : Nat} {afr : Option (List Env)} {ags : Option (List Code)} {s : Shared} {h₀ : Heap} {L : Addr} {m : Str → Option Value} {news : List (Addr × Obj)} {mg mb : Str → Option Value} {p : Program} {loose : List Str} {mean : ExcName → Option Value} {R : Result → Shared → Prop} {Q : Value → Shared → Prop} {E : Value → Shared → Prop} {e : Bool}
noncomputable abbrev tup4 (a b c d : Value) (n : Nat) : Obj := { cls := .type "tuple", data := .seq [a, b, c, d].toArray n }
theorem u_sortkey {A : Around} {x : Addr} {v pl : Int} {k : Kd} (F : Fr h₀ L s.heap m) (N : News h₀ L s.heap news) (X : (K w.params).In h₀) (T : Top p loose mean mg mb h₀) (hN : NetAt w.params s.heap x v pl k) (hp : 0 ≤ pl ∧ pl ≤ k.wid) (hA : A.handled = none) (hroom : A.depth + 6 < recursionLimit)
    (h : ∀ y n h' tk t1 t2 t3 t4, s.heap.StaysIn h' → Fr h₀ L h' m → News h₀ L h' ((y, tup4 (.int k.ver t1) (.int (firstI k v pl) t2) (.int (pl - 1) t3) (.int (v - firstI k v pl) t4) n) :: news) → AllNe y news → Q (.ref y) { s with heap := h', toks := tk }) :
    wpAny (model pwL w) A (call (.ref 2790) [.ref x] []) Q E s := by
  obtain ⟨ah, ad, afr, ags, au⟩ := A
  dsimp only at hA hroom
  subst hA
  exact wpAny_call (c_sortkey (X.keeps F.keep) (T.keeps F.keep) hN hp hroom fun y n h' tk t1 t2 t3 t4 st hy ny => h y n h' tk t1 t2 t3 t4 st (F.keeps st) (News_made F (N.grown st) ny hy) (allNe_of N ny))
/-- a lambda's call that changes nothing that stands -/
theorem enterE {A : Around} {KF : Frag} {f c' : Addr} {name qual : Str} {params : Arguments} {body : Expr} {scope : Scope} {pm ctv : Value} {args : Args} {binds : List (Str × Value)} (X : KF.In s.heap) (T : Top p loose mean mg mb s.heap)
    (ho : s.heap.get? f = some (kla_obj name qual params body scope [] pm c' ctv)) (hcd : s.heap.CodeRec (.ref c') qual) (hroom : A.depth < recursionLimit)
    (hbind : bindArgs (kla_fn name qual params body scope [] pm (.ref c') ctv) args = pure binds) (hloc : ∀ y ∈ binds, scope.names.lookup y.1 = some .local)
    (h : ∀ L' h₁, Fr s.heap L' h₁ (fun y => binds.reverse.lookup y) → News s.heap L' h₁ [] →
      wpAny (model pwL w) (A.deeper (envX qual scope L' f (.ref c') [])) (eval body (envX qual scope L' f (.ref c') [])) (fun v s' => R (.ok (.ret v)) s') (fun _ _ => False) { s with heap := h₁, toks := s.toks + binds.length })
    (hco : scope.isCoroutine = false) (hgen : scope.isGenerator = false) (hk : scope.kind = .function) (hcell : ∀ x ∈ scope.names, x.2 ≠ .cell) : codeAny (model pwL w) A (.call (.ref f) args) R s := by
  refine kla_callFunE hroom ho rfl hco hgen rfl hcd ?_
  rw [hbind]
  refine wpAny_pure (wpAny_newFunctionEnv hcell hloc (fun h₁ hns hsb => ⟨T.nolimit.fresh _ hsb, ?_⟩) hk)
  show codeAny _ _ (.expr body (envX qual scope s.heap.objs.size f (.ref c') [])) _ _
  refine kla_codeExpr (wpAny_mono (h _ h₁ ⟨hns, fun b o e => hsb.extBut b o (Nat.ne_of_lt (Heap.lt_size e)) (Heap.get?_push_of_some _ e), Nat.le_refl _⟩ News.nil) (fun v s' q => q) fun _ _ q => q.elim)
noncomputable abbrev oneScope : Scope := { kind := .function, names := [(Str.ofString "one", .local)], isGenerator := false, isCoroutine := false }
local macro_rules | `(tactic| walk_at "call ref") => `(tactic| (k_here; (try dsimp only [List.nil_append, List.cons_append]); (with_reducible refine' u_sortkey ?F ?N ?X ?T ?x ?p ?hA ?r ?_); (case F => k_asm); (case N => k_asm); (case X => k_asm); (case T => k_asm); (case x => first | assumption | exact NetAt.keeps (by assumption) (Fr.keep (by k_asm))); (case p => assumption); (case hA => rfl); (case r => (first | omega | (simp only [depth_under_make, depth_under_kw, depth_in1, depth_deeper]; omega) | (simp only [Around.deeper, Around.in1, Around.under]; omega))); intro y8' n8' h8' tk8 t1' t2' t3' t4' st8' F' N' a8; simp only [AllNe, and_true] at a8; (try k_sweep)))

theorem c_lam1111 {f c' x : Addr} {name qual : Str} {params : Arguments} {pm ctv : Value} {v pl : Int} {k : Kd} (X : (K w.params).In s.heap) (T : Top p loose mean mg mb s.heap)
    (ho : s.heap.get? f = some (kla_obj name qual params (.Call (.Attribute (.Name (Str.ofString "one") ⟨1111, 76, 1111, 79⟩) (Str.ofString "sort_key") ⟨1111, 76, 1111, 88⟩) [] [] ⟨1111, 76, 1111, 90⟩) oneScope [] pm c' ctv)) (hcd : s.heap.CodeRec (.ref c') qual)
    (hbind : bindArgs (kla_fn name qual params (.Call (.Attribute (.Name (Str.ofString "one") ⟨1111, 76, 1111, 79⟩) (Str.ofString "sort_key") ⟨1111, 76, 1111, 88⟩) [] [] ⟨1111, 76, 1111, 90⟩) oneScope [] pm (.ref c') ctv) ⟨[.ref x], []⟩ = pure [(Str.ofString "one", .ref x)])
    (hN : NetAt w.params s.heap x v pl k) (hp : 0 ≤ pl ∧ pl ≤ k.wid) (hroom : ad + 8 < recursionLimit)
    (hR : ∀ y n h' tk t1 t2 t3 t4, s.heap.StaysIn h' → s.heap.get? y = none → h'.get? y = some (tup4 (.int k.ver t1) (.int (firstI k v pl) t2) (.int (pl - 1) t3) (.int (v - firstI k v pl) t4) n) → R (.ok (.ret (.ref y))) { s with heap := h', toks := tk }) :
    codeAny (model pwL w) (mkA ad afr ags au) (.call (.ref f) ⟨[.ref x], []⟩) R s := by
  refine' enterE X T ho hcd ?hr hbind ?hl ?_ rfl rfl rfl (by decide)
  case hr => (first | omega | (simp only [depth_under_make, depth_under_kw, depth_in1, depth_deeper]; omega) | (simp only [Around.deeper, Around.in1, Around.under]; omega))
  case hl => exact locs rfl
  intro L' h₁ F N
  have hN0 := hN
  obtain ⟨dx, t1, t2, t3, tv, tp, n, hx, hd⟩ := hN0
  have I : InstAt s.heap x (instObj 2868 dx) 2868 (some (dictOf (netEs w.params t1 t2 t3 v tv k.addr pl tp) n)) := ⟨hx, rfl, rfl, hd⟩
  unfold netEs at I
  clear ho hcd hbind
  (try k_fold)
  k_steps
  exact hR _ _ _ _ _ _ _ _ (Fr.keep (by assumption)) (News.fresh (by assumption) (by k_mem)) (News.get (by assumption) (by k_mem))
theorem c_lam1122 {f c' x : Addr} {name qual : Str} {params : Arguments} {pm ctv : Value} {v pl : Int} {k : Kd} (X : (K w.params).In s.heap) (T : Top p loose mean mg mb s.heap)
    (ho : s.heap.get? f = some (kla_obj name qual params (.Call (.Attribute (.Name (Str.ofString "one") ⟨1122, 76, 1122, 79⟩) (Str.ofString "sort_key") ⟨1122, 76, 1122, 88⟩) [] [] ⟨1122, 76, 1122, 90⟩) oneScope [] pm c' ctv)) (hcd : s.heap.CodeRec (.ref c') qual)
    (hbind : bindArgs (kla_fn name qual params (.Call (.Attribute (.Name (Str.ofString "one") ⟨1122, 76, 1122, 79⟩) (Str.ofString "sort_key") ⟨1122, 76, 1122, 88⟩) [] [] ⟨1122, 76, 1122, 90⟩) oneScope [] pm (.ref c') ctv) ⟨[.ref x], []⟩ = pure [(Str.ofString "one", .ref x)])
    (hN : NetAt w.params s.heap x v pl k) (hp : 0 ≤ pl ∧ pl ≤ k.wid) (hroom : ad + 8 < recursionLimit)
    (hR : ∀ y n h' tk t1 t2 t3 t4, s.heap.StaysIn h' → s.heap.get? y = none → h'.get? y = some (tup4 (.int k.ver t1) (.int (firstI k v pl) t2) (.int (pl - 1) t3) (.int (v - firstI k v pl) t4) n) → R (.ok (.ret (.ref y))) { s with heap := h', toks := tk }) :
    codeAny (model pwL w) (mkA ad afr ags au) (.call (.ref f) ⟨[.ref x], []⟩) R s := by
  refine' enterE X T ho hcd ?hr hbind ?hl ?_ rfl rfl rfl (by decide)
  case hr => (first | omega | (simp only [depth_under_make, depth_under_kw, depth_in1, depth_deeper]; omega) | (simp only [Around.deeper, Around.in1, Around.under]; omega))
  case hl => exact locs rfl
  intro L' h₁ F N
  have hN0 := hN
  obtain ⟨dx, t1, t2, t3, tv, tp, n, hx, hd⟩ := hN0
  have I : InstAt s.heap x (instObj 2868 dx) 2868 (some (dictOf (netEs w.params t1 t2 t3 v tv k.addr pl tp) n)) := ⟨hx, rfl, rfl, hd⟩
  unfold netEs at I
  clear ho hcd hbind
  (try k_fold)
  k_steps
  exact hR _ _ _ _ _ _ _ _ (Fr.keep (by assumption)) (News.fresh (by assumption) (by k_mem)) (News.get (by assumption) (by k_mem))
theorem c_lam1132 {f c' x : Addr} {name qual : Str} {params : Arguments} {pm ctv : Value} {v pl : Int} {k : Kd} (X : (K w.params).In s.heap) (T : Top p loose mean mg mb s.heap)
    (ho : s.heap.get? f = some (kla_obj name qual params (.Call (.Attribute (.Name (Str.ofString "one") ⟨1132, 76, 1132, 79⟩) (Str.ofString "sort_key") ⟨1132, 76, 1132, 88⟩) [] [] ⟨1132, 76, 1132, 90⟩) oneScope [] pm c' ctv)) (hcd : s.heap.CodeRec (.ref c') qual)
    (hbind : bindArgs (kla_fn name qual params (.Call (.Attribute (.Name (Str.ofString "one") ⟨1132, 76, 1132, 79⟩) (Str.ofString "sort_key") ⟨1132, 76, 1132, 88⟩) [] [] ⟨1132, 76, 1132, 90⟩) oneScope [] pm (.ref c') ctv) ⟨[.ref x], []⟩ = pure [(Str.ofString "one", .ref x)])
    (hN : NetAt w.params s.heap x v pl k) (hp : 0 ≤ pl ∧ pl ≤ k.wid) (hroom : ad + 8 < recursionLimit)
    (hR : ∀ y n h' tk t1 t2 t3 t4, s.heap.StaysIn h' → s.heap.get? y = none → h'.get? y = some (tup4 (.int k.ver t1) (.int (firstI k v pl) t2) (.int (pl - 1) t3) (.int (v - firstI k v pl) t4) n) → R (.ok (.ret (.ref y))) { s with heap := h', toks := tk }) :
    codeAny (model pwL w) (mkA ad afr ags au) (.call (.ref f) ⟨[.ref x], []⟩) R s := by
  refine' enterE X T ho hcd ?hr hbind ?hl ?_ rfl rfl rfl (by decide)
  case hr => (first | omega | (simp only [depth_under_make, depth_under_kw, depth_in1, depth_deeper]; omega) | (simp only [Around.deeper, Around.in1, Around.under]; omega))
  case hl => exact locs rfl
  intro L' h₁ F N
  have hN0 := hN
  obtain ⟨dx, t1, t2, t3, tv, tp, n, hx, hd⟩ := hN0
  have I : InstAt s.heap x (instObj 2868 dx) 2868 (some (dictOf (netEs w.params t1 t2 t3 v tv k.addr pl tp) n)) := ⟨hx, rfl, rfl, hd⟩
  unfold netEs at I
  clear ho hcd hbind
  (try k_fold)
  k_steps
  exact hR _ _ _ _ _ _ _ _ (Fr.keep (by assumption)) (News.fresh (by assumption) (by k_mem)) (News.get (by assumption) (by k_mem))
end
end Mine
end JC17

section JC18
open PySem PySem.W PyProof.Rows PySem.Calls
set_option Elab.async false
set_option maxRecDepth 100000
set_option maxHeartbeats 4000000
namespace Mine
noncomputable def iterOf : Stmt → Expr
  | .For _ i .. => i
  | _ => .Name (Str.ofString "") default
noncomputable def forBody : Stmt → List Stmt
  | .For _ _ b .. => b
  | _ => []
/-- a network that was not there before -/
noncomputable def NetF (P : Params) (h₀ h : Heap) (y : Value) (d : ND) : Prop :=
  ∃ x dx t1 t2 t3 tv tp n, y = .ref x ∧ h.get? x = some (instObj 2868 dx) ∧ h.get? dx = some (dictOf (netEs P t1 t2 t3 d.v tv d.k.addr d.p tp) n) ∧ h₀.get? x = none ∧ h₀.get? dx = none
theorem NetF.net {P : Params} {h₀ h : Heap} {y : Value} {d : ND} (N : NetF P h₀ h y d) : NetD P h y d := by
  obtain ⟨x, dx, t1, t2, t3, tv, tp, n, e, a, b, _, _⟩ := N
  exact ⟨x, e, dx, t1, t2, t3, tv, tp, n, a, b⟩
/-- it stays where what stood and is not written stays -/
theorem NetF.keeps {P : Params} {h₀ h h' : Heap} {y : Value} {d : ND} {wr : List Addr} (N : NetF P h₀ h y d) (hw : ∀ b ∈ wr, ∃ o, h₀.get? b = some o) (k : keptOut wr h h') : NetF P h₀ h' y d := by
  obtain ⟨x, dx, t1, t2, t3, tv, tp, n, e, a, b, c, f⟩ := N
  have nw : ∀ z, h₀.get? z = none → z ∉ wr := fun z hz hm => by obtain ⟨o, ho⟩ := hw z hm; rw [hz] at ho; cases ho
  exact ⟨x, dx, t1, t2, t3, tv, tp, n, e, k _ _ (nw _ c) a, k _ _ (nw _ f) b, c, f⟩
noncomputable def NetsF (P : Params) (h₀ h : Heap) (ys : List Value) (ds : List ND) : Prop := ys.length = ds.length ∧ ∀ (j : Nat) (y : Value) (d : ND), ys[j]? = some y → ds[j]? = some d → NetF P h₀ h y d
theorem NetsF.keeps {P : Params} {h₀ h h' : Heap} {ys : List Value} {ds : List ND} {wr : List Addr} (N : NetsF P h₀ h ys ds) (hw : ∀ b ∈ wr, ∃ o, h₀.get? b = some o) (k : keptOut wr h h') : NetsF P h₀ h' ys ds :=
  ⟨N.1, fun j y d a b => (N.2 j y d a b).keeps hw k⟩
noncomputable def SortedND (ds : List ND) : Prop := ds.Pairwise fun d e => d.rank ≤ e.rank
section
variable {w : World} {ad au : Nat} {afr : Option (List Env)} {ags : Option (List Code)} {s : Shared} {h₀ : Heap} {L : Addr} {m : Str → Option Value} {news : List (Addr × Obj)} {mg mb : Str → Option Value} {p : Program} {loose : List Str} {mean : ExcName → Option Value} {R : Result → Shared → Prop} {Q : Value → Shared → Prop} {E : Value → Shared → Prop} {e : Bool}
noncomputable def copyF (P : Params) (h₀ : Heap) (hh : Heap) (v y : Value) : Prop := ∀ d, NetD P h₀ v d → NetF P h₀ hh y d
theorem elt_copyF {env : Env} {scope : Scope} {p1 p2 p3 p4 : Pos} {vs : List Value} {ds : List ND} (X : (K w.params).In s.heap) (T : Top p loose mean mg mb s.heap) (hg : env.globals = mainGlobals) (hk : scope.kind = .function) (hc : scope.names.lookup (Str.ofString "cidr") = some .local) (hi : (relabel scope env).names.lookup (Str.ofString "IPNetwork") = some .globalImplicit) (hds : NetsD w.params s.heap vs ds) (hroom : ad + 8 < recursionLimit) :
    EltDoes pwL w (mkA ad afr ags au) env (.Call (.Name (Str.ofString "IPNetwork") p1) [.Name (Str.ofString "cidr") p2] [] p3) (.Name (Str.ofString "cidr") p4) scope s vs (copyF w.params s.heap) := by
  intro C v s₂ m₂ Q' E' hv hC hns st _ hQ
  obtain ⟨d, hd, x, rfl, hN⟩ := hds.mem hv
  refine wpAny_assign_Name (wpAny_storeName_local (env := compEnvC scope [] C env) (lookup_relabel_local hc) hns (fun h1 hn1 hs1 => ?_) (by simp [compEnvC, relabel, hk]))
  have nC : ∀ b o, s.heap.get? b = some o → b ≠ C := fun b o e => Nat.ne_of_lt (Nat.lt_of_lt_of_le (Heap.lt_size e) hC)
  have F : Fr s.heap C h1 (fun y => if y = Str.ofString "cidr" then some (.ref x) else m₂ y) := ⟨hn1, fun b o e => (hs1.2 b (nC b o e)).trans (st b o e), hC⟩
  have N : News s.heap C h1 [] := News.nil
  refine Call_ ?_
  refine nameG_K F X (topRead_of T) (by k_is) ?_ hg hk hi (by decide)
  refine callWith_K (K := K w.params) X (by k_is) ?_
  refine args_cons (wpAny_Name (wpAny_loadName_local (env := compEnvC scope [] C env) hk (lookup_relabel_local hc) F.ns (if_pos rfl) ?_) (by decide))
  refine args_nil ⟨X.keeps F.keep, ?_⟩
  refine wpAny_call (n_netcopy (X.keeps F.keep) (T.keeps F.keep) (hN.keeps F.keep) (show ad + 6 < recursionLimit by omega) fun y dy t1 t2 t3 tv tp n h' tk st' ha hb na nb lt => ?_)
  refine hQ (.ref y) h' _ tk (F.keeps st').ns (fun b o bC e => st' b o ((hs1.2 b bC).trans e)) fun hh f d' hd' => ?_
  obtain ⟨x', e, hN'⟩ := hd'
  cases e
  obtain ⟨e1, e2, e3⟩ : d.v = d'.v ∧ d.p = d'.p ∧ d.k = d'.k := NetAt_inj hN hN'
  rw [e1, e2, e3] at hb
  have na' := none_sb hs1 hn1 na
  have nb' := none_sb hs1 hn1 nb
  exact ⟨y, dy, t1, t2, t3, tv, tp, n, rfl, f _ _ na' ha, f _ _ nb' hb, none_of_stays st na', none_of_stays st nb'⟩

theorem none_of_push {h : Heap} {o : Obj} {b : Addr} (e : (h.push o).get? b = none) : h.get? b = none := by
  cases q : h.get? b with
  | none => rfl
  | some x => rw [Heap.get?_push_of_some _ q] at e; cases e
theorem out_sorted {vs : List Value} {ds : List ND} {q : Array Nat} {P : Params} {h₀ h : Heap} (hl : NetsF P h₀ h vs ds) (so : SortOut (fun i => (ds.map ND.rank).getD i 0) vs.length q) :
    ∃ es, NetsF P h₀ h (q.toList.map fun i => vs.getD i Value.none) es ∧ es.Perm ds ∧ SortedND es := by
  obtain ⟨hp, hs⟩ := so
  have hlen : q.toList.length = vs.length := by rw [hp.length_eq]; simp
  have lt : ∀ i ∈ q.toList, i < ds.length := fun i hi => by rw [← hl.1]; exact List.mem_range.mp (hp.mem_iff.mp hi)
  have key : ∃ f : Nat → ND, ∀ i, i < ds.length → ds[i]? = some (f i) := by
    cases ds with
    | nil => exact ⟨fun _ => ⟨.v4, 0, 0⟩, fun i hi => by simp at hi⟩
    | cons d r => exact ⟨fun i => (d :: r).getD i d, fun i hi => by simp [List.getD, List.getElem?_eq_getElem hi]⟩
  obtain ⟨f, hf⟩ := key
  have dsf : ds = (List.range ds.length).map f := by
    apply List.ext_getElem?
    intro i
    rw [List.getElem?_map]
    by_cases hi : i < ds.length
    · rw [List.getElem?_range hi, hf i hi]; rfl
    · have h1 : (List.range ds.length)[i]? = none := by simp; omega
      have h2 : ds[i]? = none := by simp; omega
      rw [h1, h2]; rfl
  refine ⟨q.toList.map f, ⟨by simp, fun j y d a b => ?_⟩, ?_, ?_⟩
  · rw [List.getElem?_map] at a b
    cases e : q.toList[j]? with
    | none => rw [e] at a; cases a
    | some i =>
      rw [e] at a b
      cases a; cases b
      have hi := lt i (List.mem_of_getElem? e)
      refine hl.2 i _ _ ?_ (hf i hi)
      rw [← hl.1] at hi
      simp [List.getD, List.getElem?_eq_getElem hi]
  · conv => rhs; rw [dsf]
    rw [← hl.1]
    exact hp.map f
  · unfold SortedND
    rw [List.pairwise_iff_getElem]
    intro i j hi hj hij
    rw [List.length_map] at hi hj
    have h1 := hs i j (Nat.le_of_lt hij) (by omega)
    have g : ∀ k (hk : k < q.toList.length), (ds.map ND.rank).getD (q.getD k 0) 0 = (f q.toList[k]).rank := by
      intro k hk
      have e : q.getD k 0 = q.toList[k] := by
        have : k < q.size := by simpa using hk
        simp [Array.getD, this]
      rw [e]
      have hi := lt _ (List.getElem_mem hk)
      simp only [List.getD, List.getElem?_map, hf _ hi, Option.map_some, Option.getD_some]
    dsimp only at h1
    rw [g i hi, g j hj] at h1
    simpa using h1

noncomputable def sx2980 : {e : Expr // e = iterOf (sAt fb2980.val 3)} := ⟨_, by conv => rhs; whnf⟩
theorem sorted2980 {l : Addr} {vs : List Value} {ds : List ND} (F : Fr h₀ L s.heap m) (X : (K w.params).In h₀) (T : Top p loose mean mg mb h₀) (hm : m (Str.ofString "cidrs") = some (.ref l)) (hl : s.heap.IsList l vs.toArray) (hds : NetsD w.params s.heap vs ds) (hok : ∀ d ∈ ds, d.ok) (h64 : vs.length < 64)
    (hP : s.heap.get? 2977 = some (tabObj #[])) (h0P : h₀.get? 2977 ≠ some (tabObj #[])) (hroom : ad + 12 < recursionLimit)
    (h : ∀ D vs' es n h' tk ps, (∀ b o, b ≠ 2977 → s.heap.get? b = some o → h'.get? b = some o) → h'.get? 2977 = some (tabObj ps) → s.heap.get? D = none → h'.get? D = some (listOf (List.toArray vs') n) → NetsF w.params s.heap h' vs' es → es.Perm ds → SortedND es → Q (.ref D) { s with heap := h', toks := tk }) :
    wpAny (model pwL w) (mkA ad afr ags au) (eval sx2980.val (envX (Str.ofString "smallest_matching_cidr") fs2980.val L 2980 (.ref 2979) [])) Q E s := by
  have X1 := X.keeps F.keep
  have T1 := T.keeps F.keep
  simp only [sx2980]
  refine wpAny_Call_Name_kw ?_
  refine nameX_B F X (topRead_of T) (by k_is) Boot.sorted (by decide) ?_
  refine callWith_kw ?_
  refine args_cons ?_
  refine ListComp_rel rfl rfl (by decide) rfl (by decide) (fun _ _ => rfl) (nameX_L F hm ⟨l, vs, copyF w.params s.heap, rfl, hl, by omega, elt_copyF X1 T1 rfl rfl rfl rfl hds (by omega), ?_⟩)
  intro D0 ys n0 h1 tk1 st1 nD0 gD0 hlen hG
  have hF1 : NetsF w.params s.heap h1 ys ds := ⟨hlen.trans hds.len, fun j y d a b => by
    have hj : j < vs.length := by rw [← hlen]; exact (List.getElem?_eq_some_iff.mp a).1
    exact hG j vs[j] y (List.getElem?_eq_getElem hj) a d (hds.get j _ d (List.getElem?_eq_getElem hj) b)⟩
  refine args_nil ?_
  refine kwAll_cons (kla_eval rfl ?_)
  obtain ⟨bm, ob, b1, b2, b3, b4, b5, b6⟩ := T1.bmain
  have g1 := T1.g
  have hgP : mainGlobals ≠ (2977 : Addr) := by decide
  have hbP : bm ≠ 2977 := fun q => by
    rw [q, hP] at b3; cases b3; cases b4
  have hbG : bm ≠ mainGlobals := fun q => by
    obtain ⟨o, es, ep, e, hd, _⟩ := g1
    rw [q, e] at b3; cases b3; rw [hd] at b6; cases b6
  refine kla_makeFunction (c := 2979) (P := 2977) (ps := #[]) (clos := []) rfl rfl (g1.keeps st1) rfl (codeHd_of_K (K := K w.params) (X1.keeps st1) (by kernel_rfl)) (st1 _ _ hP) trivial rfl hgP ⟨bm, ob, b1, b2, hbG, hbP, st1 _ _ b3, b4, b5, b6⟩ fun c' ctv h2 tk2 hx hge hlt hrec htb => ?_
  refine kwAll_nil ?_
  have hP1 : h1.get? 2977 = some (tabObj #[]) := st1 _ _ hP
  have hDP : D0 ≠ 2977 := fun q => by rw [q, hP1] at gD0; cases gD0
  have hy64 : ys.length < 64 := by rw [hlen]; exact h64
  have okd : ∀ i (hi : i < ds.length), (ds[i]).ok := fun i hi => hok _ (List.getElem_mem hi)
  have hPs : ∀ b ∈ [(2977 : Addr)], ∃ o, s.heap.get? b = some o := fun b hb => by rw [List.mem_singleton.mp hb]; exact ⟨_, hP⟩
  refine sorted_raw (vs := ys) (xss := ds.map ND.key) (m := 3) (rk := fun i => (ds.map ND.rank).getD i 0) ⟨_, Heap.get?_push_of_some _ (hx _ _ hDP gD0), rfl, _, rfl⟩ hy64 (by rw [List.length_map]; exact hF1.1) ?km ?key ?hr ?fin
  case km =>
    intro xs hxs
    obtain ⟨d, _, rfl⟩ := List.mem_map.mp hxs
    rfl
  case key =>
    intro i v xs e1 e2 s' Q' hs' stk hq
    rw [List.getElem?_map] at e2
    have hi : i < ds.length := by rw [← hF1.1]; exact (List.getElem?_eq_some_iff.mp e1).1
    rw [List.getElem?_eq_getElem hi] at e2
    cases e2
    obtain ⟨hh3, tk3, rfl⟩ := hs'
    have old3 : ∀ b o, b ≠ 2977 → h1.get? b = some o → hh3.get? b = some o := fun b o hb e => stk _ _ (Heap.get?_push_of_some _ (hx b o hb e))
    have hNF := (hF1.2 i v _ e1 (List.getElem?_eq_getElem hi)).keeps (wr := [2977]) hPs (fun b o hb e => old3 b o (by simpa using hb) e)
    obtain ⟨x, hv, hN⟩ := hNF.net
    subst hv
    have sX : h₀.StaysIn hh3 := fun b o e => by
      by_cases hb : b = 2977
      · subst hb
        have := F.keep _ _ e
        rw [hP] at this
        cases this
        exact absurd e h0P
      · exact old3 b o hb (st1 _ _ (F.keep _ _ e))
    refine wpAny_call (c_lam1111 (X.keeps sX) (T.keeps sX) (stk _ _ (Heap.get?_push_size _ rfl)) ((hrec.keeps fun b o e => Heap.get?_push_of_some _ e).keeps stk) rfl hN (okd i hi).1 (show ad + 8 < recursionLimit by omega) fun y n h' tk t1 t2 t3 t4 st' yn yg => ?_)
    exact hq (.ref y) h' tk st' ⟨y, _, n, rfl, yn, yg, .cons _ _ (.cons _ _ (.cons _ _ (.cons _ _ .nil)))⟩
  case hr =>
    intro i j hi hj
    rw [hF1.1] at hi hj
    have gk : ∀ k (hk : k < ds.length), (ds.map ND.key).getD k [] = (ds[k]).key := fun k hk => by simp [List.getD, List.getElem?_eq_getElem hk]
    have gr : ∀ k (hk : k < ds.length), (ds.map ND.rank).getD k 0 = (ds[k]).rank := fun k hk => by simp [List.getD, List.getElem?_eq_getElem hk]
    rw [gk i hi, gk j hj, gr i hi, gr j hj]
    exact rank_lex (okd i hi) (okd j hj)
  case fin =>
    intro D q h' cc tk' so st' nD gD
    have keepA : ∀ b o, b ≠ 2977 → s.heap.get? b = some o → h'.get? b = some o := fun b o hb e => st' _ _ (Heap.get?_push_of_some _ (hx b o hb (st1 _ _ e)))
    have hF' : NetsF w.params s.heap h' ys ds := hF1.keeps (wr := [2977]) hPs fun b o hb e => st' _ _ (Heap.get?_push_of_some _ (hx b o (by simpa using hb) e))
    obtain ⟨es, a1, a2, a3⟩ := out_sorted hF' so
    refine h D _ es cc h' tk' _ keepA (st' _ _ (Heap.get?_push_of_some _ htb)) ?_ gD a1 a2 a3
    cases z : s.heap.get? D with
    | none => rfl
    | some o =>
      by_cases hb : D = 2977
      · subst hb
        have nD' := none_of_push nD
        rw [htb] at nD'; cases nD'
      · have := hx D o hb (st1 _ _ z)
        have nD' := none_of_push nD
        rw [this] at nD'; cases nD'

noncomputable def sx2985 : {e : Expr // e = iterOf (sAt fb2985.val 3)} := ⟨_, by conv => rhs; whnf⟩
theorem sorted2985 {l : Addr} {vs : List Value} {ds : List ND} (F : Fr h₀ L s.heap m) (X : (K w.params).In h₀) (T : Top p loose mean mg mb h₀) (hm : m (Str.ofString "cidrs") = some (.ref l)) (hl : s.heap.IsList l vs.toArray) (hds : NetsD w.params s.heap vs ds) (hok : ∀ d ∈ ds, d.ok) (h64 : vs.length < 64)
    (hP : s.heap.get? 2982 = some (tabObj #[])) (h0P : h₀.get? 2982 ≠ some (tabObj #[])) (hroom : ad + 12 < recursionLimit)
    (h : ∀ D vs' es n h' tk ps, (∀ b o, b ≠ 2982 → s.heap.get? b = some o → h'.get? b = some o) → h'.get? 2982 = some (tabObj ps) → s.heap.get? D = none → h'.get? D = some (listOf (List.toArray vs') n) → NetsF w.params s.heap h' vs' es → es.Perm ds → SortedND es → Q (.ref D) { s with heap := h', toks := tk }) :
    wpAny (model pwL w) (mkA ad afr ags au) (eval sx2985.val (envX (Str.ofString "largest_matching_cidr") fs2985.val L 2985 (.ref 2984) [])) Q E s := by
  have X1 := X.keeps F.keep
  have T1 := T.keeps F.keep
  simp only [sx2985]
  refine wpAny_Call_Name_kw ?_
  refine nameX_B F X (topRead_of T) (by k_is) Boot.sorted (by decide) ?_
  refine callWith_kw ?_
  refine args_cons ?_
  refine ListComp_rel rfl rfl (by decide) rfl (by decide) (fun _ _ => rfl) (nameX_L F hm ⟨l, vs, copyF w.params s.heap, rfl, hl, by omega, elt_copyF X1 T1 rfl rfl rfl rfl hds (by omega), ?_⟩)
  intro D0 ys n0 h1 tk1 st1 nD0 gD0 hlen hG
  have hF1 : NetsF w.params s.heap h1 ys ds := ⟨hlen.trans hds.len, fun j y d a b => by
    have hj : j < vs.length := by rw [← hlen]; exact (List.getElem?_eq_some_iff.mp a).1
    exact hG j vs[j] y (List.getElem?_eq_getElem hj) a d (hds.get j _ d (List.getElem?_eq_getElem hj) b)⟩
  refine args_nil ?_
  refine kwAll_cons (kla_eval rfl ?_)
  obtain ⟨bm, ob, b1, b2, b3, b4, b5, b6⟩ := T1.bmain
  have g1 := T1.g
  have hgP : mainGlobals ≠ (2982 : Addr) := by decide
  have hbP : bm ≠ 2982 := fun q => by
    rw [q, hP] at b3; cases b3; cases b4
  have hbG : bm ≠ mainGlobals := fun q => by
    obtain ⟨o, es, ep, e, hd, _⟩ := g1
    rw [q, e] at b3; cases b3; rw [hd] at b6; cases b6
  refine kla_makeFunction (c := 2984) (P := 2982) (ps := #[]) (clos := []) rfl rfl (g1.keeps st1) rfl (codeHd_of_K (K := K w.params) (X1.keeps st1) (by kernel_rfl)) (st1 _ _ hP) trivial rfl hgP ⟨bm, ob, b1, b2, hbG, hbP, st1 _ _ b3, b4, b5, b6⟩ fun c' ctv h2 tk2 hx hge hlt hrec htb => ?_
  refine kwAll_nil ?_
  have hP1 : h1.get? 2982 = some (tabObj #[]) := st1 _ _ hP
  have hDP : D0 ≠ 2982 := fun q => by rw [q, hP1] at gD0; cases gD0
  have hy64 : ys.length < 64 := by rw [hlen]; exact h64
  have okd : ∀ i (hi : i < ds.length), (ds[i]).ok := fun i hi => hok _ (List.getElem_mem hi)
  have hPs : ∀ b ∈ [(2982 : Addr)], ∃ o, s.heap.get? b = some o := fun b hb => by rw [List.mem_singleton.mp hb]; exact ⟨_, hP⟩
  refine sorted_raw (vs := ys) (xss := ds.map ND.key) (m := 3) (rk := fun i => (ds.map ND.rank).getD i 0) ⟨_, Heap.get?_push_of_some _ (hx _ _ hDP gD0), rfl, _, rfl⟩ hy64 (by rw [List.length_map]; exact hF1.1) ?km ?key ?hr ?fin
  case km =>
    intro xs hxs
    obtain ⟨d, _, rfl⟩ := List.mem_map.mp hxs
    rfl
  case key =>
    intro i v xs e1 e2 s' Q' hs' stk hq
    rw [List.getElem?_map] at e2
    have hi : i < ds.length := by rw [← hF1.1]; exact (List.getElem?_eq_some_iff.mp e1).1
    rw [List.getElem?_eq_getElem hi] at e2
    cases e2
    obtain ⟨hh3, tk3, rfl⟩ := hs'
    have old3 : ∀ b o, b ≠ 2982 → h1.get? b = some o → hh3.get? b = some o := fun b o hb e => stk _ _ (Heap.get?_push_of_some _ (hx b o hb e))
    have hNF := (hF1.2 i v _ e1 (List.getElem?_eq_getElem hi)).keeps (wr := [2982]) hPs (fun b o hb e => old3 b o (by simpa using hb) e)
    obtain ⟨x, hv, hN⟩ := hNF.net
    subst hv
    have sX : h₀.StaysIn hh3 := fun b o e => by
      by_cases hb : b = 2982
      · subst hb
        have := F.keep _ _ e
        rw [hP] at this
        cases this
        exact absurd e h0P
      · exact old3 b o hb (st1 _ _ (F.keep _ _ e))
    refine wpAny_call (c_lam1122 (X.keeps sX) (T.keeps sX) (stk _ _ (Heap.get?_push_size _ rfl)) ((hrec.keeps fun b o e => Heap.get?_push_of_some _ e).keeps stk) rfl hN (okd i hi).1 (show ad + 8 < recursionLimit by omega) fun y n h' tk t1 t2 t3 t4 st' yn yg => ?_)
    exact hq (.ref y) h' tk st' ⟨y, _, n, rfl, yn, yg, .cons _ _ (.cons _ _ (.cons _ _ (.cons _ _ .nil)))⟩
  case hr =>
    intro i j hi hj
    rw [hF1.1] at hi hj
    have gk : ∀ k (hk : k < ds.length), (ds.map ND.key).getD k [] = (ds[k]).key := fun k hk => by simp [List.getD, List.getElem?_eq_getElem hk]
    have gr : ∀ k (hk : k < ds.length), (ds.map ND.rank).getD k 0 = (ds[k]).rank := fun k hk => by simp [List.getD, List.getElem?_eq_getElem hk]
    rw [gk i hi, gk j hj, gr i hi, gr j hj]
    exact rank_lex (okd i hi) (okd j hj)
  case fin =>
    intro D q h' cc tk' so st' nD gD
    have keepA : ∀ b o, b ≠ 2982 → s.heap.get? b = some o → h'.get? b = some o := fun b o hb e => st' _ _ (Heap.get?_push_of_some _ (hx b o hb (st1 _ _ e)))
    have hF' : NetsF w.params s.heap h' ys ds := hF1.keeps (wr := [2982]) hPs fun b o hb e => st' _ _ (Heap.get?_push_of_some _ (hx b o (by simpa using hb) e))
    obtain ⟨es, a1, a2, a3⟩ := out_sorted hF' so
    refine h D _ es cc h' tk' _ keepA (st' _ _ (Heap.get?_push_of_some _ htb)) ?_ gD a1 a2 a3
    cases z : s.heap.get? D with
    | none => rfl
    | some o =>
      by_cases hb : D = 2982
      · subst hb
        have nD' := none_of_push nD
        rw [htb] at nD'; cases nD'
      · have := hx D o hb (st1 _ _ z)
        have nD' := none_of_push nD
        rw [this] at nD'; cases nD'

noncomputable def sx2990 : {e : Expr // e = iterOf (sAt fb2990.val 3)} := ⟨_, by conv => rhs; whnf⟩
theorem sorted2990 {l : Addr} {vs : List Value} {ds : List ND} (F : Fr h₀ L s.heap m) (X : (K w.params).In h₀) (T : Top p loose mean mg mb h₀) (hm : m (Str.ofString "cidrs") = some (.ref l)) (hl : s.heap.IsList l vs.toArray) (hds : NetsD w.params s.heap vs ds) (hok : ∀ d ∈ ds, d.ok) (h64 : vs.length < 64)
    (hP : s.heap.get? 2987 = some (tabObj #[])) (h0P : h₀.get? 2987 ≠ some (tabObj #[])) (hroom : ad + 12 < recursionLimit)
    (h : ∀ D vs' es n h' tk ps, (∀ b o, b ≠ 2987 → s.heap.get? b = some o → h'.get? b = some o) → h'.get? 2987 = some (tabObj ps) → s.heap.get? D = none → h'.get? D = some (listOf (List.toArray vs') n) → NetsF w.params s.heap h' vs' es → es.Perm ds → SortedND es → Q (.ref D) { s with heap := h', toks := tk }) :
    wpAny (model pwL w) (mkA ad afr ags au) (eval sx2990.val (envX (Str.ofString "all_matching_cidrs") fs2990.val L 2990 (.ref 2989) [])) Q E s := by
  have X1 := X.keeps F.keep
  have T1 := T.keeps F.keep
  simp only [sx2990]
  refine wpAny_Call_Name_kw ?_
  refine nameX_B F X (topRead_of T) (by k_is) Boot.sorted (by decide) ?_
  refine callWith_kw ?_
  refine args_cons ?_
  refine ListComp_rel rfl rfl (by decide) rfl (by decide) (fun _ _ => rfl) (nameX_L F hm ⟨l, vs, copyF w.params s.heap, rfl, hl, by omega, elt_copyF X1 T1 rfl rfl rfl rfl hds (by omega), ?_⟩)
  intro D0 ys n0 h1 tk1 st1 nD0 gD0 hlen hG
  have hF1 : NetsF w.params s.heap h1 ys ds := ⟨hlen.trans hds.len, fun j y d a b => by
    have hj : j < vs.length := by rw [← hlen]; exact (List.getElem?_eq_some_iff.mp a).1
    exact hG j vs[j] y (List.getElem?_eq_getElem hj) a d (hds.get j _ d (List.getElem?_eq_getElem hj) b)⟩
  refine args_nil ?_
  refine kwAll_cons (kla_eval rfl ?_)
  obtain ⟨bm, ob, b1, b2, b3, b4, b5, b6⟩ := T1.bmain
  have g1 := T1.g
  have hgP : mainGlobals ≠ (2987 : Addr) := by decide
  have hbP : bm ≠ 2987 := fun q => by
    rw [q, hP] at b3; cases b3; cases b4
  have hbG : bm ≠ mainGlobals := fun q => by
    obtain ⟨o, es, ep, e, hd, _⟩ := g1
    rw [q, e] at b3; cases b3; rw [hd] at b6; cases b6
  refine kla_makeFunction (c := 2989) (P := 2987) (ps := #[]) (clos := []) rfl rfl (g1.keeps st1) rfl (codeHd_of_K (K := K w.params) (X1.keeps st1) (by kernel_rfl)) (st1 _ _ hP) trivial rfl hgP ⟨bm, ob, b1, b2, hbG, hbP, st1 _ _ b3, b4, b5, b6⟩ fun c' ctv h2 tk2 hx hge hlt hrec htb => ?_
  refine kwAll_nil ?_
  have hP1 : h1.get? 2987 = some (tabObj #[]) := st1 _ _ hP
  have hDP : D0 ≠ 2987 := fun q => by rw [q, hP1] at gD0; cases gD0
  have hy64 : ys.length < 64 := by rw [hlen]; exact h64
  have okd : ∀ i (hi : i < ds.length), (ds[i]).ok := fun i hi => hok _ (List.getElem_mem hi)
  have hPs : ∀ b ∈ [(2987 : Addr)], ∃ o, s.heap.get? b = some o := fun b hb => by rw [List.mem_singleton.mp hb]; exact ⟨_, hP⟩
  refine sorted_raw (vs := ys) (xss := ds.map ND.key) (m := 3) (rk := fun i => (ds.map ND.rank).getD i 0) ⟨_, Heap.get?_push_of_some _ (hx _ _ hDP gD0), rfl, _, rfl⟩ hy64 (by rw [List.length_map]; exact hF1.1) ?km ?key ?hr ?fin
  case km =>
    intro xs hxs
    obtain ⟨d, _, rfl⟩ := List.mem_map.mp hxs
    rfl
  case key =>
    intro i v xs e1 e2 s' Q' hs' stk hq
    rw [List.getElem?_map] at e2
    have hi : i < ds.length := by rw [← hF1.1]; exact (List.getElem?_eq_some_iff.mp e1).1
    rw [List.getElem?_eq_getElem hi] at e2
    cases e2
    obtain ⟨hh3, tk3, rfl⟩ := hs'
    have old3 : ∀ b o, b ≠ 2987 → h1.get? b = some o → hh3.get? b = some o := fun b o hb e => stk _ _ (Heap.get?_push_of_some _ (hx b o hb e))
    have hNF := (hF1.2 i v _ e1 (List.getElem?_eq_getElem hi)).keeps (wr := [2987]) hPs (fun b o hb e => old3 b o (by simpa using hb) e)
    obtain ⟨x, hv, hN⟩ := hNF.net
    subst hv
    have sX : h₀.StaysIn hh3 := fun b o e => by
      by_cases hb : b = 2987
      · subst hb
        have := F.keep _ _ e
        rw [hP] at this
        cases this
        exact absurd e h0P
      · exact old3 b o hb (st1 _ _ (F.keep _ _ e))
    refine wpAny_call (c_lam1132 (X.keeps sX) (T.keeps sX) (stk _ _ (Heap.get?_push_size _ rfl)) ((hrec.keeps fun b o e => Heap.get?_push_of_some _ e).keeps stk) rfl hN (okd i hi).1 (show ad + 8 < recursionLimit by omega) fun y n h' tk t1 t2 t3 t4 st' yn yg => ?_)
    exact hq (.ref y) h' tk st' ⟨y, _, n, rfl, yn, yg, .cons _ _ (.cons _ _ (.cons _ _ (.cons _ _ .nil)))⟩
  case hr =>
    intro i j hi hj
    rw [hF1.1] at hi hj
    have gk : ∀ k (hk : k < ds.length), (ds.map ND.key).getD k [] = (ds[k]).key := fun k hk => by simp [List.getD, List.getElem?_eq_getElem hk]
    have gr : ∀ k (hk : k < ds.length), (ds.map ND.rank).getD k 0 = (ds[k]).rank := fun k hk => by simp [List.getD, List.getElem?_eq_getElem hk]
    rw [gk i hi, gk j hj, gr i hi, gr j hj]
    exact rank_lex (okd i hi) (okd j hj)
  case fin =>
    intro D q h' cc tk' so st' nD gD
    have keepA : ∀ b o, b ≠ 2987 → s.heap.get? b = some o → h'.get? b = some o := fun b o hb e => st' _ _ (Heap.get?_push_of_some _ (hx b o hb (st1 _ _ e)))
    have hF' : NetsF w.params s.heap h' ys ds := hF1.keeps (wr := [2987]) hPs fun b o hb e => st' _ _ (Heap.get?_push_of_some _ (hx b o (by simpa using hb) e))
    obtain ⟨es, a1, a2, a3⟩ := out_sorted hF' so
    refine h D _ es cc h' tk' _ keepA (st' _ _ (Heap.get?_push_of_some _ htb)) ?_ gD a1 a2 a3
    cases z : s.heap.get? D with
    | none => rfl
    | some o =>
      by_cases hb : D = 2987
      · subst hb
        have nD' := none_of_push nD
        rw [htb] at nD'; cases nD'
      · have := hx D o hb (st1 _ _ z)
        have nD' := none_of_push nD
        rw [this] at nD'; cases nD'

end
end Mine
end JC18

section JC19
open PySem PySem.W PyProof.Rows PySem.Calls
set_option Elab.async false
set_option maxRecDepth 100000
set_option maxHeartbeats 4000000
namespace Mine
/-! a loop over a list of the ledger, by what holds between its turns: a part of the ledger is written, the rest (own) stays -/
section
variable {prog : Program} {w : World} {A : Around} {E : Value → Shared → Prop} {s : Shared} {env : Env} {g : Heap}
noncomputable def TurnO (g : Heap) (L : Addr) (as : List Addr) (rest : List (Addr × Obj)) (J : (Str → Option Value) → List (Addr × Obj) → Prop) (Q : Flow → Shared → Prop) (s' : Shared) (f : Flow) (s'' : Shared) : Prop := match f with
  | .brk => Q .next s''
  | .ret v => Q (.ret v) s''
  | _ => ∃ h' m' lg' tk, s'' = { s' with heap := h', toks := tk } ∧ Fr g L h' m' ∧ News g L h' (lg' ++ rest) ∧ lg'.map (·.1) = as ∧ J m' lg'
theorem News_but {g h h' : Heap} {L I : Addr} {news : List (Addr × Obj)} (N : News g L h news) (k : ∀ b o, b ≠ I → h.get? b = some o → h'.get? b = some o) (hn : ∀ q ∈ news, q.1 ≠ I) : News g L h' news :=
  fun q hq => ⟨k _ _ (hn q hq) (N q hq).1, (N q hq).2⟩
theorem Fr_but {g h h' : Heap} {L I : Addr} {m : Str → Option Value} (F : Fr g L h m) (k : ∀ b o, b ≠ I → h.get? b = some o → h'.get? b = some o) (hL : L ≠ I) (h0 : g.get? I = none) : Fr g L h' m := by
  obtain ⟨o, es, ep, ho, r⟩ := F.ns
  exact ⟨⟨o, es, ep, k _ _ hL ho, r⟩, fun b x e => k b x (fun q => by rw [q, h0] at e; cases e) (F.keep b x e), F.above⟩
theorem For_own {x : Str} {px pos : Pos} {iter : Expr} {body : List Stmt} {Q : Flow → Shared → Prop} (hh : A.handled = none) (hx : env.kindOf x = some .local) (hk : env.scope.kind = .function)
    (h : wpAny (model prog w) A (eval iter env) (fun xv s₁ => ∃ l vs m own lg, ∃ J : Nat → (Str → Option Value) → List (Addr × Obj) → Prop, ∃ nl, xv = .ref l ∧ (l, (listOf (List.toArray vs) nl)) ∈ own ∧ Fr g env.locals s₁.heap m ∧ News g env.locals s₁.heap (lg ++ own) ∧ J 0 m lg ∧
      (∀ i v m lg' I oI (s' : Shared), vs[i]? = some v → (∃ h' tk, s' = { s₁ with heap := h', toks := tk }) → Fr g env.locals s'.heap (fun y => if y = x then some v else m y) → News g env.locals s'.heap (lg' ++ (I, oI) :: own) → (∀ q ∈ lg' ++ own, q.1 ≠ I) → lg'.map (·.1) = lg.map (·.1) → J i m lg' →
        wpAny (model prog w) A (execs body env) (TurnO g env.locals (lg.map (·.1)) ((I, oI) :: own) (J (i + 1)) Q s') (fun _ _ => False) s') ∧
      (∀ h' m lg' tk, Fr g env.locals h' m → News g env.locals h' (lg' ++ own) → lg'.map (·.1) = lg.map (·.1) → J vs.length m lg' → Q .next { s₁ with heap := h', toks := tk })) E s)
    (hs : ∀ x, foldedSetIterable iter env x = pure x := by intro _; rfl) :
    wpAny (model prog w) A (exec (.For (.Name x px) iter body [] pos) env) Q E s := by
  refine wpAny_For (wpAny_mono h (fun xv s₁ h₁ => ?_) fun _ _ e => e) hs
  obtain ⟨l, vs, m, own, lg, J, nl, rfl, hlo, F0, N0, h0, hbody, hdone⟩ := h₁
  have gl := (N0 _ (List.mem_append_right _ hlo)).1
  refine wpAny_pyIter_list ⟨_, gl, rfl, _, rfl⟩ ?_
  have frI : ∀ b o, s₁.heap.get? b = some o → b ≠ s₁.heap.objs.size := fun b o e => Nat.ne_of_lt (Heap.lt_size e)
  have nIo : ∀ q ∈ lg ++ own, q.1 ≠ s₁.heap.objs.size := fun q hq => frI _ _ (N0 q hq).1
  have nIL : env.locals ≠ s₁.heap.objs.size := by obtain ⟨o, _, _, ho, _⟩ := F0.ns; exact frI _ _ ho
  have gI : g.get? s₁.heap.objs.size = none := none_of_stays F0.keep (Heap.get?_none_of_le (Nat.le_refl _))
  have hI0 : (s₁.heap.push { cls := .type "list_iterator", data := .fields #[.ref l, .int 0 0] }).IsListIter s₁.heap.objs.size l 0 := ⟨_, Heap.get?_push_size _ rfl, rfl, rfl⟩
  have F1 := F0.push { cls := .type "list_iterator", data := .fields #[.ref l, .int 0 0] }
  have N1 : News g env.locals (s₁.heap.push { cls := .type "list_iterator", data := .fields #[.ref l, .int 0 0] }) (lg ++ own) := N0.grown fun b o e => Heap.get?_push_of_some _ e
  generalize s₁.heap.push { cls := .type "list_iterator", data := .fields #[.ref l, .int 0 0] } = H0 at *
  generalize s₁.heap.objs.size = I at *
  clear F0 N0 gl frI
  have nIl : l ≠ I := nIo _ (List.mem_append_right _ hlo)
  refine codeAny_forLoop_any (fun n s' => ∃ i h' m lg' tk, i ≤ vs.length ∧ n = vs.length - i ∧ s' = { s₁ with heap := h', toks := tk } ∧ Fr g env.locals h' m ∧ News g env.locals h' (lg' ++ own) ∧ lg'.map (·.1) = lg.map (·.1) ∧ h'.IsListIter I l i ∧ J i m lg') ?turn vs.length
    ⟨0, H0, m, lg, s₁.toks, Nat.zero_le _, rfl, rfl, F1, N1, rfl, hI0, h0⟩
  rintro n s' ⟨i, h', m, lg', tk, hi, rfl, rfl, F, N, hlg, hit, hJ⟩
  have gl := (N _ (List.mem_append_right _ hlo)).1
  have hl' : h'.IsList l (List.toArray vs) := ⟨_, gl, rfl, _, rfl⟩
  have nI' : ∀ q ∈ lg' ++ own, q.1 ≠ I := fun q hq => by
    rcases List.mem_append.mp hq with hq | hq
    · have : q.1 ∈ lg.map (·.1) := by rw [← hlg]; exact List.mem_map_of_mem hq
      obtain ⟨r, hr, e⟩ := List.mem_map.mp this
      rw [← e]
      exact nIo r (List.mem_append_left _ hr)
    · exact nIo q (List.mem_append_right _ hq)
  by_cases hend : i = vs.length
  · subst hend
    refine wpAny_pyNext_list_end hh hit hl' (by simp) fun h2 he => ?_
    dsimp only at he ⊢
    refine wpAny_mono (show wpAny (model prog w) A (execs [] env) (fun f s3 => f = .next ∧ s3 = { s₁ with heap := h2, toks := tk }) (fun _ _ => False) { s₁ with heap := h2, toks := tk } from wpAny_execs_nil ⟨rfl, rfl⟩) (fun f s3 q => ?_) fun _ _ q => q.elim
    obtain ⟨rfl, rfl⟩ := q
    exact hdone h2 m lg' tk (Fr_but F he nIL gI) (News_but N he nI') hlg hJ
  · have hlt : i < vs.length := Nat.lt_of_le_of_ne hi hend
    refine wpAny_pyNext_list_item hit hl' (x := vs[i]) (by simp [hlt]) fun h2 hit2 hs2 => ?_
    dsimp only at hs2 ⊢
    have k2 : ∀ b o, b ≠ I → h'.get? b = some o → h2.get? b = some o := fun b o b1 e => (hs2.2 b b1).trans e
    have F2 := Fr_but F k2 nIL gI
    have N2 := News_but N k2 nI'
    refine wpAny_of_eq (show letOwnedTupleGo (.Name x px) (.ref I) vs[i] = pure () from rfl) ?_
    refine wpAny_assign_Name (wpAny_storeName_local hx F2.ns (fun h3 hn3 hs3 => ?_) (by simp [hk]))
    have F3 := F2.set hn3 hs3
    have N3 := N2.set hs3
    obtain ⟨oI, hoI, rI⟩ := hit2
    have hoI3 : h3.get? I = some oI := (hs3.2 I (Ne.symm nIL)).trans hoI
    have N4 : News g env.locals h3 (lg' ++ (I, oI) :: own) := fun q hq => by
      rcases List.mem_append.mp hq with hq | hq
      · exact N3 q (List.mem_append_left _ hq)
      · rcases List.mem_cons.mp hq with rfl | hq
        · exact ⟨hoI3, Ne.symm nIL, gI⟩
        · exact N3 q (List.mem_append_right _ hq)
    refine wpAny_mono (hbody i vs[i] m lg' I oI { s₁ with heap := h3, toks := tk + 1 } (by simp [hlt]) ⟨_, _, rfl⟩ F3 N4 nI' hlg hJ) (fun f s4 q => ?_) fun _ _ q => q.elim
    have go : (∃ h' m' lg'' tk', s4 = { s₁ with heap := h', toks := tk' } ∧ Fr g env.locals h' m' ∧ News g env.locals h' (lg'' ++ (I, oI) :: own) ∧ lg''.map (·.1) = lg.map (·.1) ∧ J (i + 1) m' lg'') →
        ∃ m, m < vs.length - i ∧ ∃ i h' m_1 lg' tk, i ≤ vs.length ∧ m = vs.length - i ∧ s4 = { s₁ with heap := h', toks := tk } ∧ Fr g env.locals h' m_1 ∧ News g env.locals h' (lg' ++ own) ∧ lg'.map (·.1) = lg.map (·.1) ∧ h'.IsListIter I l i ∧ J i m_1 lg' := by
      rintro ⟨h5, m5, lg5, tk5, rfl, f5, n5, a5, j5⟩
      refine ⟨vs.length - (i + 1), by omega, i + 1, h5, m5, lg5, tk5, hlt, rfl, rfl, f5, fun q hq => ?_, a5, ⟨oI, (n5 (I, oI) (List.mem_append_right _ (.head _))).1, rI⟩, j5⟩
      rcases List.mem_append.mp hq with hq | hq
      · exact n5 q (List.mem_append_left _ hq)
      · exact n5 q (List.mem_append_right _ (.tail _ hq))
    cases f with
    | brk => exact q
    | ret v => exact q
    | next => exact go q
    | cont => exact go q
end
end Mine
end JC19

section JC20
open PySem PySem.W PyProof.Rows PySem.Calls
set_option Elab.async false
set_option maxRecDepth 100000
set_option maxHeartbeats 4000000
namespace Mine
noncomputable def Stop (P : Prop) : Prop := P
theorem Stop.go {P : Prop} (h : Stop P) : P := h
theorem NetIn.at {P : Params} {h₀ h : Heap} {L : Addr} {news own : List (Addr × Obj)} {x : Addr} {v p : Int} {k : Kd} (H : NetIn P own x v p k) (N : News h₀ L h news) (hs : ∀ q ∈ own, q ∈ news) : NetAt P h x v p k := by
  obtain ⟨dx, t1, t2, t3, tv, tp, n, a, b⟩ := H
  exact ⟨dx, t1, t2, t3, tv, tp, n, N.get (hs _ a), N.get (hs _ b)⟩
noncomputable def AddrIn (P : Params) (own : List (Addr × Obj)) (x : Addr) (v : Int) (k : Kd) : Prop := ∃ dx t1 t2 tv n, (x, instObj 2565 dx) ∈ own ∧ (dx, dictOf (addrEs P t1 t2 v tv k.addr) n) ∈ own
theorem AddrIn.at {P : Params} {h₀ h : Heap} {L : Addr} {news own : List (Addr × Obj)} {x : Addr} {v : Int} {k : Kd} (H : AddrIn P own x v k) (N : News h₀ L h news) (hs : ∀ q ∈ own, q ∈ news) : AddrAt P h x v k := by
  obtain ⟨dx, t1, t2, tv, n, a, b⟩ := H
  exact ⟨dx, t1, t2, tv, n, N.get (hs _ a), N.get (hs _ b)⟩
theorem NetsF.objs {P : Params} {h₀ h : Heap} : ∀ {ys : List Value} {ds : List ND}, NetsF P h₀ h ys ds →
    ∃ objs : List (Addr × Obj), (∀ q ∈ objs, h.get? q.1 = some q.2 ∧ h₀.get? q.1 = none) ∧ ∀ (j : Nat) (y : Value) (d : ND), ys[j]? = some y → ds[j]? = some d → ∃ x, y = .ref x ∧ NetIn P objs x d.v d.p d.k
  | [], _, _ => ⟨[], fun _ h => (nomatch h), fun j y d a => by simp at a⟩
  | _ :: _, [], H => by have := H.1; simp at this
  | y :: ys, d :: ds, H => by
    obtain ⟨objs, a, b⟩ := NetsF.objs (ys := ys) (ds := ds) ⟨by have := H.1; simpa using this, fun j y' d' e f => H.2 (j + 1) y' d' e f⟩
    obtain ⟨x, dx, t1, t2, t3, tv, tp, n, rfl, g1, g2, f1, f2⟩ := H.2 0 y d rfl rfl
    refine ⟨(x, instObj 2868 dx) :: (dx, dictOf (netEs P t1 t2 t3 d.v tv d.k.addr d.p tp) n) :: objs, fun q hq => ?_, fun j y' d' e f => ?_⟩
    · rcases List.mem_cons.mp hq with rfl | hq
      · exact ⟨g1, f1⟩
      · rcases List.mem_cons.mp hq with rfl | hq
        · exact ⟨g2, f2⟩
        · exact a q hq
    · cases j with
      | zero => cases e; cases f; exact ⟨x, rfl, dx, t1, t2, t3, tv, tp, n, .head _, .tail _ (.head _)⟩
      | succ j =>
        obtain ⟨x', e', dx', u1, u2, u3, uv, up, n', m1, m2⟩ := b j y' d' e f
        exact ⟨x', e', dx', u1, u2, u3, uv, up, n', .tail _ (.tail _ m1), .tail _ (.tail _ m2)⟩
theorem NetsD.keepBut {P : Params} {h h' : Heap} {wr : List Addr} (k : keptOut wr h h') (hw : ∀ b ∈ wr, ∀ o, h.get? b = some o → o.cls ≠ .ref 2868 ∧ ∀ es n, o.data ≠ .dict es n) : ∀ {ys : List Value} {ds : List ND}, NetsD P h ys ds → NetsD P h' ys ds
  | [], [], _ => trivial
  | _ :: _, _ :: _, ⟨⟨x, e, dx, t1, t2, t3, tv, tp, n, a, b⟩, r⟩ =>
    ⟨⟨x, e, dx, t1, t2, t3, tv, tp, n, k _ _ (fun hm => (hw _ hm _ a).1 rfl) a, k _ _ (fun hm => (hw _ hm _ b).2 _ _ rfl) b⟩, NetsD.keepBut k hw r⟩
theorem AddrAt.keepBut {P : Params} {h h' : Heap} {wr : List Addr} {x : Addr} {v : Int} {kd : Kd} (k : keptOut wr h h') (hw : ∀ b ∈ wr, ∀ o, h.get? b = some o → o.cls ≠ .ref 2565 ∧ ∀ es n, o.data ≠ .dict es n) (H : AddrAt P h x v kd) : AddrAt P h' x v kd := by
  obtain ⟨dx, t1, t2, tv, n, a, b⟩ := H
  exact ⟨dx, t1, t2, tv, n, k _ _ (fun hm => (hw _ hm _ a).1 rfl) a, k _ _ (fun hm => (hw _ hm _ b).2 _ _ rfl) b⟩
local macro_rules | `(tactic| k_inst) => `(tactic| first | (refine' InstAt_keeps ?I ?k; (case I => assumption); (case k => exact Fr.keep (by k_asm))) | fail "no ground")
local macro_rules | `(tactic| walk_at "getAttr ref") => `(tactic| (k_here; (with_reducible first | refine get_width (by k_in) ?_ | refine get_version (by k_in) ?_ | refine get_max (by k_in) ?_)))
local macro_rules | `(tactic| walk_at "call ref") => `(tactic| (k_here; (try dsimp only [List.nil_append, List.cons_append]); (with_reducible refine' u_addrcopy ?F ?N ?X ?T ?y ?hA ?r ?_); (case F => k_asm); (case N => k_asm); (case X => k_asm); (case T => k_asm); (case y => first | assumption | exact AddrAt.keeps (by assumption) (Fr.keep (by k_asm))); (case hA => rfl); (case r => (first | omega | (simp only [depth_under_make, depth_under_kw, depth_in1, depth_deeper]; omega) | (simp only [Around.deeper, Around.in1, Around.under]; omega))); intro x8' d8' t1' t2' tv' n8' h8' tk8 st8' F' N' a8 b8 l8; simp only [AllNe, and_true] at a8 b8; (try k_sweep)))
local macro_rules | `(tactic| walk_at "exec For Name Call cons nil") => `(tactic| (k_here; refine Stop.go ?_))

section
variable {w : World} {ad au : Nat} {afr : Option (List Env)} {ags : Option (List Code)} {s : Shared} {h₀ : Heap} {L : Addr} {m : Str → Option Value} {news : List (Addr × Obj)} {mg mb : Str → Option Value} {p : Program} {loose : List Str} {mean : ExcName → Option Value} {R : Result → Shared → Prop} {Q : Value → Shared → Prop} {E : Value → Shared → Prop} {e : Bool}
noncomputable def OptF (P : Params) (h₀ h : Heap) (r : Value) : Option ND → Prop
  | none => r = .none
  | some d => NetF P h₀ h r d
noncomputable def largestOf (k' : Kd) (u : Int) (es : List ND) : Option ND := es.find? fun d => hasB d.k d.v d.p k' u
end
end Mine
end JC20

section JC21
open PySem PySem.W PyProof.Rows PySem.Calls
set_option Elab.async false
set_option maxRecDepth 100000
set_option maxHeartbeats 4000000
namespace Mine
section
variable {w : World} {ad au : Nat} {afr : Option (List Env)} {ags : Option (List Code)} {s : Shared} {h₀ : Heap} {L : Addr} {m m0 : Str → Option Value} {news own : List (Addr × Obj)} {mg mb : Str → Option Value} {p : Program} {loose : List Str} {mean : ExcName → Option Value} {R : Result → Shared → Prop} {Q : Value → Shared → Prop} {E : Value → Shared → Prop} {e : Bool}
theorem u_contains {A : Around} {x y : Addr} {v pl u : Int} {k k' : Kd} (F : Fr h₀ L s.heap m) (N : News h₀ L s.heap news) (X : (K w.params).In h₀) (T : Top p loose mean mg mb h₀) (hN : NetAt w.params s.heap x v pl k) (hY : AddrAt w.params s.heap y u k') (hp : 0 ≤ pl ∧ pl ≤ k.wid) (hA : A.handled = none) (hroom : A.depth + 6 < recursionLimit)
    (h : ∀ h' tk, Fr h₀ L h' m → News h₀ L h' news → Q (.bool (hasB k v pl k' u)) { s with heap := h', toks := tk }) :
    wpAny (model pwL w) A (call (.ref 2776) [.ref x, .ref y] []) Q E s := by
  obtain ⟨ah, ad, afr, ags, au⟩ := A
  dsimp only at hA hroom
  subst hA
  exact wpAny_call (c_contains (X.keeps F.keep) (T.keeps F.keep) hN hY hp hroom fun h' tk st => h h' tk (F.keeps st) (N.grown st))
noncomputable abbrev mapM (var : Str) (c mv : Option Value) (ip : Addr) (m0 : Str → Option Value) : Str → Option Value := fun y => if y = Str.ofString "cidr" then c else if y = var then mv else if y = Str.ofString "ip" then some (.ref ip) else m0 y
theorem mapM_set {var : Str} {c mv mv' : Option Value} {ip : Addr} {m0 : Str → Option Value} (hv : var ≠ Str.ofString "cidr") : (fun y => if y = var then mv' else mapM var c mv ip m0 y) = mapM var c mv' ip m0 := by
  funext y
  by_cases h : y = var
  · subst h; simp only [mapM, if_pos, if_neg hv]
  · simp only [mapM, if_neg h]
theorem mapM_c {var : Str} {c c' mv : Option Value} {ip : Addr} {m0 : Str → Option Value} : (fun y => if y = Str.ofString "cidr" then c' else mapM var c mv ip m0 y) = mapM var c' mv ip m0 := by
  funext y
  by_cases h : y = Str.ofString "cidr"
  · simp only [if_pos h, mapM]
  · simp only [mapM, if_neg h]
local macro_rules | `(tactic| k_mem) => `(tactic| assumption)
local macro_rules | `(tactic| k_all) => `(tactic| assumption)
local macro_rules | `(tactic| walk_at "call ref") => `(tactic| (k_here; (try dsimp only [List.nil_append, List.cons_append]); (with_reducible refine' u_contains ?F ?N ?X ?T ?hN ?hY ?p ?hA ?r ?_); (case F => k_asm); (case N => k_asm); (case X => k_asm); (case T => k_asm); (case hN => exact NetIn.at (by assumption) (by k_asm) (fun q hq => by repeat (first | exact hq | apply List.mem_cons_of_mem))); (case hY => exact AddrIn.at (by assumption) (by k_asm) (fun q hq => by repeat (first | exact hq | apply List.mem_cons_of_mem))); (case p => assumption); (case hA => rfl); (case r => (first | omega | (simp only [depth_under_make, depth_under_kw, depth_in1, depth_deeper]; omega) | (simp only [Around.deeper, Around.in1, Around.under]; omega))); intro h8' tk8 F' N'; (try k_sweep)))

noncomputable def fbL : {l : List Stmt // l = forBody (sAt fb2985.val 3)} := ⟨_, by conv => rhs; whnf⟩
theorem body_largest {I x dx ip : Addr} {oI : Obj} {t1 t2 t3 tv tp : Tok} {n : Nat} {d : ND} {u : Int} {k' : Kd} {as : List Addr} {J : (Str → Option Value) → List (Addr × Obj) → Prop} {Q : Flow → Shared → Prop} {L' : Addr} (F : Fr h₀ L' s.heap (mapM (Str.ofString "match") (some (.ref x)) (some .none) ip m0)) (N : News h₀ L' s.heap ((I, oI) :: own)) (X : (K w.params).In h₀) (T : Top p loose mean mg mb h₀)
    (hx : (x, instObj 2868 dx) ∈ own) (hd : (dx, dictOf (netEs w.params t1 t2 t3 d.v tv d.k.addr d.p tp) n) ∈ own) (HY : AddrIn w.params own ip u k') (hp : 0 ≤ d.p ∧ d.p ≤ d.k.wid) (hroom : ad + 18 < recursionLimit)
    (h1 : hasB d.k d.v d.p k' u = true → ∀ h' tk, Fr h₀ L' h' (mapM (Str.ofString "match") (some (.ref x)) (some (.ref x)) ip m0) → News h₀ L' h' ((I, oI) :: own) → Q .next { s with heap := h', toks := tk })
    (h2 : hasB d.k d.v d.p k' u = false → as = [] ∧ J (mapM (Str.ofString "match") (some (.ref x)) (some .none) ip m0) []) :
    wpAny (model pwL w) (mkA ad afr ags au) (execs fbL.val (envX (Str.ofString "largest_matching_cidr") fs2985.val L' 2985 (.ref 2984) [])) (TurnO h₀ L' as ((I, oI) :: own) J Q s) (fun _ _ => False) s := by
  have HN : NetIn w.params own x d.v d.p d.k := ⟨dx, t1, t2, t3, tv, tp, n, hx, hd⟩
  unfold netEs at hd
  simp only [fbL]
  (try k_fold)
  k_steps
  · rename_i hb h' F' N'
    rw [mapM_set (by decide)] at F'
    exact h1 hb _ _ F' N'
  · rename_i F' N' hb
    obtain ⟨ha, hj⟩ := h2 hb
    exact ⟨_, _, [], _, rfl, F', N', ha.symm, hj⟩
end
end Mine
end JC21

section JC22
open PySem PySem.W PyProof.Rows PySem.Calls
set_option Elab.async false
set_option maxRecDepth 100000
set_option maxHeartbeats 4000000
namespace Mine
section
variable {w : World} {ad au : Nat} {afr : Option (List Env)} {ags : Option (List Code)} {s : Shared} {h₀ : Heap} {L : Addr} {m m0 : Str → Option Value} {news own : List (Addr × Obj)} {mg mb : Str → Option Value} {p : Program} {loose : List Str} {mean : ExcName → Option Value} {R : Result → Shared → Prop} {Q : Flow → Shared → Prop} {E : Value → Shared → Prop} {e : Bool}
theorem own_made' {P : Params} {g hA h' : Heap} {L' D tb : Addr} {oD oT : Obj} {vs' : List Value} {es : List ND} (F : Fr g L' hA m) (hT0 : g.get? tb = none) (hTL : L' ≠ tb) (k : ∀ b o, b ≠ tb → hA.get? b = some o → h'.get? b = some o) (hT : h'.get? tb = some oT) (nD : hA.get? D = none) (gD : h'.get? D = some oD) (NF : NetsF P hA h' vs' es) (N : News g L' hA news) (hn : ∀ q ∈ news, q.1 ≠ tb) :
    Fr g L' h' m ∧ ∃ objs, News g L' h' ((D, oD) :: (tb, oT) :: (objs ++ news)) ∧ (∀ (j : Nat) (y : Value) (d : ND), vs'[j]? = some y → es[j]? = some d → ∃ x, y = .ref x ∧ hA.get? x = none ∧ NetIn P objs x d.v d.p d.k ∧ NetF P hA h' y d) ∧ ∀ q ∈ objs, hA.get? q.1 = none := by
  refine ⟨Fr_but F k hTL hT0, ?_⟩
  obtain ⟨objs, a, b⟩ := NF.objs
  have hL : ∃ o, hA.get? L' = some o := by obtain ⟨o, _, _, e, _⟩ := F.ns; exact ⟨o, e⟩
  have neL : ∀ b, hA.get? b = none → b ≠ L' := fun b e q => by obtain ⟨o, e'⟩ := hL; rw [q, e'] at e; cases e
  have gn : ∀ b, hA.get? b = none → g.get? b = none := fun b e => none_of_stays F.keep e
  refine ⟨objs, fun q hq => ?_, fun j y d e1 e2 => ?_, fun q hq => (a q hq).2⟩
  · rcases List.mem_cons.mp hq with rfl | hq
    · exact ⟨gD, neL _ nD, gn _ nD⟩
    · rcases List.mem_cons.mp hq with rfl | hq
      · exact ⟨hT, Ne.symm hTL, hT0⟩
      · rcases List.mem_append.mp hq with hq | hq
        · exact ⟨(a q hq).1, neL _ (a q hq).2, gn _ (a q hq).2⟩
        · exact News_but N k hn q hq
  · obtain ⟨x, e', hI⟩ := b j y d e1 e2
    have nf := NF.2 j y d e1 e2
    refine ⟨x, e', ?_, hI, nf⟩
    obtain ⟨x', _, _, _, _, _, _, _, e'', _, _, f1, _⟩ := nf
    rw [e'] at e''; cases e''; exact f1
theorem own_made {P : Params} {g hA h' : Heap} {L' D tb : Addr} {oD oT : Obj} {vs' : List Value} {es : List ND} (F : Fr g L' hA m) (hT0 : g.get? tb = none) (hTL : L' ≠ tb) (k : ∀ b o, b ≠ tb → hA.get? b = some o → h'.get? b = some o) (hT : h'.get? tb = some oT) (nD : hA.get? D = none) (gD : h'.get? D = some oD) (NF : NetsF P hA h' vs' es) (N : News g L' hA news) (hn : ∀ q ∈ news, q.1 ≠ tb) :
    Fr g L' h' m ∧ ∃ objs, News g L' h' ((D, oD) :: (tb, oT) :: (objs ++ news)) ∧ ∀ (j : Nat) (y : Value) (d : ND), vs'[j]? = some y → es[j]? = some d → ∃ x, y = .ref x ∧ hA.get? x = none ∧ NetIn P objs x d.v d.p d.k ∧ NetF P hA h' y d := by
  obtain ⟨a, o, b, c, _⟩ := own_made' F hT0 hTL k hT nD gD NF N hn
  exact ⟨a, o, b, c⟩
theorem find_at {α : Type} {q : α → Bool} : ∀ {l : List α} {i : Nat} {d : α}, (∀ j, j < i → ∀ d, l[j]? = some d → q d = false) → l[i]? = some d → q d = true → l.find? q = some d
  | [], _, _, _, e, _ => by simp at e
  | a :: l, 0, d, _, e, t => by simp at e; subst e; simp [List.find?, t]
  | a :: l, i + 1, d, h, e, t => by
    have ha := h 0 (by omega) a rfl
    simp only [List.find?, ha]
    exact find_at (l := l) (i := i) (fun j hj d' e' => h (j + 1) (by omega) d' e') e t
theorem find_end {α : Type} {q : α → Bool} {l : List α} (h : ∀ j, j < l.length → ∀ d, l[j]? = some d → q d = false) : l.find? q = none := by
  rw [List.find?_eq_none]
  intro x hx
  obtain ⟨j, hj, e⟩ := List.getElem_of_mem hx
  have := h j hj x (by rw [List.getElem?_eq_getElem hj, e])
  simp [this]
theorem NetF.back {P : Params} {h₀ h₁ h : Heap} {y : Value} {d : ND} (N : NetF P h₁ h y d) (k : ∀ b, h₁.get? b = none → h₀.get? b = none) : NetF P h₀ h y d := by
  obtain ⟨x, dx, t1, t2, t3, tv, tp, n, e, a, b, f1, f2⟩ := N
  exact ⟨x, dx, t1, t2, t3, tv, tp, n, e, a, b, k _ f1, k _ f2⟩
theorem OptF.back {P : Params} {h₀ h₁ h : Heap} {y : Value} {d : Option ND} (N : OptF P h₁ h y d) (k : ∀ b, h₁.get? b = none → h₀.get? b = none) : OptF P h₀ h y d := by
  cases d with
  | none => exact N
  | some d => exact NetF.back N k
theorem NetF.here {P : Params} {g h₀ h h' : Heap} {L' x : Addr} {news own : List (Addr × Obj)} {y : Value} {d : ND} (N : NetF P h₀ h y d) (ey : y = .ref x) (H : NetIn P own x d.v d.p d.k) (Nw : News g L' h news) (Nw' : News g L' h' news) (hs : ∀ q ∈ own, q ∈ news) : NetF P h₀ h' y d := by
  obtain ⟨x', dx, t1, t2, t3, tv, tp, n, e, a, b, f1, f2⟩ := N
  rw [ey] at e; cases e
  obtain ⟨dx', u1, u2, u3, uv, up, n', m1, m2⟩ := H
  have := (Nw _ (hs _ m1)).1
  rw [a] at this
  have hdx : dx = dx' := by
    injection this with this
    simp only [instObj, Obj.mk.injEq] at this
    exact Option.some.inj this.2.1
  subst hdx
  exact ⟨x, dx, u1, u2, u3, uv, up, n', ey, (Nw' _ (hs _ m1)).1, (Nw' _ (hs _ m2)).1, f1, f2⟩
theorem loop_largest {px pos : Pos} {L' l ip : Addr} {vs : List Value} {nl : Nat} {ds : List ND} {u : Int} {k' : Kd} {rest : List (Addr × Obj)} {g : Heap} (F : Fr g L' s.heap (mapM (Str.ofString "match") none (some .none) ip m0)) (N : News g L' s.heap ((2982, tabObj #[]) :: (l, listOf (List.toArray vs) nl) :: rest)) (X : (K w.params).In g) (T : Top p loose mean mg mb g)
    (hY : AddrIn w.params rest ip u k') (hne : ∀ q ∈ (l, listOf (List.toArray vs) nl) :: rest, q.1 ≠ 2982) (hm : m0 (Str.ofString "cidrs") = some (.ref l)) (hds : NetsD w.params s.heap vs ds) (hok : ∀ d ∈ ds, d.ok) (h64 : vs.length < 64) (hroom : ad + 18 < recursionLimit)
    (hQ : ∀ r es h' tk ps c, es.Perm ds → SortedND es → Fr g L' h' (mapM (Str.ofString "match") c (some r) ip m0) → News g L' h' ((2982, tabObj ps) :: (l, listOf (List.toArray vs) nl) :: rest) → OptF w.params s.heap h' r (largestOf k' u es) → Q .next { s with heap := h', toks := tk }) :
    wpAny (model pwL w) (mkA ad afr ags au) (exec (.For (.Name (Str.ofString "cidr") px) sx2985.val fbL.val [] pos) (envX (Str.ofString "largest_matching_cidr") fs2985.val L' 2985 (.ref 2984) [])) Q E s := by
  have hT := N.get (a := 2982) (o := tabObj #[]) (.head _)
  have hT0 := (N _ (.head _)).2.2
  have hTL := (N _ (.head _)).2.1
  refine For_own (g := g) rfl rfl rfl ?_
  refine sorted2985 (l := l) F X T hm ⟨_, N.get (.tail _ (.head _)), rfl, _, rfl⟩ hds hok h64 hT (by rw [hT0]; exact fun q => by cases q) (by omega) ?_
  intro D vs' es n h' tk ps k hP nD gD NF pe so
  obtain ⟨F1, objs, N1, H1⟩ := own_made F hT0 (Ne.symm hTL) k hP nD gD NF (fun q hq => N q (.tail _ hq)) hne
  have lenE : vs'.length = es.length := NF.1
  have okE : ∀ d ∈ es, d.ok := fun d hd => hok d (pe.mem_iff.mp hd)
  refine ⟨D, vs', _, (D, listOf (List.toArray vs') n) :: (2982, tabObj ps) :: (objs ++ (l, listOf (List.toArray vs) nl) :: rest), [], fun i m lg => lg = [] ∧ (∃ c, m = mapM (Str.ofString "match") c (some .none) ip m0) ∧ ∀ j, j < i → ∀ d, es[j]? = some d → hasB d.k d.v d.p k' u = false, n, rfl, .head _, F1, N1, ⟨rfl, ⟨_, rfl⟩, fun j hj => absurd hj (Nat.not_lt_zero j)⟩, ?_, ?_⟩
  · rintro i v mm lg' I oI s' hv ⟨h2, tk2, rfl⟩ F2 N2 nI hlg ⟨rfl, ⟨c, rfl⟩, hJ⟩
    have hi : i < es.length := by rw [← lenE]; exact (List.getElem?_eq_some_iff.mp hv).1
    have he : es[i]? = some es[i] := List.getElem?_eq_getElem hi
    obtain ⟨x, rfl, fx, HN, NFx⟩ := H1 i v es[i] hv he
    rw [mapM_c] at F2
    have hsub : ∀ q ∈ objs, q ∈ (D, listOf (List.toArray vs') n) :: (2982, tabObj ps) :: (objs ++ (l, listOf (List.toArray vs) nl) :: rest) := fun q hq => .tail _ (.tail _ (List.mem_append_left _ hq))
    have HN' := HN
    obtain ⟨dx, t1, t2, t3, tv, tp, nn, m1, m2⟩ := HN'
    refine body_largest (u := u) (k' := k') F2 N2 X T (hsub _ m1) (hsub _ m2) ?_ (okE _ (List.getElem_mem hi)).1 hroom ?_ ?_
    · obtain ⟨dy, y1, y2, yv, yn, z1, z2⟩ := hY
      exact ⟨dy, y1, y2, yv, yn, .tail _ (.tail _ (List.mem_append_right _ (.tail _ z1))), .tail _ (.tail _ (List.mem_append_right _ (.tail _ z2)))⟩
    · intro hb h3 tk3 F3 N3
      refine hQ (.ref x) es h3 tk3 ps _ pe so F3 (fun q hq => N3 q (.tail _ ?_)) ?_
      · rcases List.mem_cons.mp hq with rfl | hq
        · exact .tail _ (.head _)
        · exact .tail _ (.tail _ (List.mem_append_right _ hq))
      · rw [largestOf, find_at hJ he hb]
        exact NFx.here rfl HN N1 (fun q hq => N3 q (.tail _ hq)) hsub
    · intro hb
      refine ⟨rfl, rfl, ⟨_, rfl⟩, fun j hj d e' => ?_⟩
      by_cases hji : j = i
      · subst hji; rw [he] at e'; cases e'; exact hb
      · exact hJ j (by omega) d e'
  · rintro h2 mm lg' tk2 F2 N2 hlg ⟨rfl, ⟨c, rfl⟩, hJ⟩
    refine hQ .none es h2 tk2 ps _ pe so F2 (fun q hq => N2 q ?_) ?_
    · rcases List.mem_cons.mp hq with rfl | hq
      · exact .tail _ (.head _)
      · exact .tail _ (.tail _ (List.mem_append_right _ hq))
    · rw [largestOf, find_end (fun j hj d e' => hJ j (by omega) d e')]
      rfl
local macro_rules | `(tactic| k_inst) => `(tactic| first | (refine' InstAt_keeps ?I ?k; (case I => assumption); (case k => exact Fr.keep (by k_asm))) | fail "no ground")
local macro_rules | `(tactic| walk_at "getAttr ref") => `(tactic| (k_here; (with_reducible first | refine get_width (by k_in) ?_ | refine get_version (by k_in) ?_ | refine get_max (by k_in) ?_)))
local macro_rules | `(tactic| walk_at "call ref") => `(tactic| (k_here; (try dsimp only [List.nil_append, List.cons_append]); (with_reducible refine' u_addrcopy ?F ?N ?X ?T ?y ?hA ?r ?_); (case F => k_asm); (case N => k_asm); (case X => k_asm); (case T => k_asm); (case y => first | assumption | exact AddrAt.keeps (by assumption) (Fr.keep (by k_asm))); (case hA => rfl); (case r => (first | omega | (simp only [depth_under_make, depth_under_kw, depth_in1, depth_deeper]; omega) | (simp only [Around.deeper, Around.in1, Around.under]; omega))); intro x8' d8' t1' t2' tv' n8' h8' tk8 st8' F' N' a8 b8 l8; simp only [AllNe, and_true] at a8 b8; (try k_sweep)))
local macro_rules | `(tactic| walk_at "exec For Name Call cons nil") => `(tactic| (k_here; refine Stop.go ?_))
theorem c_largest {y l nl : Nat} {vs : List Value} {ds : List ND} {u : Int} {k' : Kd} (X : (K w.params).In h₀) (T : Top p loose mean mg mb h₀) (st : h₀.StaysIn s.heap) (hP0 : h₀.get? 2982 = none) (hl0 : h₀.get? l = none) (hP : s.heap.get? 2982 = some (tabObj #[])) (hl : s.heap.get? l = some (listOf (List.toArray vs) nl))
    (hY : AddrAt w.params s.heap y u k') (hds : NetsD w.params s.heap vs ds) (hok : ∀ d ∈ ds, d.ok) (h64 : vs.length < 64) (hroom : ad + 20 < recursionLimit)
    (hR : ∀ r es h' tk ps, (∀ b o, b ≠ 2982 → s.heap.get? b = some o → h'.get? b = some o) → h'.get? 2982 = some (tabObj ps) → es.Perm ds → SortedND es → OptF w.params s.heap h' r (largestOf k' u es) → R (.ok (.ret r)) { s with heap := h', toks := tk }) :
    codeAny (model pwL w) (mkA ad afr ags au) (.call (.ref 2985) ⟨[.ref y, .ref l], []⟩) R s := by
  have lP : l ≠ 2982 := fun q => by rw [q, hP] at hl; cases hl
  have hn : ∀ q ∈ [(2982, tabObj #[]), (l, listOf (List.toArray vs) nl)], s.heap.get? q.1 = some q.2 ∧ h₀.get? q.1 = none := by
    intro q hq
    rcases List.mem_cons.mp hq with rfl | hq
    · exact ⟨hP, hP0⟩
    · rcases List.mem_singleton.mp hq with rfl
      exact ⟨hl, hl0⟩
  refine' enterX (h₀ := h₀) (news := [(2982, tabObj #[]), (l, listOf (List.toArray vs) nl)]) (binds := [(Str.ofString "ip", .ref y), (Str.ofString "cidrs", .ref l)]) (cl := []) st hn X T ?ho ?hc ?hr ?hb ?hl ?_ ?c1 ?c2 ?c3 ?c4
  case ho => k_is
  case hc => k_is
  case hr => (first | omega | (simp only [depth_under_make, depth_under_kw, depth_in1, depth_deeper]; omega) | (simp only [Around.deeper, Around.in1, Around.under]; omega))
  case hb => exact BindsTo.of_eq rfl
  case hl => exact locs rfl
  case c1 => rfl
  case c2 => rfl
  case c3 => rfl
  case c4 => decide
  intro g L' h₁ hg' F1 N1 X1 T1 sg G l1
  have kG : keptOut [2982, l] s.heap g := fun b o hb e => G b o e (by simpa using hb)
  have hw2 : ∀ b ∈ [(2982 : Addr), l], ∀ o, s.heap.get? b = some o → ((∃ xs, o.data = .fields xs) ∨ (∃ xs n, o.data = .seq xs n)) ∧ ∀ c, o.cls ≠ .ref c := by
    intro b hb o e
    rcases List.mem_cons.mp hb with rfl | hb
    · rw [hP] at e; cases e; exact ⟨.inl ⟨_, rfl⟩, fun _ q => by cases q⟩
    · rw [List.mem_singleton.mp hb, hl] at e; cases e; exact ⟨.inr ⟨_, _, rfl⟩, fun _ q => by cases q⟩
  have nd : ∀ b ∈ [(2982 : Addr), l], ∀ o, s.heap.get? b = some o → ∀ es n, o.data ≠ .dict es n := fun b hb o e es n q => by
    rcases (hw2 b hb o e).1 with ⟨xs, z⟩ | ⟨xs, n', z⟩ <;> rw [z] at q <;> cases q
  have hY1 : AddrAt w.params g y u k' := hY.keepBut kG fun b hb o e => ⟨(hw2 b hb o e).2 _, nd b hb o e⟩
  have hds1 : NetsD w.params g vs ds := hds.keepBut kG fun b hb o e => ⟨(hw2 b hb o e).2 _, nd b hb o e⟩
  have hY0 := hY1
  obtain ⟨dy, u1, u2, uv, un, ya, yd⟩ := hY0
  have J : InstAt g y (instObj 2565 dy) 2565 (some (dictOf (addrEs w.params u1 u2 u uv k'.addr) un)) := ⟨ya, rfl, rfl, yd⟩
  unfold addrEs at J
  simp only [fb2985]
  (try k_fold)
  k_steps
  rename_i h2 Dt h3 ltt tk0 xa da u1' u2' uv' un' h4 tk4 st4 la aa ba h5 F5 N5
  unfold Stop
  have em : (fun y_1 => if y_1 = Str.ofString "ip" then some (Value.ref xa) else if y_1 = Str.ofString "match" then some Value.none else List.lookup y_1 [(Str.ofString "ip", Value.ref y), (Str.ofString "cidrs", Value.ref l)].reverse) = mapM (Str.ofString "match") none (some .none) xa (fun y_1 => List.lookup y_1 [(Str.ofString "ip", Value.ref y), (Str.ofString "cidrs", Value.ref l)].reverse) := by
    funext z
    by_cases h1 : z = Str.ofString "cidr"
    · subst h1; rfl
    · by_cases h2 : z = Str.ofString "match"
      · subst h2; rfl
      · simp only [mapM, h1, h2, if_false]
  rw [em] at F5
  refine loop_largest (g := g) (u := u) (k' := k') (vs := vs) (nl := nl) (l := l) (ds := ds) (rest := [(xa, instObj 2565 da), (da, dictOf (addrEs w.params u1' u2' u uv' k'.addr) un'), (Dt, { cls := Value.type "tuple", data := Data.seq #[Value.type "int", Value.ref 2565] })]) F5 (fun q hq => N5 q ?_) X1 T1 ⟨da, u1', u2', uv', un', .head _, .tail _ (.head _)⟩ ?_ rfl (hds1.keeps F5.keep) hok h64 (show ad + 1 + 18 < recursionLimit by omega) ?_
  · simp only [List.mem_cons, List.not_mem_nil, or_false] at hq ⊢
    rcases hq with h | h | h | h | h <;> simp [h]
  · intro q hq
    simp only [List.mem_cons, List.not_mem_nil, or_false] at hq
    rcases hq with rfl | rfl | rfl | rfl
    · exact lP
    · exact Ne.symm aa.2.1
    · exact Ne.symm ba.2.1
    · exact Ne.symm (Nat.ne_of_lt ltt.1)
  · intro r es h6 tk6 ps c pe so F6 N6 hO
    have l5 : ∀ b o, s.heap.get? b = some o → ∃ o', h5.get? b = some o' := fun b o e => by
      by_cases b1 : b = 2982
      · subst b1; exact ⟨_, N5.get (a := 2982) (o := tabObj #[]) (by simp)⟩
      · by_cases b2 : b = l
        · subst b2; exact ⟨_, N5.get (a := b) (o := listOf vs.toArray nl) (by simp)⟩
        · exact ⟨o, F5.keep _ _ (G b o e (by simp [b1, b2]))⟩
    have hO' := hO.back (h₀ := s.heap) fun b e => by
      cases z : s.heap.get? b with
      | none => rfl
      | some o => obtain ⟨o', e'⟩ := l5 b o z; rw [e'] at e; cases e
    have hk : ∀ b o, b ≠ 2982 → s.heap.get? b = some o → h6.get? b = some o := fun b o b1 e => by
      by_cases b2 : b = l
      · subst b2; rw [hl] at e; cases e; exact N6.get (.tail _ (.head _))
      · exact F6.keep _ _ (G b o e (by simp [b1, b2]))
    have hR' := hR r es h6 tk6 ps hk (N6.get (.head _)) pe so hO'
    clear hO hO' hk l5 em F5 N5 pe so
    dsimp only
    k_steps
    exact hR'
end
end Mine
end JC22

section JC23
open PySem PySem.W PyProof.Rows PySem.Calls
set_option Elab.async false
set_option maxRecDepth 100000
set_option maxHeartbeats 4000000
namespace Mine
section
variable {w : World} {ad au : Nat} {afr : Option (List Env)} {ags : Option (List Code)} {s : Shared} {h₀ : Heap} {L : Addr} {m m0 : Str → Option Value} {news own : List (Addr × Obj)} {mg mb : Str → Option Value} {p : Program} {loose : List Str} {mean : ExcName → Option Value} {R : Result → Shared → Prop} {E : Value → Shared → Prop} {e : Bool}
theorem AddrAt.made {P : Params} {g h : Heap} {L y dy : Addr} {news : List (Addr × Obj)} {v : Int} {k : Kd} {t1 t2 tv : Tok} {n : Nat} (N : News g L h news) (a : (y, instObj 2565 dy) ∈ news) (b : (dy, dictOf (addrEs P t1 t2 v tv k.addr) n) ∈ news) : AddrAt P h y v k := ⟨dy, t1, t2, tv, n, N.get a, N.get b⟩
section
variable {Q : Value → Shared → Prop}
theorem g_network {A : Around} {x : Addr} {v pl : Int} {k : Kd} (F : Fr h₀ L s.heap m) (N : News h₀ L s.heap news) (X₀ : (K w.params).In h₀) (T : Top p loose mean mg mb h₀) (hN : NetAt w.params s.heap x v pl k) (hp : 0 ≤ pl ∧ pl ≤ k.wid) (hA : A.handled = none) (hroom : A.depth + 6 < recursionLimit)
    (h : ∀ y dy t1 t2 tv n h' tk, Fr h₀ L h' m → News h₀ L h' ((y, instObj 2565 dy) :: (dy, dictOf (addrEs w.params t1 t2 (firstI k v pl) tv k.addr) n) :: news) → Q (.ref y) { s with heap := h', toks := tk }) : wpAny (model pwL w) A (getAttr (.ref x) (Str.ofString "network") e) Q E s := by
  obtain ⟨ah, ad, afr, ags, au⟩ := A
  dsimp only at hA hroom
  subst hA
  have hN0 := hN
  obtain ⟨dx, t1, t2, t3, tv, tp, n, hx, hd⟩ := hN0
  refine' get_prop F X₀ (⟨hx, rfl, rfl, hd⟩ : InstAt s.heap x (instObj 2868 dx) 2868 (some (dictOf (netEs w.params t1 t2 t3 v tv k.addr pl tp) n))) ?a1 ?a2 ?a3 ?a4 ?a5 ?a6 ?_
  case a1 => k_is
  case a2 => k_is
  case a3 => k_is
  case a4 => k_is
  case a5 => k_is
  case a6 => k_is
  exact c_network (s := { s with toks := s.toks + 1 }) (X₀.keeps F.keep) (T.keeps F.keep) hN hp hroom (fun y dy t1 t2 tv n h' tk st hy hdy ny nd lt => handed_on rfl (h y dy t1 t2 tv n h' tk (F.keeps st) (News_made F (News_made F (N.grown st) nd hdy) ny hy)))
end
variable {Q : Flow → Shared → Prop}
local macro_rules | `(tactic| k_mem) => `(tactic| assumption)
local macro_rules | `(tactic| k_all) => `(tactic| assumption)
local macro_rules | `(tactic| walk_at "call ref") => `(tactic| (k_here; (try dsimp only [List.nil_append, List.cons_append]); (with_reducible refine' u_contains ?F ?N ?X ?T ?hN ?hY ?p ?hA ?r ?_); (case F => k_asm); (case N => k_asm); (case X => k_asm); (case T => k_asm); (case hN => exact NetIn.at (by assumption) (by k_asm) (fun q hq => by repeat (first | exact hq | apply List.mem_cons_of_mem))); (case hY => first | exact AddrIn.at (by assumption) (by k_asm) (fun q hq => by repeat (first | exact hq | apply List.mem_cons_of_mem)) | exact AddrAt.made (by k_asm) (by repeat (first | exact List.mem_cons_self | apply List.mem_cons_of_mem)) (by repeat (first | exact List.mem_cons_self | apply List.mem_cons_of_mem))); (case p => assumption); (case hA => rfl); (case r => (first | omega | (simp only [depth_under_make, depth_under_kw, depth_in1, depth_deeper]; omega) | (simp only [Around.deeper, Around.in1, Around.under]; omega))); intro h8' tk8 F' N'; (try k_sweep)))
local macro_rules | `(tactic| walk_at "getAttr ref") => `(tactic| (k_here; (with_reducible refine' g_network ?F ?N ?X ?T ?hN ?hp ?hA ?hr ?_); (case hA => rfl); (case F => k_asm); (case N => k_asm); (case X => k_asm); (case T => k_asm); (case hN => exact NetIn.at (by assumption) (by k_asm) (fun q hq => by repeat (first | exact hq | apply List.mem_cons_of_mem))); (case hp => assumption); (case hr => (first | omega | (simp only [depth_under_make, depth_under_kw, depth_in1, depth_deeper]; omega) | (simp only [Around.deeper, Around.in1, Around.under]; omega))); intro x8' d8' t1' t2' tv' n8' h8' tk8 F' N'; (try k_sweep)))

noncomputable def fbS : {l : List Stmt // l = forBody (sAt fb2980.val 3)} := ⟨_, by conv => rhs; whnf⟩
theorem body_small0 {I x dx ip : Addr} {oI : Obj} {t1 t2 t3 tv tp : Tok} {n : Nat} {d : ND} {u : Int} {k' : Kd} {as : List Addr} {J : (Str → Option Value) → List (Addr × Obj) → Prop} {L' : Addr} (F : Fr h₀ L' s.heap (mapM (Str.ofString "match") (some (.ref x)) (some .none) ip m0)) (N : News h₀ L' s.heap ((I, oI) :: own)) (X : (K w.params).In h₀) (T : Top p loose mean mg mb h₀)
    (hx : (x, instObj 2868 dx) ∈ own) (hd : (dx, dictOf (netEs w.params t1 t2 t3 d.v tv d.k.addr d.p tp) n) ∈ own) (HY : AddrIn w.params own ip u k') (hp : 0 ≤ d.p ∧ d.p ≤ d.k.wid) (hroom : ad + 18 < recursionLimit)
    (h1 : hasB d.k d.v d.p k' u = true → as = [] ∧ J (mapM (Str.ofString "match") (some (.ref x)) (some (.ref x)) ip m0) [])
    (h2 : hasB d.k d.v d.p k' u = false → as = [] ∧ J (mapM (Str.ofString "match") (some (.ref x)) (some .none) ip m0) []) :
    wpAny (model pwL w) (mkA ad afr ags au) (execs fbS.val (envX (Str.ofString "smallest_matching_cidr") fs2980.val L' 2980 (.ref 2979) [])) (TurnO h₀ L' as ((I, oI) :: own) J Q s) (fun _ _ => False) s := by
  have HN : NetIn w.params own x d.v d.p d.k := ⟨dx, t1, t2, t3, tv, tp, n, hx, hd⟩
  unfold netEs at hd
  simp only [fbS]
  (try k_fold)
  k_steps
  · rename_i hb h' F' N'
    rw [mapM_set (by decide)] at F'
    obtain ⟨ha, hj⟩ := h1 hb
    exact ⟨_, _, [], _, rfl, F', N', ha.symm, hj⟩
  · rename_i F' N' hb
    obtain ⟨ha, hj⟩ := h2 hb
    exact ⟨_, _, [], _, rfl, F', N', ha.symm, hj⟩
theorem body_small1 {I x dx xm dm ip : Addr} {oI : Obj} {t1 t2 t3 tv tp r1 r2 r3 rv rp : Tok} {n nm : Nat} {d dd : ND} {u : Int} {k' : Kd} {as : List Addr} {J : (Str → Option Value) → List (Addr × Obj) → Prop} {L' : Addr} (F : Fr h₀ L' s.heap (mapM (Str.ofString "match") (some (.ref x)) (some (.ref xm)) ip m0)) (N : News h₀ L' s.heap ((I, oI) :: own)) (X : (K w.params).In h₀) (T : Top p loose mean mg mb h₀)
    (hx : (x, instObj 2868 dx) ∈ own) (hd : (dx, dictOf (netEs w.params t1 t2 t3 d.v tv d.k.addr d.p tp) n) ∈ own) (mx : (xm, instObj 2868 dm) ∈ own) (md : (dm, dictOf (netEs w.params r1 r2 r3 dd.v rv dd.k.addr dd.p rp) nm) ∈ own) (hpm : 0 ≤ dd.p ∧ dd.p ≤ dd.k.wid) (HY : AddrIn w.params own ip u k') (hp : 0 ≤ d.p ∧ d.p ≤ d.k.wid) (hroom : ad + 18 < recursionLimit)
    (h1 : hasB d.k d.v d.p k' u = true → as = [] ∧ J (mapM (Str.ofString "match") (some (.ref x)) (some (.ref x)) ip m0) [])
    (h2 : hasB d.k d.v d.p k' u = false → hasB dd.k dd.v dd.p d.k (firstI d.k d.v d.p) = true → as = [] ∧ J (mapM (Str.ofString "match") (some (.ref x)) (some (.ref xm)) ip m0) [])
    (h3 : hasB d.k d.v d.p k' u = false → hasB dd.k dd.v dd.p d.k (firstI d.k d.v d.p) = false → ∀ h' tk, Fr h₀ L' h' (mapM (Str.ofString "match") (some (.ref x)) (some (.ref xm)) ip m0) → News h₀ L' h' ((I, oI) :: own) → Q .next { s with heap := h', toks := tk }) :
    wpAny (model pwL w) (mkA ad afr ags au) (execs fbS.val (envX (Str.ofString "smallest_matching_cidr") fs2980.val L' 2980 (.ref 2979) [])) (TurnO h₀ L' as ((I, oI) :: own) J Q s) (fun _ _ => False) s := by
  have HN : NetIn w.params own x d.v d.p d.k := ⟨dx, t1, t2, t3, tv, tp, n, hx, hd⟩
  have HMm : NetIn w.params own xm dd.v dd.p dd.k := ⟨dm, r1, r2, r3, rv, rp, nm, mx, md⟩
  unfold netEs at hd md
  simp only [fbS]
  (try k_fold)
  k_steps
  · rename_i hb h' F' N'
    rw [mapM_set (by decide)] at F'
    obtain ⟨ha, hj⟩ := h1 hb
    exact ⟨_, _, [], _, rfl, F', N', ha.symm, hj⟩
  · rename_i F' N' hb
    obtain ⟨ha, hj⟩ := h2 (by assumption) hb
    exact ⟨_, _, [], _, rfl, F', fun q hq => N' q (.tail _ (.tail _ hq)), ha.symm, hj⟩
  · rename_i F' N' hb
    exact h3 (by assumption) hb _ _ F' (fun q hq => N' q (.tail _ (.tail _ hq)))
end
end Mine
end JC23

section JC24
open PySem PySem.W PyProof.Rows PySem.Calls
set_option Elab.async false
set_option maxRecDepth 100000
set_option maxHeartbeats 4000000
namespace Mine
section
variable {w : World} {ad au : Nat} {afr : Option (List Env)} {ags : Option (List Code)} {s : Shared} {h₀ : Heap} {L : Addr} {m m0 : Str → Option Value} {news own : List (Addr × Obj)} {mg mb : Str → Option Value} {p : Program} {loose : List Str} {mean : ExcName → Option Value} {R : Result → Shared → Prop} {Q : Flow → Shared → Prop} {E : Value → Shared → Prop} {e : Bool}
noncomputable def smallGo (k' : Kd) (u : Int) : Option ND → List ND → Option ND
  | r, [] => r
  | none, d :: es => if hasB d.k d.v d.p k' u then smallGo k' u (some d) es else smallGo k' u none es
  | some b, d :: es => if hasB d.k d.v d.p k' u then smallGo k' u (some d) es else if hasB b.k b.v b.p d.k (firstI d.k d.v d.p) then smallGo k' u (some b) es else some b
noncomputable def smallestOf (k' : Kd) (u : Int) (es : List ND) : Option ND := smallGo k' u none es
noncomputable def MatchV (P : Params) (objs : List (Addr × Obj)) (hA h : Heap) (es : List ND) (rv : Value) : Option ND → Prop
  | none => rv = .none
  | some b => b ∈ es ∧ ∃ x, rv = .ref x ∧ NetIn P objs x b.v b.p b.k ∧ NetF P hA h (.ref x) b
theorem MatchV.out {P : Params} {g hA h h' : Heap} {L' : Addr} {news objs : List (Addr × Obj)} {es : List ND} {rv : Value} {r : Option ND} (M : MatchV P objs hA h es rv r) (N : News g L' h news) (N' : News g L' h' news) (hs : ∀ q ∈ objs, q ∈ news) : OptF P hA h' rv r := by
  cases r with
  | none => exact M
  | some b =>
    obtain ⟨_, x, rfl, a, c⟩ := M
    exact c.here rfl a N N' hs
theorem loop_small {px pos : Pos} {L' l ip : Addr} {vs : List Value} {nl : Nat} {ds : List ND} {u : Int} {k' : Kd} {rest : List (Addr × Obj)} {g : Heap} (F : Fr g L' s.heap (mapM (Str.ofString "match") none (some .none) ip m0)) (N : News g L' s.heap ((2977, tabObj #[]) :: (l, listOf (List.toArray vs) nl) :: rest)) (X : (K w.params).In g) (T : Top p loose mean mg mb g)
    (hY : AddrIn w.params rest ip u k') (hne : ∀ q ∈ (l, listOf (List.toArray vs) nl) :: rest, q.1 ≠ 2977) (hm : m0 (Str.ofString "cidrs") = some (.ref l)) (hds : NetsD w.params s.heap vs ds) (hok : ∀ d ∈ ds, d.ok) (h64 : vs.length < 64) (hroom : ad + 18 < recursionLimit)
    (hQ : ∀ r es h' tk ps c, es.Perm ds → SortedND es → Fr g L' h' (mapM (Str.ofString "match") c (some r) ip m0) → News g L' h' ((2977, tabObj ps) :: (l, listOf (List.toArray vs) nl) :: rest) → OptF w.params s.heap h' r (smallestOf k' u es) → Q .next { s with heap := h', toks := tk }) :
    wpAny (model pwL w) (mkA ad afr ags au) (exec (.For (.Name (Str.ofString "cidr") px) sx2980.val fbS.val [] pos) (envX (Str.ofString "smallest_matching_cidr") fs2980.val L' 2980 (.ref 2979) [])) Q E s := by
  have hT := N.get (a := 2977) (o := tabObj #[]) (.head _)
  have hT0 := (N _ (.head _)).2.2
  have hTL := (N _ (.head _)).2.1
  refine For_own (g := g) rfl rfl rfl ?_
  refine sorted2980 (l := l) F X T hm ⟨_, N.get (.tail _ (.head _)), rfl, _, rfl⟩ hds hok h64 hT (by rw [hT0]; exact fun q => by cases q) (by omega) ?_
  intro D vs' es n h' tk ps k hP nD gD NF pe so
  obtain ⟨F1, objs, N1, H1⟩ := own_made F hT0 (Ne.symm hTL) k hP nD gD NF (fun q hq => N q (.tail _ hq)) hne
  have lenE : vs'.length = es.length := NF.1
  have okE : ∀ d ∈ es, d.ok := fun d hd => hok d (pe.mem_iff.mp hd)
  have hsub : ∀ q ∈ objs, q ∈ (D, listOf (List.toArray vs') n) :: (2977, tabObj ps) :: (objs ++ (l, listOf (List.toArray vs) nl) :: rest) := fun q hq => .tail _ (.tail _ (List.mem_append_left _ hq))
  refine ⟨D, vs', _, (D, listOf (List.toArray vs') n) :: (2977, tabObj ps) :: (objs ++ (l, listOf (List.toArray vs) nl) :: rest), [], fun i m lg => lg = [] ∧ ∃ c r rv, m = mapM (Str.ofString "match") c (some rv) ip m0 ∧ smallestOf k' u es = smallGo k' u r (es.drop i) ∧ MatchV w.params objs s.heap h' es rv r, n, rfl, .head _, F1, N1, ⟨rfl, _, none, _, rfl, rfl, rfl⟩, ?_, ?_⟩
  · rintro i v mm lg' I oI s' hv ⟨h2, tk2, rfl⟩ F2 N2 nI hlg ⟨rfl, c, r, rv, rfl, hG, hM⟩
    have hi : i < es.length := by rw [← lenE]; exact (List.getElem?_eq_some_iff.mp hv).1
    have he : es[i]? = some es[i] := List.getElem?_eq_getElem hi
    obtain ⟨x, rfl, fx, HN, NFx⟩ := H1 i v es[i] hv he
    rw [mapM_c] at F2
    rw [List.drop_eq_getElem_cons hi] at hG
    have hin : es[i] ∈ es := List.getElem_mem hi
    generalize es[i] = d at *
    have HN' := HN
    obtain ⟨dx, t1, t2, t3, tv, tp, nn, m1, m2⟩ := HN'
    have hY' : AddrIn w.params ((D, listOf (List.toArray vs') n) :: (2977, tabObj ps) :: (objs ++ (l, listOf (List.toArray vs) nl) :: rest)) ip u k' := by
      obtain ⟨dy, y1, y2, yv, yn, z1, z2⟩ := hY
      exact ⟨dy, y1, y2, yv, yn, .tail _ (.tail _ (List.mem_append_right _ (.tail _ z1))), .tail _ (.tail _ (List.mem_append_right _ (.tail _ z2)))⟩
    cases r with
    | none =>
      cases hM
      refine body_small0 (u := u) (k' := k') (d := d) F2 N2 X T (hsub _ m1) (hsub _ m2) hY' (okE _ hin).1 hroom ?_ ?_
      · intro hb
        refine ⟨rfl, rfl, _, some d, _, rfl, ?_, hin, x, rfl, HN, NFx⟩
        rw [hG]; simp only [smallGo, hb, if_true]
      · intro hb
        refine ⟨rfl, rfl, _, none, _, rfl, ?_, rfl⟩
        rw [hG]; simp [smallGo, hb]
    | some b =>
      obtain ⟨hbin, xm, rfl, HM, NM⟩ := hM
      have HM' := HM
      obtain ⟨dm, r1, r2, r3, rv, rp, nm, mx, md⟩ := HM'
      refine body_small1 (u := u) (k' := k') (d := d) (dd := b) F2 N2 X T (hsub _ m1) (hsub _ m2) (hsub _ mx) (hsub _ md) (okE _ hbin).1 hY' (okE _ hin).1 hroom ?_ ?_ ?_
      · intro hb
        refine ⟨rfl, rfl, _, some d, _, rfl, ?_, hin, x, rfl, HN, NFx⟩
        rw [hG]; simp only [smallGo, hb, if_true]
      · intro hb hc
        refine ⟨rfl, rfl, _, some b, _, rfl, ?_, hbin, xm, rfl, HM, NM⟩
        rw [hG]; simp [smallGo, hb, hc]
      · intro hb hc h3 tk3 F3 N3
        refine hQ (.ref xm) es h3 tk3 ps _ pe so F3 (fun q hq => N3 q (.tail _ ?_)) ?_
        · rcases List.mem_cons.mp hq with rfl | hq
          · exact .tail _ (.head _)
          · exact .tail _ (.tail _ (List.mem_append_right _ hq))
        · have e1 : smallestOf k' u es = some b := by rw [hG]; simp [smallGo, hb, hc]
          rw [e1]
          exact NM.here rfl HM N1 (fun q hq => N3 q (.tail _ hq)) hsub
  · rintro h2 mm lg' tk2 F2 N2 hlg ⟨rfl, c, r, rv, rfl, hG, hM⟩
    rw [List.drop_eq_nil_of_le (Nat.le_of_eq lenE.symm)] at hG
    refine hQ rv es h2 tk2 ps _ pe so F2 (fun q hq => N2 q ?_) ?_
    · rcases List.mem_cons.mp hq with rfl | hq
      · exact .tail _ (.head _)
      · exact .tail _ (.tail _ (List.mem_append_right _ hq))
    · have e1 : smallestOf k' u es = r := by rw [hG]; cases r <;> rfl
      rw [e1]
      exact hM.out N1 N2 hsub
local macro_rules | `(tactic| k_inst) => `(tactic| first | (refine' InstAt_keeps ?I ?k; (case I => assumption); (case k => exact Fr.keep (by k_asm))) | fail "no ground")
local macro_rules | `(tactic| walk_at "getAttr ref") => `(tactic| (k_here; (with_reducible first | refine get_width (by k_in) ?_ | refine get_version (by k_in) ?_ | refine get_max (by k_in) ?_)))
local macro_rules | `(tactic| walk_at "call ref") => `(tactic| (k_here; (try dsimp only [List.nil_append, List.cons_append]); (with_reducible refine' u_addrcopy ?F ?N ?X ?T ?y ?hA ?r ?_); (case F => k_asm); (case N => k_asm); (case X => k_asm); (case T => k_asm); (case y => first | assumption | exact AddrAt.keeps (by assumption) (Fr.keep (by k_asm))); (case hA => rfl); (case r => (first | omega | (simp only [depth_under_make, depth_under_kw, depth_in1, depth_deeper]; omega) | (simp only [Around.deeper, Around.in1, Around.under]; omega))); intro x8' d8' t1' t2' tv' n8' h8' tk8 st8' F' N' a8 b8 l8; simp only [AllNe, and_true] at a8 b8; (try k_sweep)))
local macro_rules | `(tactic| walk_at "exec For Name Call cons nil") => `(tactic| (k_here; refine Stop.go ?_))
theorem c_smallest {y l nl : Nat} {vs : List Value} {ds : List ND} {u : Int} {k' : Kd} (X : (K w.params).In h₀) (T : Top p loose mean mg mb h₀) (st : h₀.StaysIn s.heap) (hP0 : h₀.get? 2977 = none) (hl0 : h₀.get? l = none) (hP : s.heap.get? 2977 = some (tabObj #[])) (hl : s.heap.get? l = some (listOf (List.toArray vs) nl))
    (hY : AddrAt w.params s.heap y u k') (hds : NetsD w.params s.heap vs ds) (hok : ∀ d ∈ ds, d.ok) (h64 : vs.length < 64) (hroom : ad + 20 < recursionLimit)
    (hR : ∀ r es h' tk ps, (∀ b o, b ≠ 2977 → s.heap.get? b = some o → h'.get? b = some o) → h'.get? 2977 = some (tabObj ps) → es.Perm ds → SortedND es → OptF w.params s.heap h' r (smallestOf k' u es) → R (.ok (.ret r)) { s with heap := h', toks := tk }) :
    codeAny (model pwL w) (mkA ad afr ags au) (.call (.ref 2980) ⟨[.ref y, .ref l], []⟩) R s := by
  have lP : l ≠ 2977 := fun q => by rw [q, hP] at hl; cases hl
  have hn : ∀ q ∈ [(2977, tabObj #[]), (l, listOf (List.toArray vs) nl)], s.heap.get? q.1 = some q.2 ∧ h₀.get? q.1 = none := by
    intro q hq
    rcases List.mem_cons.mp hq with rfl | hq
    · exact ⟨hP, hP0⟩
    · rcases List.mem_singleton.mp hq with rfl
      exact ⟨hl, hl0⟩
  refine' enterX (h₀ := h₀) (news := [(2977, tabObj #[]), (l, listOf (List.toArray vs) nl)]) (binds := [(Str.ofString "ip", .ref y), (Str.ofString "cidrs", .ref l)]) (cl := []) st hn X T ?ho ?hc ?hr ?hb ?hl ?_ ?c1 ?c2 ?c3 ?c4
  case ho => k_is
  case hc => k_is
  case hr => (first | omega | (simp only [depth_under_make, depth_under_kw, depth_in1, depth_deeper]; omega) | (simp only [Around.deeper, Around.in1, Around.under]; omega))
  case hb => exact BindsTo.of_eq rfl
  case hl => exact locs rfl
  case c1 => rfl
  case c2 => rfl
  case c3 => rfl
  case c4 => decide
  intro g L' h₁ hg' F1 N1 X1 T1 sg G l1
  have kG : keptOut [2977, l] s.heap g := fun b o hb e => G b o e (by simpa using hb)
  have hw2 : ∀ b ∈ [(2977 : Addr), l], ∀ o, s.heap.get? b = some o → ((∃ xs, o.data = .fields xs) ∨ (∃ xs n, o.data = .seq xs n)) ∧ ∀ c, o.cls ≠ .ref c := by
    intro b hb o e
    rcases List.mem_cons.mp hb with rfl | hb
    · rw [hP] at e; cases e; exact ⟨.inl ⟨_, rfl⟩, fun _ q => by cases q⟩
    · rw [List.mem_singleton.mp hb, hl] at e; cases e; exact ⟨.inr ⟨_, _, rfl⟩, fun _ q => by cases q⟩
  have nd : ∀ b ∈ [(2977 : Addr), l], ∀ o, s.heap.get? b = some o → ∀ es n, o.data ≠ .dict es n := fun b hb o e es n q => by
    rcases (hw2 b hb o e).1 with ⟨xs, z⟩ | ⟨xs, n', z⟩ <;> rw [z] at q <;> cases q
  have hY1 : AddrAt w.params g y u k' := hY.keepBut kG fun b hb o e => ⟨(hw2 b hb o e).2 _, nd b hb o e⟩
  have hds1 : NetsD w.params g vs ds := hds.keepBut kG fun b hb o e => ⟨(hw2 b hb o e).2 _, nd b hb o e⟩
  have hY0 := hY1
  obtain ⟨dy, u1, u2, uv, un, ya, yd⟩ := hY0
  have J : InstAt g y (instObj 2565 dy) 2565 (some (dictOf (addrEs w.params u1 u2 u uv k'.addr) un)) := ⟨ya, rfl, rfl, yd⟩
  unfold addrEs at J
  simp only [fb2980]
  (try k_fold)
  k_steps
  rename_i h2 Dt h3 ltt tk0 xa da u1' u2' uv' un' h4 tk4 st4 la aa ba h5 F5 N5
  unfold Stop
  have em : (fun y_1 => if y_1 = Str.ofString "ip" then some (Value.ref xa) else if y_1 = Str.ofString "match" then some Value.none else List.lookup y_1 [(Str.ofString "ip", Value.ref y), (Str.ofString "cidrs", Value.ref l)].reverse) = mapM (Str.ofString "match") none (some .none) xa (fun y_1 => List.lookup y_1 [(Str.ofString "ip", Value.ref y), (Str.ofString "cidrs", Value.ref l)].reverse) := by
    funext z
    by_cases h1 : z = Str.ofString "cidr"
    · subst h1; rfl
    · by_cases h2 : z = Str.ofString "match"
      · subst h2; rfl
      · simp only [mapM, h1, h2, if_false]
  rw [em] at F5
  refine loop_small (g := g) (u := u) (k' := k') (vs := vs) (nl := nl) (l := l) (ds := ds) (rest := [(xa, instObj 2565 da), (da, dictOf (addrEs w.params u1' u2' u uv' k'.addr) un'), (Dt, { cls := Value.type "tuple", data := Data.seq #[Value.type "int", Value.ref 2565] })]) F5 (fun q hq => N5 q ?_) X1 T1 ⟨da, u1', u2', uv', un', .head _, .tail _ (.head _)⟩ ?_ rfl (hds1.keeps F5.keep) hok h64 (show ad + 1 + 18 < recursionLimit by omega) ?_
  · simp only [List.mem_cons, List.not_mem_nil, or_false] at hq ⊢
    rcases hq with h | h | h | h | h <;> simp [h]
  · intro q hq
    simp only [List.mem_cons, List.not_mem_nil, or_false] at hq
    rcases hq with rfl | rfl | rfl | rfl
    · exact lP
    · exact Ne.symm aa.2.1
    · exact Ne.symm ba.2.1
    · exact Ne.symm (Nat.ne_of_lt ltt.1)
  · intro r es h6 tk6 ps c pe so F6 N6 hO
    have l5 : ∀ b o, s.heap.get? b = some o → ∃ o', h5.get? b = some o' := fun b o e => by
      by_cases b1 : b = 2977
      · subst b1; exact ⟨_, N5.get (a := 2977) (o := tabObj #[]) (by simp)⟩
      · by_cases b2 : b = l
        · subst b2; exact ⟨_, N5.get (a := b) (o := listOf vs.toArray nl) (by simp)⟩
        · exact ⟨o, F5.keep _ _ (G b o e (by simp [b1, b2]))⟩
    have hO' := hO.back (h₀ := s.heap) fun b e => by
      cases z : s.heap.get? b with
      | none => rfl
      | some o => obtain ⟨o', e'⟩ := l5 b o z; rw [e'] at e; cases e
    have hk : ∀ b o, b ≠ 2977 → s.heap.get? b = some o → h6.get? b = some o := fun b o b1 e => by
      by_cases b2 : b = l
      · subst b2; rw [hl] at e; cases e; exact N6.get (.tail _ (.head _))
      · exact F6.keep _ _ (G b o e (by simp [b1, b2]))
    have hR' := hR r es h6 tk6 ps hk (N6.get (.head _)) pe so hO'
    clear hO hO' hk l5 em F5 N5 pe so
    dsimp only
    k_steps
    exact hR'
end
end Mine
end JC24

section JC25
open PySem PySem.W PyProof.Rows PySem.Calls
set_option Elab.async false
set_option maxRecDepth 100000
set_option maxHeartbeats 4000000
namespace Mine
section
variable {w : World} {ad au : Nat} {afr : Option (List Env)} {ags : Option (List Code)} {s : Shared} {h₀ : Heap} {L : Addr} {m m0 : Str → Option Value} {news own : List (Addr × Obj)} {mg mb : Str → Option Value} {p : Program} {loose : List Str} {mean : ExcName → Option Value} {R : Result → Shared → Prop} {E : Value → Shared → Prop} {e : Bool}
section
variable {Q : Value → Shared → Prop} {A : Around} {prog : Program}
theorem u_append {D : Addr} {its : Array Value} {n : Nat} {x : Value} (F : Fr h₀ L s.heap m) (N : News h₀ L s.heap ((D, listOf its n) :: news)) (hap : ∀ q ∈ news, q.1 ≠ D) (hz : its.size ≤ 1000) (h : ∀ h', Fr h₀ L h' m → News h₀ L h' ((D, listOf (its.push x) (n + 1)) :: news) → Q .none { s with heap := h' }) :
    wpAny (model prog w) A (call (.builtin "list.append") [.ref D, x]) Q E s :=
  append_at (hsz := by rw [sizeLine_eq]; omega) (N.get (.head _)) fun h' hs ho' => h h' (F.change hs (N _ (.head _)).2.1 (N _ (.head _)).2.2) (N.setHead hap hs ho')
theorem u_truthy1 {D : Addr} {pre : List Value} {v : Value} {n : Nat} {Q : Bool → Shared → Prop} (N : News h₀ L s.heap news) (hm : (D, listOf (List.toArray (pre ++ [v])) n) ∈ news) (hz : pre.length < 999) (h : Q true { s with toks := s.toks + 1 + 1 }) : wpAny (model prog w) A (truthy (.ref D)) Q E s :=
  wpAny_truthy_list (items := (pre ++ [v]).toArray) ⟨_, N.get hm, rfl, _, rfl⟩ (by simp; omega) ((show (!(pre ++ [v]).toArray.isEmpty) = true by simp).symm ▸ h)
theorem u_last {D : Addr} {pre : List Value} {v : Value} {n : Nat} {u : Tok} {value slice : Expr} (N : News h₀ L s.heap news) (hm : (D, listOf (List.toArray (pre ++ [v])) n) ∈ news) (hz : pre.length < 999)
    (hs : subscripted slice false (.ref D) (.int (-1) u) = operate [.ref D, .int (-1) u] (getItem (.ref D) (.int (-1) u))) (hg : ∀ r, letTemporaryGo value (.ref D) r = pure ()) (h : Q v s) :
    wpAny (model prog w) A (subscriptTail value slice (.ref D) (.int (-1) u)) Q E s := by
  refine kim_back (l := pre ++ [v]) N hm rfl rfl (by omega) (by simp; omega) (by omega) ?_ h hs hg
  have : ((-1 : Int) + ((pre ++ [v]).length : Int)).toNat = pre.length := by simp; omega
  rw [this]; simp
end
variable {Q : Flow → Shared → Prop}
local macro_rules | `(tactic| k_mem) => `(tactic| assumption)
local macro_rules | `(tactic| k_all) => `(tactic| assumption)
local macro_rules | `(tactic| walk_at "call ref") => `(tactic| (k_here; (try dsimp only [List.nil_append, List.cons_append]); (with_reducible refine' u_contains ?F ?N ?X ?T ?hN ?hY ?p ?hA ?r ?_); (case F => k_asm); (case N => k_asm); (case X => k_asm); (case T => k_asm); (case hN => exact NetIn.at (by assumption) (by k_asm) (fun q hq => by repeat (first | exact hq | apply List.mem_cons_of_mem))); (case hY => first | exact AddrIn.at (by assumption) (by k_asm) (fun q hq => by repeat (first | exact hq | apply List.mem_cons_of_mem)) | exact AddrAt.made (by k_asm) (by repeat (first | exact List.mem_cons_self | apply List.mem_cons_of_mem)) (by repeat (first | exact List.mem_cons_self | apply List.mem_cons_of_mem))); (case p => assumption); (case hA => rfl); (case r => (first | omega | (simp only [depth_under_make, depth_under_kw, depth_in1, depth_deeper]; omega) | (simp only [Around.deeper, Around.in1, Around.under]; omega))); intro h8' tk8 F' N'; (try k_sweep)))
local macro_rules | `(tactic| walk_at "getAttr ref") => `(tactic| (k_here; (with_reducible refine' g_network ?F ?N ?X ?T ?hN ?hp ?hA ?hr ?_); (case hA => rfl); (case F => k_asm); (case N => k_asm); (case X => k_asm); (case T => k_asm); (case hN => exact NetIn.at (by assumption) (by k_asm) (fun q hq => by repeat (first | exact hq | apply List.mem_cons_of_mem))); (case hp => assumption); (case hr => (first | omega | (simp only [depth_under_make, depth_under_kw, depth_in1, depth_deeper]; omega) | (simp only [Around.deeper, Around.in1, Around.under]; omega))); intro x8' d8' t1' t2' tv' n8' h8' tk8 F' N'; (try k_sweep)))
local macro_rules | `(tactic| walk_at "call builtin:list.append") => `(tactic| (k_here; (with_reducible refine' u_append ?F ?N ?hap ?hz ?_); (case F => k_asm); (case N => k_asm); (case hap => assumption); (case hz => first | exact Nat.zero_le _ | (simp only [List.size_toArray, List.length_append, List.length_cons, List.length_nil]; omega)); intro h8' F' N'; (try k_sweep)))
local macro_rules | `(tactic| walk_at "truthy ref") => `(tactic| (k_here; (with_reducible refine' u_truthy1 ?N ?hm ?hz ?_); (case N => k_asm); (case hm => exact List.mem_cons_self); (case hz => assumption)))
local macro_rules | `(tactic| walk_at "subscriptTail") => `(tactic| (k_here; (with_reducible refine' u_last ?N ?hm ?hz ?hs ?hg ?_); (case N => k_asm); (case hm => exact List.mem_cons_self); (case hz => assumption); (case hs => with_unfolding_all rfl); (case hg => intro _; with_unfolding_all rfl)))

noncomputable def fbA : {l : List Stmt // l = forBody (sAt fb2990.val 3)} := ⟨_, by conv => rhs; whnf⟩
theorem body_all0 {I M x dx ip : Addr} {oI : Obj} {t1 t2 t3 tv tp : Tok} {n nM : Nat} {d : ND} {u : Int} {k' : Kd} {J : (Str → Option Value) → List (Addr × Obj) → Prop} {L' : Addr} (F : Fr h₀ L' s.heap (mapM (Str.ofString "matches") (some (.ref x)) (some (.ref M)) ip m0)) (N : News h₀ L' s.heap ((M, listOf #[] nM) :: (I, oI) :: own)) (hMI : ∀ q ∈ (I, oI) :: own, q.1 ≠ M) (X : (K w.params).In h₀) (T : Top p loose mean mg mb h₀)
    (hx : (x, instObj 2868 dx) ∈ own) (hd : (dx, dictOf (netEs w.params t1 t2 t3 d.v tv d.k.addr d.p tp) n) ∈ own) (HY : AddrIn w.params own ip u k') (hp : 0 ≤ d.p ∧ d.p ≤ d.k.wid) (hroom : ad + 18 < recursionLimit) 
    (h1 : hasB d.k d.v d.p k' u = true → J (mapM (Str.ofString "matches") (some (.ref x)) (some (.ref M)) ip m0) [(M, listOf (#[].push (.ref x)) (nM + 1))])
    (h2 : hasB d.k d.v d.p k' u = false → J (mapM (Str.ofString "matches") (some (.ref x)) (some (.ref M)) ip m0) [(M, listOf #[] nM)]) :
    wpAny (model pwL w) (mkA ad afr ags au) (execs fbA.val (envX (Str.ofString "all_matching_cidrs") fs2990.val L' 2990 (.ref 2989) [])) (TurnO h₀ L' [M] ((I, oI) :: own) J Q s) (fun _ _ => False) s := by
  have HN : NetIn w.params own x d.v d.p d.k := ⟨dx, t1, t2, t3, tv, tp, n, hx, hd⟩
  unfold netEs at hd
  simp only [fbA]
  (try k_fold)
  k_steps
  · rename_i hb h2 F' N'
    exact ⟨_, _, [(M, _)], _, rfl, F', N', rfl, h1 hb⟩
  · rename_i F' N' hb
    exact ⟨_, _, [(M, _)], _, rfl, F', N', rfl, h2 hb⟩
theorem body_all1 {I M x dx xm dm ip : Addr} {oI : Obj} {t1 t2 t3 tv tp r1 r2 r3 rv rp : Tok} {n nm nM : Nat} {d dd : ND} {u : Int} {k' : Kd} {pre : List Value} {J : (Str → Option Value) → List (Addr × Obj) → Prop} {L' : Addr} (F : Fr h₀ L' s.heap (mapM (Str.ofString "matches") (some (.ref x)) (some (.ref M)) ip m0)) (N : News h₀ L' s.heap ((M, listOf (List.toArray (pre ++ [.ref xm])) nM) :: (I, oI) :: own)) (hMI : ∀ q ∈ (I, oI) :: own, q.1 ≠ M) (X : (K w.params).In h₀) (T : Top p loose mean mg mb h₀)
    (hx : (x, instObj 2868 dx) ∈ own) (hd : (dx, dictOf (netEs w.params t1 t2 t3 d.v tv d.k.addr d.p tp) n) ∈ own) (mx : (xm, instObj 2868 dm) ∈ own) (md : (dm, dictOf (netEs w.params r1 r2 r3 dd.v rv dd.k.addr dd.p rp) nm) ∈ own) (hpm : 0 ≤ dd.p ∧ dd.p ≤ dd.k.wid) (HY : AddrIn w.params own ip u k') (hp : 0 ≤ d.p ∧ d.p ≤ d.k.wid) (hroom : ad + 18 < recursionLimit) (hzz : pre.length < 999)
    (h1 : hasB d.k d.v d.p k' u = true → J (mapM (Str.ofString "matches") (some (.ref x)) (some (.ref M)) ip m0) [(M, listOf ((List.toArray (pre ++ [.ref xm])).push (.ref x)) (nM + 1))])
    (h2 : hasB d.k d.v d.p k' u = false → hasB dd.k dd.v dd.p d.k (firstI d.k d.v d.p) = true → J (mapM (Str.ofString "matches") (some (.ref x)) (some (.ref M)) ip m0) [(M, listOf (List.toArray (pre ++ [.ref xm])) nM)])
    (h3 : hasB d.k d.v d.p k' u = false → hasB dd.k dd.v dd.p d.k (firstI d.k d.v d.p) = false → ∀ h' tk, Fr h₀ L' h' (mapM (Str.ofString "matches") (some (.ref x)) (some (.ref M)) ip m0) → News h₀ L' h' ((M, listOf (List.toArray (pre ++ [.ref xm])) nM) :: (I, oI) :: own) → Q .next { s with heap := h', toks := tk }) :
    wpAny (model pwL w) (mkA ad afr ags au) (execs fbA.val (envX (Str.ofString "all_matching_cidrs") fs2990.val L' 2990 (.ref 2989) [])) (TurnO h₀ L' [M] ((I, oI) :: own) J Q s) (fun _ _ => False) s := by
  have HN : NetIn w.params own x d.v d.p d.k := ⟨dx, t1, t2, t3, tv, tp, n, hx, hd⟩
  have HMm : NetIn w.params own xm dd.v dd.p dd.k := ⟨dm, r1, r2, r3, rv, rp, nm, mx, md⟩
  unfold netEs at hd md
  simp only [fbA]
  (try k_fold)
  k_steps
  · rename_i hb h2 F' N'
    exact ⟨_, _, [(M, _)], _, rfl, F', N', rfl, h1 hb⟩
  · rename_i F' N' hb
    exact ⟨_, _, [(M, _)], _, rfl, F', fun q hq => N' q (.tail _ (.tail _ hq)), rfl, h2 (by assumption) hb⟩
  · rename_i F' N' hb
    exact h3 (by assumption) hb _ _ F' (fun q hq => N' q (.tail _ (.tail _ hq)))
end
end Mine
end JC25

section JW
open PySem PySem.W PyProof.Rows PySem.Calls
open Mine
local macro_rules | `(tactic| k_inst) => `(tactic| first | (refine' InstAt_keeps ?I ?k; (case I => assumption); (case k => exact Fr.keep (by k_asm))) | fail "no ground")
local macro_rules | `(tactic| walk_at "getAttr ref") => `(tactic| (k_here; (with_reducible first | refine get_width (by k_in) ?_ | refine get_version (by k_in) ?_ | refine get_max (by k_in) ?_)))
section JC26
open PySem PySem.W PyProof.Rows PySem.Calls
set_option Elab.async false
set_option maxRecDepth 100000
set_option maxHeartbeats 4000000
namespace Mine
section
variable {w : World} {ad au : Nat} {afr : Option (List Env)} {ags : Option (List Code)} {s : Shared} {h₀ : Heap} {L : Addr} {m m0 : Str → Option Value} {news own : List (Addr × Obj)} {mg mb : Str → Option Value} {p : Program} {loose : List Str} {mean : ExcName → Option Value} {R : Result → Shared → Prop} {Q : Flow → Shared → Prop} {E : Value → Shared → Prop} {e : Bool}
noncomputable def allGo (k' : Kd) (u : Int) : List ND → List ND → List ND
  | ms, [] => ms
  | ms, d :: es => if hasB d.k d.v d.p k' u then allGo k' u (ms ++ [d]) es else match ms.getLast? with
    | none => allGo k' u ms es
    | some b => if hasB b.k b.v b.p d.k (firstI d.k d.v d.p) then allGo k' u ms es else ms
noncomputable def allOf (k' : Kd) (u : Int) (es : List ND) : List ND := allGo k' u [] es
noncomputable def ValsV (P : Params) (objs : List (Addr × Obj)) (hA h : Heap) (es : List ND) (vals : List Value) (ms : List ND) : Prop :=
  vals.length = ms.length ∧ ∀ (j : Nat) (y : Value) (d : ND), vals[j]? = some y → ms[j]? = some d → MatchV P objs hA h es y (some d)
theorem ValsV.out {P : Params} {g hA h h' : Heap} {L' : Addr} {news objs : List (Addr × Obj)} {es : List ND} {vals : List Value} {ms : List ND} (M : ValsV P objs hA h es vals ms) (N : News g L' h news) (N' : News g L' h' news) (hs : ∀ q ∈ objs, q ∈ news) : NetsF P hA h' vals ms :=
  ⟨M.1, fun j y d a b => (M.2 j y d a b).out (r := some d) N N' hs⟩
theorem ValsV.push {P : Params} {hA h : Heap} {objs : List (Addr × Obj)} {es : List ND} {vals : List Value} {ms : List ND} {y : Value} {d : ND} (M : ValsV P objs hA h es vals ms) (Y : MatchV P objs hA h es y (some d)) : ValsV P objs hA h es (vals ++ [y]) (ms ++ [d]) := by
  refine ⟨by simp [M.1], fun j y' d' a b => ?_⟩
  by_cases hj : j < vals.length
  · rw [List.getElem?_append_left hj] at a
    rw [List.getElem?_append_left (by rw [← M.1]; exact hj)] at b
    exact M.2 j y' d' a b
  · rw [List.getElem?_append_right (by omega)] at a
    rw [List.getElem?_append_right (by rw [← M.1]; omega)] at b
    have e : j - vals.length = 0 := by
      cases h : j - vals.length with
      | zero => rfl
      | succ n => rw [h] at a; simp at a
    rw [← M.1] at b
    rw [e] at a b
    simp at a b
    subst a; subst b
    exact Y
theorem loop_all {px pos : Pos} {L' l M ip : Addr} {vs : List Value} {nl : Nat} {ds : List ND} {u : Int} {k' : Kd} {rest : List (Addr × Obj)} {g : Heap} (F : Fr g L' s.heap (mapM (Str.ofString "matches") none (some (.ref M)) ip m0)) (N : News g L' s.heap ((2987, tabObj #[]) :: (M, listOf #[] 0) :: (l, listOf (List.toArray vs) nl) :: rest)) (X : (K w.params).In g) (T : Top p loose mean mg mb g)
    (hY : AddrIn w.params rest ip u k') (hM : ∀ q ∈ (l, listOf (List.toArray vs) nl) :: rest, q.1 ≠ M) (hMt : M ≠ 2987) (hne : ∀ q ∈ (l, listOf (List.toArray vs) nl) :: rest, q.1 ≠ 2987) (hm : m0 (Str.ofString "cidrs") = some (.ref l)) (hds : NetsD w.params s.heap vs ds) (hok : ∀ d ∈ ds, d.ok) (h64 : vs.length < 64) (hroom : ad + 18 < recursionLimit)
    (hQ : ∀ vals es nM h' tk ps c, es.Perm ds → SortedND es → Fr g L' h' (mapM (Str.ofString "matches") c (some (.ref M)) ip m0) → News g L' h' ((2987, tabObj ps) :: (M, listOf (List.toArray vals) nM) :: (l, listOf (List.toArray vs) nl) :: rest) → NetsF w.params s.heap h' vals (allOf k' u es) → Q .next { s with heap := h', toks := tk }) :
    wpAny (model pwL w) (mkA ad afr ags au) (exec (.For (.Name (Str.ofString "cidr") px) sx2990.val fbA.val [] pos) (envX (Str.ofString "all_matching_cidrs") fs2990.val L' 2990 (.ref 2989) [])) Q E s := by
  have hT := N.get (a := 2987) (o := tabObj #[]) (.head _)
  have hT0 := (N _ (.head _)).2.2
  have hTL := (N _ (.head _)).2.1
  have gM := N.get (a := M) (o := listOf #[] 0) (.tail _ (.head _))
  refine For_own (g := g) rfl rfl rfl ?_
  refine sorted2990 (l := l) F X T hm ⟨_, N.get (.tail _ (.tail _ (.head _))), rfl, _, rfl⟩ hds hok h64 hT (by rw [hT0]; exact fun q => by cases q) (by omega) ?_
  intro D vs' es n h' tk ps k hP nD gD NF pe so
  obtain ⟨F1, objs, N1, H1, fo⟩ := own_made' F hT0 (Ne.symm hTL) k hP nD gD NF (fun q hq => N q (.tail _ hq)) (fun q hq => by rcases List.mem_cons.mp hq with rfl | hq; exact hMt; exact hne q hq)
  have lenE : vs'.length = es.length := NF.1
  have lenD : es.length < 64 := by rw [pe.length_eq, ← hds.len]; exact h64
  have okE : ∀ d ∈ es, d.ok := fun d hd => hok d (pe.mem_iff.mp hd)
  have hsub : ∀ q ∈ objs, q ∈ (D, listOf (List.toArray vs') n) :: (2987, tabObj ps) :: (objs ++ (l, listOf (List.toArray vs) nl) :: rest) := fun q hq => .tail _ (.tail _ (List.mem_append_left _ hq))
  have hMo : ∀ q ∈ (D, listOf (List.toArray vs') n) :: (2987, tabObj ps) :: (objs ++ (l, listOf (List.toArray vs) nl) :: rest), q.1 ≠ M := by
    intro q hq
    rcases List.mem_cons.mp hq with rfl | hq
    · exact fun e => by dsimp only at e; rw [e, gM] at nD; cases nD
    · rcases List.mem_cons.mp hq with rfl | hq
      · exact Ne.symm hMt
      · rcases List.mem_append.mp hq with hq | hq
        · exact fun e => by have := fo q hq; rw [e, gM] at this; cases this
        · exact hM q hq
  have N1' : News g L' h' ([(M, listOf #[] 0)] ++ ((D, listOf (List.toArray vs') n) :: (2987, tabObj ps) :: (objs ++ (l, listOf (List.toArray vs) nl) :: rest))) := fun q hq => N1 q (by
    simp only [List.mem_cons, List.mem_append, List.not_mem_nil, or_false] at hq ⊢
    rcases hq with h | h | h | h | h | h <;> simp [h])
  have N1o : News g L' h' ((D, listOf (List.toArray vs') n) :: (2987, tabObj ps) :: (objs ++ (l, listOf (List.toArray vs) nl) :: rest)) := fun q hq => N1' q (List.mem_append_right _ hq)
  refine ⟨D, vs', _, (D, listOf (List.toArray vs') n) :: (2987, tabObj ps) :: (objs ++ (l, listOf (List.toArray vs) nl) :: rest), [(M, listOf #[] 0)], fun i m lg => ∃ c vals ms nM, m = mapM (Str.ofString "matches") c (some (.ref M)) ip m0 ∧ lg = [(M, listOf (List.toArray vals) nM)] ∧ allOf k' u es = allGo k' u ms (es.drop i) ∧ ValsV w.params objs s.heap h' es vals ms ∧ vals.length ≤ i, n, rfl, .head _, F1, N1', ⟨_, [], [], 0, rfl, rfl, rfl, ⟨rfl, fun j y d a => by simp at a⟩, Nat.le_refl _⟩, ?_, ?_⟩
  · rintro i v mm lg' I oI s' hv ⟨h2, tk2, rfl⟩ F2 N2 nI hlg ⟨c, vals, ms, nM, rfl, rfl, hG, hV, hle⟩
    have hi : i < es.length := by rw [← lenE]; exact (List.getElem?_eq_some_iff.mp hv).1
    have he : es[i]? = some es[i] := List.getElem?_eq_getElem hi
    obtain ⟨x, rfl, fx, HN, NFx⟩ := H1 i v es[i] hv he
    rw [mapM_c] at F2
    rw [List.drop_eq_getElem_cons hi] at hG
    have hin : es[i] ∈ es := List.getElem_mem hi
    generalize es[i] = d at *
    have HN' := HN
    obtain ⟨dx, t1, t2, t3, tv, tp, nn, m1, m2⟩ := HN'
    have hMI : ∀ q ∈ (I, oI) :: (D, listOf (List.toArray vs') n) :: (2987, tabObj ps) :: (objs ++ (l, listOf (List.toArray vs) nl) :: rest), q.1 ≠ M := by
      intro q hq
      rcases List.mem_cons.mp hq with rfl | hq
      · exact Ne.symm (nI _ (.head _))
      · exact hMo q hq
    have hY' : AddrIn w.params ((D, listOf (List.toArray vs') n) :: (2987, tabObj ps) :: (objs ++ (l, listOf (List.toArray vs) nl) :: rest)) ip u k' := by
      obtain ⟨dy, y1, y2, yv, yn, z1, z2⟩ := hY
      exact ⟨dy, y1, y2, yv, yn, .tail _ (.tail _ (List.mem_append_right _ (.tail _ z1))), .tail _ (.tail _ (List.mem_append_right _ (.tail _ z2)))⟩
    have MX : MatchV w.params objs s.heap h' es (.ref x) (some d) := ⟨hin, x, rfl, HN, NFx⟩
    rcases List.eq_nil_or_concat ms with rfl | ⟨mp, b, rfl⟩
    · have ev : vals = [] := List.eq_nil_of_length_eq_zero hV.1
      subst ev
      refine body_all0 (u := u) (k' := k') (d := d) F2 N2 hMI X T (hsub _ m1) (hsub _ m2) hY' (okE _ hin).1 hroom ?_ ?_
      · intro hb
        refine ⟨_, [.ref x], [d], nM + 1, rfl, rfl, ?_, hV.push MX, by simp⟩
        rw [hG]; simp [allGo, hb]
      · intro hb
        refine ⟨_, [], [], nM, rfl, rfl, ?_, hV, by omega⟩
        rw [hG]; simp [allGo, hb]
    · rw [List.concat_eq_append] at *
      rcases List.eq_nil_or_concat vals with rfl | ⟨vp, y, rfl⟩
      · have := hV.1; simp at this
      rw [List.concat_eq_append] at *
      have lp : vp.length = mp.length := by have := hV.1; simpa using this
      obtain ⟨hbin, xm, rfl, HM, NM⟩ := hV.2 vp.length y b (by simp) (by rw [lp]; simp)
      have HM' := HM
      obtain ⟨dm, r1, r2, r3, rv, rp, nm, mx, md⟩ := HM'
      refine body_all1 (u := u) (k' := k') (d := d) (dd := b) F2 N2 hMI X T (hsub _ m1) (hsub _ m2) (hsub _ mx) (hsub _ md) (okE _ hbin).1 hY' (okE _ hin).1 hroom (by simp at hle; omega) ?_ ?_ ?_
      · intro hb
        refine ⟨_, (vp ++ [.ref xm]) ++ [.ref x], (mp ++ [b]) ++ [d], nM + 1, rfl, by rw [List.push_toArray], ?_, hV.push MX, by simp at hle ⊢; omega⟩
        rw [hG]; simp [allGo, hb]
      · intro hb hc
        refine ⟨_, vp ++ [.ref xm], mp ++ [b], nM, rfl, rfl, ?_, hV, by omega⟩
        rw [hG]; simp [allGo, hb, hc]
      · intro hb hc h3 tk3 F3 N3
        refine hQ (vp ++ [.ref xm]) es nM h3 tk3 ps _ pe so F3 (fun q hq => N3 q ?_) ?_
        · simp only [List.mem_cons, List.mem_append] at hq ⊢
          rcases hq with h | h | h | h <;> simp [h]
        · have e1 : allOf k' u es = mp ++ [b] := by rw [hG]; simp [allGo, hb, hc]
          rw [e1]
          exact hV.out N1o (fun q hq => N3 q (.tail _ (.tail _ hq))) hsub
  · rintro h2 mm lg' tk2 F2 N2 hlg ⟨c, vals, ms, nM, rfl, rfl, hG, hV, hle⟩
    rw [List.drop_eq_nil_of_le (Nat.le_of_eq lenE.symm)] at hG
    refine hQ vals es nM h2 tk2 ps _ pe so F2 (fun q hq => N2 q ?_) ?_
    · simp only [List.mem_cons, List.mem_append, List.not_mem_nil, or_false] at hq ⊢
      rcases hq with h | h | h | h <;> simp [h]
    · have e1 : allOf k' u es = ms := by rw [hG]; rfl
      rw [e1]
      exact hV.out N1o (fun q hq => N2 q (List.mem_append_right _ hq)) hsub
local macro_rules | `(tactic| walk_at "call ref") => `(tactic| (k_here; (try dsimp only [List.nil_append, List.cons_append]); (with_reducible refine' u_addrcopy ?F ?N ?X ?T ?y ?hA ?r ?_); (case F => k_asm); (case N => k_asm); (case X => k_asm); (case T => k_asm); (case y => first | assumption | exact AddrAt.keeps (by assumption) (Fr.keep (by k_asm))); (case hA => rfl); (case r => (first | omega | (simp only [depth_under_make, depth_under_kw, depth_in1, depth_deeper]; omega) | (simp only [Around.deeper, Around.in1, Around.under]; omega))); intro x8' d8' t1' t2' tv' n8' h8' tk8 st8' F' N' a8 b8 l8; simp only [AllNe, and_true] at a8 b8; (try k_sweep)))
local macro_rules | `(tactic| walk_at "exec For Name Call cons nil") => `(tactic| (k_here; refine Stop.go ?_))
theorem c_all {y l nl : Nat} {vs : List Value} {ds : List ND} {u : Int} {k' : Kd} (X : (K w.params).In h₀) (T : Top p loose mean mg mb h₀) (st : h₀.StaysIn s.heap) (hP0 : h₀.get? 2987 = none) (hl0 : h₀.get? l = none) (hP : s.heap.get? 2987 = some (tabObj #[])) (hl : s.heap.get? l = some (listOf (List.toArray vs) nl))
    (hY : AddrAt w.params s.heap y u k') (hds : NetsD w.params s.heap vs ds) (hok : ∀ d ∈ ds, d.ok) (h64 : vs.length < 64) (hroom : ad + 20 < recursionLimit)
    (hR : ∀ M vals nM es h' tk ps, (∀ b o, b ≠ 2987 → s.heap.get? b = some o → h'.get? b = some o) → h'.get? 2987 = some (tabObj ps) → es.Perm ds → SortedND es → s.heap.get? M = none → h'.get? M = some (listOf (List.toArray vals) nM) → NetsF w.params s.heap h' vals (allOf k' u es) → R (.ok (.ret (.ref M))) { s with heap := h', toks := tk }) :
    codeAny (model pwL w) (mkA ad afr ags au) (.call (.ref 2990) ⟨[.ref y, .ref l], []⟩) R s := by
  have lP : l ≠ 2987 := fun q => by rw [q, hP] at hl; cases hl
  have hn : ∀ q ∈ [(2987, tabObj #[]), (l, listOf (List.toArray vs) nl)], s.heap.get? q.1 = some q.2 ∧ h₀.get? q.1 = none := by
    intro q hq
    rcases List.mem_cons.mp hq with rfl | hq
    · exact ⟨hP, hP0⟩
    · rcases List.mem_singleton.mp hq with rfl
      exact ⟨hl, hl0⟩
  refine' enterX (h₀ := h₀) (news := [(2987, tabObj #[]), (l, listOf (List.toArray vs) nl)]) (binds := [(Str.ofString "ip", .ref y), (Str.ofString "cidrs", .ref l)]) (cl := []) st hn X T ?ho ?hc ?hr ?hb ?hl ?_ ?c1 ?c2 ?c3 ?c4
  case ho => k_is
  case hc => k_is
  case hr => (first | omega | (simp only [depth_under_make, depth_under_kw, depth_in1, depth_deeper]; omega) | (simp only [Around.deeper, Around.in1, Around.under]; omega))
  case hb => exact BindsTo.of_eq rfl
  case hl => exact locs rfl
  case c1 => rfl
  case c2 => rfl
  case c3 => rfl
  case c4 => decide
  intro g L' h₁ hg' F1 N1 X1 T1 sg G l1
  have kG : keptOut [2987, l] s.heap g := fun b o hb e => G b o e (by simpa using hb)
  have hw2 : ∀ b ∈ [(2987 : Addr), l], ∀ o, s.heap.get? b = some o → ((∃ xs, o.data = .fields xs) ∨ (∃ xs n, o.data = .seq xs n)) ∧ ∀ c, o.cls ≠ .ref c := by
    intro b hb o e
    rcases List.mem_cons.mp hb with rfl | hb
    · rw [hP] at e; cases e; exact ⟨.inl ⟨_, rfl⟩, fun _ q => by cases q⟩
    · rw [List.mem_singleton.mp hb, hl] at e; cases e; exact ⟨.inr ⟨_, _, rfl⟩, fun _ q => by cases q⟩
  have nd : ∀ b ∈ [(2987 : Addr), l], ∀ o, s.heap.get? b = some o → ∀ es n, o.data ≠ .dict es n := fun b hb o e es n q => by
    rcases (hw2 b hb o e).1 with ⟨xs, z⟩ | ⟨xs, n', z⟩ <;> rw [z] at q <;> cases q
  have hY1 : AddrAt w.params g y u k' := hY.keepBut kG fun b hb o e => ⟨(hw2 b hb o e).2 _, nd b hb o e⟩
  have hds1 : NetsD w.params g vs ds := hds.keepBut kG fun b hb o e => ⟨(hw2 b hb o e).2 _, nd b hb o e⟩
  have hY0 := hY1
  obtain ⟨dy, u1, u2, uv, un, ya, yd⟩ := hY0
  have J : InstAt g y (instObj 2565 dy) 2565 (some (dictOf (addrEs w.params u1 u2 u uv k'.addr) un)) := ⟨ya, rfl, rfl, yd⟩
  unfold addrEs at J
  simp only [fb2990]
  (try k_fold)
  k_steps
  rename_i Ml h2 ltM h2b tk0a Dt h3 ltt tk0 xa da u1' u2' uv' un' h4 tk4 st4 la aa ba h5 F5 N5
  unfold Stop
  have em : (fun y_1 => if y_1 = Str.ofString "ip" then some (Value.ref xa) else if y_1 = Str.ofString "matches" then some (Value.ref Ml) else List.lookup y_1 [(Str.ofString "ip", Value.ref y), (Str.ofString "cidrs", Value.ref l)].reverse) = mapM (Str.ofString "matches") none (some (Value.ref Ml)) xa (fun y_1 => List.lookup y_1 [(Str.ofString "ip", Value.ref y), (Str.ofString "cidrs", Value.ref l)].reverse) := by
    funext z
    by_cases h1 : z = Str.ofString "cidr"
    · subst h1; rfl
    · by_cases h2 : z = Str.ofString "matches"
      · subst h2; rfl
      · simp only [mapM, h1, h2, if_false]
  rw [em] at F5
  refine loop_all (g := g) (u := u) (k' := k') (M := Ml) (vs := vs) (nl := nl) (l := l) (ds := ds) (rest := [(xa, instObj 2565 da), (da, dictOf (addrEs w.params u1' u2' u uv' k'.addr) un'), (Dt, { cls := Value.type "tuple", data := Data.seq #[Value.type "int", Value.ref 2565] })]) F5 (fun q hq => N5 q ?_) X1 T1 ⟨da, u1', u2', uv', un', .head _, .tail _ (.head _)⟩ ?_ (Ne.symm (Nat.ne_of_lt ltM.1)) ?_ rfl (hds1.keeps F5.keep) hok h64 (show ad + 1 + 18 < recursionLimit by omega) ?_
  · simp only [List.mem_cons, List.not_mem_nil, or_false] at hq ⊢
    rcases hq with h | h | h | h | h | h <;> simp [h]
  · intro q hq
    simp only [List.mem_cons, List.not_mem_nil, or_false] at hq
    rcases hq with rfl | rfl | rfl | rfl
    · exact Nat.ne_of_lt ltM.2
    · exact Ne.symm aa.2.1
    · exact Ne.symm ba.2.1
    · exact Ne.symm (Nat.ne_of_lt ltt.1)
  · intro q hq
    simp only [List.mem_cons, List.not_mem_nil, or_false] at hq
    rcases hq with rfl | rfl | rfl | rfl
    · exact lP
    · exact Ne.symm aa.2.2.1
    · exact Ne.symm ba.2.2.1
    · exact Ne.symm (Nat.ne_of_lt ltt.2.1)
  · intro vals es nM h6 tk6 ps c pe so F6 N6 hO
    have l5 : ∀ b o, s.heap.get? b = some o → ∃ o', h5.get? b = some o' := fun b o e => by
      by_cases b1 : b = 2987
      · subst b1; exact ⟨_, N5.get (a := 2987) (o := tabObj #[]) (by simp)⟩
      · by_cases b2 : b = l
        · subst b2; exact ⟨_, N5.get (a := b) (o := listOf vs.toArray nl) (by simp)⟩
        · exact ⟨o, F5.keep _ _ (G b o e (by simp [b1, b2]))⟩
    have hO' : NetsF w.params s.heap h6 vals (allOf k' u es) := ⟨hO.1, fun j y d a b => (hO.2 j y d a b).back fun b e => by
      cases z : s.heap.get? b with
      | none => rfl
      | some o => obtain ⟨o', e'⟩ := l5 b o z; rw [e'] at e; cases e⟩
    have hk : ∀ b o, b ≠ 2987 → s.heap.get? b = some o → h6.get? b = some o := fun b o b1 e => by
      by_cases b2 : b = l
      · subst b2; rw [hl] at e; cases e; exact N6.get (.tail _ (.tail _ (.head _)))
      · exact F6.keep _ _ (G b o e (by simp [b1, b2]))
    have hMf : s.heap.get? Ml = none := fresh_back G (N6 _ (.tail _ (.head _))).2.2 (by
      simp only [List.map_cons, List.map_nil, List.mem_cons, List.not_mem_nil, or_false]
      rintro (e | e)
      · exact absurd e (Ne.symm (Nat.ne_of_lt ltM.1))
      · exact absurd e.symm (Nat.ne_of_lt ltM.2))
    have hR' := hR Ml vals nM es h6 tk6 ps hk (N6.get (.head _)) pe so hMf (N6.get (.tail _ (.head _))) hO'
    clear hO hO' hk l5 em F5 N5 pe so hMf
    dsimp only
    k_steps
    exact hR'
end
end Mine
end JC26

section JC27
open PySem PySem.W PyProof.Rows PySem.Calls
set_option Elab.async false
set_option maxRecDepth 100000
set_option maxHeartbeats 4000000
namespace Mine
section
variable {w : World} {ad au : Nat} {afr : Option (List Env)} {ags : Option (List Code)} {s : Shared} {h₀ : Heap} {L : Addr} {m m0 : Str → Option Value} {news own : List (Addr × Obj)} {mg mb : Str → Option Value} {p : Program} {loose : List Str} {mean : ExcName → Option Value} {R : Result → Shared → Prop} {Q : Flow → Shared → Prop} {E : Value → Shared → Prop} {e : Bool}
theorem take2_is {ws : List Value} {ns : List Int} (h : IntsAre ws (List.take 2 (ns ++ [0, 0]))) (hb : ∀ n ∈ ns, Builtin.Int.intBits n ≤ 1048576) : ∃ a ta b tb, ws = [.int a ta, .int b tb] ∧ Builtin.Int.intBits b ≤ 1048576 := by
  have e : ∃ a b, List.take 2 (ns ++ [0, 0]) = [a, b] ∧ Builtin.Int.intBits b ≤ 1048576 := by
    match ns with
    | [] => exact ⟨_, _, rfl, by decide⟩
    | [x] => exact ⟨_, _, rfl, by decide⟩
    | x :: y :: l => exact ⟨x, y, rfl, hb y (by simp)⟩
  obtain ⟨a, b, e, hb⟩ := e
  rw [e] at h
  cases h with
  | cons x t h => cases h with
    | cons y u h => cases h; exact ⟨_, _, _, _, rfl, hb⟩
theorem cbits : Builtin.Int.intBits 210306068529402873165736369884012333109 ≤ 128 := by decide +kernel
theorem fmod_in (b : Int) (k : Kd) : 0 ≤ b.fmod (k.max + 1) ∧ b.fmod (k.max + 1) ≤ k.max := by
  have h : 0 < k.max + 1 := by cases k <;> decide
  exact ⟨Int.fmod_nonneg_of_pos _ h, Int.lt_add_one_iff.mp (Int.fmod_lt_of_pos _ h)⟩
theorem place_in {k : Kd} {b c : Int} : ∀ i : Nat, 0 ≤ [b.fmod (k.max + 1), c.fmod (k.max + 1), 0, k.max].getD i 0 ∧ [b.fmod (k.max + 1), c.fmod (k.max + 1), 0, k.max].getD i 0 ≤ k.max := by
  have h0 : 0 ≤ k.max := by cases k <;> decide
  intro i
  match i with
  | 0 => exact fmod_in b k
  | 1 => exact fmod_in c k
  | 2 => exact ⟨Int.le_refl _, h0⟩
  | 3 => exact ⟨h0, Int.le_refl _⟩
  | n + 4 => simp [h0]
noncomputable abbrev up (x : String) (v : Value) (m : Str → Option Value) : Str → Option Value := fun y => if y = Str.ofString x then some v else m y
noncomputable abbrev law0 (sc : Addr) : Str → Option Value := fun y => List.lookup y [(Str.ofString "script", Value.ref sc)].reverse
noncomputable abbrev law1 (sc : Addr) (a b : Int) (ta tb : Tok) : Str → Option Value := up "b" (.int b tb) (up "a" (.int a ta) (law0 sc))
local macro_rules | `(tactic| walk_at "assign Tuple") => `(tactic| (k_here; (rename IntsAre _ (List.take 2 _) => hI'); (obtain ⟨a', ta', b', tb', e', hb'⟩ := take2_is hI' (by assumption)); subst e'; clear hI'))
local macro_rules | `(tactic| walk_at "binaryOp Mult int int") => `(tactic| (k_here; refine PyProof.Rows.mul_int ?_ (mulOk_of_bits (m := 1048576) (n := 128) (by assumption) cbits (by decide))))
theorem st0 {sc : Addr} {u1 u2 u3 : Obj} {vs : List Value} {ns : List Int} (F : Fr h₀ L s.heap (law0 sc)) (N : News h₀ L s.heap [(2977, u1), (2982, u2), (2987, u3)]) (X : (K w.params).In h₀) (T : Top p loose mean mg mb h₀) (hS : h₀.IsList sc vs.toArray) (hi : IntsAre vs ns) (hlen : ns.length ≤ 63) (hb : ∀ n ∈ ns, Builtin.Int.intBits n ≤ 1048576) (hroom : ad + 40 < recursionLimit)
    (h : ∀ a b ta tb h' tk, Builtin.Int.intBits b ≤ 1048576 → Fr h₀ L h' (law1 sc a b ta tb) → News h₀ L h' [(2977, u1), (2982, u2), (2987, u3)] → Q .next { s with heap := h', toks := tk }) :
    wpAny (model pwL w) (mkA ad afr ags au) (exec (sAt fb2995.val 0) (envX (Str.ofString "law") fs2995.val L 2995 (.ref 2994) [])) Q E s := by
  simp only [fb2995, sAt, List.getD, List.getElem?_cons_zero, List.getElem?_cons_succ, Option.getD_some]
  (try k_fold)
  k_steps
  rename_i N'
  exact h _ _ _ _ _ _ (by assumption) (by assumption) (fun q hq => N' q (.tail _ (.tail _ (.tail _ hq))))
theorem st1 {sc : Addr} {a b : Int} {ta tb : Tok} (F : Fr h₀ L s.heap (law1 sc a b ta tb)) (N : News h₀ L s.heap news) (X : (K w.params).In h₀) (T : Top p loose mean mg mb h₀) 
    (h : ∀ (k : Kd) tok h' tk, Fr h₀ L h' (up "kind" (.int k.ver tok) (law1 sc a b ta tb)) → News h₀ L h' news → Q .next { s with heap := h', toks := tk }) :
    wpAny (model pwL w) (mkA ad afr ags au) (exec (sAt fb2995.val 1) (envX (Str.ofString "law") fs2995.val L 2995 (.ref 2994) [])) Q E s := by
  simp only [fb2995, sAt, List.getD, List.getElem?_cons_zero, List.getElem?_cons_succ, Option.getD_some]
  (try k_fold)
  k_steps
  · exact h .v6 _ _ _ (by assumption) (by assumption)
  · exact h .v4 _ _ _ (by assumption) (by assumption)
theorem st2 {sc : Addr} {a b : Int} {ta tb tok : Tok} {k : Kd} (F : Fr h₀ L s.heap (up "kind" (.int k.ver tok) (law1 sc a b ta tb))) (N : News h₀ L s.heap news) (X : (K w.params).In h₀) (T : Top p loose mean mg mb h₀) 
    (h : ∀ tok2 h' tk, Fr h₀ L h' (up "bits" (.int k.wid tok2) (up "kind" (.int k.ver tok) (law1 sc a b ta tb))) → News h₀ L h' news → Q .next { s with heap := h', toks := tk }) :
    wpAny (model pwL w) (mkA ad afr ags au) (exec (sAt fb2995.val 2) (envX (Str.ofString "law") fs2995.val L 2995 (.ref 2994) [])) Q E s := by
  simp only [fb2995, sAt, List.getD, List.getElem?_cons_zero, List.getElem?_cons_succ, Option.getD_some]
  (try k_fold)
  cases k <;> (simp only [Kd.ver] at F; k_steps; exact h _ _ _ (by assumption) (by assumption))
theorem st3 {sc : Addr} {a b : Int} {ta tb tok tok2 : Tok} {k : Kd} (F : Fr h₀ L s.heap (up "bits" (.int k.wid tok2) (up "kind" (.int k.ver tok) (law1 sc a b ta tb)))) (N : News h₀ L s.heap news) (X : (K w.params).In h₀) (T : Top p loose mean mg mb h₀) 
    (h : ∀ tok3 h' tk, Fr h₀ L h' (up "top" (.int k.max tok3) (up "bits" (.int k.wid tok2) (up "kind" (.int k.ver tok) (law1 sc a b ta tb)))) → News h₀ L h' news → Q .next { s with heap := h', toks := tk }) :
    wpAny (model pwL w) (mkA ad afr ags au) (exec (sAt fb2995.val 3) (envX (Str.ofString "law") fs2995.val L 2995 (.ref 2994) [])) Q E s := by
  simp only [fb2995, sAt, List.getD, List.getElem?_cons_zero, List.getElem?_cons_succ, Option.getD_some]
  (try k_fold)
  cases k <;> (simp only [Kd.ver, Kd.wid] at F; k_steps; exact h _ _ _ (by assumption) (by assumption))
theorem st4 {sc : Addr} {a b : Int} {ta tb tok tok2 tok3 : Tok} {k : Kd} (F : Fr h₀ L s.heap (up "top" (.int k.max tok3) (up "bits" (.int k.wid tok2) (up "kind" (.int k.ver tok) (law1 sc a b ta tb))))) (N : News h₀ L s.heap news) (X : (K w.params).In h₀) (T : Top p loose mean mg mb h₀) (hb : Builtin.Int.intBits b ≤ 1048576)
    (h : ∀ v tok4 h' tk, 0 ≤ v → v ≤ k.max → Fr h₀ L h' (up "place" (.int v tok4) (up "top" (.int k.max tok3) (up "bits" (.int k.wid tok2) (up "kind" (.int k.ver tok) (law1 sc a b ta tb))))) → News h₀ L h' news → Q .next { s with heap := h', toks := tk }) :
    wpAny (model pwL w) (mkA ad afr ags au) (exec (sAt fb2995.val 4) (envX (Str.ofString "law") fs2995.val L 2995 (.ref 2994) [])) Q E s := by
  simp only [fb2995, sAt, List.getD, List.getElem?_cons_zero, List.getElem?_cons_succ, Option.getD_some]
  (try k_fold)
  have hne : ¬ k.max + 1 = 0 := by cases k <;> decide
  k_steps
  all_goals first
    | exact (hne (by assumption)).elim
    | (rename_i N'
       have hin := place_in (k := k) (b := b * 210306068529402873165736369884012333109) (c := b) ((a.fdiv 2).fmod 4).toNat
       exact h _ _ _ _ hin.1 hin.2 (by assumption) (fun q hq => N' q (.tail _ hq)))
end
end Mine
end JC27

section JC28
open PySem PySem.W PyProof.Rows PySem.Calls
set_option Elab.async false
set_option maxRecDepth 100000
set_option maxHeartbeats 4000000
namespace Mine
section
variable {prog : Program} {w : World} {A : Around} {E : Value → Shared → Prop} {s : Shared} {env : Env} {g : Heap}
noncomputable def TurnG (g : Heap) (L I : Addr) (rest : List (Addr × Obj)) (J : (Str → Option Value) → List (Addr × Obj) → Prop) (Q : Flow → Shared → Prop) (s' : Shared) (f : Flow) (s'' : Shared) : Prop := match f with
  | .brk => Q .next s''
  | .ret v => Q (.ret v) s''
  | _ => ∃ h' m' lg' tk, s'' = { s' with heap := h', toks := tk } ∧ Fr g L h' m' ∧ News g L h' (lg' ++ rest) ∧ (∀ q ∈ lg', q.1 ≠ I) ∧ J m' lg'
theorem For_grow {x : Str} {px pos : Pos} {iter : Expr} {body : List Stmt} {Q : Flow → Shared → Prop} (hh : A.handled = none) (hx : env.kindOf x = some .local) (hk : env.scope.kind = .function)
    (h : wpAny (model prog w) A (eval iter env) (fun xv s₁ => ∃ l vs m own lg, ∃ J : Nat → (Str → Option Value) → List (Addr × Obj) → Prop, ∃ nl, xv = .ref l ∧ (l, (listOf (List.toArray vs) nl)) ∈ own ∧ Fr g env.locals s₁.heap m ∧ News g env.locals s₁.heap (lg ++ own) ∧ J 0 m lg ∧
      (∀ i v m lg' I oI (s' : Shared), vs[i]? = some v → (∃ h' tk, s' = { s₁ with heap := h', toks := tk }) → Fr g env.locals s'.heap (fun y => if y = x then some v else m y) → News g env.locals s'.heap (lg' ++ (I, oI) :: own) → (∀ q ∈ lg' ++ own, q.1 ≠ I) → J i m lg' →
        wpAny (model prog w) A (execs body env) (TurnG g env.locals I ((I, oI) :: own) (J (i + 1)) Q s') (fun _ _ => False) s') ∧
      (∀ h' m lg' tk, Fr g env.locals h' m → News g env.locals h' (lg' ++ own) → J vs.length m lg' → Q .next { s₁ with heap := h', toks := tk })) E s)
    (hs : ∀ x, foldedSetIterable iter env x = pure x := by intro _; rfl) :
    wpAny (model prog w) A (exec (.For (.Name x px) iter body [] pos) env) Q E s := by
  refine wpAny_For (wpAny_mono h (fun xv s₁ h₁ => ?_) fun _ _ e => e) hs
  obtain ⟨l, vs, m, own, lg, J, nl, rfl, hlo, F0, N0, h0, hbody, hdone⟩ := h₁
  have gl := (N0 _ (List.mem_append_right _ hlo)).1
  refine wpAny_pyIter_list ⟨_, gl, rfl, _, rfl⟩ ?_
  have frI : ∀ b o, s₁.heap.get? b = some o → b ≠ s₁.heap.objs.size := fun b o e => Nat.ne_of_lt (Heap.lt_size e)
  have nIo : ∀ q ∈ lg ++ own, q.1 ≠ s₁.heap.objs.size := fun q hq => frI _ _ (N0 q hq).1
  have nIL : env.locals ≠ s₁.heap.objs.size := by obtain ⟨o, _, _, ho, _⟩ := F0.ns; exact frI _ _ ho
  have gI : g.get? s₁.heap.objs.size = none := none_of_stays F0.keep (Heap.get?_none_of_le (Nat.le_refl _))
  have hI0 : (s₁.heap.push { cls := .type "list_iterator", data := .fields #[.ref l, .int 0 0] }).IsListIter s₁.heap.objs.size l 0 := ⟨_, Heap.get?_push_size _ rfl, rfl, rfl⟩
  have F1 := F0.push { cls := .type "list_iterator", data := .fields #[.ref l, .int 0 0] }
  have N1 : News g env.locals (s₁.heap.push { cls := .type "list_iterator", data := .fields #[.ref l, .int 0 0] }) (lg ++ own) := N0.grown fun b o e => Heap.get?_push_of_some _ e
  generalize s₁.heap.push { cls := .type "list_iterator", data := .fields #[.ref l, .int 0 0] } = H0 at *
  generalize s₁.heap.objs.size = I at *
  clear F0 N0 gl frI
  have nIl : l ≠ I := nIo _ (List.mem_append_right _ hlo)
  refine codeAny_forLoop_any (fun n s' => ∃ i h' m lg' tk, i ≤ vs.length ∧ n = vs.length - i ∧ s' = { s₁ with heap := h', toks := tk } ∧ Fr g env.locals h' m ∧ News g env.locals h' (lg' ++ own) ∧ (∀ q ∈ lg', q.1 ≠ I) ∧ h'.IsListIter I l i ∧ J i m lg') ?turn vs.length
    ⟨0, H0, m, lg, s₁.toks, Nat.zero_le _, rfl, rfl, F1, N1, fun q hq => nIo q (List.mem_append_left _ hq), hI0, h0⟩
  rintro n s' ⟨i, h', m, lg', tk, hi, rfl, rfl, F, N, hlg, hit, hJ⟩
  have gl := (N _ (List.mem_append_right _ hlo)).1
  have hl' : h'.IsList l (List.toArray vs) := ⟨_, gl, rfl, _, rfl⟩
  have nI' : ∀ q ∈ lg' ++ own, q.1 ≠ I := fun q hq => by
    rcases List.mem_append.mp hq with hq | hq
    · exact hlg q hq
    · exact nIo q (List.mem_append_right _ hq)
  by_cases hend : i = vs.length
  · subst hend
    refine wpAny_pyNext_list_end hh hit hl' (by simp) fun h2 he => ?_
    dsimp only at he ⊢
    refine wpAny_mono (show wpAny (model prog w) A (execs [] env) (fun f s3 => f = .next ∧ s3 = { s₁ with heap := h2, toks := tk }) (fun _ _ => False) { s₁ with heap := h2, toks := tk } from wpAny_execs_nil ⟨rfl, rfl⟩) (fun f s3 q => ?_) fun _ _ q => q.elim
    obtain ⟨rfl, rfl⟩ := q
    exact hdone h2 m lg' tk (Fr_but F he nIL gI) (News_but N he nI') hJ
  · have hlt : i < vs.length := Nat.lt_of_le_of_ne hi hend
    refine wpAny_pyNext_list_item hit hl' (x := vs[i]) (by simp [hlt]) fun h2 hit2 hs2 => ?_
    dsimp only at hs2 ⊢
    have k2 : ∀ b o, b ≠ I → h'.get? b = some o → h2.get? b = some o := fun b o b1 e => (hs2.2 b b1).trans e
    have F2 := Fr_but F k2 nIL gI
    have N2 := News_but N k2 nI'
    refine wpAny_of_eq (show letOwnedTupleGo (.Name x px) (.ref I) vs[i] = pure () from rfl) ?_
    refine wpAny_assign_Name (wpAny_storeName_local hx F2.ns (fun h3 hn3 hs3 => ?_) (by simp [hk]))
    have F3 := F2.set hn3 hs3
    have N3 := N2.set hs3
    obtain ⟨oI, hoI, rI⟩ := hit2
    have hoI3 : h3.get? I = some oI := (hs3.2 I (Ne.symm nIL)).trans hoI
    have N4 : News g env.locals h3 (lg' ++ (I, oI) :: own) := fun q hq => by
      rcases List.mem_append.mp hq with hq | hq
      · exact N3 q (List.mem_append_left _ hq)
      · rcases List.mem_cons.mp hq with rfl | hq
        · exact ⟨hoI3, Ne.symm nIL, gI⟩
        · exact N3 q (List.mem_append_right _ hq)
    refine wpAny_mono (hbody i vs[i] m lg' I oI { s₁ with heap := h3, toks := tk + 1 } (by simp [hlt]) ⟨_, _, rfl⟩ F3 N4 nI' hJ) (fun f s4 q => ?_) fun _ _ q => q.elim
    have go : (∃ h' m' lg'' tk', s4 = { s₁ with heap := h', toks := tk' } ∧ Fr g env.locals h' m' ∧ News g env.locals h' (lg'' ++ (I, oI) :: own) ∧ (∀ q ∈ lg'', q.1 ≠ I) ∧ J (i + 1) m' lg'') →
        ∃ m, m < vs.length - i ∧ ∃ i h' m_1 lg' tk, i ≤ vs.length ∧ m = vs.length - i ∧ s4 = { s₁ with heap := h', toks := tk } ∧ Fr g env.locals h' m_1 ∧ News g env.locals h' (lg' ++ own) ∧ (∀ q ∈ lg', q.1 ≠ I) ∧ h'.IsListIter I l i ∧ J i m_1 lg' := by
      rintro ⟨h5, m5, lg5, tk5, rfl, f5, n5, a5, j5⟩
      refine ⟨vs.length - (i + 1), by omega, i + 1, h5, m5, lg5, tk5, hlt, rfl, rfl, f5, fun q hq => ?_, a5, ⟨oI, (n5 (I, oI) (List.mem_append_right _ (.head _))).1, rI⟩, j5⟩
      rcases List.mem_append.mp hq with hq | hq
      · exact n5 q (List.mem_append_left _ hq)
      · exact n5 q (List.mem_append_right _ (.tail _ hq))
    cases f with
    | brk => exact q
    | ret v => exact q
    | next => exact go q
    | cont => exact go q
end
end Mine
end JC28

section JC29
open PySem PySem.W PyProof.Rows PySem.Calls
set_option Elab.async false
set_option maxRecDepth 100000
set_option maxHeartbeats 4000000
namespace Mine
/-! plain facts of one turn's numbers -/
theorem xor_val (v : Int) (t : Nat) : Builtin.bitXor v (1 * 2 ^ t) = if (v / 2 ^ t) % 2 = 1 then v - 2 ^ t else v + 2 ^ t := by
  rw [Int.one_mul, bitXor_and, kbt_bit]
  have h2 : (v / 2 ^ t) % 2 = 0 ∨ (v / 2 ^ t) % 2 = 1 := by omega
  rcases h2 with h | h <;> rw [h] <;> simp <;> omega
theorem xor_quot (v : Int) (t : Nat) : (Builtin.bitXor v (1 * 2 ^ t)) / 2 ^ t = (v / 2 ^ t) + 1 - 2 * ((v / 2 ^ t) % 2) := by
  have hB : (0 : Int) < 2 ^ t := kbt_pos t
  have e := Int.mul_ediv_add_emod v (2 ^ t)
  rw [xor_val]
  split <;> rename_i h
  · rw [h, Int.sub_ediv_of_dvd _ (Int.dvd_refl _), Int.ediv_self (Int.ne_of_gt hB)]
    omega
  · have h0 : (v / 2 ^ t) % 2 = 0 := by omega
    rw [h0, Int.add_ediv_of_dvd_right (Int.dvd_refl _), Int.ediv_self (Int.ne_of_gt hB)]
    omega
theorem fdiv_pow (v : Int) (m : Nat) : v.fdiv (2 ^ m) = v / 2 ^ m := Int.fdiv_eq_ediv_of_nonneg _ (Int.le_of_lt (kbt_pos m))
theorem fmod_pow (v : Int) (m : Nat) : v.fmod (2 ^ m) = v % 2 ^ m := Int.fmod_eq_emod_of_nonneg _ (Int.le_of_lt (kbt_pos m))
theorem xor_low {v : Int} {t m : Nat} (h : t < m) : (Builtin.bitXor v (1 * 2 ^ t)).fdiv (2 ^ m) = v.fdiv (2 ^ m) := by
  rw [fdiv_pow, fdiv_pow]
  have e : (2 : Int) ^ m = 2 ^ t * 2 * 2 ^ (m - t - 1) := by
    have e1 : (2 : Int) ^ m = 2 ^ (t + 1 + (m - t - 1)) := by congr 1; omega
    rw [e1, Int.pow_add, Int.pow_add]
    simp
  have hB : (0 : Int) < 2 ^ t := kbt_pos t
  rw [e, ← Int.ediv_ediv_of_nonneg (x := Builtin.bitXor v (1 * 2 ^ t)) (by omega), ← Int.ediv_ediv_of_nonneg (x := Builtin.bitXor v (1 * 2 ^ t)) (by omega), ← Int.ediv_ediv_of_nonneg (x := v) (by omega), ← Int.ediv_ediv_of_nonneg (x := v) (by omega), xor_quot]
  congr 1
  omega
theorem xor_high {v : Int} {t m : Nat} (h : m ≤ t) : (Builtin.bitXor v (1 * 2 ^ t)).fdiv (2 ^ m) ≠ v.fdiv (2 ^ m) := by
  rw [fdiv_pow, fdiv_pow, xor_val]
  have e : (2 : Int) ^ t = 2 ^ m * 2 ^ (t - m) := by rw [← Int.pow_add]; congr 1; omega
  have hM : (0 : Int) < 2 ^ m := kbt_pos m
  have hc : (0 : Int) < 2 ^ (t - m) := kbt_pos _
  have d : (2 : Int) ^ t / 2 ^ m = 2 ^ (t - m) := by rw [e, Int.mul_ediv_cancel_left _ (Int.ne_of_gt hM)]
  have dv : (2 : Int) ^ m ∣ 2 ^ t := ⟨_, e⟩
  split
  · rw [Int.sub_ediv_of_dvd _ dv, d]; omega
  · rw [Int.add_ediv_of_dvd_right dv, d]; omega
theorem xor_in {v t : Int} {k : Kd} (hv : 0 ≤ v ∧ v ≤ k.max) (ht : 0 ≤ t) (hlt : ¬ (k.wid : Int) ≤ t) : 0 ≤ Builtin.bitXor v (1 * 2 ^ t.toNat) ∧ Builtin.bitXor v (1 * 2 ^ t.toNat) ≤ k.max := by
  have h := xor_low (v := v) (t := t.toNat) (m := k.wid) (by omega)
  rw [fdiv_pow, fdiv_pow] at h
  unfold Kd.max at hv ⊢
  have hM : (0 : Int) < 2 ^ k.wid := kbt_pos _
  rw [Int.ediv_eq_zero_of_lt hv.1 (by omega)] at h
  have a := Int.mul_ediv_add_emod (Builtin.bitXor v (1 * 2 ^ t.toNat)) (2 ^ k.wid)
  rw [h] at a
  have b := Int.emod_nonneg (Builtin.bitXor v (1 * 2 ^ t.toNat)) (Int.ne_of_gt hM)
  have c := Int.emod_lt_of_pos (Builtin.bitXor v (1 * 2 ^ t.toNat)) hM
  omega
noncomputable def Kd.other : Kd → Kd | .v4 => .v6 | .v6 => .v4
theorem other_ver (k : Kd) : 10 - k.ver = k.other.ver := by cases k <;> rfl
theorem other_ne (k : Kd) : ¬ k.other.ver = k.ver := by cases k <;> decide
theorem fmod32_in (v : Int) (k : Kd) : 0 ≤ v.fmod (2 ^ Int.toNat 32) ∧ v.fmod (2 ^ Int.toNat 32) ≤ k.max := by
  have h : (0 : Int) < 2 ^ Int.toNat 32 := by decide
  have a := Int.fmod_nonneg_of_pos v h
  have b := Int.fmod_lt_of_pos v h
  have c : (2 : Int) ^ Int.toNat 32 - 1 ≤ k.max := by cases k <;> decide
  omega
theorem fmod33_in (v : Int) (k : Kd) : 0 ≤ v.fmod 33 ∧ v.fmod 33 ≤ k.wid := by
  have h : (0 : Int) < 33 := by decide
  have a := Int.fmod_nonneg_of_pos v h
  have b := Int.fmod_lt_of_pos v h
  have c : (32 : Int) ≤ k.wid := by cases k <;> decide
  omega
end Mine
end JC29

section JC30
open PySem PySem.W PyProof.Rows PySem.Calls
set_option Elab.async false
set_option maxRecDepth 100000
set_option maxHeartbeats 4000000
namespace Mine
noncomputable def mapB (nu pr tu va si : Option Value) (base : Str → Option Value) : Str → Option Value := fun y => if y = Str.ofString "number" then nu else if y = Str.ofString "prefix" then pr else if y = Str.ofString "turned" then tu else if y = Str.ofString "value" then va else if y = Str.ofString "size" then si else base y
theorem mapB_number {nu pr tu va si : Option Value} {base : Str → Option Value} {v : Value} : (fun y => if y = Str.ofString "number" then some v else mapB nu pr tu va si base y) = mapB (some v) pr tu va si base := by
  funext y
  by_cases h : y = Str.ofString "number"
  · subst h; rfl
  · simp only [mapB, h, if_false]
theorem mapB_prefix {nu pr tu va si : Option Value} {base : Str → Option Value} {v : Value} : (fun y => if y = Str.ofString "prefix" then some v else mapB nu pr tu va si base y) = mapB nu (some v) tu va si base := by
  funext y
  by_cases h : y = Str.ofString "prefix"
  · subst h; rfl
  · simp only [mapB, h, if_false]
theorem mapB_turned {nu pr tu va si : Option Value} {base : Str → Option Value} {v : Value} : (fun y => if y = Str.ofString "turned" then some v else mapB nu pr tu va si base y) = mapB nu pr (some v) va si base := by
  funext y
  by_cases h : y = Str.ofString "turned"
  · subst h; rfl
  · simp only [mapB, h, if_false]
theorem mapB_value {nu pr tu va si : Option Value} {base : Str → Option Value} {v : Value} : (fun y => if y = Str.ofString "value" then some v else mapB nu pr tu va si base y) = mapB nu pr tu (some v) si base := by
  funext y
  by_cases h : y = Str.ofString "value"
  · subst h; rfl
  · simp only [mapB, h, if_false]
theorem mapB_size {nu pr tu va si : Option Value} {base : Str → Option Value} {v : Value} : (fun y => if y = Str.ofString "size" then some v else mapB nu pr tu va si base y) = mapB nu pr tu va (some v) base := by
  funext y
  by_cases h : y = Str.ofString "size"
  · subst h; rfl
  · simp only [mapB, h, if_false]

theorem ne_tail1 {D A : Addr} {oA : Obj} {rest : List (Addr × Obj)} (h1 : D ≠ A) (h3 : ∀ q ∈ rest, q.1 ≠ D) : ∀ q ∈ (A, oA) :: rest, q.1 ≠ D := fun q hq => by
  rcases List.mem_cons.mp hq with rfl | hq
  · exact Ne.symm h1
  · exact h3 q hq
theorem ne_tail2 {D A B : Addr} {oA oB : Obj} {rest : List (Addr × Obj)} (h1 : D ≠ A) (h2 : D ≠ B) (h3 : ∀ q ∈ rest, q.1 ≠ D) : ∀ q ∈ (A, oA) :: (B, oB) :: rest, q.1 ≠ D := ne_tail1 h1 (ne_tail1 h2 h3)
section
variable {w : World} {ad au : Nat} {afr : Option (List Env)} {ags : Option (List Code)} {s : Shared} {h₀ : Heap} {L : Addr} {m m0 : Str → Option Value} {news own rest : List (Addr × Obj)} {mg mb : Str → Option Value} {p : Program} {loose : List Str} {mean : ExcName → Option Value} {R : Result → Shared → Prop} {E : Value → Shared → Prop} {e : Bool}
section
variable {Q : Value → Shared → Prop} {A : Around} {prog : Program}
theorem u_appendM {D : Addr} {its : Array Value} {n : Nat} {x : Value} {pre tail : List (Addr × Obj)} (F : Fr h₀ L s.heap m) (N : News h₀ L s.heap (pre ++ (D, listOf its n) :: tail)) (hp : ∀ q ∈ pre, q.1 ≠ D) (ht : ∀ q ∈ tail, q.1 ≠ D) (hz : its.size ≤ 1000) (h : ∀ h', Fr h₀ L h' m → News h₀ L h' (pre ++ (D, listOf (its.push x) (n + 1)) :: tail) → Q .none { s with heap := h' }) :
    wpAny (model prog w) A (call (.builtin "list.append") [.ref D, x]) Q E s := by
  refine u_append (n := n) (news := pre ++ tail) F (fun q hq => N q ?_) (fun q hq => ?_) hz fun h' F' N' => h h' F' fun q hq => N' q ?_
  · simp only [List.mem_cons, List.mem_append] at hq ⊢
    rcases hq with h | h | h <;> simp [h]
  · rcases List.mem_append.mp hq with h | h
    · exact hp q h
    · exact ht q h
  · simp only [List.mem_cons, List.mem_append] at hq ⊢
    rcases hq with h | h | h <;> simp [h]
theorem u_netO {tup : Addr} {v pl : Int} {tv tp u : Tok} {k : Kd} (F : Fr h₀ L s.heap m) (N : News h₀ L s.heap news) (X : (K w.params).In h₀) (T : Top p loose mean mg mb h₀) (hm : (tup, tup2 (.int v tv) (.int pl tp)) ∈ news) (hv : 0 ≤ v ∧ v ≤ k.other.max) (hp : 0 ≤ pl ∧ pl ≤ k.other.wid) (hA : A.handled = none) (hroom : A.depth + 6 < recursionLimit)
    (h : ∀ x dx t1 t2 t3 n h' tk, s.heap.StaysIn h' → Fr h₀ L h' m → News h₀ L h' ((x, instObj 2868 dx) :: (dx, dictOf (netEs w.params t1 t2 t3 v tv k.other.addr pl tp) n) :: news) → AllNe x news → AllNe dx news → dx < x → Q (.ref x) { s with heap := h', toks := tk }) :
    wpAny (model pwL w) A (call (.ref 2868) [.ref tup, .int (10 - k.ver) u] []) Q E s := by
  rw [other_ver]
  exact u_net F N X T hm hv hp hA hroom h
end
variable {Q : Flow → Shared → Prop}
noncomputable def DueStep (news' : List (Addr × Obj)) (k : Kd) (v : Int) (d : ND) (dues dues' : List Value) : Prop :=
  (hasB d.k d.v d.p k v = false ∧ dues' = dues) ∨ (hasB d.k d.v d.p k v = true ∧ ∃ (t : Addr) (us : List Value) (nn : Nat), dues' = dues ++ [.ref t] ∧ (t, ({ cls := .type "tuple", data := .seq (List.toArray us) nn } : Obj)) ∈ news' ∧ IntsAre us [d.p, k.ver, v - v.fmod (2 ^ ((k.wid : Int) - d.p).toNat)])
noncomputable abbrev lawB (sc M Du : Addr) (a b v : Int) (k : Kd) (ta tb tok tok2 tok3 tok4 : Tok) : Str → Option Value := up "due" (.ref Du) (up "nets" (.ref M) (up "place" (.int v tok4) (up "top" (.int k.max tok3) (up "bits" (.int k.wid tok2) (up "kind" (.int k.ver tok) (law1 sc a b ta tb))))))
local macro_rules | `(tactic| k_mem) => `(tactic| assumption)
local macro_rules | `(tactic| k_all) => `(tactic| assumption)
local macro_rules | `(tactic| walk_at "execs cons") => `(tactic| (k_here; simp only [mapB_prefix, mapB_turned, mapB_value, mapB_size] at *))
local macro_rules | `(tactic| walk_at "call builtin:list.append") => `(tactic| (k_here; (first | ((refine' u_appendM (pre := [_, _, _]) ?F ?N ?hp ?ht ?hz ?_); (case F => k_asm); (case N => assumption); (case ht => first | exact ne_tail2 (by assumption) (by assumption) (by assumption) | exact ne_tail1 (by assumption) (by assumption)); (case hp => (intro q hq; simp only [List.mem_cons, List.not_mem_nil, or_false] at hq; rcases hq with hq | hq | hq <;> (subst hq; dsimp only; refine (show @Ne Nat _ _ from ?_); omega))); (case hz => (simp only [List.size_toArray]; omega)); intro h8' F' N'; (try simp only [List.nil_append, List.cons_append, List.push_toArray] at N'); (try k_sweep)) | ((refine' u_appendM (pre := [_, _, _, _, _]) ?F ?N ?hp ?ht ?hz ?_); (case F => k_asm); (case N => assumption); (case ht => first | exact ne_tail2 (by assumption) (by assumption) (by assumption) | exact ne_tail1 (by assumption) (by assumption)); (case hp => (intro q hq; simp only [List.mem_cons, List.not_mem_nil, or_false] at hq; rcases hq with hq | hq | hq | hq | hq <;> (subst hq; dsimp only; refine (show @Ne Nat _ _ from ?_); omega))); (case hz => (simp only [List.size_toArray]; omega)); intro h8' F' N'; (try simp only [List.nil_append, List.cons_append, List.push_toArray] at N'); (try k_sweep)) | fail "no place")))
local macro_rules | `(tactic| walk_at "call ref") => `(tactic| (k_here; (try dsimp only [List.nil_append, List.cons_append]); (with_reducible first | refine' u_net ?F ?N ?X ?T ?m ?v ?p ?hA ?r ?_ | refine' u_netO ?F ?N ?X ?T ?m ?v ?p ?hA ?r ?_); (case F => k_asm); (case N => k_asm); (case X => k_asm); (case T => k_asm); (case m => k_mem); (case v => first | assumption | exact xor_in (by assumption) (by assumption) (by assumption) | exact fmod32_in _ _); (case p => first | assumption | exact fmod33_in _ _); (case hA => rfl); (case r => (first | omega | (simp only [depth_under_make, depth_under_kw, depth_in1, depth_deeper]; omega) | (simp only [Around.deeper, Around.in1, Around.under]; omega))); intro x8' d8' t1' t2' tv' n8' h8' tk8 st8' F' N' a8 b8 l8; simp only [AllNe, and_true] at a8 b8; (try k_sweep)))

noncomputable def fbW : {l : List Stmt // l = forBody (sAt fb2995.val 7)} := ⟨_, by conv => rhs; whnf⟩
theorem bwA {sc M Du : Addr} {ta tb tok tok2 tok3 tok4 tn : Tok} {a b v n : Int} {pr tu va si : Option Value} {k : Kd}
    (F : Fr h₀ L s.heap (mapB (some (.int n tn)) pr tu va si (lawB sc M Du a b v k ta tb tok tok2 tok3 tok4))) (N : News h₀ L s.heap news) (X : (K w.params).In h₀) (T : Top p loose mean mg mb h₀)
    (h : ∀ (pl : Int) (tp : Tok) h' tk, 0 ≤ pl ∧ pl ≤ k.wid → Fr h₀ L h' (mapB (some (.int n tn)) (some (.int pl tp)) tu va si (lawB sc M Du a b v k ta tb tok tok2 tok3 tok4)) → News h₀ L h' news → Q .next { s with heap := h', toks := tk }) :
    wpAny (model pwL w) (mkA ad afr ags au) (exec (sAt fbW.val 0) (envX (Str.ofString "law") fs2995.val L 2995 (.ref 2994) [])) Q E s := by
  have hW : (0 : Int) < k.wid + 1 := by cases k <;> decide
  have hW0 : ¬ (k.wid : Int) + 1 = 0 := by omega
  simp only [fbW, sAt, List.getD, List.getElem?_cons_zero, List.getElem?_cons_succ, Option.getD_some]
  (try k_fold)
  k_steps
  all_goals first
    | exact (hW0 (by assumption)).elim
    | (simp only [mapB_prefix] at *
       refine h _ _ _ _ ⟨Int.fmod_nonneg_of_pos _ hW, Int.lt_add_one_iff.mp (Int.fmod_lt_of_pos _ hW)⟩ (by assumption) (by assumption))
theorem bwB {sc M Du : Addr} {ta tb tok tok2 tok3 tok4 tn : Tok} {a b v n : Int} {pr tu va si : Option Value} {k : Kd}
    (F : Fr h₀ L s.heap (mapB (some (.int n tn)) pr tu va si (lawB sc M Du a b v k ta tb tok tok2 tok3 tok4))) (N : News h₀ L s.heap news) (X : (K w.params).In h₀) (T : Top p loose mean mg mb h₀)
    (h : ∀ (t : Int) (tt : Tok) h' tk, 0 ≤ t → Fr h₀ L h' (mapB (some (.int n tn)) pr (some (.int t tt)) va si (lawB sc M Du a b v k ta tb tok tok2 tok3 tok4)) → News h₀ L h' news → Q .next { s with heap := h', toks := tk }) :
    wpAny (model pwL w) (mkA ad afr ags au) (exec (sAt fbW.val 1) (envX (Str.ofString "law") fs2995.val L 2995 (.ref 2994) [])) Q E s := by
  have hW0 : ¬ (k.wid : Int) + 1 = 0 := by cases k <;> decide
  have hW := wid_le k
  have hF : 0 ≤ (k.wid : Int).fdiv 2 ∧ (k.wid : Int).fdiv 2 ≤ 64 := by cases k <;> decide
  have hW1 : 0 < (k.wid : Int) + (k.wid : Int).fdiv 2 := by cases k <;> decide
  have hW2 : ¬ (k.wid : Int) + (k.wid : Int).fdiv 2 = 0 := by omega
  simp only [fbW, sAt, List.getD, List.getElem?_cons_zero, List.getElem?_cons_succ, Option.getD_some]
  (try k_fold)
  k_steps
  all_goals first
    | exact (hW0 (by assumption)).elim
    | exact (hW2 (by assumption)).elim
    | (simp only [mapB_turned] at *
       refine h _ _ _ _ (Int.fmod_nonneg_of_pos _ hW1) (by assumption) (by assumption))
theorem bwC {I M Du sc : Addr} {oI : Obj} {ta tb tok tok2 tok3 tok4 tn tp tt : Tok} {a b v n pl t : Int} {n1 n2 : Nat} {nets dues : List Value} {va si : Option Value} {k : Kd}
    (F : Fr h₀ L s.heap (mapB (some (.int n tn)) (some (.int pl tp)) (some (.int t tt)) va si (lawB sc M Du a b v k ta tb tok tok2 tok3 tok4))) (N : News h₀ L s.heap ((M, listOf (List.toArray nets) n1) :: (Du, listOf (List.toArray dues) n2) :: (I, oI) :: rest)) (X : (K w.params).In h₀) (T : Top p loose mean mg mb h₀)
    (hMD : M ≠ Du) (hMI : M ≠ I) (hDI : Du ≠ I) (hMr : ∀ q ∈ rest, q.1 ≠ M) (hDr : ∀ q ∈ rest, q.1 ≠ Du) (hz1 : nets.length < 900) (hz2 : dues.length < 900)
    (hv : 0 ≤ v ∧ v ≤ k.max) (hp : 0 ≤ pl ∧ pl ≤ k.wid) (ht : 0 ≤ t) (hroom : ad + 30 < recursionLimit)
    (h : ∀ (d : ND) x va' si' dues' n2' news' h' tk, d.ok → Fr h₀ L h' (mapB (some (.int n tn)) (some (.int pl tp)) (some (.int t tt)) va' si' (lawB sc M Du a b v k ta tb tok tok2 tok3 tok4)) → News h₀ L h' ((M, listOf (List.toArray (nets ++ [.ref x])) (n1 + 1)) :: (Du, listOf (List.toArray dues') n2') :: (news' ++ (I, oI) :: rest)) → NetIn w.params news' x d.v d.p d.k → (∀ q ∈ news', q.1 ≠ M ∧ q.1 ≠ Du ∧ q.1 ≠ I) → DueStep news' k v d dues dues' → Q .next { s with heap := h', toks := tk }) :
    wpAny (model pwL w) (mkA ad afr ags au) (exec (sAt fbW.val 2) (envX (Str.ofString "law") fs2995.val L 2995 (.ref 2994) [])) Q E s := by
  have hW0 : ¬ (k.wid : Int) + 1 = 0 := by cases k <;> decide
  have hW2 : ¬ (k.wid : Int) + (k.wid : Int).fdiv 2 = 0 := by cases k <;> decide
  have hW := wid_le k
  have hF : 0 ≤ (k.wid : Int).fdiv 2 ∧ (k.wid : Int).fdiv 2 ≤ 64 := by cases k <;> decide
  simp only [fbW, sAt, List.getD, List.getElem?_cons_zero, List.getElem?_cons_succ, Option.getD_some]
  (try k_fold)
  k_steps
  · rename_i D h1 ltD x dx u1 u2 u3 nn h2 tk2 st2 ax bx lx h3 F3 N3
    exact h ⟨k.other, v.fmod (2 ^ Int.toNat 32), pl.fmod 33⟩ x _ _ dues n2 [(x, instObj 2868 dx), (dx, dictOf (netEs w.params u1 u2 u3 (v.fmod (2 ^ Int.toNat 32)) _ k.other.addr (pl.fmod 33) _) nn)] _ _ ⟨fmod33_in _ _, fmod32_in _ _⟩ F3 (fun q hq => N3 q (by
      simp only [List.mem_cons, List.cons_append, List.nil_append] at hq
      rcases hq with hq | hq | hq | hq | hq | hq <;> (first | subst hq | skip) <;> (repeat (first | exact hq | exact List.mem_cons_self | apply List.mem_cons_of_mem)))) ⟨dx, u1, u2, u3, _, _, nn, .head _, .tail _ (.head _)⟩ (by intro q hq; simp only [List.mem_cons, List.not_mem_nil, or_false] at hq; rcases hq with hq | hq <;> (subst hq; refine ⟨show @Ne Nat _ _ from ?_, show @Ne Nat _ _ from ?_, show @Ne Nat _ _ from ?_⟩ <;> (dsimp only; omega))) (.inl ⟨if_neg (other_ne k), rfl⟩)
  · rename_i D1 h1 ltD x dx u1 u2 u3 nn h2 tk2 st2 ax bx lx h3 h4 tk4 D2 h5 lt2 h6 F6 N6
    exact h ⟨k, v, pl⟩ x _ _ (dues ++ [.ref D2]) (n2 + 1) [(D2, { cls := .type "tuple", data := .seq (List.toArray [.int pl _, .int k.ver _, .int (v - v.fmod (1 * 2 ^ ((k.wid : Int) - pl).toNat)) _]) 0 }), (x, instObj 2868 dx), (dx, dictOf (netEs w.params u1 u2 u3 v _ k.addr pl _) nn)] _ _ ⟨hp, hv⟩ F6 (fun q hq => N6 q (by
      simp only [List.mem_cons, List.cons_append, List.nil_append] at hq
      rcases hq with hq | hq | hq | hq | hq | hq | hq <;> (first | subst hq | skip) <;> (repeat (first | exact hq | exact List.mem_cons_self | apply List.mem_cons_of_mem)))) ⟨dx, u1, u2, u3, _, _, nn, .tail _ (.head _), .tail _ (.tail _ (.head _))⟩ (by intro q hq; simp only [List.mem_cons, List.not_mem_nil, or_false] at hq; rcases hq with hq | hq | hq <;> (subst hq; refine ⟨show @Ne Nat _ _ from ?_, show @Ne Nat _ _ from ?_, show @Ne Nat _ _ from ?_⟩ <;> (dsimp only; omega))) (.inr ⟨by simp [hasB], D2, _, 0, rfl, .head _, .cons _ _ (.cons _ _ (by rw [Int.one_mul]; exact .cons _ _ .nil))⟩)
  · rename_i hge h0 tk0 D1 h1 ltD x dx u1 u2 u3 nn h2 tk2 st2 ax bx lx h3 hlt tk3 h4 tk4 D2 h5 lt2 h6 F6 N6
    have hx := xor_in hv ht hge
    exact h ⟨k, Builtin.bitXor v (1 * 2 ^ t.toNat), pl⟩ x _ _ (dues ++ [.ref D2]) (n2 + 1) [(D2, { cls := .type "tuple", data := .seq (List.toArray [.int pl _, .int k.ver _, .int (v - v.fmod (1 * 2 ^ ((k.wid : Int) - pl).toNat)) _]) 0 }), (x, instObj 2868 dx), (dx, dictOf (netEs w.params u1 u2 u3 (Builtin.bitXor v (1 * 2 ^ t.toNat)) _ k.addr pl _) nn)] _ _ ⟨hp, hx⟩ F6 (fun q hq => N6 q (by
      simp only [List.mem_cons, List.cons_append, List.nil_append] at hq
      rcases hq with hq | hq | hq | hq | hq | hq | hq <;> (first | subst hq | skip) <;> (repeat (first | exact hq | exact List.mem_cons_self | apply List.mem_cons_of_mem)))) ⟨dx, u1, u2, u3, _, _, nn, .tail _ (.head _), .tail _ (.tail _ (.head _))⟩ (by intro q hq; simp only [List.mem_cons, List.not_mem_nil, or_false] at hq; rcases hq with hq | hq | hq <;> (subst hq; refine ⟨show @Ne Nat _ _ from ?_, show @Ne Nat _ _ from ?_, show @Ne Nat _ _ from ?_⟩ <;> (dsimp only; omega))) (.inr ⟨by simp only [hasB, if_true]; rw [xor_low (by omega)]; exact beq_self_eq_true _, D2, _, 0, rfl, .head _, .cons _ _ (.cons _ _ (by rw [Int.one_mul]; exact .cons _ _ .nil))⟩)
  · rename_i hge h0 tk0 D1 h1 ltD x dx u1 u2 u3 nn h2 tk2 st2 ax bx lx h3 F6 N6 hlt
    have hx := xor_in hv ht hge
    exact h ⟨k, Builtin.bitXor v (1 * 2 ^ t.toNat), pl⟩ x _ _ dues n2 [(x, instObj 2868 dx), (dx, dictOf (netEs w.params u1 u2 u3 (Builtin.bitXor v (1 * 2 ^ t.toNat)) _ k.addr pl _) nn)] _ _ ⟨hp, hx⟩ F6 (fun q hq => N6 q (by
      simp only [List.mem_cons, List.cons_append, List.nil_append] at hq
      rcases hq with hq | hq | hq | hq | hq | hq <;> (first | subst hq | skip) <;> (repeat (first | exact hq | exact List.mem_cons_self | apply List.mem_cons_of_mem)))) ⟨dx, u1, u2, u3, _, _, nn, .head _, .tail _ (.head _)⟩ (by intro q hq; simp only [List.mem_cons, List.not_mem_nil, or_false] at hq; rcases hq with hq | hq <;> (subst hq; refine ⟨show @Ne Nat _ _ from ?_, show @Ne Nat _ _ from ?_, show @Ne Nat _ _ from ?_⟩ <;> (dsimp only; omega))) (.inl ⟨by simp only [hasB, if_true]; exact beq_eq_false_iff_ne.mpr (Ne.symm (xor_high (by omega))), rfl⟩)
end
end Mine
end JC30

section JC31
open PySem PySem.W PyProof.Rows PySem.Calls
set_option Elab.async false
set_option maxRecDepth 100000
set_option maxHeartbeats 4000000
namespace Mine
noncomputable def RelL {α : Type} (R : Value → α → Prop) (ys : List Value) (xs : List α) : Prop := ys.length = xs.length ∧ ∀ (j : Nat) (y : Value) (x : α), ys[j]? = some y → xs[j]? = some x → R y x
theorem RelL.mono {α : Type} {R R' : Value → α → Prop} {ys : List Value} {xs : List α} (H : RelL R ys xs) (h : ∀ y x, R y x → R' y x) : RelL R' ys xs := ⟨H.1, fun j y x a b => h _ _ (H.2 j y x a b)⟩
theorem RelL.nil {α : Type} {R : Value → α → Prop} : RelL R [] ([] : List α) := ⟨rfl, fun j y x a => by simp at a⟩
theorem RelL.push {α : Type} {R : Value → α → Prop} {ys : List Value} {xs : List α} {y : Value} {x : α} (H : RelL R ys xs) (h : R y x) : RelL R (ys ++ [y]) (xs ++ [x]) := by
  refine ⟨by simp [H.1], fun j y' d' a b => ?_⟩
  by_cases hj : j < ys.length
  · rw [List.getElem?_append_left hj] at a
    rw [List.getElem?_append_left (by rw [← H.1]; exact hj)] at b
    exact H.2 j y' d' a b
  · rw [List.getElem?_append_right (by omega)] at a
    rw [List.getElem?_append_right (by rw [← H.1]; omega)] at b
    have e : j - ys.length = 0 := by
      cases h : j - ys.length with
      | zero => rfl
      | succ n => rw [h] at a; simp at a
    rw [← H.1] at b
    rw [e] at a b
    simp at a b
    subst a; subst b
    exact h
noncomputable def netI (P : Params) (objs : List (Addr × Obj)) (y : Value) (d : ND) : Prop := ∃ x, y = .ref x ∧ NetIn P objs x d.v d.p d.k
noncomputable def dueI (objs : List (Addr × Obj)) (y : Value) (xs : List Int) : Prop := ∃ (t : Addr) (us : List Value) (nn : Nat), y = .ref t ∧ (t, ({ cls := .type "tuple", data := .seq (List.toArray us) nn } : Obj)) ∈ objs ∧ IntsAre us xs
noncomputable def dueT (k : Kd) (v : Int) (d : ND) : List Int := [d.p, k.ver, v - v.fmod (2 ^ ((k.wid : Int) - d.p).toNat)]
noncomputable def dueOf (k : Kd) (v : Int) (ds : List ND) : List (List Int) := (ds.filter fun d => hasB d.k d.v d.p k v).map (dueT k v)
theorem netI.mono {P : Params} {objs objs' : List (Addr × Obj)} {y : Value} {d : ND} (h : netI P objs y d) (hs : ∀ q ∈ objs, q ∈ objs') : netI P objs' y d := by
  obtain ⟨x, e, dx, t1, t2, t3, tv, tp, n, a, b⟩ := h
  exact ⟨x, e, dx, t1, t2, t3, tv, tp, n, hs _ a, hs _ b⟩
theorem dueI.mono {objs objs' : List (Addr × Obj)} {y : Value} {xs : List Int} (h : dueI objs y xs) (hs : ∀ q ∈ objs, q ∈ objs') : dueI objs' y xs := by
  obtain ⟨t, us, nn, e, a, b⟩ := h
  exact ⟨t, us, nn, e, hs _ a, b⟩
section
variable {w : World} {ad au : Nat} {afr : Option (List Env)} {ags : Option (List Code)} {s : Shared} {h₀ : Heap} {L : Addr} {m m0 : Str → Option Value} {news own rest : List (Addr × Obj)} {mg mb : Str → Option Value} {p : Program} {loose : List Str} {mean : ExcName → Option Value} {R : Result → Shared → Prop} {E : Value → Shared → Prop} {e : Bool}
section
variable {Q : Flow → Shared → Prop}
theorem body_law {I M Du sc : Addr} {oI : Obj} {ta tb tok tok2 tok3 tok4 tn : Tok} {a b v n : Int} {n1 n2 : Nat} {nets dues : List Value} {pr tu va si : Option Value} {k : Kd}
    (F : Fr h₀ L s.heap (mapB (some (.int n tn)) pr tu va si (lawB sc M Du a b v k ta tb tok tok2 tok3 tok4))) (N : News h₀ L s.heap ((M, listOf (List.toArray nets) n1) :: (Du, listOf (List.toArray dues) n2) :: (I, oI) :: rest)) (X : (K w.params).In h₀) (T : Top p loose mean mg mb h₀)
    (hMD : M ≠ Du) (hMI : M ≠ I) (hDI : Du ≠ I) (hMr : ∀ q ∈ rest, q.1 ≠ M) (hDr : ∀ q ∈ rest, q.1 ≠ Du) (hz1 : nets.length < 900) (hz2 : dues.length < 900)
    (hv : 0 ≤ v ∧ v ≤ k.max) (hroom : ad + 30 < recursionLimit)
    (h : ∀ (d : ND) x pr' tu' va' si' dues' n2' news' h' tk, d.ok → Fr h₀ L h' (mapB (some (.int n tn)) pr' tu' va' si' (lawB sc M Du a b v k ta tb tok tok2 tok3 tok4)) → News h₀ L h' ((M, listOf (List.toArray (nets ++ [.ref x])) (n1 + 1)) :: (Du, listOf (List.toArray dues') n2') :: (news' ++ (I, oI) :: rest)) → NetIn w.params news' x d.v d.p d.k → (∀ q ∈ news', q.1 ≠ M ∧ q.1 ≠ Du ∧ q.1 ≠ I) → DueStep news' k v d dues dues' → Q .next { s with heap := h', toks := tk }) :
    wpAny (model pwL w) (mkA ad afr ags au) (execs fbW.val (envX (Str.ofString "law") fs2995.val L 2995 (.ref 2994) [])) Q E s := by
  refine wpAny_execs_cons (st := sAt fbW.val 0) (rest := [sAt fbW.val 1, sAt fbW.val 2]) ?_
  refine bwA F N X T fun pl tp h1 tk1 hp F1 N1 => ?_
  refine wpAny_execs_cons (st := sAt fbW.val 1) (rest := [sAt fbW.val 2]) ?_
  refine bwB F1 N1 X T fun t tt h2 tk2 ht F2 N2 => ?_
  refine wpAny_execs_cons (st := sAt fbW.val 2) (rest := []) ?_
  refine bwC F2 N2 X T hMD hMI hDI hMr hDr hz1 hz2 hv hp ht hroom fun d x va' si' dues' n2' news' h3 tk3 hd F3 N3 HN hne hD => ?_
  exact wpAny_execs_nil (h d x _ _ va' si' dues' n2' news' h3 tk3 hd F3 N3 HN hne hD)
end

section
variable {Q : Value → Shared → Prop}
noncomputable def sxL : {e : Expr // e = iterOf (sAt fb2995.val 7)} := ⟨_, by conv => rhs; whnf⟩
theorem it_law {sc M Du : Addr} {u1 u2 u3 u4 u5 : Obj} {ta tb tok tok2 tok3 tok4 : Tok} {a b v : Int} {k : Kd} {vs : List Value} {ns : List Int} (F : Fr h₀ L s.heap (lawB sc M Du a b v k ta tb tok tok2 tok3 tok4)) (N : News h₀ L s.heap [(Du, u4), (M, u5), (2977, u1), (2982, u2), (2987, u3)]) (X : (K w.params).In h₀) (T : Top p loose mean mg mb h₀) (hS : h₀.IsList sc vs.toArray) (hi : IntsAre vs ns) (hlen : ns.length ≤ 63) (hroom : ad + 30 < recursionLimit)
    (h : ∀ D ws xs h' tk, IntsAre ws xs → xs.length ≤ 6 → Fr h₀ L h' (lawB sc M Du a b v k ta tb tok tok2 tok3 tok4) → News h₀ L h' ((D, listOf (List.toArray ws) 0) :: [(Du, u4), (M, u5), (2977, u1), (2982, u2), (2987, u3)]) → @LT.lt Nat _ Du D → @LT.lt Nat _ M D → Q (.ref D) { s with heap := h', toks := tk }) :
    wpAny (model pwL w) (mkA ad afr ags au) (eval sxL.val (envX (Str.ofString "law") fs2995.val L 2995 (.ref 2994) [])) Q E s := by
  simp only [sxL]
  (try k_fold)
  k_steps
  rename_i D ws h1 F1 N1 hI hC hL lt
  exact h D ws _ h1 _ hI (by rw [hC]; omega) F1 N1 lt.1 lt.2.1
end
section
variable {Q : Flow → Shared → Prop}
theorem ints_at : ∀ {ws : List Value} {xs : List Int} {i : Nat} {v : Value}, IntsAre ws xs → ws[i]? = some v → ∃ n t, v = .int n t
  | _, _, _, _, .nil, h => by simp at h
  | _, _, 0, _, .cons n t _, h => by simp at h; exact ⟨n, t, h.symm⟩
  | _, _, i + 1, _, .cons n t r, h => by simp at h; exact ints_at r h
theorem ints_len : ∀ {ws : List Value} {xs : List Int}, IntsAre ws xs → ws.length = xs.length
  | _, _, .nil => rfl
  | _, _, .cons n t r => by simp [ints_len r]
theorem mapB_none {sc M Du : Addr} {ta tb tok tok2 tok3 tok4 : Tok} {a b v : Int} {k : Kd} : lawB sc M Du a b v k ta tb tok tok2 tok3 tok4 = mapB none none none none none (lawB sc M Du a b v k ta tb tok tok2 tok3 tok4) := by
  funext y
  unfold mapB
  by_cases h1 : y = Str.ofString "number"
  · subst h1; rfl
  by_cases h2 : y = Str.ofString "prefix"
  · subst h2; rfl
  by_cases h3 : y = Str.ofString "turned"
  · subst h3; rfl
  by_cases h4 : y = Str.ofString "value"
  · subst h4; rfl
  by_cases h5 : y = Str.ofString "size"
  · subst h5; rfl
  simp only [h1, h2, h3, h4, h5, if_false]
theorem loop_law {px pos : Pos} {sc M Du : Addr} {u1 u2 u3 : Obj} {ta tb tok tok2 tok3 tok4 : Tok} {a b v : Int} {k : Kd} {vs : List Value} {ns : List Int} (F : Fr h₀ L s.heap (lawB sc M Du a b v k ta tb tok tok2 tok3 tok4)) (N : News h₀ L s.heap [(Du, listOf #[] 0), (M, listOf #[] 0), (2977, u1), (2982, u2), (2987, u3)]) (X : (K w.params).In h₀) (T : Top p loose mean mg mb h₀) (hS : h₀.IsList sc vs.toArray) (hi : IntsAre vs ns) (hlen : ns.length ≤ 63) (hMD : @LT.lt Nat _ M Du) (hM0 : @LT.lt Nat _ 2987 M) (hv : 0 ≤ v ∧ v ≤ k.max) (hroom : ad + 30 < recursionLimit)
    (h : ∀ nu pr tu va si nets dues objs n1 n2 ds h' tk, Fr h₀ L h' (mapB nu pr tu va si (lawB sc M Du a b v k ta tb tok tok2 tok3 tok4)) → News h₀ L h' ((M, listOf (List.toArray nets) n1) :: (Du, listOf (List.toArray dues) n2) :: (objs ++ [(2977, u1), (2982, u2), (2987, u3)])) → (∀ q ∈ objs, q.1 ≠ M ∧ q.1 ≠ Du) → RelL (netI w.params objs) nets ds → RelL (dueI objs) dues (dueOf k v ds) → (∀ d ∈ ds, d.ok) → ds.length ≤ 6 → Q .next { s with heap := h', toks := tk }) :
    wpAny (model pwL w) (mkA ad afr ags au) (exec (.For (.Name (Str.ofString "number") px) sxL.val fbW.val [] pos) (envX (Str.ofString "law") fs2995.val L 2995 (.ref 2994) [])) Q E s := by
  refine For_grow (g := h₀) rfl rfl rfl ?_
  refine it_law F N X T hS hi hlen hroom ?_
  intro D ws xs h1 tk1 hI h6 F1 N1 ltD ltM
  rw [mapB_none] at F1
  have wl : ws.length ≤ 6 := by rw [ints_len hI]; exact h6
  refine ⟨D, ws, _, [(D, listOf (List.toArray ws) 0), (2977, u1), (2982, u2), (2987, u3)], [(M, listOf #[] 0), (Du, listOf #[] 0)], fun i m lg => ∃ nu pr tu va si nets dues objs n1 n2 ds, m = mapB nu pr tu va si (lawB sc M Du a b v k ta tb tok tok2 tok3 tok4) ∧ lg = (M, listOf (List.toArray nets) n1) :: (Du, listOf (List.toArray dues) n2) :: objs ∧ (∀ q ∈ objs, q.1 ≠ M ∧ q.1 ≠ Du) ∧ RelL (netI w.params objs) nets ds ∧ RelL (dueI objs) dues (dueOf k v ds) ∧ (∀ d ∈ ds, d.ok) ∧ ds.length = i, 0, rfl, .head _, F1, ?n0, ⟨none, none, none, none, none, [], [], [], 0, 0, [], rfl, rfl, fun q hq => (nomatch hq), .nil, .nil, fun d hd => (nomatch hd), rfl⟩, ?turn, ?done⟩
  case n0 =>
    intro q hq
    refine N1 q ?_
    simp only [List.mem_cons, List.cons_append, List.nil_append, List.not_mem_nil, or_false] at hq ⊢
    rcases hq with h | h | h | h | h | h <;> simp [h]
  case turn =>
    rintro i y mm lg' I oI s' hy ⟨h2, tk2, rfl⟩ F2 N2 nI ⟨nu, pr, tu, va, si, nets, dues, objs, n1, n2, ds, rfl, rfl, hne, hN, hD, hok, hl⟩
    obtain ⟨n, tn, rfl⟩ := ints_at hI hy
    rw [mapB_number] at F2
    have hil : i < ws.length := (List.getElem?_eq_some_iff.mp hy).1
    have hMI : M ≠ I := nI _ (.head _)
    have hDI : Du ≠ I := nI _ (.tail _ (.head _))
    have hnl : nets.length = i := by rw [hN.1, hl]
    have hdl : dues.length ≤ i := by rw [hD.1, dueOf, List.length_map, ← hl]; exact List.length_filter_le _ _
    have hMo : ∀ q ∈ objs ++ [(D, listOf (List.toArray ws) 0), (2977, u1), (2982, u2), (2987, u3)], q.1 ≠ M ∧ q.1 ≠ Du := by
      intro q hq
      rcases List.mem_append.mp hq with hq | hq
      · exact hne q hq
      · simp only [List.mem_cons, List.not_mem_nil, or_false] at hq
        rcases hq with hq | hq | hq | hq <;> (subst hq; refine ⟨show @Ne Nat _ _ from ?_, show @Ne Nat _ _ from ?_⟩ <;> (dsimp only; omega))
    refine body_law (n1 := n1) (n2 := n2) (oI := oI) (nets := nets) (dues := dues) (rest := objs ++ [(D, listOf (List.toArray ws) 0), (2977, u1), (2982, u2), (2987, u3)]) F2 (fun q hq => N2 q ?_) X T (show @Ne Nat _ _ by omega) hMI hDI (fun q hq => (hMo q hq).1) (fun q hq => (hMo q hq).2) (by omega) (by omega) hv hroom ?_
    · simp only [List.mem_cons, List.mem_append, List.cons_append, List.not_mem_nil, or_false] at hq ⊢
      rcases hq with h | h | h | h | h | h | h | h <;> simp [h]
    · intro d x pr' tu' va' si' dues' n2' news' h3 tk3 hd F3 N3 HN hnw hDS
      refine ⟨h3, _, (M, listOf (List.toArray (nets ++ [.ref x])) (n1 + 1)) :: (Du, listOf (List.toArray dues') n2') :: (news' ++ objs), tk3, rfl, F3, fun q hq => N3 q ?_, ?_, ⟨_, _, _, _, _, nets ++ [.ref x], dues', news' ++ objs, n1 + 1, n2', ds ++ [d], rfl, rfl, ?_, ?_, ?_, ?_, by simp [hl]⟩⟩
      · simp only [List.mem_cons, List.mem_append, List.cons_append, List.not_mem_nil, or_false] at hq ⊢
        rcases hq with h | h | (h | h) | h | h | h | h | h <;> simp [h]
      · intro q hq
        rcases List.mem_cons.mp hq with rfl | hq
        · exact hMI
        · rcases List.mem_cons.mp hq with rfl | hq
          · exact hDI
          · rcases List.mem_append.mp hq with hq | hq
            · exact (hnw q hq).2.2
            · exact nI q (List.mem_append_left _ (.tail _ (.tail _ hq)))
      · intro q hq
        rcases List.mem_append.mp hq with hq | hq
        · exact ⟨(hnw q hq).1, (hnw q hq).2.1⟩
        · exact hne q hq
      · exact (hN.mono fun y x h => h.mono fun q hq => List.mem_append_right _ hq).push (netI.mono ⟨x, rfl, HN⟩ fun q hq => List.mem_append_left _ hq)
      · have hD' : RelL (dueI (news' ++ objs)) dues (dueOf k v ds) := hD.mono fun y x h => h.mono fun q hq => List.mem_append_right _ hq
        rcases hDS with ⟨hb, rfl⟩ | ⟨hb, t, us, nn, rfl, ht, hus⟩
        · have e : dueOf k v (ds ++ [d]) = dueOf k v ds := by simp [dueOf, List.filter_append, hb]
          rw [e]; exact hD'
        · have e : dueOf k v (ds ++ [d]) = dueOf k v ds ++ [dueT k v d] := by simp [dueOf, List.filter_append, hb]
          rw [e]; exact hD'.push ⟨t, us, nn, rfl, List.mem_append_left _ ht, hus⟩
      · intro d' hd'
        rcases List.mem_append.mp hd' with h' | h'
        · exact hok d' h'
        · rw [List.mem_singleton.mp h']; exact hd
  case done =>
    rintro h2 mm lg' tk2 F2 N2 ⟨nu, pr, tu, va, si, nets, dues, objs, n1, n2, ds, rfl, rfl, hne, hN, hD, hok, hl⟩
    refine h nu pr tu va si nets dues objs n1 n2 ds h2 tk2 F2 (fun q hq => N2 q ?_) hne hN hD hok (by omega)
    simp only [List.mem_cons, List.mem_append, List.cons_append, List.not_mem_nil, or_false] at hq ⊢
    rcases hq with h | h | h | h | h | h <;> simp [h]
end
end
end Mine
end JC31

section JC32
open PySem PySem.W PyProof.Rows PySem.Calls
set_option Elab.async false
set_option maxRecDepth 100000
set_option maxHeartbeats 4000000
namespace Mine
/-! the same, the target a tuple of names -/
section
variable {prog : Program} {w : World} {A : Around} {E : Value → Shared → Prop} {env : Env}
theorem comp_loop_tup {elt iter : Expr} {elts : List Expr} {kk : Nat} {tp : Pos} {scope : Scope} {pos : Pos} {s : Shared} {l I D C : Addr} {vs : List Value} {R : Result → Shared → Prop} {G : Heap → Value → Value → Prop}
    (hh : A.handled = none) (hl : s.heap.IsList l vs.toArray) (hz : vs.length ≤ 1000)
    (helt : EltDoes prog w A env elt (.Tuple elts kk tp) scope s vs G) (hown : ∀ v ∈ vs, ∃ T, v = Value.ref T)
    (hC : s.heap.objs.size ≤ C) (hI : s.heap.objs.size ≤ I) (hD : s.heap.objs.size ≤ D) (nID : I ≠ D) (nIC : I ≠ C) (nDC : D ≠ C)
    {h₁ : Heap} {m₁ : Str → Option Value} {tk₁ : Nat} (st : s.heap.StaysIn h₁) (hi₁ : h₁.IsListIter I l 0) (hd₁ : h₁.PlainList D #[]) (hc₁ : h₁.Ns C m₁)
    (hR : ∀ ys h' m' tk, h'.Ns C m' → s.heap.StaysIn h' → h'.PlainList D (List.toArray ys) → ys.length = vs.length → (∀ (j : Nat) (v y : Value), vs[j]? = some v → ys[j]? = some y → ∀ g : Heap, (∀ b o, s.heap.get? b = none → b ≠ C → h'.get? b = some o → g.get? b = some o) → G g v y) → R (.ok .next) { s with heap := h', toks := tk }) :
    codeAny (model prog w) A (.compLoop (.ListComp elt [⟨.Tuple elts kk tp, iter, [], 0⟩] scope pos) 0 (.ref I) (.ref D) (compEnvC scope [] C env)) R { s with heap := h₁, toks := tk₁ } := by
  have hsl : vs.length < sizeLine := by
    have : sizeLine ≥ 2000 := by decide +kernel
    omega
  have low : ∀ b o, s.heap.get? b = some o → b ≠ I ∧ b ≠ D ∧ b ≠ C := fun b o e => by
    have := Heap.lt_size e
    exact ⟨Nat.ne_of_lt (Nat.lt_of_lt_of_le this hI), Nat.ne_of_lt (Nat.lt_of_lt_of_le this hD), Nat.ne_of_lt (Nat.lt_of_lt_of_le this hC)⟩
  have hlI : l ≠ I := by obtain ⟨o, ho, _⟩ := hl; exact (low _ _ ho).1
  refine kcp_loop (fun n s' => ∃ i h' m tk items, i ≤ vs.length ∧ n = vs.length - i ∧ s' = { s with heap := h', toks := tk } ∧ h'.Ns C m ∧ s.heap.StaysIn h' ∧ h'.PlainList D (List.toArray items) ∧ items.length = i ∧ h'.IsListIter I l i ∧
    (∀ (j : Nat) (v y : Value), vs[j]? = some v → items[j]? = some y → ∀ g : Heap, (∀ b o, s.heap.get? b = none → b ≠ C → b ≠ D → b ≠ I → h'.get? b = some o → g.get? b = some o) → G g v y)) ?turn vs.length ?start
  case start => exact ⟨0, h₁, m₁, tk₁, [], Nat.zero_le _, rfl, rfl, hc₁, st, hd₁, rfl, hi₁, fun j v y _ e => (by simp at e)⟩
  case turn =>
    rintro n s' ⟨i, h', m, tk, items, hi, rfl, rfl, hns, hst, hac, hlen, hit, hG⟩
    have hl' : h'.IsList l vs.toArray := hl.at fun o e => hst l o e
    by_cases hend : i = vs.length
    · subst hend
      refine wpAny_pyNext_list_end hh hit hl' (by simp) fun h2 he => ?_
      dsimp only at he ⊢
      refine hR items h2 m tk ?_ ?_ ?_ hlen ?_
      · obtain ⟨o, es, ep, ho, r⟩ := hns
        exact ⟨o, es, ep, he _ _ (Ne.symm nIC) ho, r⟩
      · exact fun b o e => he _ _ (low b o e).1 (hst b o e)
      · exact hac.at fun o e => he _ _ (Ne.symm nID) e
      · intro j v y hv hy g hg
        refine hG j v y hv hy g fun b o b0 b1 b2 b3 e => hg b o b0 b1 (he b o b3 e)
    · have hlt : i < vs.length := Nat.lt_of_le_of_ne hi hend
      refine wpAny_pyNext_list_item hit hl' (x := vs[i]) (by simp [hlt]) fun h2 hit2 hs2 => ?_
      dsimp only at hs2 ⊢
      have hns2 : h2.Ns C m := hns.sameBut hs2 (Ne.symm nIC)
      have hst2 : s.heap.StaysIn h2 := fun b o e => (hs2.2 b (low b o e).1).trans (hst b o e)
      obtain ⟨T, hT⟩ := hown vs[i] (List.getElem_mem hlt)
      have hin : vs[i] ∈ vs := List.getElem_mem hlt
      rw [hT]
      refine wpAny_letOwnedTupleGo_listiter hit2 ?_
      rw [← hT]
      refine helt C vs[i] { s with heap := h2, toks := tk } m _ _ (List.getElem_mem hlt) hC hns2 hst2 ⟨_, _, rfl⟩ fun y h3 m3 tk3 hns3 hk3 hnew => ?_
      dsimp only at hk3 hnew ⊢
      obtain ⟨nn, hac0⟩ := hac
      have hac2 : h2.get? D = some { cls := .type "list", data := .seq (List.toArray items) nn } := (hs2.2 D (Ne.symm nID)).trans hac0
      have hac3 : h3.PlainList D (List.toArray items) := ⟨nn, hk3 _ _ nDC hac2⟩
      refine wpAny_list_append_plain hac3 (fun h4 hac4 hs4 => ?_) (by rw [List.size_toArray]; omega)
      dsimp only at hs4 ⊢
      obtain ⟨oI, hoI, rI⟩ := hit2
      have stay4 : ∀ b o, b ≠ C → b ≠ D → h2.get? b = some o → h4.get? b = some o := fun b o b1 b2 e => (hs4.2 b b2).trans (hk3 b o b1 e)
      refine ⟨vs.length - (i + 1), by omega, i + 1, h4, m3, tk3, items ++ [y], hlt, rfl, rfl, hns3.sameBut hs4 (Ne.symm nDC), ?_, ?_, by rw [List.length_append, hlen]; rfl, ⟨oI, stay4 _ _ nIC nID hoI, rI⟩, ?_⟩
      · exact fun b o e => stay4 b o (low b o e).2.2 (low b o e).2.1 (hst2 b o e)
      · simpa using hac4
      · intro j v y' hv hy' g hg
        by_cases hj : j < items.length
        · rw [List.getElem?_append_left hj] at hy'
          refine hG j v y' hv hy' g fun b o b0 b1 b2 b3 e => hg b o b0 b1 b2 b3 (stay4 b o b1 b2 ((hs2.2 b b3).trans e))
        · have hje : j = items.length := by
            have := (List.getElem?_eq_some_iff.mp hy').1
            rw [List.length_append, List.length_singleton] at this
            omega
          subst hje
          rw [List.getElem?_append_right (Nat.le_refl _), Nat.sub_self] at hy'
          cases hy'
          rw [hlen, List.getElem?_eq_getElem hlt] at hv
          cases hv
          refine hnew g fun b o bn e => ?_
          have bD : b ≠ D := fun q => by rw [q, hac2] at bn; cases bn
          have bC : b ≠ C := fun q => by obtain ⟨o', _, _, ho', _⟩ := hns2; rw [q, ho'] at bn; cases bn
          have bI : b ≠ I := fun q => by rw [q, hoI] at bn; cases bn
          exact hg b o (none_of_stays hst2 bn) bC bD bI ((hs4.2 b bD).trans e)

theorem comp_tupR {elt iter : Expr} {elts : List Expr} {kk : Nat} {tp : Pos} {scope : Scope} {pos : Pos} {s : Shared} {l : Addr} {vs : List Value} {RR : Value → Addr → Result → Shared → Prop} {G : Heap → Value → Value → Prop}
    (hh : A.handled = none) (hcell : ∀ y ∈ scope.names, y.2 ≠ .cell) (hkind : scope.kind = .function) (hl : s.heap.IsList l vs.toArray) (hz : vs.length ≤ 1000)
    (helt : EltDoes prog w A env elt (.Tuple elts kk tp) scope s vs G) (hown : ∀ v ∈ vs, ∃ T, v = Value.ref T)
    (h : ∀ D C (ys : List Value) n h' m' tk, s.heap.StaysIn h' → s.heap.get? D = none → s.heap.get? C = none → D ≠ C → h'.Ns C m' → h'.get? D = some (listOf ys.toArray n) → ys.length = vs.length → (∀ (j : Nat) (v y : Value), vs[j]? = some v → ys[j]? = some y → ∀ g : Heap, (∀ b o, s.heap.get? b = none → b ≠ C → h'.get? b = some o → g.get? b = some o) → G g v y) → RR (.ref D) C (.ok .next) { s with heap := h', toks := tk }) :
    wpAny (model prog w) A (pyIter (.ref l)) (fun it s₂ => wpAny (model prog w) A (newList []) (fun acc s₃ => wpAny (model prog w) A (newFunctionEnv scope env.globals [] [] env.qual none .none (some env)) (fun cenv s₄ =>
      codeAny (model prog w) A (.compStart (.ListComp elt [⟨.Tuple elts kk tp, iter, [], 0⟩] scope pos) 0 it acc { cenv with scope := relabel scope env }) (RR acc cenv.locals) s₄) E s₃) E s₂) E s := by
  refine wpAny_pyIter_list hl ?_
  refine wpAny_newObj_type (wpAny_newFunctionEnv hcell (by intro y hy; simp at hy) (fun h₁ hns₁ hsb₁ => ?_) hkind)
  dsimp only at hns₁ hsb₁ ⊢
  simp only [Heap.size_push] at hns₁ hsb₁ ⊢
  have old : ∀ b o, s.heap.get? b = some o → h₁.get? b = some o := fun b o e => by
    have lt := Heap.lt_size e
    exact hsb₁.extBut b o (Nat.ne_of_lt (Nat.lt_succ_of_lt (Nat.lt_succ_of_lt lt))) (Heap.get?_push_of_some _ (Heap.get?_push_of_some _ (Heap.get?_push_of_some _ e)))
  have hI : h₁.IsListIter s.heap.objs.size l 0 := ⟨_, hsb₁.extBut _ _ (Nat.ne_of_lt (Nat.lt_succ_of_lt (Nat.lt_succ_self _))) (Heap.get?_push_of_some _ (Heap.get?_push_of_some _ (Heap.get?_push_size _ rfl))), rfl, rfl⟩
  have hD0 := Heap.get?_push_size (s.heap.push { cls := .type "list_iterator", data := .fields #[.ref l, .int 0 0] }) (o := { cls := .type "list", data := .seq #[] }) rfl
  rw [Heap.size_push] at hD0
  have hD : h₁.PlainList (s.heap.objs.size + 1) #[] := ⟨_, hsb₁.extBut _ _ (Nat.ne_of_lt (Nat.lt_succ_self _)) (Heap.get?_push_of_some _ hD0)⟩
  have loop : codeAny (model prog w) A (.compLoop (.ListComp elt [⟨.Tuple elts kk tp, iter, [], 0⟩] scope pos) 0 (.ref s.heap.objs.size) (.ref (s.heap.objs.size + 1)) (compEnvC scope [] (s.heap.objs.size + 1 + 1) env))
      (RR (.ref (s.heap.objs.size + 1)) (s.heap.objs.size + 1 + 1)) { s with heap := h₁, toks := s.toks + ([] : List (Str × Value)).length } := by
    refine comp_loop_tup hh hl hz helt hown (Nat.le_succ_of_le (Nat.le_succ _)) (Nat.le_refl _) (Nat.le_succ _) (Nat.ne_of_lt (Nat.lt_succ_self _)) (Nat.ne_of_lt (Nat.lt_succ_of_lt (Nat.lt_succ_self _))) (Nat.ne_of_lt (Nat.lt_succ_self _)) old hI hD hns₁ fun ys h' m' tk hns hst hpl hlen hG => ?_
    obtain ⟨n, hpl⟩ := hpl
    exact h _ _ ys n h' m' tk hst (Heap.get?_none_of_le (Nat.le_succ _)) (Heap.get?_none_of_le (Nat.le_succ_of_le (Nat.le_succ _))) (Nat.ne_of_lt (Nat.lt_succ_self _)) hns hpl hlen hG
  refine codeAny_compStart_list loop ?_
  exact wpAny_pyIter_listiter hI loop

theorem Assign_ListComp_tup {elt iter : Expr} {elts : List Expr} {kk : Nat} {tp : Pos} {y : Str} {py : Pos} {scope : Scope} {pos spos : Pos} {s : Shared} {Q : Flow → Shared → Prop}
    (hh : A.handled = none) (hsw : swapsWith (.ListComp elt [⟨.Tuple elts kk tp, iter, [], 0⟩] scope pos) (some (.Name y py)) spos.line env = pure true)
    (hclos : closureFor scope env = pure []) (hcell : ∀ y ∈ scope.names, y.2 ≠ .cell) (hkind : scope.kind = .function) (hnames : ∀ y ∈ scope.names, y.2 = .local → scope.names.lookup y.1 = some .local)
    (hy : env.kindOf y = some .local) (hp : (env.scope.kind == .class || (env.scope.kind == .module && env.locals != env.globals)) = false)
    (h : wpAny (model prog w) A (eval iter env) (fun xv s₁ => ∃ l vs m, ∃ G : Heap → Value → Value → Prop, xv = .ref l ∧ s₁.heap.IsList l vs.toArray ∧ vs.length ≤ 1000 ∧ EltDoes prog w A env elt (.Tuple elts kk tp) scope s₁ vs G ∧ (∀ v ∈ vs, ∃ T, v = Value.ref T) ∧ s₁.heap.Ns env.locals m ∧
      (∀ D (ys : List Value) n h' tk, (∀ b o, b ≠ env.locals → s₁.heap.get? b = some o → h'.get? b = some o) → h'.Ns env.locals (fun z => if z = y then some (.ref D) else m z) → s₁.heap.get? D = none → h'.get? D = some (listOf ys.toArray n) → ys.length = vs.length → (∀ (j : Nat) (v y : Value), vs[j]? = some v → ys[j]? = some y → G h' v y) → Q .next { s₁ with heap := h', toks := tk })) E s)
    (hs : ∀ x, foldedSetIterable iter env x = pure x := by intro _; rfl) :
    wpAny (model prog w) A (exec (.Assign [.Name y py] (.ListComp elt [⟨.Tuple elts kk tp, iter, [], 0⟩] scope pos) spos) env) Q E s := by
  rw [exec_Assign_Name_used _ _ _ _ hsw]
  refine wpAny_bind (wpAny_standAt (wpAny_bind ?_))
  show wpAny _ A (do let _ ← comprehension (.ListComp elt [⟨.Tuple elts kk tp, iter, [], 0⟩] scope pos) scope env _ (newList []) false (eval iter env) (some (assign (.Name y py) env))) _ _ s
  refine wpAny_bind (wpAny_mono (wpAny_comprehension_free (use := some (assign (.Name y py) env)) (Q := fun _ s' => Q .next s') rfl hs hclos hkind hnames
    (wpAny_mono h (fun xv s₁ h₁ => ?_) fun _ _ e => e)) (fun _ s' hq => wpAny_pure (wpAny_pure hq)) fun _ _ e => e)
  obtain ⟨l, vs, m, G, rfl, hl, hz, helt, hown, hn, hQ⟩ := h₁
  refine comp_tupR (RR := fun acc C => compPost (model prog w) A E (some (assign (.Name y py) env)) (fun _ s' => Q .next s') acc C) hh hcell hkind hl hz helt hown fun D C ys n h' m' tk st nD nC nDC hns gD hlen hG => ?_
  have gL : ∃ o, s₁.heap.get? env.locals = some o := by obtain ⟨o, _, _, e, _⟩ := hn; exact ⟨o, e⟩
  obtain ⟨oL, gL⟩ := gL
  have hLC : env.locals ≠ C := fun q => by rw [q, nC] at gL; cases gL
  have hLD : env.locals ≠ D := fun q => by rw [q, nD] at gL; cases gL
  show wpAny _ A (assign (.Name y py) env (.ref D)) _ _ _
  refine wpAny_assign_Name (wpAny_storeName_local hy (hn.at' fun o e => st _ o e) (fun h₂ hn₂ hs₂ => ?_) hp)
  refine ⟨m', hns.sameBut hs₂ (Ne.symm hLC), fun h₃ hs₃ => ?_⟩
  have up : ∀ b o, b ≠ env.locals → b ≠ C → h'.get? b = some o → h₃.get? b = some o := fun b o b1 b2 e => (hs₃.2 b b2).trans ((hs₂.2 b b1).trans e)
  refine hQ D ys n h₃ _ (fun b o b1 e => up b o b1 (fun q => by rw [q, nC] at e; cases e) (st b o e)) (hn₂.sameBut hs₃ hLC) nD (up D _ (Ne.symm hLD) nDC gD) hlen fun j v y hv hy => hG j v y hv hy h₃ fun b o bn bC e => up b o (fun q => by rw [q, gL] at bn; cases bn) bC e
end
end Mine
end JC32

section JC33
open PySem PySem.W PyProof.Rows PySem.Calls
set_option Elab.async false
set_option maxRecDepth 100000
set_option maxHeartbeats 4000000
namespace Mine
section
variable {w : World} {ad au : Nat} {afr : Option (List Env)} {ags : Option (List Code)} {s : Shared}
noncomputable def swapG (h₀ hh : Heap) (v y : Value) : Prop := ∀ (t : Addr) us nn a b c, v = .ref t → h₀.get? t = some { cls := .type "tuple", data := .seq (List.toArray us) nn } → IntsAre us [a, b, c] → ∃ (y' : Addr) (us' : List Value), y = .ref y' ∧ hh.get? y' = some { cls := .type "tuple", data := .seq (List.toArray us') } ∧ IntsAre us' [b, c, a] ∧ h₀.get? y' = none
theorem ints3 {us : List Value} {a b c : Int} (h : IntsAre us [a, b, c]) : ∃ ta tb tc, us = [.int a ta, .int b tb, .int c tc] := by
  cases h with
  | cons _ ta h => cases h with
    | cons _ tb h => cases h with
      | cons _ tc h => cases h; exact ⟨ta, tb, tc, rfl⟩
theorem elt_swap {env : Env} {scope : Scope} {p1 p2 p3 p4 p5 p6 p7 p8 : Pos} {k1 k2 : Nat} {vs : List Value} (hk : scope.kind = .function) (hx1 : scope.names.lookup (Str.ofString "prefix") = some .local) (hx2 : scope.names.lookup (Str.ofString "one") = some .local) (hx3 : scope.names.lookup (Str.ofString "first") = some .local)
    (hvs : ∀ v ∈ vs, ∃ (t : Addr) (us : List Value) (nn : Nat) (a b c : Int), v = .ref t ∧ s.heap.get? t = some { cls := .type "tuple", data := .seq (List.toArray us) nn } ∧ IntsAre us [a, b, c]) :
    EltDoes pwL w (mkA ad afr ags au) env (.Tuple [.Name (Str.ofString "one") p1, .Name (Str.ofString "first") p2, .Name (Str.ofString "prefix") p3] k1 p4) (.Tuple [.Name (Str.ofString "prefix") p5, .Name (Str.ofString "one") p6, .Name (Str.ofString "first") p7] k2 p8) scope s vs (swapG s.heap) := by
  intro C v s₂ m₂ Q' E' hv hC hns st _ hQ
  obtain ⟨t, us, nn, a, b, c, rfl, ht, hi⟩ := hvs v hv
  obtain ⟨ta, tb, tc, rfl⟩ := ints3 hi
  have nC : C ≠ s₂.heap.objs.size := Nat.ne_of_lt hns.lt
  refine wpAny_assign_Tuple (items := #[.int a ta, .int b tb, .int c tc]) rfl ⟨_, st _ _ ht, rfl, _, rfl⟩ rfl rfl fun h1 he1 => ?_
  have hn1 : h1.Ns C m₂ := hns.at' fun o e => he1 _ o nC e
  have up1 : ∀ b o, s₂.heap.get? b = some o → h1.get? b = some o := fun b o e => he1 b o (Nat.ne_of_lt (Heap.lt_size e)) e
  show wpAny _ _ (assignInOrder [assign (.Name (Str.ofString "prefix") p5) (compEnvC scope [] C env), assign (.Name (Str.ofString "one") p6) (compEnvC scope [] C env), assign (.Name (Str.ofString "first") p7) (compEnvC scope [] C env)] [.int a ta, .int b tb, .int c tc]) _ _ _
  refine assignInOrder_cons ?_
  refine wpAny_assign_Name (wpAny_storeName_local (env := compEnvC scope [] C env) (lookup_relabel_local hx1) hn1 (fun h2 hn2 hs2 => ?_) (by simp [compEnvC, relabel, hk]))
  refine assignInOrder_cons ?_
  refine wpAny_assign_Name (wpAny_storeName_local (env := compEnvC scope [] C env) (lookup_relabel_local hx2) hn2 (fun h3 hn3 hs3 => ?_) (by simp [compEnvC, relabel, hk]))
  refine assignInOrder_cons ?_
  refine wpAny_assign_Name (wpAny_storeName_local (env := compEnvC scope [] C env) (lookup_relabel_local hx3) hn3 (fun h4 hn4 hs4 => ?_) (by simp [compEnvC, relabel, hk]))
  refine assignInOrder_nil ?_
  refine Tuple_ ?_
  refine args_cons (wpAny_Name (wpAny_loadName_local (env := compEnvC scope [] C env) hk (lookup_relabel_local hx2) hn4 (v := .int b tb) rfl ?_) (by decide))
  refine args_cons (wpAny_Name (wpAny_loadName_local (env := compEnvC scope [] C env) hk (lookup_relabel_local hx3) hn4 (v := .int c tc) rfl ?_) (by decide))
  refine args_cons (wpAny_Name (wpAny_loadName_local (env := compEnvC scope [] C env) hk (lookup_relabel_local hx1) hn4 (v := .int a ta) rfl ?_) (by decide))
  refine args_nil ?_
  refine wpAny_newTuple ?_
  have up : ∀ b o, b ≠ C → s₂.heap.get? b = some o → h4.get? b = some o := fun b o hb e => (hs4.2 b hb).trans ((hs3.2 b hb).trans ((hs2.2 b hb).trans (up1 b o e)))
  refine hQ _ _ _ _ (hn4.at' fun o e => Heap.get?_push_of_some _ e) (fun b o hb e => Heap.get?_push_of_some _ (up b o hb e)) fun hh f t' us' nn' a' b' c' e ht' hi' => ?_
  cases e
  rw [ht] at ht'
  cases ht'
  cases hi' with
  | cons _ _ h => cases h with
    | cons _ _ h => cases h with
      | cons _ _ h =>
        have n4 : h4.get? h4.objs.size = none := Heap.get?_none_of_le (Nat.le_refl _)
        have n2 : s₂.heap.get? h4.objs.size = none := by
          cases z : s₂.heap.get? h4.objs.size with
          | none => rfl
          | some o =>
            by_cases hb : h4.objs.size = C
            · obtain ⟨o', _, _, e', _⟩ := hn4; have e2 : h4.get? C = some o' := e'; rw [hb, e2] at n4; cases n4
            · rw [up _ _ hb z] at n4; cases n4
        exact ⟨_, _, rfl, f _ _ n2 (Heap.get?_push_size _ rfl), .cons _ _ (.cons _ _ (.cons _ _ .nil)), none_of_stays st n2⟩
end
end Mine
end JC33

section JC34
open PySem PySem.W PyProof.Rows PySem.Calls
set_option Elab.async false
set_option maxRecDepth 100000
set_option maxHeartbeats 4000000
namespace Mine
section
variable {w : World} {ad au : Nat} {afr : Option (List Env)} {ags : Option (List Code)} {s : Shared} {mg mb : Str → Option Value} {p : Program} {loose : List Str} {mean : ExcName → Option Value}
noncomputable def triG (P : Params) (h₀ hh : Heap) (v y : Value) : Prop := ∀ d, NetD P h₀ v d → ∃ (y' : Addr) (us' : List Value), y = .ref y' ∧ hh.get? y' = some { cls := .type "tuple", data := .seq (List.toArray us') } ∧ IntsAre us' [d.k.ver, d.first, d.p] ∧ h₀.get? y' = none
theorem elt_tri {env : Env} {scope : Scope} {p0 p1 p2 p3 p4 p5 p6 p7 : Pos} {k1 : Nat} {vs : List Value} {ds : List ND} (X : (K w.params).In s.heap) (T : Top p loose mean mg mb s.heap) (hk : scope.kind = .function) (hc : scope.names.lookup (Str.ofString "net") = some .local) (hds : NetsD w.params s.heap vs ds) (hok : ∀ d ∈ ds, d.ok) (hroom : ad + 8 < recursionLimit) :
    EltDoes pwL w (mkA ad afr ags au) env (.Tuple [.Attribute (.Name (Str.ofString "net") p1) (Str.ofString "version") p2, .Attribute (.Name (Str.ofString "net") p3) (Str.ofString "first") p4, .Attribute (.Name (Str.ofString "net") p5) (Str.ofString "prefixlen") p6] k1 p7) (.Name (Str.ofString "net") p0) scope s vs (triG w.params s.heap) := by
  intro C v s₂ m₂ Q' E' hv hC hns st _ hQ
  obtain ⟨d, hd, x, rfl, hN⟩ := hds.mem hv
  have hp := (hok d hd).1
  refine wpAny_assign_Name (wpAny_storeName_local (env := compEnvC scope [] C env) (lookup_relabel_local hc) hns (fun h1 hn1 hs1 => ?_) (by simp [compEnvC, relabel, hk]))
  have nC : ∀ b o, s.heap.get? b = some o → b ≠ C := fun b o e => Nat.ne_of_lt (Nat.lt_of_lt_of_le (Heap.lt_size e) hC)
  have F : Fr s.heap C h1 (fun y => if y = Str.ofString "net" then some (.ref x) else m₂ y) := ⟨hn1, fun b o e => (hs1.2 b (nC b o e)).trans (st b o e), hC⟩
  have N : News s.heap C h1 [] := News.nil
  refine Tuple_ ?_
  refine args_cons (Attribute_name (wpAny_Name (wpAny_loadName_local (env := compEnvC scope [] C env) hk (lookup_relabel_local hc) F.ns (if_pos rfl) ?_) (by decide)))
  refine g_version F N X T (hN.keeps F.keep) rfl (show ad + 2 < recursionLimit by omega) fun h2 tk2 st2 F2 N2 => ?_
  refine args_cons (Attribute_name (wpAny_Name (wpAny_loadName_local (env := compEnvC scope [] C env) hk (lookup_relabel_local hc) F2.ns (if_pos rfl) ?_) (by decide)))
  refine g_first F2 N2 X T (hN.keeps F2.keep) hp rfl (show ad + 3 < recursionLimit by omega) fun h3 tk3 t3 st3 F3 N3 => ?_
  refine args_cons (Attribute_name (wpAny_Name (wpAny_loadName_local (env := compEnvC scope [] C env) hk (lookup_relabel_local hc) F3.ns (if_pos rfl) ?_) (by decide)))
  refine g_prefix F3 N3 X T (hN.keeps F3.keep) rfl (show ad + 2 < recursionLimit by omega) fun h4 tk4 t4 st4 F4 N4 => ?_
  refine args_nil ?_
  refine wpAny_newTuple ?_
  have up : ∀ b o, b ≠ C → s₂.heap.get? b = some o → h4.get? b = some o := fun b o hb e => st4 _ _ (st3 _ _ (st2 _ _ ((hs1.2 b hb).trans e)))
  refine hQ _ _ _ _ (F4.ns.at' fun o e => Heap.get?_push_of_some _ e) (fun b o hb e => Heap.get?_push_of_some _ (up b o hb e)) fun hh f d' hd' => ?_
  obtain ⟨x', e, hN'⟩ := hd'
  cases e
  obtain ⟨e1, e2, e3⟩ : d.v = d'.v ∧ d.p = d'.p ∧ d.k = d'.k := NetAt_inj hN hN'
  have ed : d = d' := by cases d; cases d'; simp_all
  subst ed
  have n4 : h4.get? h4.objs.size = none := Heap.get?_none_of_le (Nat.le_refl _)
  have n2 : s₂.heap.get? h4.objs.size = none := by
    cases z : s₂.heap.get? h4.objs.size with
    | none => rfl
    | some o =>
      by_cases hb : h4.objs.size = C
      · obtain ⟨o', _, _, e', _⟩ := F4.ns
        rw [hb, e'] at n4; cases n4
      · rw [up _ _ hb z] at n4; cases n4
  exact ⟨_, _, rfl, f _ _ n2 (Heap.get?_push_size _ rfl), .cons _ _ (.cons _ _ (.cons _ _ .nil)), none_of_stays st n2⟩
end
end Mine
end JC34

section JC35
open PySem PySem.W PyProof.Rows PySem.Calls
set_option Elab.async false
set_option maxRecDepth 100000
set_option maxHeartbeats 4000000
namespace Mine
noncomputable def dueP (k : Kd) (v p : Int) : List Int := [p, k.ver, v - v.fmod (2 ^ ((k.wid : Int) - p).toNat)]
noncomputable def triP (k : Kd) (v p : Int) : List Int := [k.ver, v - v.fmod (2 ^ ((k.wid : Int) - p).toNat), p]
theorem dueOf_P {k : Kd} {v : Int} {ds : List ND} : dueOf k v ds = ((ds.filter fun d => hasB d.k d.v d.p k v).map (·.p)).map (dueP k v) := by
  unfold dueOf; rw [List.map_map]; rfl
theorem sort_perm {ps : List Int} {n : Nat} {q : Array Nat} (hn : n = ps.length) (so : SortOut (fun i => ps.getD i 0) n q) :
    (q.toList.map fun i => ps.getD i 0).Perm ps ∧ (q.toList.map fun i => ps.getD i 0).Pairwise (· ≤ ·) := by
  subst hn
  obtain ⟨hp, hs⟩ := so
  have dsf : ps = (List.range ps.length).map (fun i => ps.getD i 0) := by
    apply List.ext_getElem?
    intro i
    rw [List.getElem?_map]
    by_cases hi : i < ps.length
    · rw [List.getElem?_range hi]; simp [List.getD, List.getElem?_eq_getElem hi]
    · have h1 : (List.range ps.length)[i]? = none := by simp; omega
      have h2 : ps[i]? = none := by simp; omega
      rw [h1, h2]; rfl
  have hlen : q.toList.length = ps.length := by rw [hp.length_eq]; simp
  refine ⟨?_, ?_⟩
  · conv => rhs; rw [dsf]
    exact hp.map _
  · rw [List.pairwise_iff_getElem]
    intro i j hi hj hij
    rw [List.length_map] at hi hj
    have h1 := hs i j (Nat.le_of_lt hij) (by omega)
    have g : ∀ k (hk : k < q.toList.length), q.getD k 0 = q.toList[k] := by
      intro k hk
      have : k < q.size := by simpa using hk
      simp [Array.getD, this]
    dsimp only at h1
    rw [g i hi, g j hj] at h1
    simpa using h1
theorem sort_rel {α : Type} {R : Value → α → Prop} {ys : List Value} {ps : List Int} {f : Int → α} {n : Nat} {q : Array Nat} {rk : Nat → Int} (hn : n = ps.length) (H : RelL R ys (ps.map f)) (so : SortOut rk n q) : RelL R (q.toList.map fun i => ys.getD i Value.none) ((q.toList.map fun i => ps.getD i 0).map f) := by
  subst hn
  have lt : ∀ i ∈ q.toList, i < ps.length := fun i hi => List.mem_range.mp (so.1.mem_iff.mp hi)
  have hl : ys.length = ps.length := by rw [H.1, List.length_map]
  refine ⟨by simp, fun j y x a b => ?_⟩
  rw [List.getElem?_map] at a
  rw [List.getElem?_map, List.getElem?_map] at b
  cases e : q.toList[j]? with
  | none => rw [e] at a; cases a
  | some i =>
    rw [e] at a b
    cases a; cases b
    have hi := lt i (List.mem_of_getElem? e)
    refine H.2 i _ _ ?_ ?_
    · simp [List.getD, List.getElem?_eq_getElem (show i < ys.length by omega)]
    · rw [List.getElem?_map]; simp [List.getD, List.getElem?_eq_getElem hi]
theorem lex_dueP {k : Kd} {v p q : Int} : lexLt (dueP k v p) (dueP k v q) = decide (p < q) := by
  unfold dueP
  by_cases h : p = q
  · subst h; simp [lexLt]
  · simp [lexLt, h]
noncomputable def triN (h₀ h : Heap) (y : Value) (xs : List Int) : Prop := ∃ (t : Addr) (us : List Value), y = .ref t ∧ h.get? t = some { cls := .type "tuple", data := .seq (List.toArray us) } ∧ IntsAre us xs ∧ h₀.get? t = none
theorem triN_objs {h₀ h : Heap} : ∀ {ys : List Value} {xss : List (List Int)}, RelL (triN h₀ h) ys xss → ∃ objs : List (Addr × Obj), (∀ q ∈ objs, h.get? q.1 = some q.2 ∧ h₀.get? q.1 = none) ∧ RelL (dueI objs) ys xss
  | [], xss, H => ⟨[], fun _ h => (nomatch h), H.1, fun j y x a => by simp at a⟩
  | y :: ys, [], H => by have := H.1; simp at this
  | y :: ys, x :: xss, H => by
    obtain ⟨objs, a, b⟩ := triN_objs (ys := ys) (xss := xss) ⟨by have := H.1; simpa using this, fun j y' d' e f => H.2 (j + 1) y' d' e f⟩
    obtain ⟨t, us, rfl, g, i, f0⟩ := H.2 0 y x rfl rfl
    refine ⟨(t, { cls := .type "tuple", data := .seq (List.toArray us) }) :: objs, fun q hq => ?_, H.1, fun j y' d' e f => ?_⟩
    · rcases List.mem_cons.mp hq with rfl | hq
      · exact ⟨g, f0⟩
      · exact a q hq
    · cases j with
      | zero => cases e; cases f; exact ⟨t, us, 0, rfl, .head _, i⟩
      | succ j => exact (b.2 j y' d' e f).mono fun q hq => .tail _ hq
section
variable {w : World} {ad au : Nat} {afr : Option (List Env)} {ags : Option (List Code)} {s : Shared} {h₀ : Heap} {L : Addr} {m m0 : Str → Option Value} {news own rest : List (Addr × Obj)} {mg mb : Str → Option Value} {p : Program} {loose : List Str} {mean : ExcName → Option Value} {R : Result → Shared → Prop} {E : Value → Shared → Prop} {e : Bool} {Q : Flow → Shared → Prop}
local macro_rules | `(tactic| walk_at "call builtin:list.sort") => `(tactic| (k_here; refine Stop.go ?_))
local macro_rules | `(tactic| k_mem) => `(tactic| assumption)
local macro_rules | `(tactic| k_all) => `(tactic| assumption)
theorem st8 {sc M Du : Addr} {ta tb tok tok2 tok3 tok4 : Tok} {a b v : Int} {k : Kd} {nu pr tu va si : Option Value} {dues : List Value} {ps : List Int} {n2 : Nat} (F : Fr h₀ L s.heap (mapB nu pr tu va si (lawB sc M Du a b v k ta tb tok tok2 tok3 tok4))) (N : News h₀ L s.heap ((Du, listOf (List.toArray dues) n2) :: rest)) (X : (K w.params).In h₀) (T : Top p loose mean mg mb h₀)
    (hne : ∀ q ∈ rest, q.1 ≠ Du) (hD : RelL (dueI rest) dues (ps.map (dueP k v))) (h64 : dues.length < 64) (hroom : ad + 30 < recursionLimit)
    (h : ∀ dues' (qs : List Int) n2' h' tk, qs.Perm ps → qs.Pairwise (· ≤ ·) → RelL (dueI rest) dues' (qs.map (dueP k v)) → Fr h₀ L h' (mapB nu pr tu va si (lawB sc M Du a b v k ta tb tok tok2 tok3 tok4)) → News h₀ L h' ((Du, listOf (List.toArray dues') n2') :: rest) → Q .next { s with heap := h', toks := tk }) :
    wpAny (model pwL w) (mkA ad afr ags au) (exec (sAt fb2995.val 8) (envX (Str.ofString "law") fs2995.val L 2995 (.ref 2994) [])) Q E s := by
  simp only [fb2995, sAt, List.getD, List.getElem?_cons_zero, List.getElem?_cons_succ, Option.getD_some]
  (try k_fold)
  k_steps
  unfold Stop
  have hl : dues.length = ps.length := by rw [hD.1, List.length_map]
  refine lsort_raw (a := Du) (n0 := n2) (m := 2) (vs := dues) (xss := ps.map (dueP k v)) (rk := fun i => ps.getD i 0) (N.get (.head _)) h64 ?_ (by rw [List.length_map]; exact hl) ?_ ?_ ?_
  · intro i y xs e1 e2
    obtain ⟨t, us, nn, rfl, hm, hi⟩ := hD.2 i y xs e1 e2
    exact ⟨t, us, nn, rfl, hne _ hm, N.get (.tail _ hm), hi⟩
  · intro xs hxs
    obtain ⟨q, _, rfl⟩ := List.mem_map.mp hxs
    rfl
  · intro i j hi hj
    rw [hl] at hi hj
    have g : ∀ i (hi : i < ps.length), (ps.map (dueP k v)).getD i [] = dueP k v (ps.getD i 0) := fun i hi => by simp [List.getD, List.getElem?_eq_getElem hi]
    rw [g i hi, g j hj, lex_dueP]
  · intro q h' c so kp gD
    obtain ⟨pe, pw⟩ := sort_perm hl so
    have hN := N _ (.head _)
    have F' := Fr_but F kp (Ne.symm hN.2.1) hN.2.2
    refine h _ _ c h' _ pe pw (sort_rel hl hD so) F' fun q hq => ?_
    rcases List.mem_cons.mp hq with rfl | hq
    · exact ⟨gD, hN.2⟩
    · exact News_but (fun q hq => N q (.tail _ hq)) kp hne q hq
end
end Mine
end JC35

section JC36
open PySem PySem.W PyProof.Rows PySem.Calls
set_option Elab.async false
set_option maxRecDepth 100000
set_option maxHeartbeats 4000000
namespace Mine
theorem rel_mem {α : Type} {R : Value → α → Prop} {ys : List Value} {xs : List α} (H : RelL R ys xs) {y : Value} (hy : y ∈ ys) : ∃ x ∈ xs, R y x := by
  obtain ⟨j, hj, e⟩ := List.getElem_of_mem hy
  have hj' : j < xs.length := by rw [← H.1]; exact hj
  exact ⟨xs[j], List.getElem_mem hj', H.2 j y _ (by rw [List.getElem?_eq_getElem hj, e]) (List.getElem?_eq_getElem hj')⟩
theorem News_more {g h h' : Heap} {L : Addr} {m : Str → Option Value} {news objs : List (Addr × Obj)} (F : Fr g L h m) (N : News g L h news) (st : ∀ b o, b ≠ L → h.get? b = some o → h'.get? b = some o) (ho : ∀ q ∈ objs, h'.get? q.1 = some q.2 ∧ h.get? q.1 = none) : News g L h' (objs ++ news) ∧ ∀ q ∈ objs, ∀ r ∈ news, r.1 ≠ q.1 := by
  refine ⟨fun q hq => ?_, fun q hq r hr e => ?_⟩
  · rcases List.mem_append.mp hq with hq | hq
    · obtain ⟨a, b⟩ := ho q hq
      obtain ⟨o, _, _, e, _⟩ := F.ns
      refine ⟨a, fun z => ?_, none_of_stays F.keep b⟩
      have z' : q.1 = L := z
      rw [z', e] at b; cases b
    · exact ⟨st _ _ (N q hq).2.1 (N q hq).1, (N q hq).2⟩
  · have := (N r hr).1
    rw [e, (ho q hq).2] at this
    cases this
section
variable {w : World} {ad au : Nat} {afr : Option (List Env)} {ags : Option (List Code)} {s : Shared} {h₀ : Heap} {L : Addr} {m m0 : Str → Option Value} {news own rest : List (Addr × Obj)} {mg mb : Str → Option Value} {p : Program} {loose : List Str} {mean : ExcName → Option Value} {R : Result → Shared → Prop} {E : Value → Shared → Prop} {e : Bool} {Q : Flow → Shared → Prop}
local macro_rules | `(tactic| walk_at "eval ListComp") => `(tactic| (k_here; refine Stop.go ?_))
local macro_rules | `(tactic| walk_at "eval ListComp Tuple") => `(tactic| (k_here; refine Stop.go ?_))
local macro_rules | `(tactic| k_mem) => `(tactic| assumption)
local macro_rules | `(tactic| k_all) => `(tactic| assumption)
theorem st9 {sc M Du : Addr} {ta tb tok tok2 tok3 tok4 : Tok} {a b v : Int} {k : Kd} {nu pr tu va si : Option Value} {dues : List Value} {qs : List Int} {n2 : Nat} (F : Fr h₀ L s.heap (mapB nu pr tu va si (lawB sc M Du a b v k ta tb tok tok2 tok3 tok4))) (N : News h₀ L s.heap news) (X : (K w.params).In h₀) (T : Top p loose mean mg mb h₀)
    (hDu : (Du, listOf (List.toArray dues) n2) ∈ news) (hD : RelL (dueI news) dues (qs.map (dueP k v))) (h64 : dues.length < 64) (hroom : ad + 30 < recursionLimit)
    (h : ∀ Du2 (dues2 : List Value) n objs2 h' tk, RelL (dueI objs2) dues2 (qs.map (triP k v)) → Fr h₀ L h' (up "due" (.ref Du2) (mapB nu pr tu va si (lawB sc M Du a b v k ta tb tok tok2 tok3 tok4))) → News h₀ L h' ((Du2, listOf (List.toArray dues2) n) :: objs2 ++ news) → (∀ q ∈ (Du2, listOf (List.toArray dues2) n) :: objs2, ∀ r ∈ news, r.1 ≠ q.1) → Q .next { s with heap := h', toks := tk }) :
    wpAny (model pwL w) (mkA ad afr ags au) (exec (sAt fb2995.val 9) (envX (Str.ofString "law") fs2995.val L 2995 (.ref 2994) [])) Q E s := by
  simp only [fb2995, sAt, List.getD, List.getElem?_cons_zero, List.getElem?_cons_succ, Option.getD_some]
  have hm : mapB nu pr tu va si (lawB sc M Du a b v k ta tb tok tok2 tok3 tok4) (Str.ofString "due") = some (.ref Du) := rfl
  have hvs : ∀ y ∈ dues, ∃ (t : Addr) (us : List Value) (nn : Nat) (a b c : Int), y = .ref t ∧ s.heap.get? t = some { cls := .type "tuple", data := .seq (List.toArray us) nn } ∧ IntsAre us [a, b, c] := by
    intro y hy
    obtain ⟨xs, hxs, t, us, nn, rfl, ht, hi⟩ := rel_mem hD hy
    obtain ⟨q, _, rfl⟩ := List.mem_map.mp hxs
    exact ⟨t, us, nn, _, _, _, rfl, N.get ht, hi⟩
  refine Assign_ListComp_tup rfl rfl rfl (by decide) rfl (by decide) rfl rfl (nameX_L F hm ⟨Du, dues, _, swapG s.heap, rfl, ⟨_, N.get hDu, rfl, _, rfl⟩, by omega, elt_swap rfl rfl rfl rfl hvs, fun y hy => ?_, F.ns, ?_⟩)
  · obtain ⟨t, _, _, _, _, _, e, _⟩ := hvs y hy
    exact ⟨t, e⟩
  · intro D ys n h1 tk1 st1 ns1 nD gD hlen hG
    have hR : RelL (triN s.heap h1) ys (qs.map (triP k v)) := by
      refine ⟨by rw [hlen, hD.1, List.length_map, List.length_map], fun j y xs e1 e2 => ?_⟩
      rw [List.getElem?_map] at e2
      cases eq : qs[j]? with
      | none => rw [eq] at e2; cases e2
      | some q =>
        rw [eq] at e2; cases e2
        have hj : j < dues.length := by rw [← hlen]; exact (List.getElem?_eq_some_iff.mp e1).1
        obtain ⟨t, us, nn, e3, ht, hi⟩ := hD.2 j dues[j] (dueP k v q) (List.getElem?_eq_getElem hj) (by rw [List.getElem?_map, eq]; rfl)
        obtain ⟨y', us', e4, g', i', f'⟩ := hG j dues[j] y (List.getElem?_eq_getElem hj) e1 t us nn _ _ _ e3 (N.get ht) hi
        exact ⟨y', us', e4, g', i', f'⟩
    obtain ⟨objs2, ho, hR2⟩ := triN_objs hR
    obtain ⟨N1, hne⟩ := News_more (objs := (D, listOf (List.toArray ys) n) :: objs2) F N st1 (fun q hq => by
      rcases List.mem_cons.mp hq with rfl | hq
      · exact ⟨gD, nD⟩
      · exact ho q hq)
    have F1 : Fr h₀ L h1 (up "due" (.ref D) (mapB nu pr tu va si (lawB sc M Du a b v k ta tb tok tok2 tok3 tok4))) := ⟨ns1, fun b o e => st1 b o (Nat.ne_of_lt (Nat.lt_of_lt_of_le (Heap.lt_size e) F.above)) (F.keep b o e), F.above⟩
    exact h D ys n objs2 h1 tk1 hR2 F1 N1 hne
end
end Mine
end JC36

section JC37
open PySem PySem.W PyProof.Rows PySem.Calls
set_option Elab.async false
set_option maxRecDepth 100000
set_option maxHeartbeats 4000000
namespace Mine
noncomputable def OptI (P : Params) (objs : List (Addr × Obj)) (r : Value) : Option ND → Prop
  | none => r = .none
  | some d => ∃ x dx, r = .ref x ∧ (x, instObj 2868 dx) ∈ objs ∧ NetIn P objs x d.v d.p d.k
theorem OptF.objs {P : Params} {h₀ h : Heap} {r : Value} {d : Option ND} (H : OptF P h₀ h r d) : ∃ objs : List (Addr × Obj), (∀ q ∈ objs, h.get? q.1 = some q.2 ∧ h₀.get? q.1 = none) ∧ OptI P objs r d := by
  cases d with
  | none => exact ⟨[], fun q h => (nomatch h), H⟩
  | some d =>
    obtain ⟨x, dx, t1, t2, t3, tv, tp, n, rfl, a, b, f1, f2⟩ := H
    refine ⟨[(x, instObj 2868 dx), (dx, dictOf (netEs P t1 t2 t3 d.v tv d.k.addr d.p tp) n)], fun q hq => ?_, x, dx, rfl, .head _, dx, t1, t2, t3, tv, tp, n, .head _, .tail _ (.head _)⟩
    rcases List.mem_cons.mp hq with rfl | hq
    · exact ⟨a, f1⟩
    · rcases List.mem_singleton.mp hq with rfl
      exact ⟨b, f2⟩
theorem fresh_more {g h h' : Heap} {L : Addr} {m : Str → Option Value} {news objs : List (Addr × Obj)} (F : Fr g L h m) (N : News g L h news) (ho : ∀ q ∈ objs, h'.get? q.1 = some q.2 ∧ h.get? q.1 = none) : (∀ q ∈ objs, q.1 ≠ L ∧ g.get? q.1 = none) ∧ ∀ q ∈ objs, ∀ r ∈ news, r.1 ≠ q.1 := by
  refine ⟨fun q hq => ?_, fun q hq r hr e => ?_⟩
  · obtain ⟨a, b⟩ := ho q hq
    obtain ⟨o, _, _, e, _⟩ := F.ns
    refine ⟨fun z => ?_, none_of_stays F.keep b⟩
    have z' : q.1 = L := z
    rw [z', e] at b; cases b
  · have := (N r hr).1
    rw [e, (ho q hq).2] at this
    cases this
section
variable {w : World} {ad au : Nat} {afr : Option (List Env)} {ags : Option (List Code)} {s : Shared} {h₀ : Heap} {L : Addr} {m m0 : Str → Option Value} {news own rest : List (Addr × Obj)} {mg mb : Str → Option Value} {p : Program} {loose : List Str} {mean : ExcName → Option Value} {R : Result → Shared → Prop} {E : Value → Shared → Prop} {e : Bool}
section
variable {Q : Value → Shared → Prop}
theorem u_largest {y l nl : Nat} {vs : List Value} {ds : List ND} {u : Int} {k' : Kd} (F : Fr h₀ L s.heap m) (N : News h₀ L s.heap ((2982, tabObj #[]) :: rest)) (hne : ∀ q ∈ rest, q.1 ≠ 2982) (X : (K w.params).In h₀) (T : Top p loose mean mg mb h₀) (hl : (l, listOf (List.toArray vs) nl) ∈ rest) (hY : AddrAt w.params s.heap y u k') (hds : NetsD w.params s.heap vs ds) (hok : ∀ d ∈ ds, d.ok) (h64 : vs.length < 64) (hroom : ad + 20 < recursionLimit)
    (h : ∀ r (es : List ND) objs h' tk ps, es.Perm ds → SortedND es → OptI w.params objs r (largestOf k' u es) → Fr h₀ L h' m → News h₀ L h' (objs ++ (2982, tabObj ps) :: rest) → (∀ q ∈ objs, ∀ r ∈ (2982, tabObj #[]) :: rest, r.1 ≠ q.1) → Q r { s with heap := h', toks := tk }) :
    wpAny (model pwL w) (mkA ad afr ags au) (call (.ref 2985) [.ref y, .ref l] []) Q E s := by
  have hT := N _ (.head _)
  have hlm := N _ (.tail _ hl)
  refine wpAny_call (c_largest X T F.keep hT.2.2 hlm.2.2 hT.1 hlm.1 hY hds hok h64 hroom fun r es h' tk ps kp gP pe so hO => ?_)
  have F' : Fr h₀ L h' m := Fr_but F kp (Ne.symm hT.2.1) hT.2.2
  have N' : News h₀ L h' ((2982, tabObj ps) :: rest) := fun q hq => by
    rcases List.mem_cons.mp hq with rfl | hq
    · exact ⟨gP, hT.2⟩
    · exact News_but (fun q hq => N q (.tail _ hq)) kp hne q hq
  obtain ⟨objs, ho, hI⟩ := OptF.objs hO
  have fr := fresh_more F N ho
  refine h r es objs h' tk ps pe so hI F' (fun q hq => ?_) fr.2
  rcases List.mem_append.mp hq with hq | hq
  · exact ⟨(ho q hq).1, fr.1 q hq⟩
  · exact N' q hq
theorem u_smallest {y l nl : Nat} {vs : List Value} {ds : List ND} {u : Int} {k' : Kd} (F : Fr h₀ L s.heap m) (N : News h₀ L s.heap ((2977, tabObj #[]) :: rest)) (hne : ∀ q ∈ rest, q.1 ≠ 2977) (X : (K w.params).In h₀) (T : Top p loose mean mg mb h₀) (hl : (l, listOf (List.toArray vs) nl) ∈ rest) (hY : AddrAt w.params s.heap y u k') (hds : NetsD w.params s.heap vs ds) (hok : ∀ d ∈ ds, d.ok) (h64 : vs.length < 64) (hroom : ad + 20 < recursionLimit)
    (h : ∀ r (es : List ND) objs h' tk ps, es.Perm ds → SortedND es → OptI w.params objs r (smallestOf k' u es) → Fr h₀ L h' m → News h₀ L h' (objs ++ (2977, tabObj ps) :: rest) → (∀ q ∈ objs, ∀ r ∈ (2977, tabObj #[]) :: rest, r.1 ≠ q.1) → Q r { s with heap := h', toks := tk }) :
    wpAny (model pwL w) (mkA ad afr ags au) (call (.ref 2980) [.ref y, .ref l] []) Q E s := by
  have hT := N _ (.head _)
  have hlm := N _ (.tail _ hl)
  refine wpAny_call (c_smallest X T F.keep hT.2.2 hlm.2.2 hT.1 hlm.1 hY hds hok h64 hroom fun r es h' tk ps kp gP pe so hO => ?_)
  have F' : Fr h₀ L h' m := Fr_but F kp (Ne.symm hT.2.1) hT.2.2
  have N' : News h₀ L h' ((2977, tabObj ps) :: rest) := fun q hq => by
    rcases List.mem_cons.mp hq with rfl | hq
    · exact ⟨gP, hT.2⟩
    · exact News_but (fun q hq => N q (.tail _ hq)) kp hne q hq
  obtain ⟨objs, ho, hI⟩ := OptF.objs hO
  have fr := fresh_more F N ho
  refine h r es objs h' tk ps pe so hI F' (fun q hq => ?_) fr.2
  rcases List.mem_append.mp hq with hq | hq
  · exact ⟨(ho q hq).1, fr.1 q hq⟩
  · exact N' q hq
theorem u_all {y l nl : Nat} {vs : List Value} {ds : List ND} {u : Int} {k' : Kd} (F : Fr h₀ L s.heap m) (N : News h₀ L s.heap ((2987, tabObj #[]) :: rest)) (hne : ∀ q ∈ rest, q.1 ≠ 2987) (X : (K w.params).In h₀) (T : Top p loose mean mg mb h₀) (hl : (l, listOf (List.toArray vs) nl) ∈ rest) (hY : AddrAt w.params s.heap y u k') (hds : NetsD w.params s.heap vs ds) (hok : ∀ d ∈ ds, d.ok) (h64 : vs.length < 64) (hroom : ad + 20 < recursionLimit)
    (h : ∀ Ml (vals : List Value) nM (es : List ND) objs h' tk ps, es.Perm ds → SortedND es → RelL (netI w.params objs) vals (allOf k' u es) → Fr h₀ L h' m → News h₀ L h' ((Ml, listOf (List.toArray vals) nM) :: objs ++ (2987, tabObj ps) :: rest) → (∀ q ∈ (Ml, listOf (List.toArray vals) nM) :: objs, ∀ r ∈ (2987, tabObj #[]) :: rest, r.1 ≠ q.1) → Q (.ref Ml) { s with heap := h', toks := tk }) :
    wpAny (model pwL w) (mkA ad afr ags au) (call (.ref 2990) [.ref y, .ref l] []) Q E s := by
  have hT := N _ (.head _)
  have hlm := N _ (.tail _ hl)
  refine wpAny_call (c_all X T F.keep hT.2.2 hlm.2.2 hT.1 hlm.1 hY hds hok h64 hroom fun Ml vals nM es h' tk ps kp gP pe so fM gM hO => ?_)
  have F' : Fr h₀ L h' m := Fr_but F kp (Ne.symm hT.2.1) hT.2.2
  have N' : News h₀ L h' ((2987, tabObj ps) :: rest) := fun q hq => by
    rcases List.mem_cons.mp hq with rfl | hq
    · exact ⟨gP, hT.2⟩
    · exact News_but (fun q hq => N q (.tail _ hq)) kp hne q hq
  obtain ⟨objs, ho, hI⟩ := hO.objs
  have ho' : ∀ q ∈ (Ml, listOf (List.toArray vals) nM) :: objs, h'.get? q.1 = some q.2 ∧ s.heap.get? q.1 = none := fun q hq => by
    rcases List.mem_cons.mp hq with rfl | hq
    · exact ⟨gM, fM⟩
    · exact ho q hq
  have fr := fresh_more F N ho'
  refine h Ml vals nM es objs h' tk ps pe so ⟨hO.1, hI⟩ F' (fun q hq => ?_) fr.2
  rcases List.mem_append.mp hq with hq | hq
  · exact ⟨(ho' q hq).1, fr.1 q hq⟩
  · exact N' q hq
end
variable {Q : Flow → Shared → Prop}
noncomputable abbrev lawD (Du2 : Addr) (nu pr tu va si : Option Value) (base : Str → Option Value) : Str → Option Value := up "due" (.ref Du2) (mapB nu pr tu va si base)
local macro_rules | `(tactic| walk_at "call ref") => `(tactic| (k_here; (with_reducible refine' u_addr ?F ?N ?X ?T ?v ?hA ?r ?_); (case F => k_asm); (case N => k_asm); (case X => k_asm); (case T => k_asm); (case v => assumption); (case hA => rfl); (case r => (first | omega | (simp only [depth_under_make, depth_under_kw, depth_in1, depth_deeper]; omega) | (simp only [Around.deeper, Around.in1, Around.under]; omega))); intro x8' d8' t1' t2' tv' n8' h8' tk8 st8' F' N' a8 b8 l8; (try k_sweep)))
local macro_rules | `(tactic| k_mem) => `(tactic| assumption)
local macro_rules | `(tactic| k_all) => `(tactic| assumption)

theorem st10 {sc M Du Du2 : Addr} {ta tb tok tok2 tok3 tok4 : Tok} {a b v : Int} {k : Kd} {nu pr tu va si : Option Value} (F : Fr h₀ L s.heap (lawD Du2 nu pr tu va si (lawB sc M Du a b v k ta tb tok tok2 tok3 tok4))) (N : News h₀ L s.heap news) (X : (K w.params).In h₀) (T : Top p loose mean mg mb h₀) (hv : 0 ≤ v ∧ v ≤ k.max) (hroom : ad + 30 < recursionLimit)
    (h : ∀ x dx t1 t2 tv n h' tk, Fr h₀ L h' (up "address" (.ref x) (lawD Du2 nu pr tu va si (lawB sc M Du a b v k ta tb tok tok2 tok3 tok4))) → News h₀ L h' ((x, instObj 2565 dx) :: (dx, dictOf (addrEs w.params t1 t2 v tv k.addr) n) :: news) → AllNe x news → AllNe dx news → Q .next { s with heap := h', toks := tk }) :
    wpAny (model pwL w) (mkA ad afr ags au) (exec (sAt fb2995.val 10) (envX (Str.ofString "law") fs2995.val L 2995 (.ref 2994) [])) Q E s := by
  simp only [fb2995, sAt, List.getD, List.getElem?_cons_zero, List.getElem?_cons_succ, Option.getD_some]
  (try k_fold)
  k_steps
  rename_i x dx t1 t2 tv n h1 tk1 st1 a1 b1 l1 h2 F2 N2
  exact h x dx t1 t2 tv n _ _ F2 N2 a1 b1
theorem netsD_of {P : Params} {h h0 : Heap} {L : Addr} {objs news : List (Addr × Obj)} (N : News h0 L h news) (hs : ∀ q ∈ objs, q ∈ news) : ∀ {ys : List Value} {ds : List ND}, RelL (netI P objs) ys ds → NetsD P h ys ds
  | [], [], _ => trivial
  | [], _ :: _, H => by have := H.1; simp at this
  | _ :: _, [], H => by have := H.1; simp at this
  | y :: ys, d :: ds, H => by
    obtain ⟨x, e, hI⟩ := H.2 0 y d rfl rfl
    exact ⟨⟨x, e, hI.at N hs⟩, netsD_of N hs (ys := ys) (ds := ds) ⟨by have := H.1; simpa using this, fun j y' d' e f => H.2 (j + 1) y' d' e f⟩⟩
local macro_rules | `(tactic| walk_at "call ref") => `(tactic| (k_here; (with_reducible first | refine' u_largest ?F ?N ?hne ?X ?T ?hl ?hY ?hds ?hok ?h64 ?r ?_ | refine' u_smallest ?F ?N ?hne ?X ?T ?hl ?hY ?hds ?hok ?h64 ?r ?_); (case F => k_asm); (case N => k_asm); (case hne => assumption); (case X => k_asm); (case T => k_asm); (case hl => assumption); (case hY => assumption); (case hds => assumption); (case hok => assumption); (case h64 => assumption); (case r => (first | omega | (simp only [depth_under_make, depth_under_kw, depth_in1, depth_deeper]; omega) | (simp only [Around.deeper, Around.in1, Around.under]; omega))); intro r' es' objs' h8' tk8 ps' pe' so' hO' F' N' fr'; (try k_sweep)))
theorem st12 {sc M Du Du2 x : Addr} {ta tb tok tok2 tok3 tok4 : Tok} {a b v : Int} {k : Kd} {nu pr tu va si : Option Value} {nets : List Value} {ds : List ND} {n1 : Nat} (F : Fr h₀ L s.heap (up "address" (.ref x) (lawD Du2 nu pr tu va si (lawB sc M Du a b v k ta tb tok tok2 tok3 tok4)))) (N : News h₀ L s.heap ((2982, tabObj #[]) :: rest)) (hne : ∀ q ∈ rest, q.1 ≠ 2982) (X : (K w.params).In h₀) (T : Top p loose mean mg mb h₀)
    (hM : (M, listOf (List.toArray nets) n1) ∈ rest) (hA : AddrIn w.params rest x v k) (hN : RelL (netI w.params rest) nets ds) (hok : ∀ d ∈ ds, d.ok) (h64 : nets.length < 64) (hroom : ad + 30 < recursionLimit)
    (h : ∀ r (es : List ND) objs h' tk ps, es.Perm ds → SortedND es → OptI w.params objs r (largestOf k v es) → Fr h₀ L h' (up "widest" r (up "address" (.ref x) (lawD Du2 nu pr tu va si (lawB sc M Du a b v k ta tb tok tok2 tok3 tok4)))) → News h₀ L h' (objs ++ (2982, tabObj ps) :: rest) → (∀ q ∈ objs, ∀ r ∈ (2982, tabObj #[]) :: rest, r.1 ≠ q.1) → Q .next { s with heap := h', toks := tk }) :
    wpAny (model pwL w) (mkA ad afr ags au) (exec (sAt fb2995.val 12) (envX (Str.ofString "law") fs2995.val L 2995 (.ref 2994) [])) Q E s := by
  have hY : AddrAt w.params s.heap x v k := hA.at N fun q hq => .tail _ hq
  have hds : NetsD w.params s.heap nets ds := netsD_of N (fun q hq => .tail _ hq) hN
  simp only [fb2995, sAt, List.getD, List.getElem?_cons_zero, List.getElem?_cons_succ, Option.getD_some]
  (try k_fold)
  k_steps
  rename_i r es objs h2 tk2 ps pe so hO fr h3 F3 N3
  exact h r es objs _ _ ps pe so hO F3 N3 fr
theorem st13 {sc M Du Du2 x : Addr} {ta tb tok tok2 tok3 tok4 : Tok} {a b v : Int} {k : Kd} {nu pr tu va si : Option Value} {rw : Value} {nets : List Value} {ds : List ND} {n1 : Nat} (F : Fr h₀ L s.heap (up "widest" rw (up "address" (.ref x) (lawD Du2 nu pr tu va si (lawB sc M Du a b v k ta tb tok tok2 tok3 tok4))))) (N : News h₀ L s.heap ((2977, tabObj #[]) :: rest)) (hne : ∀ q ∈ rest, q.1 ≠ 2977) (X : (K w.params).In h₀) (T : Top p loose mean mg mb h₀)
    (hM : (M, listOf (List.toArray nets) n1) ∈ rest) (hA : AddrIn w.params rest x v k) (hN : RelL (netI w.params rest) nets ds) (hok : ∀ d ∈ ds, d.ok) (h64 : nets.length < 64) (hroom : ad + 30 < recursionLimit)
    (h : ∀ r (es : List ND) objs h' tk ps, es.Perm ds → SortedND es → OptI w.params objs r (smallestOf k v es) → Fr h₀ L h' (up "longest" r (up "widest" rw (up "address" (.ref x) (lawD Du2 nu pr tu va si (lawB sc M Du a b v k ta tb tok tok2 tok3 tok4))))) → News h₀ L h' (objs ++ (2977, tabObj ps) :: rest) → (∀ q ∈ objs, ∀ r ∈ (2977, tabObj #[]) :: rest, r.1 ≠ q.1) → Q .next { s with heap := h', toks := tk }) :
    wpAny (model pwL w) (mkA ad afr ags au) (exec (sAt fb2995.val 13) (envX (Str.ofString "law") fs2995.val L 2995 (.ref 2994) [])) Q E s := by
  have hY : AddrAt w.params s.heap x v k := hA.at N fun q hq => .tail _ hq
  have hds : NetsD w.params s.heap nets ds := netsD_of N (fun q hq => .tail _ hq) hN
  simp only [fb2995, sAt, List.getD, List.getElem?_cons_zero, List.getElem?_cons_succ, Option.getD_some]
  (try k_fold)
  k_steps
  rename_i r es objs h2 tk2 ps pe so hO fr h3 F3 N3
  exact h r es objs _ _ ps pe so hO F3 N3 fr
end
end Mine
end JC37

section JC38
open PySem PySem.W PyProof.Rows PySem.Calls
set_option Elab.async false
set_option maxRecDepth 100000
set_option maxHeartbeats 4000000
namespace Mine
section
variable {w : World} {ad au : Nat} {afr : Option (List Env)} {ags : Option (List Code)} {s : Shared} {h₀ : Heap} {L : Addr} {m m0 : Str → Option Value} {news own rest : List (Addr × Obj)} {mg mb : Str → Option Value} {p : Program} {loose : List Str} {mean : ExcName → Option Value} {R : Result → Shared → Prop} {E : Value → Shared → Prop} {e : Bool}
variable {Q : Flow → Shared → Prop}
local macro_rules | `(tactic| k_mem) => `(tactic| assumption)
local macro_rules | `(tactic| k_all) => `(tactic| assumption)
local macro_rules | `(tactic| walk_at "call ref") => `(tactic| (k_here; (with_reducible refine' u_all ?F ?N ?hne ?X ?T ?hl ?hY ?hds ?hok ?h64 ?r ?_); (case F => k_asm); (case N => k_asm); (case hne => assumption); (case X => k_asm); (case T => k_asm); (case hl => assumption); (case hY => assumption); (case hds => assumption); (case hok => assumption); (case h64 => assumption); (case r => (first | omega | (simp only [depth_under_make, depth_under_kw, depth_in1, depth_deeper]; omega) | (simp only [Around.deeper, Around.in1, Around.under]; omega))); intro Ml' vals' nM' es' objs' h8' tk8 ps' pe' so' hO' F' N' fr'; (try k_sweep)))
local macro_rules | `(tactic| walk_at "eval ListComp") => `(tactic| (k_here; refine Stop.go ?_))
local macro_rules | `(tactic| walk_at "compareOp NotEq ref ref") => `(tactic| (k_here; refine Stop.go ?_))

theorem mem_allGo {k' : Kd} {u : Int} {d : ND} : ∀ {es ms : List ND}, d ∈ allGo k' u ms es → d ∈ ms ∨ d ∈ es
  | [], ms, h => .inl h
  | e :: es, ms, h => by
    unfold allGo at h
    split at h
    · rcases mem_allGo h with h | h
      · rcases List.mem_append.mp h with h | h
        · exact .inl h
        · exact .inr (List.mem_singleton.mp h ▸ .head _)
      · exact .inr (.tail _ h)
    · split at h
      · rcases mem_allGo h with h | h
        · exact .inl h
        · exact .inr (.tail _ h)
      · split at h
        · rcases mem_allGo h with h | h
          · exact .inl h
          · exact .inr (.tail _ h)
        · exact .inl h
noncomputable def triD (xs : List Int) : Dat := Dat.tuple (xs.map Dat.int)
theorem datAll_ints {objs : List (Addr × Obj)} : ∀ {us : List Value} {xs : List Int}, IntsAre us xs → DatAll objs us (xs.map Dat.int)
  | _, _, .nil => .nil
  | _, _, .cons n t r => .cons (.int n t) (datAll_ints r)
theorem datAll_of {objs : List (Addr × Obj)} : ∀ {ys : List Value} {xss : List (List Int)}, RelL (dueI objs) ys xss → DatAll objs ys (xss.map triD)
  | [], [], _ => .nil
  | [], _ :: _, H => by have := H.1; simp at this
  | _ :: _, [], H => by have := H.1; simp at this
  | y :: ys, x :: xss, H => by
    obtain ⟨t, us, nn, rfl, hm, hi⟩ := H.2 0 y x rfl rfl
    exact .cons (.tuple hm (datAll_ints hi)) (datAll_of (ys := ys) (xss := xss) ⟨by have := H.1; simpa using this, fun j y' d' e f => H.2 (j + 1) y' d' e f⟩)
theorem triD_ok {xss : List (List Int)} : ∀ d ∈ xss.map triD, kqdOk 8 d = true := by
  intro d hd
  obtain ⟨xs, _, rfl⟩ := List.mem_map.mp hd
  simp only [triD, kqdOk, List.all_eq_true]
  intro e he
  obtain ⟨i, _, rfl⟩ := List.mem_map.mp he
  rfl
noncomputable def ifTest : Stmt → Expr
  | .If t _ _ _ => t
  | _ => .Constant .none 0 ⟨0, 0, 0, 0⟩
noncomputable def cmpLeft : Expr → Expr
  | .Compare a _ _ _ => a
  | e => e
noncomputable def lcIter : Expr → Expr
  | .ListComp _ (g :: _) _ _ => g.iter
  | e => e
noncomputable def sx11 : {e : Expr // e = lcIter (cmpLeft (ifTest (sAt fb2995.val 11)))} := ⟨_, by conv => rhs; whnf⟩
theorem it11 {Q : Value → Shared → Prop} {sc M Du Du2 x : Addr} {ta tb tok tok2 tok3 tok4 : Tok} {a b v : Int} {k : Kd} {nu pr tu va si : Option Value} {nets : List Value} {ds : List ND} {n1 : Nat} (F : Fr h₀ L s.heap (up "address" (.ref x) (lawD Du2 nu pr tu va si (lawB sc M Du a b v k ta tb tok tok2 tok3 tok4)))) (N : News h₀ L s.heap ((2987, tabObj #[]) :: rest)) (hne : ∀ q ∈ rest, q.1 ≠ 2987) (X : (K w.params).In h₀) (T : Top p loose mean mg mb h₀)
    (hM : (M, listOf (List.toArray nets) n1) ∈ rest) (hA : AddrIn w.params rest x v k) (hN : RelL (netI w.params rest) nets ds) (hok : ∀ d ∈ ds, d.ok) (h64 : nets.length < 64) (hroom : ad + 30 < recursionLimit)
    (h : ∀ Ml (vals : List Value) nM (es : List ND) objs h' tk ps, es.Perm ds → SortedND es → RelL (netI w.params objs) vals (allOf k v es) → Fr h₀ L h' (up "address" (.ref x) (lawD Du2 nu pr tu va si (lawB sc M Du a b v k ta tb tok tok2 tok3 tok4))) → News h₀ L h' ((Ml, listOf (List.toArray vals) nM) :: objs ++ (2987, tabObj ps) :: rest) → Q (.ref Ml) { s with heap := h', toks := tk }) :
    wpAny (model pwL w) (mkA ad afr ags au) (eval sx11.val (envX (Str.ofString "law") fs2995.val L 2995 (.ref 2994) [])) Q E s := by
  have hY : AddrAt w.params s.heap x v k := hA.at N fun q hq => .tail _ hq
  have hds : NetsD w.params s.heap nets ds := netsD_of N (fun q hq => .tail _ hq) hN
  simp only [sx11]
  (try k_fold)
  k_steps
  rename_i Ml vals nM es objs h1 tk1 ps pe so hO F1 N1 fr
  exact h Ml vals nM es objs h1 _ ps pe so hO F1 N1
theorem st11 {sc M Du Du2 x : Addr} {ta tb tok tok2 tok3 tok4 : Tok} {a b v : Int} {k : Kd} {nu pr tu va si : Option Value} {nets dues2 : List Value} {ds : List ND} {n1 n2 : Nat} {qs : List Int} (F : Fr h₀ L s.heap (up "address" (.ref x) (lawD Du2 nu pr tu va si (lawB sc M Du a b v k ta tb tok tok2 tok3 tok4)))) (N : News h₀ L s.heap ((2987, tabObj #[]) :: rest)) (hne : ∀ q ∈ rest, q.1 ≠ 2987) (X : (K w.params).In h₀) (T : Top p loose mean mg mb h₀)
    (hM : (M, listOf (List.toArray nets) n1) ∈ rest) (hA : AddrIn w.params rest x v k) (hN : RelL (netI w.params rest) nets ds) (hok : ∀ d ∈ ds, d.ok) (h64 : nets.length < 64) (hroom : ad + 30 < recursionLimit)
    (hDu : (Du2, listOf (List.toArray dues2) n2) ∈ rest) (hD2 : RelL (dueI rest) dues2 (qs.map (triP k v))) (hu : au + 200 < cLine)
    (hq64 : qs.length < 64) (hlaw : ∀ es : List ND, es.Perm ds → SortedND es → (allOf k v es).map (fun d => [d.k.ver, d.first, d.p]) = qs.map (triP k v))
    (h : ∀ h' tk ps, Fr h₀ L h' (up "address" (.ref x) (lawD Du2 nu pr tu va si (lawB sc M Du a b v k ta tb tok tok2 tok3 tok4))) → News h₀ L h' ((2987, tabObj ps) :: rest) → Q .next { s with heap := h', toks := tk }) :
    wpAny (model pwL w) (mkA ad afr ags au) (exec (sAt fb2995.val 11) (envX (Str.ofString "law") fs2995.val L 2995 (.ref 2994) [])) Q E s := by
  have hY : AddrAt w.params s.heap x v k := hA.at N fun q hq => .tail _ hq
  have hds : NetsD w.params s.heap nets ds := netsD_of N (fun q hq => .tail _ hq) hN
  simp only [fb2995, sAt, List.getD, List.getElem?_cons_zero, List.getElem?_cons_succ, Option.getD_some]
  (try k_fold)
  k_steps
  unfold Stop
  refine ListComp_rel rfl rfl (by decide) rfl (by decide) (fun _ _ => rfl) (it11 F N hne X T hM hA hN hok h64 hroom fun Ml vals nM es objs h1 tk1 ps pe so hO F1 N1 => ?_)
  have hL := hlaw es pe so
  have hvl : vals.length < 64 := by
    rw [hO.1, ← List.length_map (f := fun d : ND => [d.k.ver, d.first, d.p]), hL, List.length_map]; exact hq64
  have hok' : ∀ d ∈ allOf k v es, d.ok := fun d hd => by
    rcases mem_allGo hd with h' | h'
    · cases h'
    · exact hok d (pe.mem_iff.mp h')
  have hds' : NetsD w.params h1 vals (allOf k v es) := netsD_of N1 (fun q hq => List.mem_append_left _ (.tail _ hq)) hO
  refine ⟨Ml, vals, triG w.params h1, rfl, ⟨_, N1.get (.head _), rfl, _, rfl⟩, by omega, elt_tri (X.keeps F1.keep) (T.keeps F1.keep) rfl rfl hds' hok' (by omega), ?_⟩
  intro D ys n h2 tk2 st2 nD gD hlen hG
  have hR : RelL (triN h1 h2) ys (qs.map (triP k v)) := by
    rw [← hL]
    refine ⟨by rw [hlen, hO.1, List.length_map], fun j y xs e1 e2 => ?_⟩
    rw [List.getElem?_map] at e2
    cases ed : (allOf k v es)[j]? with
    | none => rw [ed] at e2; cases e2
    | some d =>
      rw [ed] at e2; cases e2
      have hj : j < vals.length := by rw [← hlen]; exact (List.getElem?_eq_some_iff.mp e1).1
      obtain ⟨x', e', hI⟩ := hO.2 j vals[j] d (List.getElem?_eq_getElem hj) ed
      exact hG j vals[j] y (List.getElem?_eq_getElem hj) e1 d ⟨x', e', hI.at N1 fun q hq => List.mem_append_left _ (.tail _ hq)⟩
  obtain ⟨objs3, ho3, hR3⟩ := triN_objs hR
  obtain ⟨N2, hne2⟩ := News_more (objs := (D, listOf (List.toArray ys) n) :: objs3) F1 N1 (fun b o _ e => st2 b o e) (fun q hq => by
    rcases List.mem_cons.mp hq with rfl | hq
    · exact ⟨gD, nD⟩
    · exact ho3 q hq)
  have F2 := F1.keeps st2
  clear hG hR ho3 hds' hne2 hO N1 F1 hvl hok'
  k_steps
  unfold Stop
  refine kqd_ne N2 (.head _) rfl rfl (datAll_of hR3) (fun q hq => .tail _ (List.mem_append_left _ hq)) (List.mem_append_right _ (List.mem_append_right _ (.tail _ hDu))) rfl rfl (datAll_of hD2) (fun q hq => List.mem_append_right _ (List.mem_append_right _ (.tail _ hq))) triD_ok triD_ok (show au + 64 < cLine by omega) ?_
  simp only [eq_self, decide_true, Bool.not_true]
  have N3 : News h₀ L h2 ((2987, tabObj ps) :: rest) := fun q hq => N2 q (List.mem_append_right _ (List.mem_append_right _ hq))
  clear N2
  k_steps
  exact h h2 tk2 ps F2 N3
end
end Mine
end JC38

section JC39
open PySem PySem.W PyProof.Rows PySem.Calls
set_option Elab.async false
set_option maxRecDepth 100000
set_option maxHeartbeats 4000000
namespace Mine
section
variable {w : World} {ad au : Nat} {afr : Option (List Env)} {ags : Option (List Code)} {s : Shared} {h₀ : Heap} {L : Addr} {m m0 : Str → Option Value} {news own rest : List (Addr × Obj)} {mg mb : Str → Option Value} {p : Program} {loose : List Str} {mean : ExcName → Option Value} {R : Result → Shared → Prop} {E : Value → Shared → Prop} {e : Bool}
section
variable {Q : Value → Shared → Prop} {A : Around} {prog : Program}
theorem u_eqL {a b : Addr} {ys : List Value} {xss : List (List Int)} {na nb : Nat} (N : News h₀ L s.heap news) (ma : (a, listOf (List.toArray ys) na) ∈ news) (D : RelL (dueI own) ys xss) (hs : ∀ q ∈ own, q ∈ news) (mb : (b, listOf #[] nb) ∈ news) (hu : A.units + 64 < cLine) (h : Q (.bool xss.isEmpty) s) :
    wpAny (model prog w) A (compareOp .Eq (.ref a) (.ref b)) Q E s := by
  refine kqd_eq (n₁ := own) (n₂ := news) (xs := ys) (ys := []) (ds := xss.map triD) (es := []) N ma rfl rfl (datAll_of D) hs mb rfl rfl .nil (fun q hq => hq) triD_ok (fun d hd => (nomatch hd)) hu ?_
  cases xss with
  | nil => simpa using h
  | cons x xss => simpa using h
theorem triD_ok' {xs : List Int} : ∀ n, kqdOk (n + 0) (triD xs) = true ∨ n = 0
  | 0 => .inr rfl
  | n + 1 => .inl (by
    simp only [triD, kqdOk, List.all_eq_true, Nat.add_zero]
    intro e he
    obtain ⟨i, _, rfl⟩ := List.mem_map.mp he
    cases n <;> rfl)
theorem u_eqT {a b : Addr} {us us' : List Value} {xs : List Int} {na nb : Nat} (N : News h₀ L s.heap news) (ma : (a, ({ cls := .type "tuple", data := .seq (List.toArray us) na } : Obj)) ∈ news) (ia : IntsAre us xs) (mb : (b, ({ cls := .type "tuple", data := .seq (List.toArray us') nb } : Obj)) ∈ news) (ib : IntsAre us' xs) (hu : A.units + 64 < cLine) (h : Q (.bool true) s) :
    wpAny (model prog w) A (compareOp .Eq (.ref a) (.ref b)) Q E s := by
  have ok : kqdOk 9 (triD xs) = true := (triD_ok' 9).resolve_right (by decide)
  obtain ⟨as, ra⟩ := kqd_in N 9 (DatIn.tuple ma (datAll_ints ia)) ok
  obtain ⟨bs, rb⟩ := kqd_in N 9 (DatIn.tuple mb (datAll_ints ib)) ok
  have la := kqd_lay 9 (triD xs) ok
  have e : PyData.eqv (kqdP (triD xs)) (kqdP (triD xs)) = true := (kqd_eqv 9 (triD xs) (triD xs) 9 ok ok).mpr rfl
  refine eq_dataH ra rb ?_ ?_ hu (by rw [show PyData.eqv (kqdP (Dat.tuple (xs.map Dat.int))) (kqdP (Dat.tuple (xs.map Dat.int))) = true from e]; exact h)
  · unfold SeqAt.shaped; rw [show (kqdP (Dat.tuple (xs.map Dat.int))).canLay0 = true from la.1, Bool.true_and]; exact decide_eq_true (Nat.le_trans la.2 (by decide))
  · unfold SeqAt.shaped; rw [show (kqdP (Dat.tuple (xs.map Dat.int))).canLay0 = true from la.1, Bool.true_and]; exact decide_eq_true (Nat.le_trans la.2 (by decide))
theorem ints_tri {a b c : Int} {ta tb tc : Tok} {xs : List Int} (e : [a, b, c] = xs) : IntsAre [.int a ta, .int b tb, .int c tc] xs := by subst e; exact .cons _ _ (.cons _ _ (.cons _ _ .nil))
theorem u_item0 {D : Addr} {ys : List Value} {v : Value} {n : Nat} {u : Tok} {value slice : Expr} (N : News h₀ L s.heap news) (hm : (D, listOf (List.toArray ys) n) ∈ news) (hx : ys[0]? = some v)
    (hs : subscripted slice false (.ref D) (.int 0 u) = operate [.ref D, .int 0 u] (getItem (.ref D) (.int 0 u))) (hg : ∀ r, letTemporaryGo value (.ref D) r = pure ()) (h : Q v s) :
    wpAny (model prog w) A (subscriptTail value slice (.ref D) (.int 0 u)) Q E s :=
  kim_list (l := ys) N hm rfl rfl (by omega) (by omega) hx h hs hg
theorem u_itemL {D : Addr} {ys : List Value} {v : Value} {n : Nat} {u : Tok} {value slice : Expr} (N : News h₀ L s.heap news) (hm : (D, listOf (List.toArray ys) n) ∈ news) (hz : 0 < ys.length) (hx : ys[ys.length - 1]? = some v)
    (hs : subscripted slice false (.ref D) (.int (-1) u) = operate [.ref D, .int (-1) u] (getItem (.ref D) (.int (-1) u))) (hg : ∀ r, letTemporaryGo value (.ref D) r = pure ()) (h : Q v s) :
    wpAny (model prog w) A (subscriptTail value slice (.ref D) (.int (-1) u)) Q E s := by
  refine kim_back (l := ys) N hm rfl rfl (by omega) (by omega) (by omega) ?_ h hs hg
  have : ((-1 : Int) + (ys.length : Int)).toNat = ys.length - 1 := by omega
  rw [this]; exact hx
end
variable {Q : Flow → Shared → Prop}
local macro_rules | `(tactic| k_mem) => `(tactic| assumption)
local macro_rules | `(tactic| k_all) => `(tactic| assumption)
local macro_rules | `(tactic| walk_at "compareOp Eq ref ref") => `(tactic| (k_here; first | (with_reducible refine' u_eqL ?N ?a ?D ?hs ?b ?hu ?_; (case N => k_asm); (case a => exact (by first | assumption | (repeat (first | exact List.mem_cons_self | assumption | apply List.mem_cons_of_mem)))); (case D => assumption); (case hs => exact (fun q hq => by repeat (first | exact hq | apply List.mem_cons_of_mem))); (case b => exact List.mem_cons_self); (case hu => assumption)) | (with_reducible refine' u_eqT ?N ?a ?ia ?b ?ib ?hu ?_; (case N => k_asm); (case a => exact List.mem_cons_self); (case b => exact (by first | assumption | (repeat (first | exact List.mem_cons_self | assumption | apply List.mem_cons_of_mem)))); (case ib => assumption); (case ia => exact ints_tri (by assumption)); (case hu => assumption))))
local macro_rules | `(tactic| walk_at "getAttr ref") => `(tactic| (k_here; (with_reducible first | refine' g_version ?F ?N ?X ?T ?hN ?hA ?hr ?_ | refine' g_first ?F ?N ?X ?T ?hN ?hp ?hA ?hr ?_ | refine' g_prefix ?F ?N ?X ?T ?hN ?hA ?hr ?_); (case F => k_asm); (case N => k_asm); (case X => k_asm); (case T => k_asm); (case hN => exact NetIn.at (by assumption) (by k_asm) (fun q hq => by repeat (first | exact hq | apply List.mem_cons_of_mem))); (try (case hp => assumption)); (case hA => rfl); (case hr => (first | omega | (simp only [depth_under_make, depth_under_kw, depth_in1, depth_deeper]; omega) | (simp only [Around.deeper, Around.in1, Around.under]; omega))); intros; (try k_sweep)))
local macro_rules | `(tactic| walk_at "subscriptTail") => `(tactic| (k_here; first | (with_reducible refine' u_item0 ?N ?hm ?hx ?hs ?hg ?_; (case N => k_asm); (case hm => exact (by first | assumption | (repeat (first | exact List.mem_cons_self | assumption | apply List.mem_cons_of_mem)))); (case hx => assumption); (case hs => with_unfolding_all rfl); (case hg => intro _; with_unfolding_all rfl)) | (with_reducible refine' u_itemL ?N ?hm ?hz ?hx ?hs ?hg ?_; (case N => k_asm); (case hm => exact (by first | assumption | (repeat (first | exact List.mem_cons_self | assumption | apply List.mem_cons_of_mem)))); (case hz => assumption); (case hx => assumption); (case hs => with_unfolding_all rfl); (case hg => intro _; with_unfolding_all rfl))))
theorem st14e {sc M Du Du2 x : Addr} {ta tb tok tok2 tok3 tok4 : Tok} {a b v : Int} {k : Kd} {nu pr tu va si : Option Value} {dues2 : List Value} {n2 : Nat} {qs : List Int} (F : Fr h₀ L s.heap (up "longest" .none (up "widest" .none (up "address" (.ref x) (lawD Du2 nu pr tu va si (lawB sc M Du a b v k ta tb tok tok2 tok3 tok4)))))) (N : News h₀ L s.heap news) (X : (K w.params).In h₀) (T : Top p loose mean mg mb h₀) (hDu : (Du2, listOf (List.toArray dues2) n2) ∈ news) (hroom : ad + 30 < recursionLimit) (hu : au + 64 < cLine) (hD : RelL (dueI news) dues2 ([] : List (List Int)))
    (h : ∀ h' tk, (Fr h₀ L h' (up "longest" .none (up "widest" .none (up "address" (.ref x) (lawD Du2 nu pr tu va si (lawB sc M Du a b v k ta tb tok tok2 tok3 tok4)))))) → News h₀ L h' news → Q (.ret (.bool true)) { s with heap := h', toks := tk }) :
    wpAny (model pwL w) (mkA ad afr ags au) (exec (sAt fb2995.val 14) (envX (Str.ofString "law") fs2995.val L 2995 (.ref 2994) [])) Q E s := by
  simp only [fb2995, sAt, List.getD, List.getElem?_cons_zero, List.getElem?_cons_succ, Option.getD_some]
  (try k_fold)
  k_steps
  rename_i N' _
  exact h _ _ (by assumption) (fun q hq => N' q (.tail _ hq))
theorem st14n {sc M Du Du2 x : Addr} {ta tb tok tok2 tok3 tok4 : Tok} {a b v : Int} {k : Kd} {nu pr tu va si : Option Value} {dues2 : List Value} {n2 : Nat} {qs : List Int} {xl xw : Addr} {x0 : List Int} {xs0 : List (List Int)} (F : Fr h₀ L s.heap (up "longest" (.ref xl) (up "widest" (.ref xw) (up "address" (.ref x) (lawD Du2 nu pr tu va si (lawB sc M Du a b v k ta tb tok tok2 tok3 tok4)))))) (N : News h₀ L s.heap news) (X : (K w.params).In h₀) (T : Top p loose mean mg mb h₀) (hDu : (Du2, listOf (List.toArray dues2) n2) ∈ news) (hroom : ad + 30 < recursionLimit) (hu : au + 64 < cLine) (hD : RelL (dueI news) dues2 (x0 :: xs0))
    (h : ∀ h' tk, (Fr h₀ L h' (up "longest" (.ref xl) (up "widest" (.ref xw) (up "address" (.ref x) (lawD Du2 nu pr tu va si (lawB sc M Du a b v k ta tb tok tok2 tok3 tok4)))))) → News h₀ L h' news → Q .next { s with heap := h', toks := tk }) :
    wpAny (model pwL w) (mkA ad afr ags au) (exec (sAt fb2995.val 14) (envX (Str.ofString "law") fs2995.val L 2995 (.ref 2994) [])) Q E s := by
  simp only [fb2995, sAt, List.getD, List.getElem?_cons_zero, List.getElem?_cons_succ, Option.getD_some]
  (try k_fold)
  k_steps
  · rename_i hx
    cases hx
  · rename_i N' _ _
    exact h _ _ (by assumption) (fun q hq => N' q (.tail _ hq))
theorem st15n {sc M Du Du2 x : Addr} {ta tb tok tok2 tok3 tok4 : Tok} {a b v : Int} {k : Kd} {nu pr tu va si : Option Value} {dues2 : List Value} {n2 : Nat} {qs : List Int} {xl xw : Addr} (F : Fr h₀ L s.heap (up "longest" (.ref xl) (up "widest" (.ref xw) (up "address" (.ref x) (lawD Du2 nu pr tu va si (lawB sc M Du a b v k ta tb tok tok2 tok3 tok4)))))) (N : News h₀ L s.heap news) (X : (K w.params).In h₀) (T : Top p loose mean mg mb h₀) (hDu : (Du2, listOf (List.toArray dues2) n2) ∈ news) (hroom : ad + 30 < recursionLimit) (hu : au + 64 < cLine) 
    (h : ∀ h' tk, (Fr h₀ L h' (up "longest" (.ref xl) (up "widest" (.ref xw) (up "address" (.ref x) (lawD Du2 nu pr tu va si (lawB sc M Du a b v k ta tb tok tok2 tok3 tok4)))))) → News h₀ L h' news → Q .next { s with heap := h', toks := tk }) :
    wpAny (model pwL w) (mkA ad afr ags au) (exec (sAt fb2995.val 15) (envX (Str.ofString "law") fs2995.val L 2995 (.ref 2994) [])) Q E s := by
  simp only [fb2995, sAt, List.getD, List.getElem?_cons_zero, List.getElem?_cons_succ, Option.getD_some]
  (try k_fold)
  k_steps
  exact h s.heap s.toks F N
theorem st16n {sc M Du Du2 x : Addr} {ta tb tok tok2 tok3 tok4 : Tok} {a b v : Int} {k : Kd} {nu pr tu va si : Option Value} {dues2 : List Value} {n2 : Nat} {qs : List Int} {xl xw tA tB : Addr} {usA usB : List Value} {nA nB : Nat} {xA xB : List Int} {dw dl : ND} (F : Fr h₀ L s.heap (up "longest" (.ref xl) (up "widest" (.ref xw) (up "address" (.ref x) (lawD Du2 nu pr tu va si (lawB sc M Du a b v k ta tb tok tok2 tok3 tok4)))))) (N : News h₀ L s.heap news) (X : (K w.params).In h₀) (T : Top p loose mean mg mb h₀) (hDu : (Du2, listOf (List.toArray dues2) n2) ∈ news) (hroom : ad + 30 < recursionLimit) (hu : au + 64 < cLine) (hW : NetIn w.params news xw dw.v dw.p dw.k) (hL : NetIn w.params news xl dl.v dl.p dl.k) (hpw : 0 ≤ dw.p ∧ dw.p ≤ dw.k.wid) (hpl : 0 ≤ dl.p ∧ dl.p ≤ dl.k.wid) (hz : 0 < dues2.length) (h0 : dues2[0]? = some (.ref tA)) (hl : dues2[dues2.length - 1]? = some (.ref tB)) (mA : (tA, ({ cls := .type "tuple", data := .seq (List.toArray usA) nA } : Obj)) ∈ news) (mB : (tB, ({ cls := .type "tuple", data := .seq (List.toArray usB) nB } : Obj)) ∈ news) (iA : IntsAre usA xA) (iB : IntsAre usB xB) (eA : [dw.k.ver, firstI dw.k dw.v dw.p, dw.p] = xA) (eB : [dl.k.ver, firstI dl.k dl.v dl.p, dl.p] = xB)
    (h : ∀ h' tk, (Fr h₀ L h' (up "longest" (.ref xl) (up "widest" (.ref xw) (up "address" (.ref x) (lawD Du2 nu pr tu va si (lawB sc M Du a b v k ta tb tok tok2 tok3 tok4)))))) → News h₀ L h' news → Q (.ret (.bool true)) { s with heap := h', toks := tk }) :
    wpAny (model pwL w) (mkA ad afr ags au) (exec (sAt fb2995.val 16) (envX (Str.ofString "law") fs2995.val L 2995 (.ref 2994) [])) Q E s := by
  simp only [fb2995, sAt, List.getD, List.getElem?_cons_zero, List.getElem?_cons_succ, Option.getD_some]
  (try k_fold)
  k_steps
  rename_i N' _
  exact h _ _ (by assumption) (fun q hq => N' q (.tail _ (.tail _ hq)))

end
end Mine
end JC39

section JC40
open PySem PySem.W PyProof.Rows PySem.Calls
set_option Elab.async false
set_option maxRecDepth 100000
set_option maxHeartbeats 4000000
namespace Mine
/-! the plain law -/
theorem and_high : ∀ (n W : Nat) (v : Int), n ≤ W → 0 ≤ v → v < 2 ^ W → Builtin.bitAnd v (2 ^ W - 2 ^ n) = v - v % 2 ^ n
  | 0, W, v, _, h0, h1 => by
    rw [show (2 : Int) ^ 0 = 1 from rfl, kbt_mask, Int.emod_one, Int.emod_eq_of_lt h0 h1]
    omega
  | n + 1, 0, v, h, _, _ => by omega
  | n + 1, W + 1, v, h, h0, h1 => by
    have e1 : (2 : Int) ^ (W + 1) = 2 * 2 ^ W := by rw [Int.pow_succ]; omega
    have e2 : (2 : Int) ^ (n + 1) = 2 * 2 ^ n := by rw [Int.pow_succ]; omega
    have hn : (0 : Int) < 2 ^ n := kbt_pos n
    rw [kbt_halves]
    have y2 : ((2 : Int) ^ (W + 1) - 2 ^ (n + 1)) % 2 = 0 := by omega
    have yd : ((2 : Int) ^ (W + 1) - 2 ^ (n + 1)) / 2 = 2 ^ W - 2 ^ n := by omega
    rw [y2, yd, and_high n W (v / 2) (by omega) (by omega) (by omega)]
    have q := Int.mul_ediv_add_emod (v / 2) (2 ^ n)
    have r0 := Int.emod_nonneg (v / 2) (Int.ne_of_gt hn)
    have r1 := Int.emod_lt_of_pos (v / 2) hn
    have u := kbt_unique (a := v) (b := 2 ^ (n + 1)) (q := (v / 2) / 2 ^ n) (r := 2 * ((v / 2) % 2 ^ n) + v % 2) (by omega) (by
      rw [e2, Int.mul_assoc]; omega) (by omega) (by omega)
    rw [u.2]
    simp
    omega
theorem firstI_eq {k : Kd} {v p : Int} (hv : 0 ≤ v ∧ v ≤ k.max) (hp : 0 ≤ p ∧ p ≤ k.wid) : firstI k v p = v - v % 2 ^ ((k.wid : Int) - p).toNat := by
  unfold firstI
  rw [maskI_eq hp]
  unfold Kd.max at hv
  exact and_high _ _ _ (by omega) hv.1 (by omega)
theorem ver_inj {a b : Kd} (h : a.ver = b.ver) : a = b := by cases a <;> cases b <;> first | rfl | (exact absurd h (by decide))
noncomputable abbrev blk (k : Kd) (p : Int) : Int := 2 ^ ((k.wid : Int) - p).toNat
theorem blk_pos (k : Kd) (p : Int) : 0 < blk k p := kbt_pos _
theorem hasB_iff {d : ND} {k : Kd} {v : Int} : hasB d.k d.v d.p k v = true ↔ d.k = k ∧ v / blk d.k d.p = d.v / blk d.k d.p := by
  unfold hasB
  by_cases h : d.k.ver = k.ver
  · have := ver_inj h
    simp only [h, if_true, this, true_and, fdiv_pow, beq_iff_eq, blk]
  · simp only [h, if_false]
    constructor
    · intro q; cases q
    · rintro ⟨rfl, _⟩; exact absurd rfl h
theorem first_is {d : ND} (h : d.ok) : d.first = d.v - d.v % blk d.k d.p := firstI_eq h.2 h.1
theorem mul_div_is (v B : Int) : v - v % B = B * (v / B) := by have := Int.mul_ediv_add_emod v B; omega
theorem first_has {d : ND} {k : Kd} {v : Int} (h : d.ok) (hb : hasB d.k d.v d.p k v = true) : d.first = v - v % blk k d.p := by
  obtain ⟨rfl, e⟩ := hasB_iff.mp hb
  rw [first_is h, mul_div_is, mul_div_is, e]
theorem tri_has {d : ND} {k : Kd} {v : Int} (h : d.ok) (hb : hasB d.k d.v d.p k v = true) : [d.k.ver, d.first, d.p] = triP k v d.p := by
  rw [first_has h hb]
  obtain ⟨e, _⟩ := hasB_iff.mp hb
  unfold triP
  rw [fmod_pow, e]
theorem rank_lt {d e : ND} (hd : d.ok) (he : e.ok) (h : d.k.ver < e.k.ver ∨ (d.k.ver = e.k.ver ∧ (d.first < e.first ∨ (d.first = e.first ∧ d.p < e.p)))) : d.rank < e.rank := by
  have a := first_le hd
  have b := first_le he
  have c := Kd_max_le d.k
  have c' := Kd_max_le e.k
  have w := wid_le d.k
  have w' := wid_le e.k
  have h1 := hd.1
  have h2 := he.1
  have h3 := hd.2
  have h4 := he.2
  unfold ND.rank
  omega
theorem rank_split {d e : ND} (hd : d.ok) (he : e.ok) (h : d.rank ≤ e.rank) : d.k.ver < e.k.ver ∨ (d.k.ver = e.k.ver ∧ (d.first < e.first ∨ (d.first = e.first ∧ d.p ≤ e.p))) := by
  apply Classical.byContradiction
  intro n
  have := rank_lt he hd (by omega)
  omega
theorem mod_mono {k : Kd} {p q v : Int} (h : p ≤ q) : v % blk k q ≤ v % blk k p := by
  have hd : blk k q ∣ blk k p := ⟨2 ^ (((k.wid : Int) - p).toNat - ((k.wid : Int) - q).toNat), by
    unfold blk; rw [← Int.pow_add]; congr 1; omega⟩
  rw [← Int.emod_emod_of_dvd v hd]
  have a := Int.emod_nonneg v (Int.ne_of_gt (blk_pos k p))
  have b := Int.mul_ediv_add_emod (v % blk k p) (blk k q)
  have c := Int.ediv_nonneg a (Int.le_of_lt (blk_pos k q))
  have d := Int.mul_nonneg (Int.le_of_lt (blk_pos k q)) c
  omega
theorem has_sorted {d e : ND} {k : Kd} {v : Int} (hd : d.ok) (he : e.ok) (bd : hasB d.k d.v d.p k v = true) (be : hasB e.k e.v e.p k v = true) (h : d.rank ≤ e.rank) : d.p ≤ e.p := by
  apply Classical.byContradiction
  intro n
  have m := mod_mono (k := k) (v := v) (p := e.p) (q := d.p) (by omega)
  have f1 := first_has hd bd
  have f2 := first_has he be
  have v1 : d.k.ver = e.k.ver := by rw [(hasB_iff.mp bd).1, (hasB_iff.mp be).1]
  have := rank_lt he hd (.inr ⟨v1.symm, by omega⟩)
  omega
theorem no_more {b d e : ND} {k : Kd} {v : Int} (hb : b.ok) (hd : d.ok) (he : e.ok) (bb : hasB b.k b.v b.p k v = true) (r1 : b.rank ≤ d.rank) (r2 : d.rank ≤ e.rank) (nd : hasB b.k b.v b.p d.k (firstI d.k d.v d.p) = false) : hasB e.k e.v e.p k v = false := by
  apply Bool.eq_false_iff.mpr
  intro be
  obtain ⟨kb, eb⟩ := hasB_iff.mp bb
  obtain ⟨ke, ee⟩ := hasB_iff.mp be
  have s1 := rank_split hb hd r1
  have s2 := rank_split hd he r2
  have vv : b.k.ver = e.k.ver := by rw [kb, ke]
  have vd : d.k.ver = b.k.ver := by omega
  have kd : d.k = b.k := ver_inj vd
  have f1 : b.first ≤ d.first := by omega
  have f2 : d.first ≤ e.first := by omega
  have fe := first_has he be
  have me := Int.emod_nonneg v (Int.ne_of_gt (blk_pos k e.p))
  have f3 : d.first ≤ v := by omega
  have g1 := Int.ediv_le_ediv (blk_pos b.k b.p) f1
  have g2 := Int.ediv_le_ediv (blk_pos b.k b.p) f3
  have g0 : b.first / blk b.k b.p = b.v / blk b.k b.p := by
    rw [first_is hb, mul_div_is, Int.mul_ediv_cancel_left _ (Int.ne_of_gt (blk_pos b.k b.p))]
  have : hasB b.k b.v b.p d.k d.first = true := hasB_iff.mpr ⟨kd.symm, by omega⟩
  rw [show hasB b.k b.v b.p d.k d.first = false from nd] at this
  cases this
theorem filter_none {es : List ND} {f : ND → Bool} (h : ∀ e ∈ es, f e = false) : es.filter f = [] := List.filter_eq_nil_iff.mpr fun e he => by simp [h e he]
theorem allGo_is {k : Kd} {v : Int} : ∀ {es ms : List ND}, SortedND es → (∀ d ∈ es, d.ok) → (∀ b, ms.getLast? = some b → b.ok ∧ hasB b.k b.v b.p k v = true ∧ ∀ d ∈ es, b.rank ≤ d.rank) → allGo k v ms es = ms ++ es.filter (fun d => hasB d.k d.v d.p k v)
  | [], ms, _, _, _ => by simp [allGo]
  | d :: es, ms, so, ok, hm => by
    obtain ⟨so1, so2⟩ := List.pairwise_cons.mp so
    have okd := ok d (.head _)
    have oks : ∀ e ∈ es, e.ok := fun e he => ok e (.tail _ he)
    by_cases hb : hasB d.k d.v d.p k v = true
    · rw [List.filter_cons_of_pos (p := fun d : ND => hasB d.k d.v d.p k v) hb]
      unfold allGo
      rw [if_pos hb, allGo_is (ms := ms ++ [d]) so2 oks (fun b e => by simp at e; subst e; exact ⟨okd, hb, fun e he => so1 e he⟩)]
      simp
    · rw [List.filter_cons_of_neg (p := fun d : ND => hasB d.k d.v d.p k v) hb]
      unfold allGo
      rw [if_neg hb]
      cases hl : ms.getLast? with
      | none =>
        exact allGo_is so2 oks fun b e => by rw [hl] at e; cases e
      | some b =>
        obtain ⟨okb, bb, rb⟩ := hm b hl
        dsimp only
        by_cases hc : hasB b.k b.v b.p d.k (firstI d.k d.v d.p) = true
        · rw [if_pos hc]
          exact allGo_is so2 oks fun b' e => by rw [hl] at e; cases e; exact ⟨okb, bb, fun e he => rb e (.tail _ he)⟩
        · rw [if_neg hc, filter_none (es := es) fun e he => no_more okb okd (oks e he) bb (rb d (.head _)) (so1 e he) (Bool.eq_false_iff.mpr hc)]
          simp
theorem smallGo_is {k : Kd} {v : Int} : ∀ {es : List ND} {r : Option ND}, SortedND es → (∀ d ∈ es, d.ok) → (∀ b, r = some b → b.ok ∧ hasB b.k b.v b.p k v = true ∧ ∀ d ∈ es, b.rank ≤ d.rank) → smallGo k v r es = (es.filter (fun d => hasB d.k d.v d.p k v)).getLast?.or r
  | [], r, _, _, _ => by cases r <;> simp [smallGo]
  | d :: es, r, so, ok, hm => by
    obtain ⟨so1, so2⟩ := List.pairwise_cons.mp so
    have okd := ok d (.head _)
    have oks : ∀ e ∈ es, e.ok := fun e he => ok e (.tail _ he)
    by_cases hb : hasB d.k d.v d.p k v = true
    · rw [List.filter_cons_of_pos (p := fun d : ND => hasB d.k d.v d.p k v) hb, List.getLast?_cons]
      have ih := smallGo_is (r := some d) so2 oks (fun b e => by cases e; exact ⟨okd, hb, fun e he => so1 e he⟩)
      cases r <;> (unfold smallGo; rw [if_pos hb, ih]; cases (es.filter (fun d => hasB d.k d.v d.p k v)).getLast? <;> rfl)
    · rw [List.filter_cons_of_neg (p := fun d : ND => hasB d.k d.v d.p k v) hb]
      cases r with
      | none =>
        unfold smallGo
        rw [if_neg hb]
        exact smallGo_is so2 oks fun b e => by cases e
      | some b =>
        obtain ⟨okb, bb, rb⟩ := hm b rfl
        unfold smallGo
        rw [if_neg hb]
        by_cases hc : hasB b.k b.v b.p d.k (firstI d.k d.v d.p) = true
        · rw [if_pos hc]
          exact smallGo_is so2 oks fun b' e => by cases e; exact ⟨okb, bb, fun e he => rb e (.tail _ he)⟩
        · rw [if_neg hc, filter_none (es := es) fun e he => no_more okb okd (oks e he) bb (rb d (.head _)) (so1 e he) (Bool.eq_false_iff.mpr hc)]
          rfl
theorem allOf_is {k : Kd} {v : Int} {es : List ND} (so : SortedND es) (ok : ∀ d ∈ es, d.ok) : allOf k v es = es.filter (fun d => hasB d.k d.v d.p k v) := by
  rw [allOf, allGo_is so ok fun b e => by cases e]; rfl
theorem smallestOf_is {k : Kd} {v : Int} {es : List ND} (so : SortedND es) (ok : ∀ d ∈ es, d.ok) : smallestOf k v es = (es.filter (fun d => hasB d.k d.v d.p k v)).getLast? := by
  rw [smallestOf, smallGo_is so ok fun b e => by cases e]; cases (es.filter (fun d => hasB d.k d.v d.p k v)).getLast? <;> rfl
theorem largestOf_is {k : Kd} {v : Int} {es : List ND} : largestOf k v es = (es.filter (fun d => hasB d.k d.v d.p k v)).head? := by
  rw [List.head?_filter]; rfl
theorem ps_is {k : Kd} {v : Int} {es ds : List ND} {qs : List Int} (pe : es.Perm ds) (so : SortedND es) (ok : ∀ d ∈ ds, d.ok) (qp : qs.Perm ((ds.filter fun d => hasB d.k d.v d.p k v).map (·.p))) (qw : qs.Pairwise (· ≤ ·)) : (es.filter fun d => hasB d.k d.v d.p k v).map (·.p) = qs := by
  refine List.Perm.eq_of_pairwise (le := (· ≤ ·)) (fun a b _ _ h1 h2 => Int.le_antisymm h1 h2) ?_ qw (((pe.filter _).map _).trans qp.symm)
  rw [List.pairwise_map]
  have so' := List.Pairwise.filter (fun d => hasB d.k d.v d.p k v) so
  refine List.Pairwise.imp_of_mem ?_ so'
  intro a b ha hb h
  have ha' := List.mem_filter.mp ha
  have hb' := List.mem_filter.mp hb
  exact has_sorted (ok a (pe.mem_iff.mp ha'.1)) (ok b (pe.mem_iff.mp hb'.1)) ha'.2 hb'.2 h
theorem law_all {k : Kd} {v : Int} {es ds : List ND} {qs : List Int} (pe : es.Perm ds) (so : SortedND es) (ok : ∀ d ∈ ds, d.ok) (qp : qs.Perm ((ds.filter fun d => hasB d.k d.v d.p k v).map (·.p))) (qw : qs.Pairwise (· ≤ ·)) : (allOf k v es).map (fun d => [d.k.ver, d.first, d.p]) = qs.map (triP k v) := by
  rw [allOf_is so fun d hd => ok d (pe.mem_iff.mp hd), ← ps_is pe so ok qp qw, List.map_map]
  refine List.map_congr_left fun d hd => ?_
  have hd' := List.mem_filter.mp hd
  exact tri_has (ok d (pe.mem_iff.mp hd'.1)) hd'.2
end Mine
end JC40

section JC41
open PySem PySem.W PyProof.Rows PySem.Calls
set_option Elab.async false
set_option maxRecDepth 100000
set_option maxHeartbeats 40000000
namespace Mine
section
variable {w : World} {ad au : Nat} {afr : Option (List Env)} {ags : Option (List Code)} {s : Shared} {h₀ : Heap} {L : Addr} {m m0 : Str → Option Value} {news own rest : List (Addr × Obj)} {mg mb : Str → Option Value} {p : Program} {loose : List Str} {mean : ExcName → Option Value} {R : Result → Shared → Prop} {E : Value → Shared → Prop} {e : Bool} {Q : Flow → Shared → Prop}

theorem st5 {sc : Addr} {u1 u2 u3 : Obj} {ta tb tok tok2 tok3 tok4 : Tok} {a b v : Int} {k : Kd} (F : Fr h₀ L s.heap (up "place" (.int v tok4) (up "top" (.int k.max tok3) (up "bits" (.int k.wid tok2) (up "kind" (.int k.ver tok) (law1 sc a b ta tb)))))) (N : News h₀ L s.heap [(2977, u1), (2982, u2), (2987, u3)]) (X : (K w.params).In h₀) (T : Top p loose mean mg mb h₀)
    (h : ∀ M h' tk, @LT.lt Nat _ 2987 M → Fr h₀ L h' (up "nets" (.ref M) (up "place" (.int v tok4) (up "top" (.int k.max tok3) (up "bits" (.int k.wid tok2) (up "kind" (.int k.ver tok) (law1 sc a b ta tb)))))) → News h₀ L h' [(M, listOf #[] 0), (2977, u1), (2982, u2), (2987, u3)] → Q .next { s with heap := h', toks := tk }) :
    wpAny (model pwL w) (mkA ad afr ags au) (exec (sAt fb2995.val 5) (envX (Str.ofString "law") fs2995.val L 2995 (.ref 2994) [])) Q E s := by
  simp only [fb2995, sAt, List.getD, List.getElem?_cons_zero, List.getElem?_cons_succ, Option.getD_some]
  (try k_fold)
  k_steps
  rename_i M h1 lt h2 F2 N2
  exact h M _ _ lt.2.2 F2 N2
theorem st6 {sc M : Addr} {u1 u2 u3 : Obj} {ta tb tok tok2 tok3 tok4 : Tok} {a b v : Int} {k : Kd} (F : Fr h₀ L s.heap (up "nets" (.ref M) (up "place" (.int v tok4) (up "top" (.int k.max tok3) (up "bits" (.int k.wid tok2) (up "kind" (.int k.ver tok) (law1 sc a b ta tb))))))) (N : News h₀ L s.heap [(M, listOf #[] 0), (2977, u1), (2982, u2), (2987, u3)]) (X : (K w.params).In h₀) (T : Top p loose mean mg mb h₀)
    (h : ∀ Du h' tk, @LT.lt Nat _ M Du → Fr h₀ L h' (lawB sc M Du a b v k ta tb tok tok2 tok3 tok4) → News h₀ L h' [(Du, listOf #[] 0), (M, listOf #[] 0), (2977, u1), (2982, u2), (2987, u3)] → Q .next { s with heap := h', toks := tk }) :
    wpAny (model pwL w) (mkA ad afr ags au) (exec (sAt fb2995.val 6) (envX (Str.ofString "law") fs2995.val L 2995 (.ref 2994) [])) Q E s := by
  simp only [fb2995, sAt, List.getD, List.getElem?_cons_zero, List.getElem?_cons_succ, Option.getD_some]
  (try k_fold)
  k_steps
  rename_i M h1 lt h2 F2 N2
  exact h M _ _ lt.1 F2 N2
theorem AddrIn.mono {P : Params} {own own' : List (Addr × Obj)} {x : Addr} {v : Int} {k : Kd} (H : AddrIn P own x v k) (hs : ∀ q ∈ own, q ∈ own') : AddrIn P own' x v k := by
  obtain ⟨dx, t1, t2, tv, n, a, b⟩ := H
  exact ⟨dx, t1, t2, tv, n, hs _ a, hs _ b⟩
theorem NetIn.mono {P : Params} {own own' : List (Addr × Obj)} {x : Addr} {v p : Int} {k : Kd} (H : NetIn P own x v p k) (hs : ∀ q ∈ own, q ∈ own') : NetIn P own' x v p k := by
  obtain ⟨dx, t1, t2, t3, tv, tp, n, a, b⟩ := H
  exact ⟨dx, t1, t2, t3, tv, tp, n, hs _ a, hs _ b⟩
theorem allNe_get {d : Addr} : ∀ {l : List (Addr × Obj)}, AllNe d l → ∀ q ∈ l, q.1 ≠ d
  | [], _, _, h => nomatch h
  | _ :: _, h, q, hq => by
    rcases List.mem_cons.mp hq with rfl | hq
    · exact h.1
    · exact allNe_get h.2 q hq
theorem flt_objs {P : Params} {g h : Heap} {L M Du : Addr} {oM oD : Obj} {objs : List (Addr × Obj)} {nets dues : List Value} {ds : List ND} {xss : List (List Int)} (N : News g L h ((M, oM) :: (Du, oD) :: (objs ++ [(2977, tabObj #[]), (2982, tabObj #[]), (2987, tabObj #[])]))) (hne : ∀ q ∈ objs, q.1 ≠ M ∧ q.1 ≠ Du) (hN : RelL (netI P objs) nets ds) (hD : RelL (dueI objs) dues xss) :
    ∃ objsF : List (Addr × Obj), News g L h ((M, oM) :: (Du, oD) :: (objsF ++ [(2977, tabObj #[]), (2982, tabObj #[]), (2987, tabObj #[])])) ∧ (∀ q ∈ objsF, q.1 ≠ M ∧ q.1 ≠ Du ∧ q.1 ≠ 2977 ∧ q.1 ≠ 2982 ∧ q.1 ≠ 2987) ∧ RelL (netI P objsF) nets ds ∧ RelL (dueI objsF) dues xss := by
  have key : ∀ q ∈ objs, q.2 ≠ tabObj #[] → q ∈ objs.filter fun q => decide (q.1 ≠ 2977 ∧ q.1 ≠ 2982 ∧ q.1 ≠ 2987) := fun q hq hx => by
    refine List.mem_filter.mpr ⟨hq, decide_eq_true ?_⟩
    have gq := (N q (by simp [hq])).1
    have t1 := (N (2977, tabObj #[]) (by simp)).1
    have t2 := (N (2982, tabObj #[]) (by simp)).1
    have t3 := (N (2987, tabObj #[]) (by simp)).1
    refine ⟨fun e => ?_, fun e => ?_, fun e => ?_⟩
    · rw [e] at gq; rw [gq] at t1; exact hx (Option.some.inj t1)
    · rw [e] at gq; rw [gq] at t2; exact hx (Option.some.inj t2)
    · rw [e] at gq; rw [gq] at t3; exact hx (Option.some.inj t3)
  refine ⟨objs.filter fun q => decide (q.1 ≠ 2977 ∧ q.1 ≠ 2982 ∧ q.1 ≠ 2987), fun q hq => N q ?_, fun q hq => ?_, hN.mono fun y d hy => ?_, hD.mono fun y xs hy => ?_⟩
  · simp only [List.mem_cons, List.mem_append] at hq ⊢
    rcases hq with h | h | h | h
    · simp [h]
    · simp [h]
    · exact .inr (.inr (.inl (List.mem_filter.mp h).1))
    · exact .inr (.inr (.inr h))
  · have := List.mem_filter.mp hq
    have h2 := of_decide_eq_true this.2
    exact ⟨(hne q this.1).1, (hne q this.1).2, h2⟩
  · obtain ⟨x, e, dx, t1, t2, t3, tv, tp, n, a, b⟩ := hy
    exact ⟨x, e, dx, t1, t2, t3, tv, tp, n, key _ a (fun z => by cases z), key _ b (fun z => by cases z)⟩
  · obtain ⟨t, us, nn, e, a, b⟩ := hy
    exact ⟨t, us, nn, e, key _ a (fun z => by cases z), b⟩
theorem c_law {sc : Nat} {vs : List Value} {ns : List Int} (X : (K w.params).In h₀) (T : Top p loose mean mg mb h₀) (st : h₀.StaysIn s.heap) (h1 : h₀.get? 2977 = none) (h2 : h₀.get? 2982 = none) (h3 : h₀.get? 2987 = none)
    (g1 : s.heap.get? 2977 = some (tabObj #[])) (g2 : s.heap.get? 2982 = some (tabObj #[])) (g3 : s.heap.get? 2987 = some (tabObj #[])) (hsc : h₀.IsList sc vs.toArray) (hi : IntsAre vs ns) (hlen : ns.length ≤ 63) (hb : ∀ n ∈ ns, Builtin.Int.intBits n ≤ 1048576) (hroom : ad + 60 < recursionLimit) (hu : au + 300 < cLine)
    (hR : ∀ h' tk, (∀ b o, b ≠ 2977 → b ≠ 2982 → b ≠ 2987 → s.heap.get? b = some o → h'.get? b = some o) → (∃ ps, h'.get? 2977 = some (tabObj ps)) → (∃ ps, h'.get? 2982 = some (tabObj ps)) → (∃ ps, h'.get? 2987 = some (tabObj ps)) → R (.ok (.ret (.bool true))) { s with heap := h', toks := tk }) :
    codeAny (model pwL w) (mkA ad afr ags au) (.call (.ref 2995) ⟨[.ref sc], []⟩) R s := by
  have hn : ∀ q ∈ [(2977, tabObj #[]), (2982, tabObj #[]), (2987, tabObj #[])], s.heap.get? q.1 = some q.2 ∧ h₀.get? q.1 = none := by
    intro q hq
    simp only [List.mem_cons, List.not_mem_nil, or_false] at hq
    rcases hq with rfl | rfl | rfl
    · exact ⟨g1, h1⟩
    · exact ⟨g2, h2⟩
    · exact ⟨g3, h3⟩
  refine' enterX (h₀ := h₀) (news := [(2977, tabObj #[]), (2982, tabObj #[]), (2987, tabObj #[])]) (binds := [(Str.ofString "script", .ref sc)]) (cl := []) st hn X T ?ho ?hc ?hr ?hb ?hl ?_ ?c1 ?c2 ?c3 ?c4
  case ho => k_is
  case hc => k_is
  case hr => (first | omega | (simp only [depth_under_make, depth_under_kw, depth_in1, depth_deeper]; omega) | (simp only [Around.deeper, Around.in1, Around.under]; omega))
  case hb => exact BindsTo.of_eq rfl
  case hl => exact locs rfl
  case c1 => rfl
  case c2 => rfl
  case c3 => rfl
  case c4 => decide
  intro g L hh hg' F1 N1 X1 T1 sg G l1
  have hS : g.IsList sc vs.toArray := by obtain ⟨o, a, b⟩ := hsc; exact ⟨o, sg _ _ a, b⟩
  have keepR : ∀ {h' : Heap} {m : Str → Option Value}, Fr g L h' m → ∀ b o, b ≠ 2977 → b ≠ 2982 → b ≠ 2987 → s.heap.get? b = some o → h'.get? b = some o := fun F b o b1 b2 b3 e => F.keep b o (G b o e (by simp [b1, b2, b3]))
  have hdeep : (mkA ad afr ags au).deeper (envX (Str.ofString "law") fs2995.val L 2995 (.ref 2994) []) = mkA (ad + 1) ((mkA ad afr ags au).deeper (envX (Str.ofString "law") fs2995.val L 2995 (.ref 2994) [])).frames ((mkA ad afr ags au).deeper (envX (Str.ofString "law") fs2995.val L 2995 (.ref 2994) [])).guards ((mkA ad afr ags au).deeper (envX (Str.ofString "law") fs2995.val L 2995 (.ref 2994) [])).units := rfl
  have hu' : ((mkA ad afr ags au).deeper (envX (Str.ofString "law") fs2995.val L 2995 (.ref 2994) [])).units + 200 < cLine := by
    rw [units_deeper]; show au + _ + 200 < cLine; omega
  rw [hdeep]
  generalize ((mkA ad afr ags au).deeper (envX (Str.ofString "law") fs2995.val L 2995 (.ref 2994) [])).units = au' at hu' ⊢
  generalize ((mkA ad afr ags au).deeper (envX (Str.ofString "law") fs2995.val L 2995 (.ref 2994) [])).frames = afr'
  generalize ((mkA ad afr ags au).deeper (envX (Str.ofString "law") fs2995.val L 2995 (.ref 2994) [])).guards = ags'
  refine wpAny_execs_cons (st := sAt fb2995.val 0) (rest := fb2995.val.drop 1) ?_
  refine st0 F1 N1 X1 T1 hS hi hlen hb (by omega) fun a b ta tb hA tkA hbits FA NA => ?_
  refine wpAny_execs_cons (st := sAt fb2995.val 1) (rest := fb2995.val.drop 2) ?_
  refine st1 FA NA X1 T1 fun k tok hB tkB FB NB => ?_
  refine wpAny_execs_cons (st := sAt fb2995.val 2) (rest := fb2995.val.drop 3) ?_
  refine st2 FB NB X1 T1 fun tok2 hC tkC FC NC => ?_
  refine wpAny_execs_cons (st := sAt fb2995.val 3) (rest := fb2995.val.drop 4) ?_
  refine st3 FC NC X1 T1 fun tok3 hD tkD FD ND' => ?_
  refine wpAny_execs_cons (st := sAt fb2995.val 4) (rest := fb2995.val.drop 5) ?_
  refine st4 FD ND' X1 T1 hbits fun v tok4 hE tkE v0 v1 FE NE => ?_
  refine wpAny_execs_cons (st := sAt fb2995.val 5) (rest := fb2995.val.drop 6) ?_
  refine st5 FE NE X1 T1 fun M hF tkF ltM FF NF => ?_
  (try dsimp only)
  refine wpAny_execs_cons (st := sAt fb2995.val 6) (rest := fb2995.val.drop 7) ?_
  refine st6 FF NF X1 T1 fun Du hG tkG ltD FG NG => ?_
  refine wpAny_execs_cons (st := sAt fb2995.val 7) (rest := fb2995.val.drop 8) ?_
  refine loop_law FG NG X1 T1 hS hi hlen ltD ltM ⟨v0, v1⟩ (by omega) fun nu pr tu va si nets dues objs n1 n2 ds hH tkH FH NH hne hN hD hok h6 => ?_
  obtain ⟨objsF, NHF, hneF, hNF, hDF⟩ := flt_objs NH hne hN hD
  clear NH hne hN hD
  obtain ⟨ps, hps⟩ : ∃ ps, (ds.filter fun d => hasB d.k d.v d.p k v).map (·.p) = ps := ⟨_, rfl⟩
  have hnl : nets.length ≤ 6 := by rw [hNF.1]; exact h6
  rw [dueOf_P, hps] at hDF
  have hpl : ps.length ≤ 6 := by rw [← hps, List.length_map]; exact Nat.le_trans (List.length_filter_le _ _) h6
  have hdl : dues.length ≤ 6 := by rw [hDF.1, List.length_map]; exact hpl
  have hDuT : @Ne Nat Du 2977 ∧ @Ne Nat Du 2982 ∧ @Ne Nat Du 2987 ∧ @Ne Nat M 2977 ∧ @Ne Nat M 2982 ∧ @Ne Nat M 2987 ∧ @Ne Nat M Du := by omega
  (try dsimp only)
  refine wpAny_execs_cons (st := sAt fb2995.val 8) (rest := fb2995.val.drop 9) ?_
  refine st8 (dues := dues) (n2 := n2) (ps := ps) (rest := (M, listOf (List.toArray nets) n1) :: (objsF ++ [(2977, tabObj #[]), (2982, tabObj #[]), (2987, tabObj #[])])) FH (fun q hq => NHF q (by
    simp only [List.mem_cons, List.mem_append, List.not_mem_nil, or_false] at hq ⊢
    rcases hq with h | h | h | h | h | h <;> simp [h])) X1 T1 (fun q hq => by
    simp only [List.mem_cons, List.mem_append, List.not_mem_nil, or_false] at hq
    rcases hq with h | h | h | h | h
    · subst h; exact hDuT.2.2.2.2.2.2
    · exact (hneF q h).2.1
    · subst h; exact Ne.symm hDuT.1
    · subst h; exact Ne.symm hDuT.2.1
    · subst h; exact Ne.symm hDuT.2.2.1) (hDF.mono fun y x h => h.mono fun q hq => .tail _ (List.mem_append_left _ hq)) (by omega) (by omega) fun dues' qs n2' hI tkI qp qw hD' FI NI => ?_
  have hql : qs.length ≤ 6 := by rw [qp.length_eq]; exact hpl
  have hdl' : dues'.length ≤ 6 := by rw [hD'.1, List.length_map]; exact hql
  refine wpAny_execs_cons (st := sAt fb2995.val 9) (rest := fb2995.val.drop 10) ?_
  refine st9 (dues := dues') (qs := qs) (n2 := n2') FI NI X1 T1 (.head _) (hD'.mono fun y x h => h.mono fun q hq => .tail _ hq) (by omega) (by omega) fun Du2 dues2 n3 objs2 hJ tkJ hD2 FJ NJ fr2 => ?_
  (try dsimp only)
  refine wpAny_execs_cons (st := sAt fb2995.val 10) (rest := fb2995.val.drop 11) ?_
  refine st10 FJ NJ X1 T1 ⟨v0, v1⟩ (by omega) fun x dx t1 t2 tv nx hK tkK FK NK ax bx => ?_
  have hB : ∀ q ∈ (x, instObj 2565 dx) :: (dx, dictOf (addrEs w.params t1 t2 v tv k.addr) nx) :: (Du2, listOf (List.toArray dues2) n3) :: (objs2 ++ (Du, listOf (List.toArray dues') n2') :: (M, listOf (List.toArray nets) n1) :: objsF), q.1 ≠ 2977 ∧ q.1 ≠ 2982 ∧ q.1 ≠ 2987 := by
    have m1 : ∀ t, t = (2977, tabObj #[]) ∨ t = (2982, tabObj #[]) ∨ t = (2987, tabObj #[]) → t ∈ (Du, listOf (List.toArray dues') n2') :: (M, listOf (List.toArray nets) n1) :: (objsF ++ [(2977, tabObj #[]), (2982, tabObj #[]), (2987, tabObj #[])]) := fun t ht => by rcases ht with rfl | rfl | rfl <;> simp
    have m2 : ∀ d, AllNe d ((Du2, listOf (List.toArray dues2) n3) :: objs2 ++ (Du, listOf (List.toArray dues') n2') :: (M, listOf (List.toArray nets) n1) :: (objsF ++ [(2977, tabObj #[]), (2982, tabObj #[]), (2987, tabObj #[])])) → d ≠ 2977 ∧ d ≠ 2982 ∧ d ≠ 2987 := fun d hd =>
      ⟨Ne.symm (allNe_get hd _ (List.mem_append_right _ (m1 _ (.inl rfl)))), Ne.symm (allNe_get hd _ (List.mem_append_right _ (m1 _ (.inr (.inl rfl))))), Ne.symm (allNe_get hd _ (List.mem_append_right _ (m1 _ (.inr (.inr rfl)))))⟩
    have m3 : ∀ q ∈ (Du2, listOf (List.toArray dues2) n3) :: objs2, q.1 ≠ 2977 ∧ q.1 ≠ 2982 ∧ q.1 ≠ 2987 := fun q hq => ⟨Ne.symm (fr2 q hq _ (m1 _ (.inl rfl))), Ne.symm (fr2 q hq _ (m1 _ (.inr (.inl rfl)))), Ne.symm (fr2 q hq _ (m1 _ (.inr (.inr rfl))))⟩
    intro q hq
    simp only [List.mem_cons, List.mem_append] at hq
    rcases hq with h | h | h | h | h | h | h
    · subst h; exact m2 _ ax
    · subst h; exact m2 _ bx
    · subst h; exact m3 _ (.head _)
    · exact m3 _ (.tail _ h)
    · subst h; exact ⟨hDuT.1, hDuT.2.1, hDuT.2.2.1⟩
    · subst h; exact ⟨hDuT.2.2.2.1, hDuT.2.2.2.2.1, hDuT.2.2.2.2.2.1⟩
    · exact (hneF q h).2.2
  have NB : News g L hK ((2987, tabObj #[]) :: (2982, tabObj #[]) :: (2977, tabObj #[]) :: ((x, instObj 2565 dx) :: (dx, dictOf (addrEs w.params t1 t2 v tv k.addr) nx) :: (Du2, listOf (List.toArray dues2) n3) :: (objs2 ++ (Du, listOf (List.toArray dues') n2') :: (M, listOf (List.toArray nets) n1) :: objsF))) := fun q hq => NK q (by
    simp only [List.mem_cons, List.mem_append, List.cons_append, List.not_mem_nil, or_false] at hq ⊢
    rcases hq with h | h | h | h | h | h | h | h | h | h <;> simp [h])
  obtain ⟨B, hBe⟩ : ∃ B, B = (x, instObj 2565 dx) :: (dx, dictOf (addrEs w.params t1 t2 v tv k.addr) nx) :: (Du2, listOf (List.toArray dues2) n3) :: (objs2 ++ (Du, listOf (List.toArray dues') n2') :: (M, listOf (List.toArray nets) n1) :: objsF) := ⟨_, rfl⟩
  rw [← hBe] at hB NB
  have hMB : (M, listOf (List.toArray nets) n1) ∈ B := by rw [hBe]; simp
  have hAB : AddrIn w.params B x v k := ⟨dx, t1, t2, tv, nx, by rw [hBe]; simp, by rw [hBe]; simp⟩
  have hNB : RelL (netI w.params B) nets ds := hNF.mono fun y d h => h.mono fun q hq => by rw [hBe]; simp [hq]
  have hDuB : (Du2, listOf (List.toArray dues2) n3) ∈ B := by rw [hBe]; simp
  have hD2B : RelL (dueI B) dues2 (qs.map (triP k v)) := hD2.mono fun y d h => h.mono fun q hq => by rw [hBe]; simp [hq]
  clear hBe NK ax bx fr2 NJ FJ NI FI NHF FH NG FG NF FF NE FE ND' FD NC FC NA FA hNF hDF hD' hD2 hneF
  have qp' : qs.Perm ((ds.filter fun d => hasB d.k d.v d.p k v).map (·.p)) := by rw [hps]; exact qp
  (try dsimp only)
  refine wpAny_execs_cons (st := sAt fb2995.val 11) (rest := fb2995.val.drop 12) ?_
  refine st11 (rest := (2982, tabObj #[]) :: (2977, tabObj #[]) :: B) FK NB (fun q hq => by
    rcases List.mem_cons.mp hq with rfl | hq
    · dsimp only; decide
    · rcases List.mem_cons.mp hq with rfl | hq
      · dsimp only; decide
      · exact (hB q hq).2.2) X1 T1 (.tail _ (.tail _ hMB)) (hAB.mono fun q hq => .tail _ (.tail _ hq)) (hNB.mono fun y d h => h.mono fun q hq => .tail _ (.tail _ hq)) hok (by omega) (by omega) (.tail _ (.tail _ hDuB)) (hD2B.mono fun y d h => h.mono fun q hq => .tail _ (.tail _ hq)) hu' (by omega) (fun es pe so => law_all pe so hok qp' qw) fun hL tkL ps1 FL NL => ?_
  (try dsimp only)
  refine wpAny_execs_cons (st := sAt fb2995.val 12) (rest := fb2995.val.drop 13) ?_
  refine st12 (rest := (2987, tabObj ps1) :: (2977, tabObj #[]) :: B) FL (fun q hq => NL q (by
    simp only [List.mem_cons] at hq ⊢
    rcases hq with h | h | h | h <;> simp [h])) (fun q hq => by
    rcases List.mem_cons.mp hq with rfl | hq
    · dsimp only; decide
    · rcases List.mem_cons.mp hq with rfl | hq
      · dsimp only; decide
      · exact (hB q hq).2.1) X1 T1 (.tail _ (.tail _ hMB)) (hAB.mono fun q hq => .tail _ (.tail _ hq)) (hNB.mono fun y d h => h.mono fun q hq => .tail _ (.tail _ hq)) hok (by omega) (by omega) fun rw es1 objsW hW tkW ps2 pe1 so1 OW FW NW frW => ?_
  (try dsimp only)
  refine wpAny_execs_cons (st := sAt fb2995.val 13) (rest := fb2995.val.drop 14) ?_
  refine st13 (rest := objsW ++ (2982, tabObj ps2) :: (2987, tabObj ps1) :: B) FW (fun q hq => NW q (by
    simp only [List.mem_cons, List.mem_append] at hq ⊢
    rcases hq with h | h | h | h | h <;> simp [h])) (fun q hq => by
    rcases List.mem_append.mp hq with hq | hq
    · exact Ne.symm (frW q hq (2977, tabObj #[]) (.tail _ (.tail _ (.head _))))
    · rcases List.mem_cons.mp hq with rfl | hq
      · dsimp only; decide
      · rcases List.mem_cons.mp hq with rfl | hq
        · dsimp only; decide
        · exact (hB q hq).1) X1 T1 (List.mem_append_right _ (.tail _ (.tail _ hMB))) (hAB.mono fun q hq => List.mem_append_right _ (.tail _ (.tail _ hq))) (hNB.mono fun y d h => h.mono fun q hq => List.mem_append_right _ (.tail _ (.tail _ hq))) hok (by omega) (by omega) fun rl es2 objsL hZ tkZ ps3 pe2 so2 OL FZ NZ frL => ?_
  have sB : ∀ q ∈ B, q ∈ objsL ++ (2977, tabObj ps3) :: (objsW ++ (2982, tabObj ps2) :: (2987, tabObj ps1) :: B) := fun q hq => List.mem_append_right _ (.tail _ (List.mem_append_right _ (.tail _ (.tail _ hq))))
  have sW : ∀ q ∈ objsW, q ∈ objsL ++ (2977, tabObj ps3) :: (objsW ++ (2982, tabObj ps2) :: (2987, tabObj ps1) :: B) := fun q hq => List.mem_append_right _ (.tail _ (List.mem_append_left _ hq))
  have sL : ∀ q ∈ objsL, q ∈ objsL ++ (2977, tabObj ps3) :: (objsW ++ (2982, tabObj ps2) :: (2987, tabObj ps1) :: B) := fun q hq => List.mem_append_left _ hq
  have sT1 : (2977, tabObj ps3) ∈ objsL ++ (2977, tabObj ps3) :: (objsW ++ (2982, tabObj ps2) :: (2987, tabObj ps1) :: B) := List.mem_append_right _ (.head _)
  have sT2 : (2982, tabObj ps2) ∈ objsL ++ (2977, tabObj ps3) :: (objsW ++ (2982, tabObj ps2) :: (2987, tabObj ps1) :: B) := List.mem_append_right _ (.tail _ (List.mem_append_right _ (.head _)))
  have sT3 : (2987, tabObj ps1) ∈ objsL ++ (2977, tabObj ps3) :: (objsW ++ (2982, tabObj ps2) :: (2987, tabObj ps1) :: B) := List.mem_append_right _ (.tail _ (List.mem_append_right _ (.tail _ (.head _))))
  generalize objsL ++ (2977, tabObj ps3) :: (objsW ++ (2982, tabObj ps2) :: (2987, tabObj ps1) :: B) = NN at NZ sB sW sL sT1 sT2 sT3
  have p1 := ps_is pe1 so1 hok qp' qw
  have p2 := ps_is pe2 so2 hok qp' qw
  rw [largestOf_is] at OW
  rw [smallestOf_is so2 fun d hd => hok d (pe2.mem_iff.mp hd)] at OL
  (try dsimp only)
  refine wpAny_execs_cons (st := sAt fb2995.val 14) (rest := fb2995.val.drop 15) ?_
  cases hq : qs with
  | nil =>
    subst hq
    have e1 : es1.filter (fun d => hasB d.k d.v d.p k v) = [] := List.map_eq_nil_iff.mp p1
    have e2 : es2.filter (fun d => hasB d.k d.v d.p k v) = [] := List.map_eq_nil_iff.mp p2
    rw [e1] at OW
    rw [e2] at OL
    cases OW
    cases OL
    exact st14e (qs := []) FZ NZ X1 T1 (sB _ hDuB) (by omega) (by omega) (hD2B.mono fun y d h => h.mono sB) fun h' tk F' N' => hR _ _ (keepR F') ⟨_, N'.get sT1⟩ ⟨_, N'.get sT2⟩ ⟨_, N'.get sT3⟩
  | cons q0 qr =>
    subst hq
    obtain ⟨d0, dr, e1, hp0, _⟩ := List.map_eq_cons_iff.mp p1
    rw [e1] at OW
    have OW' : OptI w.params objsW rw (some d0) := OW
    obtain ⟨xw, dxw, rfl, _, hW⟩ := OW'
    have m0 : d0 ∈ es1.filter (fun d => hasB d.k d.v d.p k v) := by rw [e1]; exact .head _
    have m0' := List.mem_filter.mp m0
    have ok0 := hok d0 (pe1.mem_iff.mp m0'.1)
    have lastq : ((q0 :: qr) : List Int).getLast? = ((es2.filter (fun d => hasB d.k d.v d.p k v)).getLast?).map (·.p) := by rw [← p2, List.getLast?_map]
    have exl : ∃ dl, (es2.filter (fun d => hasB d.k d.v d.p k v)).getLast? = some dl := by
      cases hl : (es2.filter (fun d => hasB d.k d.v d.p k v)).getLast? with
      | none => rw [hl] at lastq; simp at lastq
      | some dl => exact ⟨dl, rfl⟩
    obtain ⟨dl, hl⟩ := exl
    · rw [hl] at lastq OL
      have OL' : OptI w.params objsL rl (some dl) := OL
      obtain ⟨xl, dxl, rfl, _, hL'⟩ := OL'
      have ml := List.mem_filter.mp (List.mem_of_getLast? hl)
      have okl := hok dl (pe2.mem_iff.mp ml.1)
      have dlen : dues2.length = (q0 :: qr).length := by rw [hD2B.1, List.length_map]
      have hz : 0 < dues2.length := by rw [dlen]; simp
      have g0 : dues2[0]? = some dues2[0] := List.getElem?_eq_getElem hz
      obtain ⟨tA, usA, nA, eA, mA, iA⟩ := hD2B.2 0 dues2[0] (triP k v q0) g0 rfl
      have hz' : dues2.length - 1 < dues2.length := by omega
      have gl : dues2[dues2.length - 1]? = some dues2[dues2.length - 1] := List.getElem?_eq_getElem hz'
      obtain ⟨tB, usB, nB, eB, mB, iB⟩ := hD2B.2 (dues2.length - 1) dues2[dues2.length - 1] (triP k v dl.p) gl (by
        rw [List.getElem?_map, dlen, ← List.getLast?_eq_getElem?, lastq]; rfl)
      rw [eA] at g0
      rw [eB] at gl
      have hD2N := hD2B.mono fun y d h => dueI.mono h sB
      refine st14n (qs := []) (xs0 := qr.map (triP k v)) FZ NZ X1 T1 (sB _ hDuB) (by omega) (by omega) hD2N fun h14 tk14 F14 N14 => ?_
      refine wpAny_execs_cons (st := sAt fb2995.val 15) (rest := fb2995.val.drop 16) ?_
      refine st15n (qs := []) F14 N14 X1 T1 (sB _ hDuB) (by omega) (by omega) fun h15 tk15 F15 N15 => ?_
      refine wpAny_execs_cons (st := sAt fb2995.val 16) (rest := []) ?_
      refine st16n (qs := []) (dw := d0) (dl := dl) F15 N15 X1 T1 (sB _ hDuB) (by omega) (by omega) (hW.mono sW) (hL'.mono sL) ok0.1 okl.1 hz g0 gl (sB _ mA) (sB _ mB) iA iB ?_ ?_ fun h' tk F' N' => hR _ _ (keepR F') ⟨_, N'.get sT1⟩ ⟨_, N'.get sT2⟩ ⟨_, N'.get sT3⟩
      · have hp0' : d0.p = q0 := hp0
        rw [← hp0']
        exact tri_has ok0 m0'.2
      · exact tri_has okl ml.2
end
end Mine
end JC41
end JW

section JC42
open PySem PySem.W PyProof.Rows PySem.Calls
set_option Elab.async false
set_option maxRecDepth 100000
set_option maxHeartbeats 4000000
namespace Mine
noncomputable def YK (w : World) (h : Heap) : Prop := (K w.params).In h ∧ h.get? 2977 = some (tabObj #[]) ∧ h.get? 2982 = some (tabObj #[]) ∧ h.get? 2987 = some (tabObj #[])
theorem tab_TF (P : Params) : [(2977 : Addr), 2982, 2987].map (TF P).get = [some (tabObj #[]), some (tabObj #[]), some (tabObj #[])] := big4 P
theorem YK_of (w : World) (S : Shared) (hr : Rep (TF w.params) 2996 25918 S) : YK w S.heap := by
  have h := tab_TF w.params
  simp only [List.map_cons, List.map_nil, List.cons.injEq, and_true] at h
  exact ⟨hookY (K := K) (as := addrsK) (e := addrsK_is) K_at w S hr, hr.at_ _ _ h.1, hr.at_ _ _ h.2.1, hr.at_ _ _ h.2.2⟩
theorem row_ok (k1 : rowO.wellSaid = true) (hw : rowO.toRowW.promised) : rowO.Holds := by
  refine holds_row (YP := YK) (by rfl) (by rfl) (by rfl) YK_of (fun w h h' Y st => ⟨fun a o e => st _ _ (Y.1 a o e), st _ _ Y.2.1, st _ _ Y.2.2.1, st _ _ Y.2.2.2⟩) k1 hw ?_
  intro w s₀ s₁ mg mb G Y fa o pm cd doc dV kV ho hd hcd hD hmg hg args vals as hpre hlay hrd hwl hlo
  refine Ground.open G ?_
  intro T B D TE TW
  obtain ⟨KX, y1, y2, y3⟩ := Y
  have e1 := mg_of KX T.g (n := Str.ofString "law") (v := .ref 2995) (by kernel_rfl)
  have q : some (Value.ref fa) = some (Value.ref 2995) := hmg.symm.trans e1
  cases q
  clear ho hd hcd hD hmg
  have hT : TabsAt [(2979, 2977), (2984, 2982), (2989, 2987)] s₁.heap := List.forall_mem_cons.mpr ⟨⟨codeHd_of_K (c := 2979) (P := 2977) KX (by kernel_rfl), y1⟩, List.forall_mem_cons.mpr ⟨⟨codeHd_of_K (c := 2984) (P := 2982) KX (by kernel_rfl), y2⟩, List.forall_mem_cons.mpr ⟨⟨codeHd_of_K (c := 2989) (P := 2987) KX (by kernel_rfl), y3⟩, fun _ h => nomatch h⟩⟩⟩
  wrow_args hpre hlay hrd hwl hlo
  refine enter_call ?_
  rename_i ns hs hl0 hLay hr1 hl2 w4 w3 sc vs w0 hL ra ww r0 hI hr hc1 hc2
  refine kn_post (tabs := [(2979, 2977), (2984, 2982), (2989, 2987)]) hT (fun _ _ => rfl) ?_
  show codeAny (model pwL w) (mkA (1 + claimMargin) (some []) (some []) 4) _ _ _
  refine c_law (h₀ := ghostOf s₁.heap [(2979, 2977), (2984, 2982), (2989, 2987)]) (ghost_K hT KX (by kernel_rfl)) (ghost_top hT T) (fun b o e => of_hideAll _ e) (hideAll_none _ (by simp)) (hideAll_none _ (by simp)) (hideAll_none _ (by simp)) y1 y2 y3 (ghost_list hT hL) hI (by omega) (fun n hn => PyData.bits_item_of_ints hLay hn) (by decide) (by decide) fun h' tk keep t1 t2 t3 => ?_
  have kp : ∀ b o, (ghostOf s₁.heap [(2979, 2977), (2984, 2982), (2989, 2987)]).get? b = some o → h'.get? b = some o := fun b o e => by
    have n1 : b ≠ 2977 := fun q => by rw [q, hideAll_none _ (by simp)] at e; cases e
    have n2 : b ≠ 2982 := fun q => by rw [q, hideAll_none _ (by simp)] at e; cases e
    have n3 : b ≠ 2987 := fun q => by rw [q, hideAll_none _ (by simp)] at e; cases e
    exact keep b o n1 n2 n3 (of_hideAll _ e)
  refine ⟨⟨.inl ⟨.bool true, .bool true, [], rfl, fun _ => rfl, .bool true, ?_, unshared_nil⟩, kp, rfl, hg⟩, t1, t2, t3, trivial⟩
  first | rfl | wrow_post
end Mine
end JC42

section JC43
open PySem PySem.W PyProof.Rows PySem.Calls
set_option Elab.async false
set_option maxRecDepth 100000
set_option maxHeartbeats 4000000
namespace Mine
theorem prom_ok : rowO.toRowW.promised := by
  w_witness
theorem whole : PySem.Challenge.rw_az0027_01.Holds := holds_law said_ok fun said => row_ok said prom_ok
end Mine
end JC43

theorem PySem.Challenge.cw_az0027_01_holds : PySem.Challenge.rw_az0027_01.Holds := by
  exact Mine.whole
