import PyProof.Rows.All
import Wide.All
import OpenK.AllK
import Wide.FinOn
import Lean
import PySem.Challenge.RW_sn0081_01

noncomputable section
set_option compiler.extract_closed false
section
set_option maxRecDepth 100000
namespace Mine
open PySem PySem.W

/-- one step of the model's machine over the tree of objects -/
noncomputable def stepM (den : Code → Sem Fin) (cm : Thread → Bool) (st : SharedT → Thread → Option (SharedT × Thread)) (s : SharedT) (t : Thread) : Option (SharedT × Thread) :=
  match cm t with
  | false => none
  | true => match t with
    | ⟨cur, code, pos, stack⟩ => match cur with
      | .pure fin => match fin with
        | .again c => some (s, ⟨den c, c, pos, stack⟩)
        | .done f => st s ⟨.pure (.done f), code, pos, stack⟩
      | .call c h g l k => some (s, ⟨den c, c, pos, .ret k h g l code pos [] :: stack⟩)
      | cur => st s ⟨cur, code, pos, stack⟩

noncomputable def goM (den : Code → Sem Fin) (cm : Thread → Bool) (st : SharedT → Thread → Option (SharedT × Thread)) : Nat → SharedT → Thread → Option (SharedT × Thread)
  | 0, s, t => some (s, t)
  | n + 1, s, t => match stepM den cm st s t with
    | some r => goM den cm st n r.1 r.2
    | none => none

section
variable {p : Program} {w : World}

theorem loud_of_calm {t : Thread} (h : t.calm = true) : t.loud = false := by
  rw [Thread.calm_eq] at h
  cases q : t.loud with
  | false => rfl
  | true => rw [q] at h; cases h

theorem stepM_spec {s s' : SharedT} {t t' : Thread} (h : stepM (denote table) Thread.calm (stepT (denote table) p w) s t = some (s', t')) : (model p w).step s.abs t = .go s'.abs t' := by
  unfold stepM at h
  cases hc : t.calm with
  | false => rw [hc] at h; cases h
  | true =>
    rw [hc] at h
    rw [Model.step_quiet (M := model p w) (loud_of_calm hc)]
    obtain ⟨cur, code, pos, stack⟩ := t
    cases cur with
    | pure fin =>
      cases fin with
      | again c => cases h; rfl
      | done f => exact stepT_spec h
    | call c hd g l k => cases h; rfl
    | raise a => exact stepT_spec h
    | unsupported a => exact stepT_spec h
    | finish a => exact stepT_spec h
    | rule a b => exact stepT_spec h
    | «at» a b => exact stepT_spec h
    | load a b c => exact stepT_spec h
    | update a b c d => exact stepT_spec h
    | alloc a b => exact stepT_spec h
    | loadIfAlive a b => exact stepT_spec h
    | point a b => exact stepT_spec h
    | register a b => exact stepT_spec h
    | fresh a => exact stepT_spec h
    | ask a => exact stepT_spec h
    | choose a b c => exact stepT_spec h
    | os a b c => exact stepT_spec h
    | handled a b => exact stepT_spec h
    | newGen a b => exact stepT_spec h
    | genState a b => exact stepT_spec h
    | resume a b c d => exact stepT_spec h
    | yield a b c d => exact stepT_spec h
    | stack a => exact stepT_spec h
    | fork a b => exact stepT_spec h
    | thread a => exact stepT_spec h
    | await a b c d e => exact stepT_spec h

/-- a thread as it stands: its run comes to an end, and the end is of this kind -/
noncomputable abbrev Ends (p : Program) (w : World) (s : Shared) (t : Thread) (F : Result → Shared → Prop) : Prop := ∃ s' r, Reach (model p w) [] s t.cur t.code t.pos t.stack s' (.ret r) ∧ F r s'

theorem ends_step {s s₁ : Shared} {t t₁ : Thread} {F : Result → Shared → Prop} (h : (model p w).step s t = .go s₁ t₁) (k : Ends p w s₁ t₁ F) : Ends p w s t F := by
  obtain ⟨s', r, k, hF⟩ := k
  obtain ⟨cur, code, pos, stack⟩ := t
  obtain ⟨cur₁, code₁, pos₁, stack₁⟩ := t₁
  exact ⟨s', r, Reach.step (by rw [List.append_nil, List.append_nil]; exact h) k, hF⟩

noncomputable abbrev go (p : Program) (w : World) : Nat → SharedT → Thread → Option (SharedT × Thread) := goM (denote table) Thread.calm (stepT (denote table) p w)

theorem ends_go : ∀ (n : Nat) {s s₁ : SharedT} {t t₁ : Thread} {F : Result → Shared → Prop}, go p w n s t = some (s₁, t₁) → Ends p w s₁.abs t₁ F → Ends p w s.abs t F
  | 0, s, s₁, t, t₁, F, h, k => by cases h; exact k
  | n + 1, s, s₁, t, t₁, F, h, k => by
    unfold go goM at h
    cases hs : stepM (denote table) Thread.calm (stepT (denote table) p w) s t with
    | none => rw [hs] at h; cases h
    | some x =>
      obtain ⟨s₂, t₂⟩ := x
      rw [hs] at h
      exact ends_step (stepM_spec hs) (ends_go n h k)

/-- a run over frames, to an exit, and on from there -/
theorem ends_over {B : List Frame} {s s₁ : Shared} {t : Sem Fin} {c : Code} {q : Pos} {pre : List Frame} {e₁ : End} {F : Result → Shared → Prop} (h : Reach (model p w) B s t c q pre s₁ e₁)
    (k : ∀ t' c' p' pre', Exits e₁ t' c' p' pre' → Ends p w s₁ ⟨t', c', p', pre' ++ B⟩ F) : Ends p w s ⟨t, c, q, pre ++ B⟩ F := by
  induction h with
  | exit hx => exact k _ _ _ _ hx
  | step hs _ ih => exact ends_step hs (ih k)
end
end Mine
end

section
set_option maxRecDepth 100000
namespace Mine
open PySem PySem.W
section
variable {p : Program} {w : World}

theorem mstep_life {M : Model} {s s' : Shared} {t t' : Thread} (h : M.step s t = .go s' t') : s'.heap.life = s.heap.life := by
  have hq : t.loud = false := by
    cases q : t.loud with
    | false => rfl
    | true => rw [M.step_loud q] at h; cases h
  rw [M.step_quiet hq] at h
  have e := stepK_forget M.den M.prog M.w s t
  rw [h] at e
  cases hs : PySem.step M.den M.prog M.w s t with
  | halt o s₂ => rw [hs] at e; cases e
  | go s₂ t₂ =>
    rw [hs] at e
    simp only [Step.forget, Step.go.injEq] at e
    have e1 : s'.heap = s₂.heap := (congrArg (fun x : Shared => x.heap) e.1 : s'.forget.heap = s₂.forget.heap)
    rw [e1]
    exact step_life _ _ _ _ _ _ _ hs
theorem reach_life {M : Model} {base : List Frame} {s t c q pre s' e} (h : Reach M base s t c q pre s' e) : s'.heap.life = s.heap.life := by
  induction h with
  | exit _ => rfl
  | step hs _ ih => exact ih.trans (mstep_life hs)

/-- a tree run by its contract, what stands behind it as it stands -/
theorem ends_wrap {α : Type} {c : Code} {fs : List Frame} {F : Result → Shared → Prop} (K : α → Sem Fin) (H : Value → Sem Fin) (gd : Bool → Bool) (lv : List Value → List Value) (lf : Life) (m : Sem α) : ∀ (q : Pos) (s : Shared), s.heap.life = lf →
    Sem.wp (model p w) (Ctx.of c fs) m (fun a q' s' => s'.heap.life = lf → Ends p w s' ⟨K a, c, q', fs⟩ F) (fun _ _ _ => False) q s → Ends p w s ⟨m.wrap K H gd lv, c, q, fs⟩ F := by
  have Ft : (Ctx.of c fs).Fits fs := Ctx.fits_of c fs
  induction m with
  | pure a => intro q s hl h; exact h hl
  | raise e => intro q s hl h; exact h.elim
  | unsupported => intro q s hl h; exact h.elim
  | finish => intro q s hl h; exact h.elim
  | register => intro q s hl h; exact h.elim
  | fork => intro q s hl h; exact h.elim
  | await => intro q s hl h; exact h.elim
  | yield => intro q s hl h; exact h.elim
  | rule t k ih => intro q s hl h; exact ends_step (step_rule ..) (ih () q s hl h)
  | «at» q' k ih => intro q s hl h; exact ends_step (step_at ..) (ih () q' s hl h)
  | load a part k ih => intro q s hl h; obtain ⟨o, ho, h⟩ := h; exact ends_step (step_load _ _ _ _ _ _ _ ho) (ih o q s hl h)
  | update a part f k ih => intro q s hl h; obtain ⟨ha, h⟩ := h; exact ends_step (step_update _ _ _ _ _ _ _ _ ha) (ih () q _ hl h)
  | loadIfAlive a k ih => intro q s hl h; exact ends_step (step_loadIfAlive ..) (ih _ q s hl h)
  | point l k ih => intro q s hl h; exact ends_step (step_point ..) (ih () q s hl h)
  | alloc o k ih => intro q s hl h; exact ends_step (step_alloc ..) (ih _ q _ hl h)
  | fresh k ih => intro q s hl h; exact ends_step (step_fresh ..) (ih _ q _ hl h)
  | ask k ih => intro q s hl h; exact ends_step (step_ask ..) (ih _ q s hl h)
  | choose src n k ih => intro q s hl h; obtain ⟨hn, h⟩ := h; exact ends_step (step_choose _ _ _ _ _ _ _ hn) (ih _ q _ hl h)
  | os o l k ih => intro q s hl h; exact ends_step (step_os ..) (ih _ q _ hl h)
  | thread k ih => intro q s hl h; exact ends_step (step_thread ..) (ih _ q s hl h)
  | newGen g k ih => intro q s hl h; exact ends_step (step_newGen ..) (ih _ q _ hl h)
  | stack k ih =>
    intro q s hl h
    refine ends_step (step_stack ..) (ih _ q s hl ?_)
    rw [← Ft.below]; exact h
  | handled own k ih =>
    intro q s hl h
    refine ends_step (step_handled ..) (ih _ q s hl ?_)
    cases own
    · exact h
    · exact h
  | genState g k ih => intro q s hl h; obtain ⟨st, hg, h⟩ := h; exact ends_step (step_genState _ _ _ _ _ _ hg) (ih _ q s hl h)
  | call c' hd g l k ih =>
    intro q s hl h
    obtain ⟨r₁, s₁, hr, h⟩ := h
    refine ends_step (step_call ..) ?_
    have hr' := runs_reach hr (.ret (fun x => (k x).wrap K H gd lv) hd (gd g) (lv l) c q [] :: fs) (Ft.enter c' (fun x => (k x).wrap K H gd lv) hd (gd g) (lv l) q [])
    exact ends_over (pre := []) hr' (by
      rintro _ _ _ _ ⟨rfl, rfl⟩
      exact ends_step (step_leaf_ret ..) (ih r₁ q s₁ ((reach_life hr').trans hl) h))
  | resume g x l k ih =>
    intro q s hl h
    obtain ⟨res, s₁, hw, h⟩ := h
    unfold Wakes at hw
    cases hg : s.gens[g]? with
    | none => simp only [hg] at hw
    | some gs =>
      simp only [hg] at hw
      cases gs with
      | fresh c₀ =>
        cases x with
        | send v =>
          by_cases hv : v = .none
          · subst hv
            obtain ⟨e₁, s₂, h₁, hq, rfl, rfl⟩ := hw
            refine ends_step (step_resume_fresh _ _ _ _ _ _ _ hg) ?_
            have hr' := runs_reach h₁ (.gen g (fun x => (k x).wrap K H gd lv) (lv l) c q :: fs) (Ft.wake c₀ g (fun x => (k x).wrap K H gd lv) (lv l) q)
            refine ends_over (pre := []) hr' ?_
            intro _ _ _ _ hx
            exact ends_step (step_exit_gen _ _ _ _ _ _ _ hx hq) (ih _ q _ ((reach_life hr').trans hl) h)
          · have : res = .justStarted ∧ s₁ = s := by cases v <;> first | exact absurd rfl hv | exact hw
            obtain ⟨rfl, rfl⟩ := this
            exact ends_step (step_resume_justStarted _ _ _ _ _ _ _ hg hv) (ih _ q _ hl h)
        | throw e => obtain ⟨rfl, rfl⟩ := hw; exact ends_step (step_resume_throwFresh _ _ _ _ _ _ _ _ hg) (ih _ q _ hl h)
      | suspended k₀ l₀ c₀ p₀ fs₀ cl =>
        obtain ⟨e₁, s₂, h₁, hq, rfl, rfl⟩ := hw
        refine ends_step (step_resume_suspended _ _ _ _ _ _ _ _ hg) ?_
        have hr' := runs_reach h₁ (.gen g (fun x => (k x).wrap K H gd lv) (lv l) c q :: fs) (Ft.wake c₀ g (fun x => (k x).wrap K H gd lv) (lv l) q)
        refine ends_over (pre := fs₀) hr' ?_
        intro _ _ _ _ hx
        exact ends_step (step_exit_gen _ _ _ _ _ _ _ hx hq) (ih _ q _ ((reach_life hr').trans hl) h)
      | running => obtain ⟨rfl, rfl⟩ := hw; exact ends_step (step_resume_running _ _ _ _ _ _ _ _ hg) (ih _ q _ hl h)
      | finished => obtain ⟨rfl, rfl⟩ := hw; exact ends_step (step_resume_finished _ _ _ _ _ _ _ _ hg) (ih _ q _ hl h)
end
end Mine
end

section
set_option maxRecDepth 100000
namespace Mine
open PySem PySem.W PyProof.Rows

/-- the surroundings of a thread, as they are -/
noncomputable def aOf (c : Code) (fs : List PySem.Frame) : Around := { handled := topHandled fs, depth := frameCount (fs.map PySem.Frame.where_) + c.weight, frames := none, guards := none, units := (Ctx.of c fs).units }
theorem in_aOf (c : Code) (fs : List PySem.Frame) : (Ctx.of c fs).In (aOf c fs) := ⟨rfl, Nat.le_refl _, fun _ h => (nomatch h), fun _ h => (nomatch h), Nat.le_refl _⟩

theorem ends_any {p : Program} {w : World} {α : Type} {c : Code} {fs : List PySem.Frame} {F : Result → Shared → Prop} {K : α → Sem PySem.Fin} {H : Value → Sem PySem.Fin} {gd : Bool → Bool} {lv : List Value → List Value} {m : Sem α} {q : Pos} {s : Shared}
    (h : wpAny (model p w) (aOf c fs) m (fun a s' => s'.heap.life = s.heap.life → ∀ q', Ends p w s' ⟨K a, c, q', fs⟩ F) (fun _ _ => False) s) : Ends p w s ⟨m.wrap K H gd lv, c, q, fs⟩ F :=
  ends_wrap K H gd lv s.heap.life m q s rfl (Sem.wp_mono (model p w) (Ctx.of c fs) m (fun _ q' _ x hl => x hl q') (fun _ _ _ x => x) q s (h (Ctx.of c fs) q (in_aOf c fs)))

theorem ends_again {p : Program} {w : World} {c c' : Code} {q : Pos} {fs : List PySem.Frame} {s : Shared} {F : Result → Shared → Prop} (hq : c'.quiet = true) (k : Ends p w s ⟨denote table c', c', q, fs⟩ F) : Ends p w s ⟨.pure (.again c'), c, q, fs⟩ F :=
  ends_step (PySem.step_again (model p w) s c q fs c' hq) k

noncomputable abbrev loopC (S I : Addr) : Code := .builtin "set.update.loop" ⟨[.ref S, .ref I], []⟩
theorem den_builtin {id : String} {args : Args} {b : Builtin} (hb : entryFor table id = some b) : denote table (.builtin id args) = b args := by
  show (match entryFor table id with | some b => b args | none => unsupported ((withoutEnding? id "#data").getD id)) = _
  rw [hb]
theorem loop_den (S I : Addr) : denote table (loopC S I) = (pyNext (.ref I)).bind fun x => match x with
    | some x => (holding [x] (setAdd S x)).bind fun _ => (.pure (.again (loopC S I)) : Sem PySem.Fin)
    | none => ret .none := by
  rw [den_builtin PyProof.Rows.F.entry_set_update_loop]
  unfold Builtin.«set.update.loop»
  exact congrArg (Sem.bind (pyNext (.ref I))) (funext fun x => by cases x <;> rfl)

/-- what the loop has done behind i of its items -/
structure LoopAt (p : Program) (w : World) (S I l : Addr) (items : Array Value) (ns : List Int) (s : Shared) (i : Nat) (s' : Shared) : Prop where
  same : ∃ h, s' = { s with heap := h, toks := s.toks + i }
  life : s'.heap.life = s.heap.life
  size : s'.heap.objs.size = s.heap.objs.size
  old : ∀ b : Nat, b ≠ S → b ≠ I → s'.heap.get? b = s.heap.get? b
  it : s'.heap.IsListIter I l i
  set : s'.heap.SetOf (intKind p w) S (fun k => (firstMet (fun j => ns.getD j 0) i).any (· == k)) (firstMet (fun j => ns.getD j 0) i).length

theorem set_loop {p : Program} {w : World} {S I l : Addr} {items : Array Value} {ns : List Int} {s : Shared} {fs : List PySem.Frame} {F : Result → Shared → Prop} (hSI : S ≠ I) (hSl : S ≠ l) (hIl : I ≠ l)
    (hL : s.heap.IsList l items) (hI : IntsAre items.toList ns) (hb : ns.length + 1 < scanBound)
    (fin : ∀ s' q, LoopAt p w S I l items ns s ns.length s' → Ends p w s' ⟨denote table (loopC S I), loopC S I, q, fs⟩ F) :
    ∀ (k i : Nat) (s' : Shared) (q : Pos), ns.length - i = k → i ≤ ns.length → LoopAt p w S I l items ns s i s' → Ends p w s' ⟨denote table (loopC S I), loopC S I, q, fs⟩ F := by
  intro k
  induction k with
  | zero =>
    intro i s' q hk hi D
    have : i = ns.length := by omega
    subst this
    exact fin s' q D
  | succ k ih =>
    intro i s' q hk hi D
    have hlt : i < ns.length := by omega
    rw [loop_den, Sem.bind_eq_wrap]
    refine ends_any ?_
    obtain ⟨⟨h, rfl⟩, life, size, old, it, hset⟩ := D
    dsimp only at life size old it hset
    have hL' : h.IsList l items := by
      obtain ⟨o, ho, r⟩ := hL
      exact ⟨o, by rw [old l (Ne.symm hSl) (Ne.symm hIl)]; exact ho, r⟩
    have hlen : items.size = ns.length := by have := hI.length; simpa using this
    obtain ⟨t, hx⟩ := hI.get i ns[i] (by simp [hlt])
    have hx' : items[i]? = some (.int ns[i] t) := by simpa using hx
    refine wpAny_pyNext_list_item it hL' hx' fun h' hit' hs' => ?_
    intro hlf q'
    dsimp only
    rw [Sem.bind_eq_wrap]
    refine ends_any (wpAny_holding ?_)
    unfold setAdd
    refine wpAny_holding ?_
    refine wpAny_bind ((intKind p w).pyHash (k := ns[i]) (intKind_is _ _ _ _) ?_)
    have hset' : h'.SetOf (intKind p w) S (fun k => (firstMet (fun j => ns.getD j 0) i).any (· == k)) (firstMet (fun j => ns.getD j 0) i).length := by
      obtain ⟨o, es, ep, tb, ho, rest⟩ := hset
      exact ⟨o, es, ep, tb, by rw [hs'.2 S hSI]; exact ho, rest⟩
    have hroom : (firstMet (fun j => ns.getD j 0) i).length + 1 < scanBound := by have := firstMet_length_le (fun j => ns.getD j 0) i; omega
    refine wpAny_setAddHashed_of (knd := intKind p w) (intKind_is _ _ _ _) rfl hset' hroom fun h'' hs'' hset'' => ?_
    intro hlf2 q''
    have en : ns.getD i 0 = ns[i] := by simp [hlt]
    have D' : LoopAt p w S I l items ns s (i + 1) { s with heap := h'', toks := s.toks + i + 1 } := by
      refine ⟨⟨_, rfl⟩, ?_, ?_, fun b h1 h2 => ?_, ?_, ?_⟩
      · exact hlf2.trans (hlf.trans life)
      · exact (hs''.1.trans hs'.1).trans size
      · exact ((hs''.2 b h1).trans (hs'.2 b h2)).trans (old b h1 h2)
      · obtain ⟨o, ho, r⟩ := hit'
        exact ⟨o, by rw [hs''.2 I (Ne.symm hSI)]; exact ho, r⟩
      · refine SetOf_congr hset'' (fun k' => ?_) ?_
        · rw [firstMet_succ, step_any, en]
        · rw [firstMet_succ, step_length, en]
    have hq : (loopC S I).quiet = true := plainId_quiet PyProof.Rows.F.plain_set_update_loop _
    have z := ih (i + 1) { s with heap := h'', toks := s.toks + i + 1 } q'' (by omega) hlt D'
    exact ends_again hq z
end Mine
end

section
set_option maxRecDepth 100000
namespace Mine
open PySem PySem.W

noncomputable def RowsAre : List (Int × Value) → List (Int × Str) → Prop
  | [], [] => True
  | (k, v) :: kvs, (j, x) :: rows => k = j ∧ (∃ t, v = .str x t) ∧ RowsAre kvs rows
  | _, _ => False
theorem RowsAre.append : ∀ {a b : List (Int × Value)} {x y : List (Int × Str)}, RowsAre a x → RowsAre b y → RowsAre (a ++ b) (x ++ y)
  | [], _, [], _, _, h => h
  | (_, _) :: _, _, (_, _) :: _, _, h, k => ⟨h.1, h.2.1, RowsAre.append h.2.2 k⟩
  | [], _, _ :: _, _, h, _ => h.elim
  | _ :: _, _, [], _, h, _ => h.elim
theorem RowsAre.keys : ∀ {a : List (Int × Value)} {x : List (Int × Str)}, RowsAre a x → a.map (·.1) = x.map (·.1)
  | [], [], _ => rfl
  | (_, _) :: _, (_, _) :: _, h => by rw [List.map_cons, List.map_cons, h.1, RowsAre.keys h.2.2]
  | [], _ :: _, h => h.elim
  | _ :: _, [], h => h.elim
theorem RowsAre.length {a : List (Int × Value)} {x : List (Int × Str)} (h : RowsAre a x) : a.length = x.length := by
  have := congrArg List.length h.keys
  simpa using this

section
variable {prog : Program} {w : World} {A : Around} {E : Value → Shared → Prop} {s : Shared}

noncomputable def EvIs (prog : Program) (w : World) (A : Around) (x : Sem Value) (P : Value → Prop) : Prop :=
  ∀ (s : Shared) (Q : Value → Shared → Prop) (E : Value → Shared → Prop), (∀ v, P v → Q v { s with toks := s.toks + 1 }) → wpAny (model prog w) A x Q E s
noncomputable def PairsEv (prog : Program) (w : World) (A : Around) : List (Sem Value × Sem Value) → List (Int × Str) → Prop
  | [], [] => True
  | (k, v) :: ps, (j, x) :: rows => EvIs prog w A k (fun kv => ∃ t, kv = .int j t) ∧ EvIs prog w A v (fun vv => ∃ t, vv = .str x t) ∧ PairsEv prog w A ps rows
  | _, _ => False
theorem PairsEv.length : ∀ {ps : List (Sem Value × Sem Value)} {rows : List (Int × Str)}, PairsEv prog w A ps rows → ps.length = rows.length
  | [], [], _ => rfl
  | (_, _) :: _, (_, _) :: _, h => by rw [List.length_cons, List.length_cons, PairsEv.length h.2.2]
  | [], _ :: _, h => h.elim
  | _ :: _, [], h => h.elim
theorem PairsEv.take : ∀ {ps : List (Sem Value × Sem Value)} {rows : List (Int × Str)} (n : Nat), PairsEv prog w A ps rows → PairsEv prog w A (ps.take n) (rows.take n)
  | _, _, 0, _ => by rw [List.take_zero, List.take_zero]; trivial
  | [], [], n + 1, h => h
  | (_, _) :: _, (_, _) :: _, n + 1, h => ⟨h.1, h.2.1, PairsEv.take n h.2.2⟩
  | [], _ :: _, _ + 1, h => h.elim
  | _ :: _, [], _ + 1, h => h.elim
theorem PairsEv.drop : ∀ {ps : List (Sem Value × Sem Value)} {rows : List (Int × Str)} (n : Nat), PairsEv prog w A ps rows → PairsEv prog w A (ps.drop n) (rows.drop n)
  | _, _, 0, h => h
  | [], [], n + 1, h => h
  | (_, _) :: _, (_, _) :: _, n + 1, h => PairsEv.drop n h.2.2
  | [], _ :: _, _ + 1, h => h.elim
  | _ :: _, [], _ + 1, h => h.elim

noncomputable abbrev IntDict (prog : Program) (w : World) (h : Heap) (d : Addr) (kvs : List (Int × Value)) : Prop := h.DictOf (intKind prog w) d kvs

theorem stored_fresh {acc : List (Int × Value)} {k : Int} {v : Value} (h : k ∉ acc.map (·.1)) : stored acc k v = acc ++ [(k, v)] := by
  unfold stored
  rw [if_neg]
  intro q
  obtain ⟨kv, hkv, e⟩ := List.any_eq_true.mp q
  exact h (List.mem_map.mpr ⟨kv, hkv, of_decide_eq_true e⟩)

theorem nodup_mid {a : List (Int × Str)} {j : Int} {x : Str} {r : List (Int × Str)} (h : ((a ++ (j, x) :: r).map (·.1)).Nodup) : j ∉ a.map (·.1) := by
  rw [List.map_append, List.nodup_append] at h
  intro hm
  exact h.2.2 j hm j (by simp) rfl

theorem storeLong {d : Addr} : ∀ (ps : List (Sem Value × Sem Value)) (rows : List (Int × Str)) (acc : List (Int × Value)) (accR : List (Int × Str)) (s : Shared) (Q : PUnit → Shared → Prop),
    PairsEv prog w A ps rows → IntDict prog w s.heap d acc → RowsAre acc accR → ((accR ++ rows).map (·.1)).Nodup → (accR ++ rows).length ≤ sizeLine →
    (∀ h' acc', IntDict prog w h' d acc' → RowsAre acc' (accR ++ rows) → Heap.SameBut d s.heap h' → Q PUnit.unit { s with heap := h', toks := s.toks + 3 * rows.length }) →
    wpAny (model prog w) A (forIn ps PUnit.unit fun (x : Sem Value × Sem Value) (_ : PUnit) => (do
      let kv ← x.1
      let vv ← holding [kv] x.2
      holding [kv, vv] (dictSet d kv vv)
      pure (ForInStep.yield PUnit.unit) : Sem (ForInStep PUnit))) Q E s
  | [], [], acc, accR, s, Q, _, hd, hr, _, _, hQ => by
    rw [List.forIn_nil]
    exact wpAny_pure (hQ s.heap acc hd (by simpa using hr) (Heap.SameBut.refl _ _))
  | (k, v) :: ps, (j, x) :: rows, acc, accR, s, Q, hp, hd, hr, hn, hl, hQ => by
    rw [List.forIn_cons]
    refine wpAny_bind (wpAny_bind (hp.1 s _ _ fun kv hkv => ?_))
    obtain ⟨t, rfl⟩ := hkv
    refine wpAny_bind (wpAny_holding (hp.2.1 _ _ _ fun vv hvv => ?_))
    obtain ⟨t', rfl⟩ := hvv
    have hlen : acc.length ≤ sizeLine := by
      have := hr.length
      rw [List.length_append] at hl
      omega
    refine wpAny_bind (wpAny_holding (wpAny_dictSet_pairs (knd := intKind prog w) (k := j) (hsz := hlen) (intKind_is _ _ _ _) hd fun h₁ hd₁ hs₁ => wpAny_pure ?_))
    have hnot : j ∉ acc.map (·.1) := by rw [hr.keys]; exact nodup_mid hn
    rw [stored_fresh hnot] at hd₁
    refine storeLong ps rows (acc ++ [(j, .str x t')]) (accR ++ [(j, x)]) _ Q hp.2.2 hd₁ (hr.append ⟨rfl, ⟨t', rfl⟩, trivial⟩) (by simpa using hn) (by simpa using hl) fun h' acc' hd' hr' hs' => ?_
    have z := hQ h' acc' hd' (by simpa using hr') (hs₁.trans hs')
    have e : s.toks + 3 * ((j, x) :: rows).length = s.toks + 1 + 1 + 1 + 3 * rows.length := by rw [List.length_cons]; omega
    rw [e] at z
    exact z
  | [], _ :: _, _, _, _, _, h, _, _, _, _, _ => h.elim
  | _ :: _, [], _, _, _, _, h, _, _, _, _, _ => h.elim

/-- the values of a run of pairs, evaluated first -/
noncomputable def ValsAre : List (Value × Value) → List (Int × Value) → List (Int × Str) → Prop
  | [], [], [] => True
  | (a, b) :: vs, (k, v) :: kvs, (j, x) :: rows => (∃ t, a = .int j t) ∧ b = v ∧ k = j ∧ (∃ t, v = .str x t) ∧ ValsAre vs kvs rows
  | _, _, _ => False
theorem ValsAre.carries : ∀ {vs : List (Value × Value)} {kvs : List (Int × Value)} {rows : List (Int × Str)}, ValsAre vs kvs rows → Carries (intKind prog w) vs kvs
  | [], [], [], _ => trivial
  | (_, _) :: _, (_, _) :: _, (_, _) :: _, h => by
    obtain ⟨⟨t, rfl⟩, rfl, rfl, _, h⟩ := h
    exact ⟨intKind_is _ _ _ _, rfl, ValsAre.carries h⟩
  | [], [], _ :: _, h => h.elim
  | [], _ :: _, _, h => h.elim
  | _ :: _, [], _, h => h.elim
  | _ :: _, _ :: _, [], h => h.elim
theorem ValsAre.rows : ∀ {vs : List (Value × Value)} {kvs : List (Int × Value)} {rows : List (Int × Str)}, ValsAre vs kvs rows → RowsAre kvs rows
  | [], [], [], _ => trivial
  | (_, _) :: _, (_, _) :: _, (_, _) :: _, h => ⟨h.2.2.1, h.2.2.2.1, ValsAre.rows h.2.2.2.2⟩
  | [], [], _ :: _, h => h.elim
  | [], _ :: _, _, h => h.elim
  | _ :: _, [], _, h => h.elim
  | _ :: _, _ :: _, [], h => h.elim

theorem evalShort : ∀ (ps : List (Sem Value × Sem Value)) (rows : List (Int × Str)) (s : Shared) (Q : List (Value × Value) → Shared → Prop),
    PairsEv prog w A ps rows → (∀ vs kvs, ValsAre vs kvs rows → Q vs { s with toks := s.toks + 2 * rows.length }) → wpAny (model prog w) A (evalPairs ps) Q E s
  | [], [], s, Q, _, hQ => evalPairs_nil (hQ [] [] trivial)
  | (k, v) :: ps, (j, x) :: rows, s, Q, hp, hQ => by
    refine evalPairs_cons (hp.1 s _ _ fun kv hkv => ?_)
    refine hp.2.1 _ _ _ fun vv hvv => ?_
    refine evalShort ps rows _ _ hp.2.2 fun vs kvs h => ?_
    have z := hQ ((kv, vv) :: vs) ((j, vv) :: kvs) ⟨hkv, rfl, rfl, hvv, h⟩
    have e : s.toks + 2 * ((j, x) :: rows).length = s.toks + 1 + 1 + 2 * rows.length := by rw [List.length_cons]; omega
    rw [e] at z
    exact z
  | [], _ :: _, _, _, h, _ => h.elim
  | _ :: _, [], _, _, h, _ => h.elim

theorem ValsAre.length : ∀ {vs : List (Value × Value)} {kvs : List (Int × Value)} {rows : List (Int × Str)}, ValsAre vs kvs rows → vs.length = rows.length
  | [], [], [], _ => rfl
  | (_, _) :: _, (_, _) :: _, (_, _) :: _, h => by rw [List.length_cons, List.length_cons, ValsAre.length h.2.2.2.2]
  | [], [], _ :: _, h => h.elim
  | [], _ :: _, _, h => h.elim
  | _ :: _, [], _, h => h.elim
  | _ :: _, _ :: _, [], h => h.elim

theorem subRows {ps : List (Sem Value × Sem Value)} {rows : List (Int × Str)} {Q : Addr → Shared → Prop} (hp : PairsEv prog w A ps rows) (hn : (rows.map (·.1)).Nodup) (hl : rows.length ≤ 4096)
    (hQ : ∀ h' kvs, IntDict prog w h' s.heap.objs.size kvs → RowsAre kvs rows → Heap.SameBut s.heap.objs.size (s.heap.push { cls := .type "dict", data := .dict #[] }) h' → Q s.heap.objs.size { s with heap := h', toks := s.toks + 3 * rows.length }) :
    wpAny (model prog w) A (subDict ps) Q E s := by
  have hs : 4096 ≤ sizeLine := by rw [sizeLine_eq]; omega
  unfold subDict
  refine wpAny_bind (wpAny_alloc ?_)
  refine wpAny_bind (wpAny_holding ?_)
  split
  · refine wpAny_bind (evalShort ps rows _ _ hp fun vs kvs h => ?_)
    have hr := h.rows
    refine wpAny_holding ?_
    refine wpAny_bind (wpAny_storeAll (knd := intKind prog w) vs kvs [] _ _ h.carries (Heap.DictOf.new s.heap) (by have := hr.length; simp only [List.length_nil, Nat.zero_add]; omega) fun h' hd' hs' => wpAny_pure (wpAny_pure ?_))
    rw [merged_nil_of_nodup kvs (by rw [hr.keys]; exact hn)] at hd'
    have z := hQ h' kvs hd' hr hs'
    have e : s.toks + 3 * rows.length = s.toks + 2 * rows.length + vs.length := by rw [h.length]; omega
    rw [e] at z
    exact z
  · refine wpAny_bind (wpAny_rule ?_)
    refine wpAny_bind (storeLong ps rows [] [] _ _ hp (Heap.DictOf.new s.heap) trivial (by simpa using hn) (by simp only [List.nil_append]; omega) fun h' kvs hd' hr hs' => wpAny_pure (wpAny_pure ?_))
    exact hQ h' kvs hd' (by simpa using hr) hs'
end
end Mine
end

section
set_option maxRecDepth 100000
namespace Mine
open PySem PySem.W
section
variable {prog : Program} {w : World} {A : Around} {E : Value → Shared → Prop} {s : Shared}

/-- a new key put by its hash -/
theorem put_fresh {d : Addr} {kvs : List (Int × Value)} {k : Int} {key v : Value} {Q : Unit → Shared → Prop} (hkey : (intKind prog w).is k key = true) (hm : IntDict prog w s.heap d kvs) (hnew : k ∉ kvs.map (·.1))
    (hsz : kvs.length ≤ sizeLine) (hQ : ∀ h', IntDict prog w h' d (kvs ++ [(k, v)]) → Heap.SameBut d s.heap h' → Q () { s with heap := h' }) :
    wpAny (model prog w) A (dictPut d ((intKind prog w).hash k) key v) Q E s := by
  obtain ⟨o, es, ep, ho, hc, hd, hk, hp, hn⟩ := hm
  have hes : es.size ≤ sizeLine := by
    have e1 := hp.length
    have e2 : es.toList.length = es.size := by simp
    omega
  have hidx : (es.findIdx? fun e => (intKind prog w).is k e.key) = kvs.findIdx? fun kv => decide (kv.1 = k) := by
    rw [← hp.findIdx k]; obtain ⟨l⟩ := es; simp
  have hnone : (es.findIdx? fun e => (intKind prog w).is k e.key) = none := by
    rw [hidx, List.findIdx?_eq_none_iff]
    intro kv hkv
    exact decide_eq_false fun e => hnew (List.mem_map.mpr ⟨kv, hkv, e⟩)
  unfold dictPut
  refine wpAny_bind (wpAny_dictFind_of hkey ho hd hk ?_)
  rw [hnone]
  refine wpAny_updateDictKeys (hz := hes) ho hd (hQ _ ⟨_, _, ep + 1, Heap.get?_update_self _ ho (Obj.isFreed_of_dict (Obj.data_mapDictKeys hd _)),
      hc.mapDictKeys _, Obj.data_mapDictKeys hd _, hk.push hkey _, ?_, ?_⟩ (Heap.SameBut.update ..))
  · have := hp.append hkey ((intKind prog w).hash k) v
    obtain ⟨l⟩ := es
    simpa using this
  · rw [List.map_append, List.nodup_append]
    refine ⟨hn, by simp, ?_⟩
    intro a ha b hb
    simp only [List.map_cons, List.map_nil, List.mem_singleton] at hb
    subst hb
    exact fun e => hnew (e ▸ ha)

theorem mergeRows {d a : Addr} {kvs more : List (Int × Value)} {Q : Unit → Shared → Prop} (hda : d ≠ a) (haS : (a == sysModules) = false) (hd : IntDict prog w s.heap d kvs) (ha : IntDict prog w s.heap a more)
    (hn : ((kvs ++ more).map (·.1)).Nodup) (h0 : kvs ≠ []) (hsz : kvs.length + more.length ≤ sizeLine)
    (hQ : ∀ h', IntDict prog w h' d (kvs ++ more) → Heap.SameBut d s.heap h' → Q () { s with heap := h' }) :
    wpAny (model prog w) A (mergeMapping d (.ref a) false) Q E s := by
  obtain ⟨od, esd, epd, hod, hcd, hdd, hkd, hpd, hnd⟩ := id hd
  obtain ⟨oa, esa, epa, hoa, hca, hda', hka, hpa, hna⟩ := id ha
  have hlen : more.length = esa.size := by rw [← hpa.length]; simp
  unfold mergeMapping
  refine wpAny_bind (wpAny_isInstance (T := "dict") (U := "dict") (b := true) ha.typeIs (by rw [isSubtype_type]; kernel_rfl) ?_)
  simp only [↓reduceIte]
  refine wpAny_bind (wpAny_specialOf ha.typeIs F.slot_dict_iter.lookup (wpAny_bind (wpAny_pure ?_)))
  have e : ((some (Value.builtin "dict.__iter__") : Option Value) == some (.builtin "dict.__iter__")) = true := by decide
  rw [e]
  dsimp only
  rw [haS]
  simp only [Bool.false_eq_true, ↓reduceIte]
  refine wpAny_bind (wpAny_dictEntries hod hdd ?_)
  have hne : esd.isEmpty = false := by
    cases q : esd.isEmpty with
    | false => rfl
    | true =>
      have z : esd = #[] := Array.isEmpty_iff.mp q
      have := hpd.length
      rw [z] at this
      exact absurd (List.length_eq_zero_iff.mp (by simpa using this.symm)) h0
  rw [hne]
  simp only [Bool.false_eq_true, ↓reduceIte]
  refine wpAny_bind (wpAny_dictEntries hoa hda' ?_)
  refine wpAny_bind (wpAny_dictEpoch hoa hda' ?_)
  refine wpAny_bind ?_
  refine wpAny_forIn_list _
    (fun rest _ s' => ∃ h' i, s' = { s with heap := h' } ∧ rest = List.range' i (esa.size - i) ∧ i ≤ esa.size ∧ IntDict prog w h' d (kvs ++ more.take i) ∧ h'.get? a = some oa ∧ Heap.SameBut d s.heap h')
    _ ?_ ?_ _ _ ⟨s.heap, 0, rfl, by rw [List.range_eq_range']; simp, Nat.zero_le _, by simpa using hd, hoa, Heap.SameBut.refl _ _⟩
  · rintro x rest b s' ⟨h', i, rfl, hr, hi, hd', hoa', hs'⟩
    have hlt : i < esa.size := by
      rcases Nat.lt_or_ge i esa.size with h | h
      · exact h
      · rw [Nat.sub_eq_zero_of_le h] at hr; simp at hr
    obtain ⟨rfl, hrest⟩ : x = i ∧ rest = List.range' (i + 1) (esa.size - (i + 1)) := by
      have e : esa.size - i = (esa.size - (i + 1)) + 1 := by omega
      rw [e, List.range'_succ] at hr
      injection hr with h1 h2
      exact ⟨h1, h2⟩
    refine wpAny_bind (wpAny_dictEntries hoa' hda' ?_)
    rw [Array.getElem?_eq_getElem hlt]
    obtain ⟨kv, hkv⟩ : ∃ kv, more[x]? = some kv := ⟨more[x]'(by rw [hlen]; exact hlt), List.getElem?_eq_getElem _⟩
    obtain ⟨k, v⟩ := kv
    obtain ⟨hkey, hval⟩ := hpa.get? (e := esa[x]) (by simp [hlt]) hkv
    obtain ⟨k', hkey', hhash⟩ := hka esa[x] (Array.getElem_mem hlt)
    obtain rfl : k' = k := (intKind prog w).inj _ _ _ hkey' hkey
    dsimp only
    rw [hhash, hval]
    have hnew : k' ∉ (kvs ++ more.take x).map (·.1) := by
      intro hm
      have hx : more = more.take x ++ (k', v) :: more.drop (x + 1) := by
        obtain ⟨hl, he⟩ := List.getElem?_eq_some_iff.mp hkv
        rw [← he, ← List.drop_eq_getElem_cons hl, List.take_append_drop]
      rw [hx, ← List.append_assoc, List.map_append, List.nodup_append] at hn
      exact hn.2.2 k' hm k' (by simp) rfl
    have hsz' : (kvs ++ more.take x).length ≤ sizeLine := by
      rw [List.length_append, List.length_take]; omega
    refine wpAny_bind (wpAny_holding (put_fresh hkey hd' hnew hsz' fun h'' hd'' hs'' => ?_))
    have hoa'' : h''.get? a = some oa := (hs''.2 a (Ne.symm hda)).trans hoa'
    refine wpAny_bind (wpAny_dictEpoch hoa'' hda' ?_)
    rw [if_neg (by simp)]
    refine wpAny_pure ⟨h'', x + 1, rfl, hrest, hlt, ?_, hoa'', hs'.trans hs''⟩
    rw [List.take_add_one, hkv]
    simpa using hd''
  · rintro b s' ⟨h', i, rfl, hr, hi, hd', hoa', hs'⟩
    have hin : i = esa.size := by
      rcases Nat.lt_or_ge i esa.size with h | h
      · have e : esa.size - i = (esa.size - (i + 1)) + 1 := by omega
        rw [e, List.range'_succ] at hr; exact nomatch hr
      · exact Nat.le_antisymm hi h
    refine wpAny_pure (hQ h' ?_ hs')
    rw [hin, ← hlen, List.take_length] at hd'; exact hd'
end
end Mine
end

section
set_option maxRecDepth 100000
namespace Mine
open PySem PySem.W
section
variable {prog : Program} {w : World} {A : Around} {E : Value → Shared → Prop}

noncomputable def flushD (run : List (Sem Value × Sem Value)) (main : Option Addr) : Sem (Option Addr) :=
  if run.isEmpty = true then pure main else match main with
    | none => do
      let x ← subDict run
      pure (some x)
    | some d => do
      let sub ← holding [Value.ref d] (subDict run)
      (holding [Value.ref d, Value.ref sub] (mergeMapping d (Value.ref sub) false)).onRaise fun x => do
        let _ ← holding [Value.ref d, x] (runValue (Code.builtin "proto.let_go" { }))
        pure ()
      pure (some d)

/-- the heap behind c flushes -/
structure DispAt (prog : Program) (w : World) (s : Shared) (done : List (Int × Str)) (main : Option Addr) (c : Nat) (s' : Shared) : Prop where
  same : ∃ h, s' = { s with heap := h, toks := s.toks + 3 * done.length }
  old : ∀ b : Nat, b < s.heap.objs.size → s'.heap.get? b = s.heap.get? b
  new : ∀ b : Nat, s.heap.objs.size ≤ b → b < s'.heap.objs.size → ∃ o es ep, s'.heap.get? b = some o ∧ o.data = .dict es ep
  size : s'.heap.objs.size = s.heap.objs.size + c
  at_ : (main = none ∧ done = [] ∧ c = 0) ∨ (main = some s.heap.objs.size ∧ done ≠ [] ∧ 0 < c ∧ ∃ kvs, IntDict prog w s'.heap s.heap.objs.size kvs ∧ RowsAre kvs done)

theorem get_push_lt {h : Heap} {o : Obj} {b : Nat} (hb : b < h.objs.size) : (h.push o).get? b = h.get? b := Heap.get?_push_ne h b o (Nat.ne_of_lt hb)

theorem flush_at {s s' : Shared} {done r : List (Int × Str)} {main : Option Addr} {c : Nat} {run : List (Sem Value × Sem Value)} {Q : Option Addr → Shared → Prop} (hN : 28 ≤ s.heap.objs.size)
    (D : DispAt prog w s done main c s') (hp : PairsEv prog w A run r) (h0 : r ≠ []) (hn : ((done ++ r).map (·.1)).Nodup) (hl : (done ++ r).length ≤ 4096)
    (hQ : ∀ s'', DispAt prog w s (done ++ r) (some s.heap.objs.size) (c + 1) s'' → Q (some s.heap.objs.size) s'') : wpAny (model prog w) A (flushD run main) Q E s' := by
  have hs : 4096 ≤ sizeLine := by rw [sizeLine_eq]; omega
  have hrn : (r.map (·.1)).Nodup := by rw [List.map_append, List.nodup_append] at hn; exact hn.2.1
  have hrl : r.length ≤ 4096 := by rw [List.length_append] at hl; omega
  have hne : run.isEmpty = false := by
    cases q : run with
    | nil => have := hp.length; rw [q] at this; exact absurd (List.length_eq_zero_iff.mp this.symm) h0
    | cons _ _ => rfl
  unfold flushD
  rw [hne]
  simp only [Bool.false_eq_true, ↓reduceIte]
  obtain ⟨⟨h, rfl⟩, old, new, size, at_⟩ := D
  dsimp only at old new size
  rcases at_ with ⟨rfl, rfl, rfl⟩ | ⟨rfl, hd0, hc, kvs, hd, hr⟩
  · dsimp only
    refine wpAny_bind (subRows hp hrn hrl fun h' kvs hd' hr' hs' => wpAny_pure ?_)
    dsimp only at hd' hs' ⊢
    have en : h.objs.size = s.heap.objs.size := by omega
    rw [en] at hd' hs' ⊢
    have hsz : h'.objs.size = s.heap.objs.size + 1 := by rw [hs'.1, Heap.size_push, en]
    refine hQ _ ⟨⟨h', by simp⟩, fun b hb => ?_, fun b hb hb' => ?_, by dsimp only; omega, .inr ⟨rfl, by simpa using h0, by omega, kvs, hd', by simpa using hr'⟩⟩
    · dsimp only
      rw [hs'.2 b (Nat.ne_of_lt hb), get_push_lt (by omega), old b hb]
    · dsimp only at hb' ⊢
      have : b = s.heap.objs.size := by omega
      subst this
      obtain ⟨o, _, _, ho, _, hdt, _⟩ := hd'
      exact ⟨o, _, _, ho, hdt⟩
  · dsimp only
    refine wpAny_bind (wpAny_holding (subRows hp hrn hrl fun h' kvs' hd' hr' hs' => ?_))
    dsimp only at hd' hs' ⊢
    have hNa : s.heap.objs.size ≠ h.objs.size := by omega
    have hdN : IntDict prog w h' s.heap.objs.size kvs := (Heap.DictOf.push hd _).sameBut hs' hNa
    have hsz : h'.objs.size = h.objs.size + 1 := by rw [hs'.1, Heap.size_push]
    have hS : (h.objs.size == sysModules) = false := by
      have e : sysModules = 1 := rfl
      rw [e, beq_eq_false_iff_ne]
      omega
    refine wpAny_bind (wpAny_onRaise (wpAny_holding (mergeRows (kvs := kvs) (more := kvs') hNa hS hdN hd' (by rw [List.map_append, hr.keys, hr'.keys, ← List.map_append]; exact hn) (fun e => ?_) (by have := hr.length; have := hr'.length; rw [List.length_append] at hl; omega) fun h'' hd'' hs'' => wpAny_pure ?_)))
    · subst e
      cases done with
      | nil => exact hd0 rfl
      | cons _ _ => exact hr.elim
    · dsimp only at hs'' ⊢
      have hsz' : h''.objs.size = h'.objs.size := hs''.1
      refine hQ _ ⟨⟨h'', by rw [List.length_append]; simp only [Shared.mk.injEq, and_true, true_and]; omega⟩, fun b hb => ?_, fun b hb hb' => ?_, by dsimp only; omega, .inr ⟨rfl, by simp [h0], by omega, kvs ++ kvs', hd'', hr.append hr'⟩⟩
      · dsimp only
        have hlt : b < h.objs.size := by omega
        rw [hs''.2 b (Nat.ne_of_lt hb), hs'.2 b (Nat.ne_of_lt hlt), get_push_lt hlt, old b hb]
      · dsimp only at hb' ⊢
        by_cases e1 : b = s.heap.objs.size
        · subst e1
          obtain ⟨o, _, _, ho, _, hdt, _⟩ := hd''
          exact ⟨o, _, _, ho, hdt⟩
        · rw [hs''.2 b e1]
          by_cases e2 : b = h.objs.size
          · subst e2
            obtain ⟨o, _, _, ho, _, hdt, _⟩ := hd'
            exact ⟨o, _, _, ho, hdt⟩
          · obtain ⟨o, _, _, ho, hdt⟩ := new b hb (by omega)
            exact ⟨o, _, _, by rw [hs'.2 b e2, get_push_lt (by omega)]; exact ho, hdt⟩

theorem PairsEv.append : ∀ {a b : List (Sem Value × Sem Value)} {x y : List (Int × Str)}, PairsEv prog w A a x → PairsEv prog w A b y → PairsEv prog w A (a ++ b) (x ++ y)
  | [], _, [], _, _, h => h
  | (_, _) :: _, _, (_, _) :: _, _, h, k => ⟨h.1, h.2.1, PairsEv.append h.2.2 k⟩
  | [], _, _ :: _, _, h, _ => h.elim
  | _ :: _, _, [], _, h, _ => h.elim

theorem disp_loop {s : Shared} (hN : 28 ≤ s.heap.objs.size) (f : (Option (Sem Value) × Sem Value) → (Option Addr × List (Sem Value × Sem Value)) → Sem (ForInStep (Option Addr × List (Sem Value × Sem Value))))
    (hf1 : ∀ (q : Sem Value × Sem Value) (main : Option Addr) (run : List (Sem Value × Sem Value)), run.length + 1 ≠ 17 → f (some q.1, q.2) (main, run) = pure (.yield (main, run ++ [q])))
    (hf2 : ∀ (q : Sem Value × Sem Value) (main : Option Addr) (run : List (Sem Value × Sem Value)), run.length + 1 = 17 → f (some q.1, q.2) (main, run) = (flushD (run ++ [q]) main >>= fun m => pure (.yield (m, [])))) :
    ∀ (ps : List (Sem Value × Sem Value)) (rows : List (Int × Str)) (run : List (Sem Value × Sem Value)) (runR done : List (Int × Str)) (main : Option Addr) (c : Nat) (s' : Shared) (Q : Option Addr × List (Sem Value × Sem Value) → Shared → Prop),
      PairsEv prog w A ps rows → PairsEv prog w A run runR → run.length < 17 → DispAt prog w s done main c s' → ((done ++ runR ++ rows).map (·.1)).Nodup → (done ++ runR ++ rows).length ≤ 4096 →
      (∀ main' run' runR' done' c' s'', PairsEv prog w A run' runR' → run'.length < 17 → done' ++ runR' = done ++ runR ++ rows → 17 * c' + run'.length = 17 * c + run.length + ps.length → DispAt prog w s done' main' c' s'' → Q (main', run') s'') →
      wpAny (model prog w) A (forIn (ps.map fun q => (some q.1, q.2)) (main, run) f) Q E s'
  | [], [], run, runR, done, main, c, s', Q, _, hr, hl, D, _, _, hQ => by
    rw [List.map_nil, List.forIn_nil]
    exact wpAny_pure (hQ main run runR done c s' hr hl (by simp) (by simp) D)
  | (k, v) :: ps, (j, x) :: rows, run, runR, done, main, c, s', Q, hp, hr, hl, D, hn, hle, hQ => by
    rw [List.map_cons, List.forIn_cons]
    have hr1 : PairsEv prog w A (run ++ [(k, v)]) (runR ++ [(j, x)]) := hr.append ⟨hp.1, hp.2.1, trivial⟩
    by_cases h17 : run.length + 1 = 17
    · rw [hf2 (k, v) main run h17]
      have hsub : ((done ++ (runR ++ [(j, x)])).map (·.1)).Nodup := by
        have e : done ++ runR ++ (j, x) :: rows = done ++ (runR ++ [(j, x)]) ++ rows := by simp
        rw [e, List.map_append, List.nodup_append] at hn
        exact hn.1
      refine wpAny_bind (wpAny_bind (flush_at hN D hr1 (by simp) hsub (by simp only [List.length_append, List.length_cons, List.length_nil] at hle ⊢; omega) fun s'' D' => wpAny_pure ?_))
      dsimp only
      refine disp_loop hN f hf1 hf2 ps rows [] [] (done ++ (runR ++ [(j, x)])) _ (c + 1) s'' Q hp.2.2 trivial (by simp) D' (by simpa using hn) (by simpa using hle) fun main' run' runR' done' c' s''' a b e1 e2 D'' => ?_
      refine hQ main' run' runR' done' c' s''' a b (by rw [e1]; simp) ?_ D''
      simp only [List.length_nil, List.length_cons] at e2 ⊢
      omega
    · rw [hf1 (k, v) main run h17]
      refine wpAny_bind (wpAny_pure ?_)
      dsimp only
      refine disp_loop hN f hf1 hf2 ps rows (run ++ [(k, v)]) (runR ++ [(j, x)]) done main c s' Q hp.2.2 hr1 (by simp; omega) D (by simpa using hn) (by simpa using hle) fun main' run' runR' done' c' s''' a b e1 e2 D'' => ?_
      refine hQ main' run' runR' done' c' s''' a b (by rw [e1]; simp) ?_ D''
      simp only [List.length_append, List.length_nil, List.length_cons] at e2 ⊢
      omega
  | [], _ :: _, _, _, _, _, _, _, _, h, _, _, _, _, _, _ => h.elim
  | _ :: _, [], _, _, _, _, _, _, _, h, _, _, _, _, _, _ => h.elim

theorem display_rows {s : Shared} (hN : 28 ≤ s.heap.objs.size) {ps : List (Sem Value × Sem Value)} {rows : List (Int × Str)} {Q : Value → Shared → Prop} (hp : PairsEv prog w A ps rows)
    (hn : (rows.map (·.1)).Nodup) (hl : rows.length ≤ 4096) {c : Nat} (hc : rows.length = 17 * c + 4)
    (hQ : ∀ s' kvs, DispAt prog w s rows (some s.heap.objs.size) (c + 1) s' → IntDict prog w s'.heap s.heap.objs.size kvs → RowsAre kvs rows → Q (.ref s.heap.objs.size) s') :
    wpAny (model prog w) A (dictDisplay (ps.map fun q => (some q.1, q.2))) Q E s := by
  unfold dictDisplay
  dsimp only
  refine wpAny_bind (disp_loop (s := s) hN _ ?_ ?_ ps rows [] [] [] none 0 s _ hp trivial (by simp) ⟨⟨s.heap, rfl⟩, fun _ _ => rfl, fun b h1 h2 => absurd h1 (Nat.not_le.mpr h2), rfl, .inl ⟨rfl, rfl, rfl⟩⟩ (by simpa using hn) (by simpa using hl) fun main' run' runR' done' c' s'' hr hlt e1 e2 D => ?_)
  · intro q main run h17
    dsimp only
    rw [if_neg (by simpa using h17)]
  · intro q main run h17
    dsimp only
    rw [if_pos (by simpa using h17)]
    rfl
  · dsimp only
    have hpl := hp.length
    have hrl := hr.length
    simp only [List.length_nil, List.nil_append] at e1 e2
    have hc' : c' = c := by omega
    subst hc'
    have hr4 : runR'.length = 4 := by omega
    have h0 : runR' ≠ [] := by intro q; rw [q] at hr4; cases hr4
    refine wpAny_bind (m := flushD run' main') (flush_at hN D hr h0 (by rw [e1]; exact hn) (by rw [e1]; exact hl) fun s''' D' => ?_)
    rw [e1] at D'
    obtain ⟨_, _, _, _, at_⟩ := id D'
    rcases at_ with ⟨e, _⟩ | ⟨_, _, _, kvs, hd, hr'⟩
    · cases e
    · exact wpAny_pure (hQ s''' kvs D' hd hr')
end
end Mine
end

section
set_option maxRecDepth 100000
namespace Mine
open PySem PySem.W PyProof.Rows

noncomputable abbrev pw : Program := PySem.Challenge.pw_sn0081_01
noncomputable def insAll : List Obj → Nat → BT → BT
  | [], _, t => t
  | o :: l, n, t => insAll l (n+1) (t.ins n o)
noncomputable def toT (s : Shared) : SharedT := ⟨insAll s.heap.objs.toList 0 .nil, s.heap.objs.size, s.heap.life, s.gens, s.drawn, s.toks, s.os⟩

/-- the statements behind the opening; their frame -/
noncomputable def tops : List Stmt := behindTheImports pw
noncomputable def tenv : Env := { scope := pw.main.scope, locals := mainNs, globals := mainNs, cells := [], code := .ref 30, frame := some 31 }
noncomputable def tailP (ex : List Stmt → Env → Sem PySem.Flow) (lv : Env → Value → Sem Unit) (l : List Stmt) : Sem PySem.Fin := ((ex l tenv).onRaise (lv tenv)).bind fun f => .pure (.done f)
noncomputable abbrev tail (l : List Stmt) : Sem PySem.Fin := tailP execs leaving l
noncomputable def dictSt : List Expr × List Stmt := match tops.drop 20 with
  | .Assign _ v _ :: rest => ([v], rest)
  | _ => ([], [])

structure Vs where
  es : Array (Int × Value)
  ep : Nat
  tb : SetTable
  di : Option Addr
  sl : Array (Option Value)
  q : Pos
noncomputable def Vs.set (v : Vs) : Obj := ⟨.type "set", none, .set v.es v.ep v.tb, #[]⟩
noncomputable def Vs.it (v : Vs) (l : Addr) (n : Nat) : Obj := ⟨.type "list_iterator", v.di, .fields #[.ref l, .int n 0], v.sl⟩
structure Sub where
  c : Value
  d : Option Addr
  es : Array DictEntry
  ep : Nat
  sl : Array (Option Value)
noncomputable def Sub.obj (x : Sub) : Obj := ⟨x.c, x.d, .dict x.es x.ep, x.sl⟩
structure Vd where
  es : Array DictEntry
  ep : Nat
  g : Nat → Sub
  q : Pos
noncomputable def Vd.dict (v : Vd) : Obj := ⟨.type "dict", none, .dict v.es v.ep, #[]⟩
noncomputable def insG (g : Nat → Obj) : Nat → Nat → BT → BT
  | 0, _, t => t
  | n + 1, a, t => insG g n (a + 1) (t.ins a (g a))

section
variable (tb : String → Option Builtin) (den : Code → Sem PySem.Fin) (cm : Thread → Bool) (st : SharedT → Thread → Option (SharedT × Thread))
noncomputable abbrev Stage := Option (SharedT × Thread)
noncomputable def st0 (w : World) : Option Shared := fencedOpening tb pw w 900
noncomputable def stA (s0 : Shared) : Stage := goM den cm st 988 (toT s0) (topStub pw)
/-- the loop's end: the set and its iterator as they are then -/
noncomputable def loopT (S I l n : Nat) (v : Vs) (x : SharedT × Thread) : SharedT := { x.1 with tree := (x.1.tree.set S fun _ => v.set).set I fun _ => v.it l n, toks := x.1.toks + n }
noncomputable def stB (v : Vs) (x : SharedT × Thread) (n : Nat) : Stage := goM den cm st n (loopT 123 124 122 27 v x) ⟨den (loopC 123 124), loopC 123 124, v.q, x.2.stack⟩
end
noncomputable def intsOf : Option Obj → Option (List Int)
  | some ⟨.type "list", none, .seq vs _, _⟩ => vs.toList.mapM fun v => match v with
    | .int i _ => some i
    | _ => none
  | _ => none
noncomputable def aliveTo (t : BT) (n : Nat) : Bool := (List.range n).all fun i => match t.get i with
  | some o => !o.isFreed
  | none => false
noncomputable def bodyC : Code := .body tops tenv
end Mine
end

section
set_option maxRecDepth 100000
namespace Mine
open PySem PySem.W PyProof.Rows

theorem objs_of_get {h : Heap} {a : Nat} {o : Obj} (g : h.get? a = some o) : h.objs[a]? = some o := by
  unfold Heap.get? at g
  cases q : h.objs[a]? with
  | none => rw [q] at g; cases g
  | some x =>
    rw [q] at g
    obtain ⟨c, d, dt, sl⟩ := x
    cases dt <;> first | exact g | cases g
theorem heap_is {t : BT} {n : Nat} {life : Life} {h : Heap} (hl : h.life = life) (hn : h.objs.size = n) (ha : ∀ a, a < n → ∃ o, t.get a = some o ∧ h.get? a = some o) : h = absHeap t n life := by
  have e : h.objs = (absHeap t n life).objs := by
    apply Array.ext_getElem?
    intro i
    rw [absHeap_at]
    by_cases q : i < n
    · obtain ⟨o, h1, h2⟩ := ha i q
      rw [if_pos q, h1, objs_of_get h2]; rfl
    · rw [if_neg q, Array.getElem?_eq_none (by omega)]
  obtain ⟨ob, lf⟩ := h
  have e' : ob = (absHeap t n life).objs := e
  have e2 : lf = life := hl
  rw [e', e2]
  rfl

/-- a tree holds an object at every address under n -/
noncomputable def Full (t : BT) (n : Nat) : Prop := ∀ i, i < n → (t.get i).isSome = true
theorem full_nil : Full .nil 0 := fun i h => by omega
theorem ins_get : ∀ (t : BT) (n : Nat) (o : Obj), Full t n → (t.ins n o).get n = some o
  | .nil, n, o, F => by
    have : n = 0 := by
      rcases Nat.eq_zero_or_pos n with h | h
      · exact h
      · have := F 0 h; cases this
    subst this; rfl
  | .node v l r, n, o, F => by
    rw [BT.ins_node]
    by_cases h0 : n = 0
    · subst h0; rfl
    rw [if_neg h0]
    by_cases p : n % 2 = 1
    · rw [if_pos p, BT.get_node, if_neg h0, if_pos p]
      refine ins_get l (n / 2) o fun j hj => ?_
      have := F (2 * j + 1) (by omega)
      rw [BT.get_node, if_neg (by omega), if_pos (by omega), show (2 * j + 1) / 2 = j by omega] at this
      exact this
    · rw [if_neg p, BT.get_node, if_neg h0, if_neg p]
      refine ins_get r (n / 2 - 1) o fun j hj => ?_
      have := F (2 * j + 2) (by omega)
      rw [BT.get_node, if_neg (by omega), if_neg (by omega), show (2 * j + 2) / 2 - 1 = j by omega] at this
      exact this
theorem ins_at {t : BT} {n : Nat} (F : Full t n) (o : Obj) (i : Nat) : (t.ins n o).get i = if i = n then some o else t.get i :=
  BT.get_ins o t n (by rw [ins_get t n o F]; rfl) i
theorem Full.ins {t : BT} {n : Nat} (F : Full t n) (o : Obj) : Full (t.ins n o) (n + 1) := fun i hi => by
  rw [ins_at F]
  by_cases e : i = n
  · subst e; simp
  · rw [if_neg e]; exact F i (by omega)
theorem insAll_full : ∀ (l : List Obj) (n : Nat) (t : BT), Full t n → Full (insAll l n t) (n + l.length) ∧ ∀ i, (insAll l n t).get i = if n ≤ i ∧ i < n + l.length then l[i - n]? else t.get i
  | [], n, t, F => ⟨F, fun i => by rw [if_neg (by intro h; have := h.2; simp at this; omega)]; rfl⟩
  | o :: l, n, t, F => by
    obtain ⟨h1, h2⟩ := insAll_full l (n + 1) _ (F.ins o)
    refine ⟨?_, fun i => ?_⟩
    · have : n + 1 + l.length = n + (o :: l).length := by simp; omega
      exact this ▸ h1
    · show (insAll l (n + 1) (t.ins n o)).get i = _
      rw [h2 i, ins_at F]
      simp only [List.length_cons]
      by_cases e : i = n
      · subst e
        rw [if_neg (by omega), if_pos rfl, if_pos (by omega)]
        simp
      · by_cases q : n + 1 ≤ i ∧ i < n + 1 + l.length
        · rw [if_pos q, if_pos (by omega)]
          have : i - n = (i - (n + 1)) + 1 := by omega
          rw [this, List.getElem?_cons_succ]
        · rw [if_neg q, if_neg e, if_neg (by omega)]
theorem insG_full : ∀ (g : Nat → Obj) (k a : Nat) (t : BT), Full t a → Full (insG g k a t) (a + k) ∧ ∀ i, (insG g k a t).get i = if a ≤ i ∧ i < a + k then some (g i) else t.get i
  | g, 0, a, t, F => ⟨F, fun i => by rw [if_neg (by omega)]; rfl⟩
  | g, k + 1, a, t, F => by
    obtain ⟨h1, h2⟩ := insG_full g k (a + 1) _ (F.ins (g a))
    refine ⟨?_, fun i => ?_⟩
    · have : a + 1 + k = a + (k + 1) := by omega
      exact this ▸ h1
    · show (insG g k (a + 1) (t.ins a (g a))).get i = _
      rw [h2 i, ins_at F]
      by_cases e : i = a
      · subst e
        rw [if_neg (by omega), if_pos rfl, if_pos (by omega)]
      · by_cases q : a + 1 ≤ i ∧ i < a + 1 + k
        · rw [if_pos q, if_pos (by omega)]
        · rw [if_neg q, if_neg e, if_neg (by omega)]
theorem toT_abs (s : Shared) : (toT s).abs = s := by
  obtain ⟨⟨ob, lf⟩, gens, drawn, toks, os⟩ := s
  have F := insAll_full ob.toList 0 .nil full_nil
  have e : (absHeap (insAll ob.toList 0 .nil) ob.size lf).objs = ob := by
    apply Array.ext_getElem?
    intro i
    rw [absHeap_at]
    by_cases q : i < ob.size
    · rw [if_pos q, F.2 i, if_pos (by simpa using q)]
      simp [q]
    · rw [if_neg q, Array.getElem?_eq_none (by omega)]
  show Shared.mk (absHeap (insAll ob.toList 0 .nil) ob.size lf) gens drawn toks os = _
  have : absHeap (insAll ob.toList 0 .nil) ob.size lf = ⟨ob, lf⟩ := by
    show Heap.mk _ _ = _
    exact congrArg (Heap.mk · lf) e
  rw [this]

/-- every object under n is there and not freed -/
theorem aliveTo_at {t : BT} {n : Nat} (h : aliveTo t n = true) {a : Nat} (ha : a < n) : ∃ o, t.get a = some o ∧ alive o = some o := by
  have := List.all_eq_true.mp h a (List.mem_range.mpr ha)
  cases q : t.get a with
  | none => rw [q] at this; cases this
  | some o =>
    rw [q] at this
    refine ⟨o, rfl, ?_⟩
    obtain ⟨c, d, dt, sl⟩ := o
    cases dt <;> first | rfl | cases this
theorem alive_get {t : BT} {n : Nat} {lf : Life} (h : aliveTo t n = true) {a : Nat} (ha : a < n) : ∃ o, t.get a = some o ∧ (absHeap t n lf).get? a = some o := by
  obtain ⟨o, h1, h2⟩ := aliveTo_at h ha
  exact ⟨o, h1, by rw [abs_get ha h1]; exact h2⟩
theorem alive_full {t : BT} {n : Nat} (h : aliveTo t n = true) : Full t n := fun i hi => by
  obtain ⟨o, h1, _⟩ := aliveTo_at h hi
  rw [h1]; rfl

/-- an object that is a set of these numbers, wherever it lies -/
noncomputable def SetObj (p : Program) (w : World) (ns : List Int) (o : Obj) : Prop := ∀ (h : Heap) (a : Nat), h.get? a = some o → h.SetOf (intKind p w) a (fun k => (firstMet (fun j => ns.getD j 0) ns.length).any (· == k)) (firstMet (fun j => ns.getD j 0) ns.length).length

/-- the heap behind a loop is the tree's with the two objects put in -/
theorem loop_heap {p : Program} {w : World} {S I l : Addr} {items : Array Value} {ns : List Int} {x : SharedT × Thread} {s' : Shared} (hS : S < x.1.n) (hI : I < x.1.n) (hSI : S ≠ I) (hal : aliveTo x.1.tree x.1.n = true)
    (D : LoopAt p w S I l items ns x.1.abs ns.length s') (q : Pos) : ∃ v : Vs, v.q = q ∧ SetObj p w ns v.set ∧ s' = (loopT S I l ns.length v x).abs := by
  obtain ⟨⟨h, rfl⟩, life, size, old, ⟨oi, hoi, ci, di⟩, ⟨os, es, ep, tb, hos, ⟨c1, c2, c3⟩, dd, r1, r2, r3, r4, r5⟩⟩ := D
  obtain ⟨oc, od, odt, osl⟩ := os
  obtain ⟨ic, idd, idt, isl⟩ := oi
  dsimp only at c1 c2 c3 dd ci di life size old hos hoi
  subst c1 c2 c3 dd ci di
  refine ⟨⟨es, ep, tb, idd, isl, q⟩, rfl, fun h' a ha => ⟨_, es, ep, tb, ha, ⟨rfl, rfl, rfl⟩, rfl, r1, r2, r3, r4, r5⟩, ?_⟩
  have hh : h = absHeap ((x.1.tree.set S fun _ => (⟨.type "set", none, .set es ep tb, #[]⟩ : Obj)).set I fun _ => ⟨.type "list_iterator", idd, .fields #[.ref l, .int ns.length 0], isl⟩) x.1.n x.1.life := by
    refine heap_is (life.trans rfl) (size.trans (absHeap_size _ _ _)) fun a ha => ?_
    obtain ⟨o, h1, h2⟩ := alive_get (lf := x.1.life) hal ha
    rw [BT.get_set]
    by_cases eI : a = I
    · subst eI
      refine ⟨⟨.type "list_iterator", idd, .fields #[.ref l, .int ns.length 0], isl⟩, ?_, hoi⟩
      rw [if_pos rfl, BT.get_set, if_neg (Ne.symm hSI), h1]; rfl
    · rw [if_neg eI]
      by_cases eS : a = S
      · subst eS
        exact ⟨_, by rw [BT.get_set, if_pos rfl, h1]; rfl, hos⟩
      · exact ⟨o, by rw [BT.get_set, if_neg eS]; exact h1, (old a eS eI).trans h2⟩
  show _ = Shared.mk _ _ _ _ _
  rw [hh]
  rfl
end Mine
end

section
set_option maxRecDepth 100000
namespace Mine
open PySem PySem.W PyProof.Rows

structure D where
  nm : Str
  px : Pos
  ks : List (Option Expr)
  vs : List Expr
  pd : Pos
  p : Pos
  rest : List Stmt
noncomputable def asDict : List Stmt → Option D
  | .Assign [.Name nm px] (.Dict ks vs pd) p :: rest => some ⟨nm, px, ks, vs, pd, p, rest⟩
  | _ => none
theorem asDict_is {l : List Stmt} {d : D} (h : asDict l = some d) : l = .Assign [.Name d.nm d.px] (.Dict d.ks d.vs d.pd) d.p :: d.rest := by
  unfold asDict at h
  split at h
  · cases h; rfl
  · cases h

/-- the rows of a display of constants: a number, a string -/
noncomputable def rowsIn : List (Option Expr) → List Expr → Option (List (Int × Str))
  | [], [] => some []
  | k :: ks, v :: vs => match k, v with
    | some (.Constant (.int i) _ _), .Constant (.str x) _ _ => match rowsIn ks vs with
      | some r => some ((i, x) :: r)
      | none => none
    | _, _ => none
  | _, _ => none

theorem rowsIn_pairs {prog : Program} {w : World} {A : Around} {env : Env} {pos : Pos} : ∀ (ks : List (Option Expr)) (vs : List Expr) (rows : List (Int × Str)), rowsIn ks vs = some rows →
    ∃ ps : List (Sem Value × Sem Value), (evalEachOpt ks env).zip ((evalEach vs env).map fun v => do let x ← v; standAt pos; pure x) = ps.map (fun q => (some q.1, q.2)) ∧ PairsEv prog w A ps rows
  | [], [], rows, h => by cases h; exact ⟨[], rfl, trivial⟩
  | k :: ks, v :: vs, rows, h => by
    unfold rowsIn at h
    split at h
    · split at h
      · rename_i i k1 p1 x k2 p2 _ r hr
        cases h
        obtain ⟨ps, e, hp⟩ := rowsIn_pairs (env := env) (pos := pos) ks vs r hr
        refine ⟨(eval (.Constant (.int i) k1 p1) env, do let x ← eval (.Constant (.str x) k2 p2) env; standAt pos; pure x) :: ps, ?_, ?_, ?_, hp⟩
        · show _ :: _ = _ :: _
          rw [← e]
          rfl
        · intro s Q E hQ
          exact wpAny_Constant_int (hQ _ ⟨_, rfl⟩)
        · intro s Q E hQ
          exact wpAny_bind (Calls.Constant_str (wpAny_bind (wpAny_standAt (wpAny_pure (hQ _ ⟨_, rfl⟩)))))
      · cases h
    · cases h
  | [], _ :: _, rows, h => by cases h
  | _ :: _, [], rows, h => by cases h

/-- what stands behind the display: the store, the statements behind it -/
noncomputable def kDP (bn : Env → Str → Value → Sem Unit) (ex : List Stmt → Env → Sem PySem.Flow) (lv : Env → Value → Sem Unit) (nm : Str) (px : Pos) (rest : List Stmt) (v : Value) : Sem PySem.Fin :=
  (((((standAt px).bind fun _ => (bn tenv nm v).bind fun _ => .pure .next : Sem PySem.Flow).bind fun f => match f with | .next => ex rest tenv | f => .pure f).onRaise (lv tenv)).bind fun f => .pure (.done f))
noncomputable abbrev kD (nm : Str) (px : Pos) (rest : List Stmt) (v : Value) : Sem PySem.Fin := kDP bindName execs leaving nm px rest v

theorem tail_dict (d : D) : ∃ H gd lv, tail (.Assign [.Name d.nm d.px] (.Dict d.ks d.vs d.pd) d.p :: d.rest) = .at d.p fun _ => (eval (.Dict d.ks d.vs d.pd) tenv).wrap (kD d.nm d.px d.rest) H gd lv := by
  unfold tail tailP kD kDP
  rw [execs_cons, exec_Assign_Name _ _ _ _ _ (rfl)]
  simp only [Sem.bind_eq_wrap, Sem.bind_eq_wrap', Sem.onRaise_eq_wrap, Sem.wrap_wrap]
  exact ⟨_, _, _, rfl⟩

noncomputable def dictT (x : SharedT × Thread) (c m : Nat) (v : Vd) : SharedT := { x.1 with tree := insG (fun i => (v.g i).obj) c (x.1.n + 1) (x.1.tree.ins x.1.n v.dict), n := x.1.n + 1 + c, toks := x.1.toks + 3 * m }
/-- an object that is a dict of these rows, wherever it lies -/
noncomputable def RowsObj (p : Program) (w : World) (rows : List (Int × Str)) (o : Obj) : Prop := ∃ kvs, RowsAre kvs rows ∧ ∀ (h : Heap) (a : Nat), h.get? a = some o → h.DictOf (intKind p w) a kvs

theorem ends_dict {p : Program} {w : World} {x : SharedT × Thread} {d : D} {rows : List (Int × Str)} {c : Nat} {F : Result → Shared → Prop}
    (hcur : x.2.cur = tail (.Assign [.Name d.nm d.px] (.Dict d.ks d.vs d.pd) d.p :: d.rest)) (hal : aliveTo x.1.tree x.1.n = true) (hN : 28 ≤ x.1.n) (hr : rowsIn d.ks d.vs = some rows) (hn : (rows.map (·.1)).Nodup) (hl : rows.length ≤ 4096) (hc : rows.length = 17 * c + 4)
    (k : ∀ v : Vd, RowsObj p w rows v.dict → Ends p w (dictT x c rows.length v).abs ⟨kD d.nm d.px d.rest (.ref x.1.n), x.2.code, v.q, x.2.stack⟩ F) : Ends p w x.1.abs x.2 F := by
  obtain ⟨x1, cur, code, pos, stack⟩ := x
  dsimp only at hcur hal hN k ⊢
  subst hcur
  obtain ⟨H, gd, lv, e⟩ := tail_dict d
  rw [e]
  refine ends_step (PySem.step_at ..) ?_
  refine ends_any ?_
  rw [arm_eval_Dict]
  refine wpAny_bind (wpAny_standAt ?_)
  obtain ⟨ps, e1, hp⟩ := rowsIn_pairs (prog := p) (w := w) (A := aOf code stack) (env := tenv) (pos := d.pd) _ _ _ hr
  rw [e1]
  refine display_rows (by rw [show x1.abs.heap.objs.size = x1.n from absHeap_size _ _ _]; exact hN) hp hn hl hc fun s' kvs D hd hrw => ?_
  intro hlf q'
  have esz : x1.abs.heap.objs.size = x1.n := absHeap_size _ _ _
  rw [esz] at hd ⊢
  obtain ⟨⟨h, rfl⟩, old, new, size, _⟩ := D
  dsimp only at old new size hd hlf
  rw [esz] at old new size
  obtain ⟨o, es, ep, ho, ⟨c1, c2, c3⟩, dd, r1, r2, r3⟩ := hd
  obtain ⟨oc, od, odt, osl⟩ := o
  dsimp only at c1 c2 c3 dd
  subst c1 c2 c3 dd
  let g : Nat → Sub := fun i => match h.get? i with
    | some ⟨c, d, .dict es ep, sl⟩ => ⟨c, d, es, ep, sl⟩
    | _ => ⟨default, none, #[], 0, #[]⟩
  have F : Full (x1.tree.ins x1.n (⟨.type "dict", none, .dict es ep, #[]⟩ : Obj)) (x1.n + 1) := (alive_full hal).ins _
  have G := insG_full (fun i => (g i).obj) c (x1.n + 1) _ F
  have hh : h = absHeap (insG (fun i => (g i).obj) c (x1.n + 1) (x1.tree.ins x1.n (⟨.type "dict", none, .dict es ep, #[]⟩ : Obj))) (x1.n + 1 + c) x1.life := by
    refine heap_is (hlf.trans rfl) (by omega) fun a ha => ?_
    rw [G.2 a, ins_at (alive_full hal)]
    by_cases e0 : a < x1.n
    · obtain ⟨o, h1, h2⟩ := alive_get (lf := x1.life) hal e0
      refine ⟨o, ?_, (old a e0).trans h2⟩
      rw [if_neg (by omega), if_neg (by omega)]; exact h1
    · by_cases e1 : a = x1.n
      · subst e1
        exact ⟨_, by rw [if_neg (by omega), if_pos rfl], ho⟩
      · obtain ⟨o, se, sp, h2, h3⟩ := new a (by omega) (by omega)
        refine ⟨o, ?_, h2⟩
        rw [if_pos (by omega)]
        obtain ⟨oc, od, odt, osl⟩ := o
        dsimp only at h3
        subst h3
        have eg : g a = ⟨oc, od, se, sp, osl⟩ := by
          show (match h.get? a with
            | some ⟨c, d, .dict es ep, sl⟩ => (⟨c, d, es, ep, sl⟩ : Sub)
            | _ => ⟨default, none, #[], 0, #[]⟩) = _
          rw [h2]
        show some (g a).obj = _
        rw [eg]; rfl
  have := k ⟨es, ep, g, q'⟩ ⟨kvs, hrw, fun h' a ha => ⟨_, es, ep, ha, ⟨rfl, rfl, rfl⟩, rfl, r1, r2, r3⟩⟩
  have e2 : (dictT (x1, ⟨Sem.pure (.done .next), code, pos, stack⟩) c rows.length ⟨es, ep, g, q'⟩).abs = { x1.abs with heap := h, toks := x1.abs.toks + 3 * rows.length } := by
    show Shared.mk _ _ _ _ _ = _
    rw [hh]
    rfl
  rw [← e2]
  exact this

/-- an object put into a set by its loop: the loop from its start to behind its end -/
theorem intsOf_is {t : BT} {n l : Nat} {lf : Life} {ns : List Int} (hl : l < n) (hal : aliveTo t n = true) (h : intsOf (t.get l) = some ns) : ∃ items, (absHeap t n lf).IsList l items ∧ IntsAre items.toList ns := by
  obtain ⟨o, h1, h2⟩ := alive_get (lf := lf) hal hl
  rw [h1] at h
  unfold intsOf at h
  split at h
  · rename_i vs ep sl q
    cases q
    refine ⟨vs, ⟨_, h2, rfl, ep, rfl⟩, ?_⟩
    revert h
    generalize vs.toList = l
    intro h
    induction l generalizing ns with
    | nil => cases h; exact .nil
    | cons v l ih =>
      rw [List.mapM_cons] at h
      obtain ⟨i, h1, h⟩ := Option.bind_eq_some_iff.mp h
      obtain ⟨is, h2, h⟩ := Option.bind_eq_some_iff.mp h
      cases h
      split at h1
      · cases h1
        exact .cons _ _ (ih h2)
      · cases h1
  · cases h

theorem ends_loop {p : Program} {w : World} {x : SharedT × Thread} {S I l : Addr} {ns : List Int} {led : Bool} {F : Result → Shared → Prop}
    (hc : x.2.code = loopC S I) (hcur : x.2.cur = denote table (loopC S I)) (hal : aliveTo x.1.tree x.1.n = true) (hS : S < x.1.n) (hI : I < x.1.n) (hl : l < x.1.n) (hSI : S ≠ I) (hSl : S ≠ l) (hIl : I ≠ l)
    (h1 : x.1.tree.get S = some ⟨.type "set", none, .set #[] 0 (.fresh 0 0 led), #[]⟩) (h2 : x.1.tree.get I = some ⟨.type "list_iterator", none, .fields #[.ref l, .int 0 0], #[]⟩) (h3 : intsOf (x.1.tree.get l) = some ns) (hb : ns.length + 1 < scanBound)
    (k : ∀ v : Vs, SetObj p w ns v.set → Ends p w (loopT S I l ns.length v x).abs ⟨denote table (loopC S I), loopC S I, v.q, x.2.stack⟩ F) : Ends p w x.1.abs x.2 F := by
  obtain ⟨items, hL, hN⟩ := intsOf_is (lf := x.1.life) hl hal h3
  have e : x.2 = ⟨denote table (loopC S I), loopC S I, x.2.pos, x.2.stack⟩ := by
    have : x.2 = ⟨x.2.cur, x.2.code, x.2.pos, x.2.stack⟩ := rfl
    rw [hcur, hc] at this
    exact this
  have g1 : x.1.abs.heap.get? S = some ⟨.type "set", none, .set #[] 0 (.fresh 0 0 led), #[]⟩ := abs_get hS h1
  have g2 : x.1.abs.heap.get? I = some ⟨.type "list_iterator", none, .fields #[.ref l, .int 0 0], #[]⟩ := abs_get hI h2
  have D0 : LoopAt p w S I l items ns x.1.abs 0 x.1.abs := by
    refine ⟨⟨x.1.abs.heap, rfl⟩, rfl, rfl, fun _ _ _ => rfl, ⟨_, g2, rfl, rfl⟩, ⟨_, #[], 0, _, g1, ⟨rfl, rfl, rfl⟩, rfl, ?_, ?_, ?_, ?_, rfl⟩⟩
    · intro e he; cases he
    · intro k
      constructor
      · intro h; cases h
      · rintro ⟨_, he, _⟩; cases he
    · exact Nat.lt_of_le_of_lt (Nat.zero_le _) hb
    · kernel_rfl
  rw [e]
  refine set_loop (items := items) hSI hSl hIl hL hN hb (fun s' q D => ?_) ns.length 0 x.1.abs x.2.pos (by omega) (by omega) D0
  obtain ⟨v, rfl, hv, rfl⟩ := loop_heap hS hI hSI hal D q
  exact k v hv
end Mine
end

section
set_option maxRecDepth 100000
namespace Mine
open PySem PySem.W PyProof.Rows

theorem sched_follows {p : Program} {w : World} {r : Result} {s s' : Shared} {t : Sem PySem.Fin} {c : Code} {q : Pos} {pre : List PySem.Frame} {e : End} (h : Reach (model p w) [] s t c q pre s' e) (he : e = .ret r) :
    ∀ (σ : Shared) (τ : Thread), σ.forget = s.forget → τ.forget = (⟨t, c, q, pre⟩ : Thread).forget → σ.asleep →
      ∃ n σ' τ', schedN (denote table) p w n (.single σ τ) = .running (.single σ' τ') ∧ σ'.forget = s'.forget ∧ ∃ c' q', τ'.forget = (⟨leafOf r, c', q', []⟩ : Thread).forget := by
  induction h with
  | exit hx =>
    rename_i s t c q pre e
    subst he
    obtain ⟨rfl, rfl⟩ := hx
    intro σ τ h1 h2 _
    exact ⟨0, σ, τ, rfl, h1, c, q, h2⟩
  | step hs _ ih =>
    rename_i s t c q pre s₁ t₁ c₁ q₁ pre₁ s'' e₁ _
    intro σ τ h1 h2 hz
    rw [List.append_nil, List.append_nil] at hs
    have hl : Thread.loud ⟨t, c, q, pre⟩ = false := by
      cases ql : Thread.loud ⟨t, c, q, pre⟩ with
      | false => rfl
      | true => rw [(model p w).step_loud ql] at hs; cases hs
    rw [Model.step_quiet (M := model p w) hl] at hs
    have hr : Thread.refused ⟨t, c, q, pre⟩ = false := by
      cases qr : Thread.refused ⟨t, c, q, pre⟩ with
      | false => rfl
      | true =>
        obtain ⟨what, x⟩ := stepK_refused (model p w).den (model p w).prog (model p w).w (s := s) qr
        rw [x] at hs; cases hs
    have hc : τ.calm = true := by
      rw [← Thread.calm_forget τ, h2, Thread.calm_forget, Thread.calm_eq, hl, hr]; rfl
    have z := (stepK_forget (model p w).den (model p w).prog (model p w).w s ⟨t, c, q, pre⟩).trans (step_same (model p w).den (model p w).prog (model p w).w h1.symm h2.symm)
    rw [hs] at z
    have z' : (PySem.step (denote table) p w σ τ).forget = .go s₁.forget (⟨t₁, c₁, q₁, pre₁⟩ : Thread).forget := z.symm
    cases hst : PySem.step (denote table) p w σ τ with
    | halt o x => rw [hst] at z'; cases z'
    | go σ₁ τ₁ =>
      rw [hst] at z'
      simp only [Step.forget, Step.go.injEq] at z'
      obtain ⟨n, σ', τ', k1, k2, k3⟩ := ih he σ₁ τ₁ z'.1 z'.2 (Shared.asleep_of_life (step_life (denote table) p w σ σ₁ τ τ₁ hst) hz)
      have e : sstep (denote table) p w (.single σ τ) = .go (.single σ₁ τ₁) := by
        rcases sstep_single (denote table) p w σ τ hc hz with e | e
        · rw [e, hst]; rfl
        · rw [hst] at e; cases e
      exact ⟨n + 1, σ', τ', by simp only [schedN, e]; exact k1, k2, k3⟩

/-- a thread that ends well over no generators is run to that end by the scheduler -/
theorem sched_ends {p : Program} {w : World} {s s' : Shared} {t : Thread} {f : PySem.Flow} (hz : s.asleep) (hg : s'.gens = #[]) (h : Reach (model p w) [] s t.cur t.code t.pos t.stack s' (.ret (.ok f))) :
    ∃ n τ, schedN (denote table) p w n (.single s t) = .running (.single s' τ) ∧ through τ = true := by
  obtain ⟨n, σ', τ', k1, k2, c', q', k3⟩ := sched_follows h rfl s t rfl rfl hz
  have e : σ' = s' := by
    obtain ⟨h1, g1, d1, t1, o1⟩ := σ'
    obtain ⟨h2, g2, d2, t2, o2⟩ := s'
    dsimp only at hg
    subst hg
    simp only [Shared.forget, Shared.mk.injEq, Array.map_empty, Array.map_eq_empty_iff] at k2
    obtain ⟨rfl, rfl, rfl, rfl, rfl⟩ := k2
    rfl
  subst e
  refine ⟨n, τ', k1, ?_⟩
  obtain ⟨cur, code, pos, stack⟩ := τ'
  simp only [Thread.forget, Thread.mk.injEq] at k3
  obtain ⟨rfl, rfl, rfl, h4⟩ := k3
  have : stack = [] := by
    unfold forgetAll at h4
    exact List.map_eq_nil_iff.mp h4
  subst this
  rfl
end Mine
end

section
set_option maxRecDepth 100000
set_option maxHeartbeats 0
namespace Mine
open PySem PySem.W PyProof.Rows

noncomputable def dD : D := (asDict (tops.drop 20)).getD ⟨default, default, [], [], default, default, []⟩
noncomputable def rowsD : List (Int × Str) := (rowsIn dD.ks dD.vs).getD []
noncomputable def ns1 : List Int := [173, 847, 6150, 6155, 6156, 6157, 8203, 8204, 8205, 8288, 65279] ++ (List.range 16).map fun (i : Nat) => (65024 + (i : Int))
noncomputable def ns2 : List Int := 917505 :: (List.range 96).map fun (i : Nat) => (917536 + (i : Int))
/-- the statements that the head's view keeps: by their places -/
noncomputable def keeps : List Nat := [0, 2, 3, 4, 5, 6, 8, 9, 10, 11, 12, 13, 14, 20, 22, 24, 26, 27, 28, 29, 30, 31, 32, 33]
noncomputable def qv : Program := view pw keeps
noncomputable def loose : List Str := ["_twin_re_1", "_twin_re_2", "bisect_right", "bisect_left", "b1_set", "b3_exceptions", "c9_set"]
noncomputable abbrev Xt (s : Shared) : Bool := xlAt qv [] s

section
variable (tb : String → Option Builtin) (den : Code → Sem PySem.Fin) (cm : Thread → Bool) (st : SharedT → Thread → Option (SharedT × Thread))
noncomputable def stDP (kd : Value → Sem PySem.Fin) (v : Vd) (x : SharedT × Thread) : Stage := goM den cm st 1815 (dictT x 38 650 v) ⟨kd (.ref 134), x.2.code, v.q, x.2.stack⟩
noncomputable abbrev stD := stDP den cm st (kD dD.nm dD.px dD.rest)
noncomputable def stE (v : Vs) (x : SharedT × Thread) : Stage := goM den cm st 306 (loopT 187 188 186 97 v x) ⟨den (loopC 187 188), loopC 187 188, v.q, x.2.stack⟩
end
noncomputable def olds : List Nat := [0, 1, 4, 5] ++ (List.range 21).map (· + 7)
/-- what the walk through the top shows -/
structure Obs where
  a0 : Array GenState × Nat × Bool × Option Value
  aA : Code × Sem PySem.Fin × Nat × Option (List Int) × Option Obj × Option Obj × Bool
  aB : Sem PySem.Fin × Nat × Bool
  aD : Code × Sem PySem.Fin × Nat × Option (List Int) × Option Obj × Option Obj × Bool
  aE : Bool × Array GenState × Option Obj × Option Obj × Option Obj × Life × OsState × List (Option Obj)
  aT : Bool × Bool × Bool
  aN : Nat
section
variable (tb : String → Option Builtin) (den : Code → Sem PySem.Fin) (cm : Thread → Bool) (st : World → SharedT → Thread → Option (SharedT × Thread))
noncomputable def wholeP {α : Type} (kd : Value → Sem PySem.Fin) (out : Shared → SharedT × Thread → SharedT × Thread → SharedT × Thread → SharedT × Thread → α) (v1 v2 : Vs) (vd : Vd) (w : World) : Option α :=
  (st0 tb w).bind fun s0 => (stA den cm (st w) s0).bind fun xA => (stB den cm (st w) v1 xA 55).bind fun xB => (stDP den cm (st w) kd vd xB).bind fun xD => (stE den cm (st w) v2 xD).map fun xE => out s0 xA xB xD xE
end
noncomputable abbrev whole {α : Type} (out : Shared → SharedT × Thread → SharedT × Thread → SharedT × Thread → SharedT × Thread → α) (v1 v2 : Vs) (vd : Vd) (w : World) : Option α :=
  wholeP treeTable (denote treeTable) Thread.calm (stepT (denote treeTable) pw) (kD dD.nm dD.px dD.rest) out v1 v2 vd w
noncomputable def seenAt (s0 : Shared) (xA xB xD xE : SharedT × Thread) : Obs :=
  ⟨(s0.gens, s0.heap.objs.size, s0.heap.isNs mainGlobals, s0.heap.nsMap mainGlobals "__annotations__"),
   (xA.2.code, xA.2.cur, xA.1.n, intsOf (xA.1.tree.get 122), xA.1.tree.get 123, xA.1.tree.get 124, aliveTo xA.1.tree 125),
   (xB.2.cur, xB.1.n, aliveTo xB.1.tree 134),
   (xD.2.code, xD.2.cur, xD.1.n, intsOf (xD.1.tree.get 186), xD.1.tree.get 187, xD.1.tree.get 188, aliveTo xD.1.tree 189),
   (through xE.2, xE.1.gens, xE.1.tree.get 123, xE.1.tree.get 134, xE.1.tree.get 187, xE.1.life, xE.1.os, olds.map fun b => xE.1.tree.get b),
   (staticsOk (importedModules pw.main.body) s0.heap xE.1.abs.heap, namesBound pw xE.1.abs.heap, laidKept s0.heap xE.1.abs.heap), xE.1.n⟩
noncomputable def wanted (v1 v2 : Vs) (vd : Vd) (w : World) (den : Code → Sem PySem.Fin) (s0 : Shared) : Obs :=
  ⟨(#[], 28, true, some (.ref 6)),
   (loopC 123 124, den (loopC 123 124), 125, some ns1, some ⟨.type "set", none, .set #[] 0 (.fresh 0 0 (!w.params.followText "set-order")), #[]⟩, some ⟨.type "list_iterator", none, .fields #[.ref 122, .int 0 0], #[]⟩, true),
   (tail (tops.drop 20), 134, true),
   (loopC 187 188, den (loopC 187 188), 189, some ns2, some ⟨.type "set", none, .set #[] 0 (.fresh 0 0 (!w.params.followText "set-order")), #[]⟩, some ⟨.type "list_iterator", none, .fields #[.ref 186, .int 0 0], #[]⟩, true),
   (true, #[], some v1.set, some vd.dict, some v2.set, s0.heap.life, s0.os, olds.map fun b => s0.heap.objs[b]?),
   (true, true, true), 246⟩
end Mine
end

section
set_option maxRecDepth 100000
set_option maxHeartbeats 0
namespace Mine
open PySem PySem.W PyProof.Rows

/-- the parts of the i-th statement, a def -/
noncomputable def parsAt (i : Nat) : Arguments := match tops[i]? with
  | some (.FunctionDef _ ps _ _ _ _ _ _ _ _) => ps
  | _ => default
noncomputable def bodyAt (i : Nat) : List Stmt := match tops[i]? with
  | some (.FunctionDef _ _ bd _ _ _ _ _ _ _) => bd
  | _ => []
noncomputable def scopeAt (i : Nat) : Scope := match tops[i]? with
  | some (.FunctionDef _ _ _ _ _ _ sc _ _ _) => sc
  | _ => default

noncomputable def pars4 : Arguments := by
  refine (?f : (X : Arguments) → X = parsAt 4 → Arguments) ?X ?h
  case f => exact fun X _ => X
  rotate_left
  case h => conv => rhs; whnf

noncomputable def body4 : List Stmt := by
  refine (?f : (X : List Stmt) → X = bodyAt 4 → List Stmt) ?X ?h
  case f => exact fun X _ => X
  rotate_left
  case h => conv => rhs; whnf

noncomputable def scope4 : Scope := by
  refine (?f : (X : Scope) → X = scopeAt 4 → Scope) ?X ?h
  case f => exact fun X _ => X
  rotate_left
  case h => conv => rhs; whnf

noncomputable def pars5 : Arguments := by
  refine (?f : (X : Arguments) → X = parsAt 5 → Arguments) ?X ?h
  case f => exact fun X _ => X
  rotate_left
  case h => conv => rhs; whnf

noncomputable def body5 : List Stmt := by
  refine (?f : (X : List Stmt) → X = bodyAt 5 → List Stmt) ?X ?h
  case f => exact fun X _ => X
  rotate_left
  case h => conv => rhs; whnf

noncomputable def scope5 : Scope := by
  refine (?f : (X : Scope) → X = scopeAt 5 → Scope) ?X ?h
  case f => exact fun X _ => X
  rotate_left
  case h => conv => rhs; whnf

noncomputable def pars8 : Arguments := by
  refine (?f : (X : Arguments) → X = parsAt 8 → Arguments) ?X ?h
  case f => exact fun X _ => X
  rotate_left
  case h => conv => rhs; whnf

noncomputable def body8 : List Stmt := by
  refine (?f : (X : List Stmt) → X = bodyAt 8 → List Stmt) ?X ?h
  case f => exact fun X _ => X
  rotate_left
  case h => conv => rhs; whnf

noncomputable def scope8 : Scope := by
  refine (?f : (X : Scope) → X = scopeAt 8 → Scope) ?X ?h
  case f => exact fun X _ => X
  rotate_left
  case h => conv => rhs; whnf

noncomputable def pars9 : Arguments := by
  refine (?f : (X : Arguments) → X = parsAt 9 → Arguments) ?X ?h
  case f => exact fun X _ => X
  rotate_left
  case h => conv => rhs; whnf

noncomputable def body9 : List Stmt := by
  refine (?f : (X : List Stmt) → X = bodyAt 9 → List Stmt) ?X ?h
  case f => exact fun X _ => X
  rotate_left
  case h => conv => rhs; whnf

noncomputable def scope9 : Scope := by
  refine (?f : (X : Scope) → X = scopeAt 9 → Scope) ?X ?h
  case f => exact fun X _ => X
  rotate_left
  case h => conv => rhs; whnf

noncomputable def pars10 : Arguments := by
  refine (?f : (X : Arguments) → X = parsAt 10 → Arguments) ?X ?h
  case f => exact fun X _ => X
  rotate_left
  case h => conv => rhs; whnf

noncomputable def body10 : List Stmt := by
  refine (?f : (X : List Stmt) → X = bodyAt 10 → List Stmt) ?X ?h
  case f => exact fun X _ => X
  rotate_left
  case h => conv => rhs; whnf

noncomputable def scope10 : Scope := by
  refine (?f : (X : Scope) → X = scopeAt 10 → Scope) ?X ?h
  case f => exact fun X _ => X
  rotate_left
  case h => conv => rhs; whnf

noncomputable def pars11 : Arguments := by
  refine (?f : (X : Arguments) → X = parsAt 11 → Arguments) ?X ?h
  case f => exact fun X _ => X
  rotate_left
  case h => conv => rhs; whnf

noncomputable def body11 : List Stmt := by
  refine (?f : (X : List Stmt) → X = bodyAt 11 → List Stmt) ?X ?h
  case f => exact fun X _ => X
  rotate_left
  case h => conv => rhs; whnf

noncomputable def scope11 : Scope := by
  refine (?f : (X : Scope) → X = scopeAt 11 → Scope) ?X ?h
  case f => exact fun X _ => X
  rotate_left
  case h => conv => rhs; whnf

noncomputable def pars12 : Arguments := by
  refine (?f : (X : Arguments) → X = parsAt 12 → Arguments) ?X ?h
  case f => exact fun X _ => X
  rotate_left
  case h => conv => rhs; whnf

noncomputable def body12 : List Stmt := by
  refine (?f : (X : List Stmt) → X = bodyAt 12 → List Stmt) ?X ?h
  case f => exact fun X _ => X
  rotate_left
  case h => conv => rhs; whnf

noncomputable def scope12 : Scope := by
  refine (?f : (X : Scope) → X = scopeAt 12 → Scope) ?X ?h
  case f => exact fun X _ => X
  rotate_left
  case h => conv => rhs; whnf

noncomputable def pars13 : Arguments := by
  refine (?f : (X : Arguments) → X = parsAt 13 → Arguments) ?X ?h
  case f => exact fun X _ => X
  rotate_left
  case h => conv => rhs; whnf

noncomputable def body13 : List Stmt := by
  refine (?f : (X : List Stmt) → X = bodyAt 13 → List Stmt) ?X ?h
  case f => exact fun X _ => X
  rotate_left
  case h => conv => rhs; whnf

noncomputable def scope13 : Scope := by
  refine (?f : (X : Scope) → X = scopeAt 13 → Scope) ?X ?h
  case f => exact fun X _ => X
  rotate_left
  case h => conv => rhs; whnf

noncomputable def pars15 : Arguments := by
  refine (?f : (X : Arguments) → X = parsAt 15 → Arguments) ?X ?h
  case f => exact fun X _ => X
  rotate_left
  case h => conv => rhs; whnf

noncomputable def body15 : List Stmt := by
  refine (?f : (X : List Stmt) → X = bodyAt 15 → List Stmt) ?X ?h
  case f => exact fun X _ => X
  rotate_left
  case h => conv => rhs; whnf

noncomputable def scope15 : Scope := by
  refine (?f : (X : Scope) → X = scopeAt 15 → Scope) ?X ?h
  case f => exact fun X _ => X
  rotate_left
  case h => conv => rhs; whnf

noncomputable def pars16 : Arguments := by
  refine (?f : (X : Arguments) → X = parsAt 16 → Arguments) ?X ?h
  case f => exact fun X _ => X
  rotate_left
  case h => conv => rhs; whnf

noncomputable def body16 : List Stmt := by
  refine (?f : (X : List Stmt) → X = bodyAt 16 → List Stmt) ?X ?h
  case f => exact fun X _ => X
  rotate_left
  case h => conv => rhs; whnf

noncomputable def scope16 : Scope := by
  refine (?f : (X : Scope) → X = scopeAt 16 → Scope) ?X ?h
  case f => exact fun X _ => X
  rotate_left
  case h => conv => rhs; whnf

noncomputable def pars19 : Arguments := by
  refine (?f : (X : Arguments) → X = parsAt 19 → Arguments) ?X ?h
  case f => exact fun X _ => X
  rotate_left
  case h => conv => rhs; whnf

noncomputable def body19 : List Stmt := by
  refine (?f : (X : List Stmt) → X = bodyAt 19 → List Stmt) ?X ?h
  case f => exact fun X _ => X
  rotate_left
  case h => conv => rhs; whnf

noncomputable def scope19 : Scope := by
  refine (?f : (X : Scope) → X = scopeAt 19 → Scope) ?X ?h
  case f => exact fun X _ => X
  rotate_left
  case h => conv => rhs; whnf

noncomputable def pars21 : Arguments := by
  refine (?f : (X : Arguments) → X = parsAt 21 → Arguments) ?X ?h
  case f => exact fun X _ => X
  rotate_left
  case h => conv => rhs; whnf

noncomputable def body21 : List Stmt := by
  refine (?f : (X : List Stmt) → X = bodyAt 21 → List Stmt) ?X ?h
  case f => exact fun X _ => X
  rotate_left
  case h => conv => rhs; whnf

noncomputable def scope21 : Scope := by
  refine (?f : (X : Scope) → X = scopeAt 21 → Scope) ?X ?h
  case f => exact fun X _ => X
  rotate_left
  case h => conv => rhs; whnf

noncomputable def pars23 : Arguments := by
  refine (?f : (X : Arguments) → X = parsAt 23 → Arguments) ?X ?h
  case f => exact fun X _ => X
  rotate_left
  case h => conv => rhs; whnf

noncomputable def body23 : List Stmt := by
  refine (?f : (X : List Stmt) → X = bodyAt 23 → List Stmt) ?X ?h
  case f => exact fun X _ => X
  rotate_left
  case h => conv => rhs; whnf

noncomputable def scope23 : Scope := by
  refine (?f : (X : Scope) → X = scopeAt 23 → Scope) ?X ?h
  case f => exact fun X _ => X
  rotate_left
  case h => conv => rhs; whnf

noncomputable def pars25 : Arguments := by
  refine (?f : (X : Arguments) → X = parsAt 25 → Arguments) ?X ?h
  case f => exact fun X _ => X
  rotate_left
  case h => conv => rhs; whnf

noncomputable def body25 : List Stmt := by
  refine (?f : (X : List Stmt) → X = bodyAt 25 → List Stmt) ?X ?h
  case f => exact fun X _ => X
  rotate_left
  case h => conv => rhs; whnf

noncomputable def scope25 : Scope := by
  refine (?f : (X : Scope) → X = scopeAt 25 → Scope) ?X ?h
  case f => exact fun X _ => X
  rotate_left
  case h => conv => rhs; whnf

noncomputable def pars26 : Arguments := by
  refine (?f : (X : Arguments) → X = parsAt 26 → Arguments) ?X ?h
  case f => exact fun X _ => X
  rotate_left
  case h => conv => rhs; whnf

noncomputable def body26 : List Stmt := by
  refine (?f : (X : List Stmt) → X = bodyAt 26 → List Stmt) ?X ?h
  case f => exact fun X _ => X
  rotate_left
  case h => conv => rhs; whnf

noncomputable def scope26 : Scope := by
  refine (?f : (X : Scope) → X = scopeAt 26 → Scope) ?X ?h
  case f => exact fun X _ => X
  rotate_left
  case h => conv => rhs; whnf

noncomputable def pars27 : Arguments := by
  refine (?f : (X : Arguments) → X = parsAt 27 → Arguments) ?X ?h
  case f => exact fun X _ => X
  rotate_left
  case h => conv => rhs; whnf

noncomputable def body27 : List Stmt := by
  refine (?f : (X : List Stmt) → X = bodyAt 27 → List Stmt) ?X ?h
  case f => exact fun X _ => X
  rotate_left
  case h => conv => rhs; whnf

noncomputable def scope27 : Scope := by
  refine (?f : (X : Scope) → X = scopeAt 27 → Scope) ?X ?h
  case f => exact fun X _ => X
  rotate_left
  case h => conv => rhs; whnf

noncomputable def pars28 : Arguments := by
  refine (?f : (X : Arguments) → X = parsAt 28 → Arguments) ?X ?h
  case f => exact fun X _ => X
  rotate_left
  case h => conv => rhs; whnf

noncomputable def body28 : List Stmt := by
  refine (?f : (X : List Stmt) → X = bodyAt 28 → List Stmt) ?X ?h
  case f => exact fun X _ => X
  rotate_left
  case h => conv => rhs; whnf

noncomputable def scope28 : Scope := by
  refine (?f : (X : Scope) → X = scopeAt 28 → Scope) ?X ?h
  case f => exact fun X _ => X
  rotate_left
  case h => conv => rhs; whnf

noncomputable def pars29 : Arguments := by
  refine (?f : (X : Arguments) → X = parsAt 29 → Arguments) ?X ?h
  case f => exact fun X _ => X
  rotate_left
  case h => conv => rhs; whnf

noncomputable def body29 : List Stmt := by
  refine (?f : (X : List Stmt) → X = bodyAt 29 → List Stmt) ?X ?h
  case f => exact fun X _ => X
  rotate_left
  case h => conv => rhs; whnf

noncomputable def scope29 : Scope := by
  refine (?f : (X : Scope) → X = scopeAt 29 → Scope) ?X ?h
  case f => exact fun X _ => X
  rotate_left
  case h => conv => rhs; whnf

noncomputable def pars30 : Arguments := by
  refine (?f : (X : Arguments) → X = parsAt 30 → Arguments) ?X ?h
  case f => exact fun X _ => X
  rotate_left
  case h => conv => rhs; whnf

noncomputable def body30 : List Stmt := by
  refine (?f : (X : List Stmt) → X = bodyAt 30 → List Stmt) ?X ?h
  case f => exact fun X _ => X
  rotate_left
  case h => conv => rhs; whnf

noncomputable def scope30 : Scope := by
  refine (?f : (X : Scope) → X = scopeAt 30 → Scope) ?X ?h
  case f => exact fun X _ => X
  rotate_left
  case h => conv => rhs; whnf

noncomputable def pars31 : Arguments := by
  refine (?f : (X : Arguments) → X = parsAt 31 → Arguments) ?X ?h
  case f => exact fun X _ => X
  rotate_left
  case h => conv => rhs; whnf

noncomputable def body31 : List Stmt := by
  refine (?f : (X : List Stmt) → X = bodyAt 31 → List Stmt) ?X ?h
  case f => exact fun X _ => X
  rotate_left
  case h => conv => rhs; whnf

noncomputable def scope31 : Scope := by
  refine (?f : (X : Scope) → X = scopeAt 31 → Scope) ?X ?h
  case f => exact fun X _ => X
  rotate_left
  case h => conv => rhs; whnf

noncomputable def pars32 : Arguments := by
  refine (?f : (X : Arguments) → X = parsAt 32 → Arguments) ?X ?h
  case f => exact fun X _ => X
  rotate_left
  case h => conv => rhs; whnf

noncomputable def body32 : List Stmt := by
  refine (?f : (X : List Stmt) → X = bodyAt 32 → List Stmt) ?X ?h
  case f => exact fun X _ => X
  rotate_left
  case h => conv => rhs; whnf

noncomputable def scope32 : Scope := by
  refine (?f : (X : Scope) → X = scopeAt 32 → Scope) ?X ?h
  case f => exact fun X _ => X
  rotate_left
  case h => conv => rhs; whnf

noncomputable def Ktext (P : Params) : Frag :=
  (nat_lit 2,
  { cls := PySem.Value.none,
    data :=
      PySem.Data.dict
        #[{ hash := PySem.PyData.keyHash P (PySem.Str.ofString "\x69mport.loaded._sre"),
            key := PySem.Value.str (PySem.Str.ofString "\x69mport.loaded._sre") 183, val := PySem.Value.bool Bool.true },
          { hash := PySem.PyData.keyHash P (PySem.Str.ofString "class._frozen_importlib.BuiltinImporter"),
            key := PySem.Value.str (PySem.Str.ofString "class._frozen_importlib.BuiltinImporter") 185,
            val := PySem.Value.ref 14 },
          { hash := PySem.PyData.keyHash P (PySem.Str.ofString "watched.\x69mport"),
            key := PySem.Value.str (PySem.Str.ofString "watched.\x69mport") 206, val := PySem.Value.ref 18 },
          { hash := PySem.PyData.keyHash P (PySem.Str.ofString "class._frozen_importlib.ModuleSpec"),
            key := PySem.Value.str (PySem.Str.ofString "class._frozen_importlib.ModuleSpec") 216,
            val := PySem.Value.ref 22 },
          { hash := PySem.PyData.keyHash P (PySem.Str.ofString "sys.modules.booked-epoch"),
            key := PySem.Value.str (PySem.Str.ofString "sys.modules.booked-epoch") 245, val := PySem.Value.int 3 0 },
          { hash := PySem.PyData.keyHash P (PySem.Str.ofString "\x69mport.later-laid._sre"),
            key := PySem.Value.str (PySem.Str.ofString "\x69mport.later-laid._sre") 270,
            val := PySem.Value.bool Bool.true },
          { hash := PySem.PyData.keyHash P (PySem.Str.ofString "watched.library"),
            key := PySem.Value.str (PySem.Str.ofString "watched.library") 272, val := PySem.Value.ref 27 },
          { hash := PySem.PyData.keyHash P (PySem.Str.ofString "watched.library-objects"),
            key := PySem.Value.str (PySem.Str.ofString "watched.library-objects") 0,
            val := PySem.Value.str (PySem.Str.ofString "\x0c") 0 },
          { hash := PySem.PyData.keyHash P (PySem.Str.ofString "watched.library-deep._sre"),
            key := PySem.Value.str (PySem.Str.ofString "watched.library-deep._sre") 273,
            val :=
              PySem.Value.str
                (PySem.Str.ofString "\x04\x00\x00\x0b\x04\x00\x00\x0b\x04\x00\x00\x03\x04\x00\x00\x0b\x08\x04dict\x02")
                0 }]
        9 }) ::
  (nat_lit 3,
  { cls := PySem.Value.type "dict",
    data :=
      PySem.Data.dict
        #[{ hash := PySem.PyData.keyHash P (PySem.Str.ofString "__name__"),
            key := PySem.Value.str (PySem.Str.ofString "__name__") 165,
            val := PySem.Value.str (PySem.Str.ofString "law_sn0081_01") 2705 },
          { hash := PySem.PyData.keyHash P (PySem.Str.ofString "__doc__"),
            key := PySem.Value.str (PySem.Str.ofString "__doc__") 166, val := PySem.Value.none },
          { hash := PySem.PyData.keyHash P (PySem.Str.ofString "__package__"),
            key := PySem.Value.str (PySem.Str.ofString "__package__") 167, val := PySem.Value.none },
          { hash := PySem.PyData.keyHash P (PySem.Str.ofString "__loader__"),
            key := PySem.Value.str (PySem.Str.ofString "__loader__") 168,
            val := PySem.Value.builtin "__main__.__loader__#opaque" },
          { hash := PySem.PyData.keyHash P (PySem.Str.ofString "__spec__"),
            key := PySem.Value.str (PySem.Str.ofString "__spec__") 169, val := PySem.Value.none },
          { hash := PySem.PyData.keyHash P (PySem.Str.ofString "__annotations__"),
            key := PySem.Value.str (PySem.Str.ofString "__annotations__") 170, val := PySem.Value.ref 6 },
          { hash := PySem.PyData.keyHash P (PySem.Str.ofString "__builtins__"),
            key := PySem.Value.str (PySem.Str.ofString "__builtins__") 171, val := PySem.Value.ref 4 },
          { hash := PySem.PyData.keyHash P (PySem.Str.ofString "__file__"),
            key := PySem.Value.str (PySem.Str.ofString "__file__") 173,
            val := PySem.Value.str (PySem.Str.ofString "/claim/cut.py") 172 },
          { hash := PySem.PyData.keyHash P (PySem.Str.ofString "__cached__"),
            key := PySem.Value.str (PySem.Str.ofString "__cached__") 174, val := PySem.Value.none },
          { hash := PySem.PyData.keyHash P (PySem.Str.ofString "_sre"),
            key := PySem.Value.str (PySem.Str.ofString "_sre") 275, val := PySem.Value.ref 12 },
          { hash := PySem.PyData.keyHash P (PySem.Str.ofString "_twin_re_1"),
            key := PySem.Value.str (PySem.Str.ofString "_twin_re_1") 299, val := PySem.Value.ref 36 },
          { hash := PySem.PyData.keyHash P (PySem.Str.ofString "_twin_re_2"),
            key := PySem.Value.str (PySem.Str.ofString "_twin_re_2") 341, val := PySem.Value.ref 41 },
          { hash := PySem.PyData.keyHash P (PySem.Str.ofString "CRLF"),
            key := PySem.Value.str (PySem.Str.ofString "CRLF") 343,
            val := PySem.Value.str (PySem.Str.ofString "\x0d\n") 342 },
          { hash := PySem.PyData.keyHash P (PySem.Str.ofString "quotedata"),
            key := PySem.Value.str (PySem.Str.ofString "quotedata") 350, val := PySem.Value.ref 48 },
          { hash := PySem.PyData.keyHash P (PySem.Str.ofString "_fix_eols"),
            key := PySem.Value.str (PySem.Str.ofString "_fix_eols") 357, val := PySem.Value.ref 55 },
          { hash := PySem.PyData.keyHash P (PySem.Str.ofString "_DIV_LIMIT"),
            key := PySem.Value.str (PySem.Str.ofString "_DIV_LIMIT") 361, val := PySem.Value.int 4000 360 },
          { hash := PySem.PyData.keyHash P (PySem.Str.ofString "_div2n1n"),
            key := PySem.Value.str (PySem.Str.ofString "_div2n1n") 378, val := PySem.Value.ref 62 },
          { hash := PySem.PyData.keyHash P (PySem.Str.ofString "_div3n2n"),
            key := PySem.Value.str (PySem.Str.ofString "_div3n2n") 392, val := PySem.Value.ref 69 },
          { hash := PySem.PyData.keyHash P (PySem.Str.ofString "_int2digits"),
            key := PySem.Value.str (PySem.Str.ofString "_int2digits") 403, val := PySem.Value.ref 76 },
          { hash := PySem.PyData.keyHash P (PySem.Str.ofString "_digits2int"),
            key := PySem.Value.str (PySem.Str.ofString "_digits2int") 414, val := PySem.Value.ref 83 },
          { hash := PySem.PyData.keyHash P (PySem.Str.ofString "_divmod_pos"),
            key := PySem.Value.str (PySem.Str.ofString "_divmod_pos") 429, val := PySem.Value.ref 90 },
          { hash := PySem.PyData.keyHash P (PySem.Str.ofString "int_divmod"),
            key := PySem.Value.str (PySem.Str.ofString "int_divmod") 439, val := PySem.Value.ref 97 },
          { hash := PySem.PyData.keyHash P (PySem.Str.ofString "bisect_right"),
            key := PySem.Value.str (PySem.Str.ofString "bisect_right") 455, val := PySem.Value.ref 106 },
          { hash := PySem.PyData.keyHash P (PySem.Str.ofString "bisect_left"),
            key := PySem.Value.str (PySem.Str.ofString "bisect_left") 469, val := PySem.Value.ref 115 },
          { hash := PySem.PyData.keyHash P (PySem.Str.ofString "b1_set"),
            key := PySem.Value.str (PySem.Str.ofString "b1_set") 531, val := PySem.Value.ref 123 },
          { hash := PySem.PyData.keyHash P (PySem.Str.ofString "in_table_b1"),
            key := PySem.Value.str (PySem.Str.ofString "in_table_b1") 538, val := PySem.Value.ref 133 },
          { hash := PySem.PyData.keyHash P (PySem.Str.ofString "b3_exceptions"),
            key := PySem.Value.str (PySem.Str.ofString "b3_exceptions") 2489, val := PySem.Value.ref 134 },
          { hash := PySem.PyData.keyHash P (PySem.Str.ofString "map_table_b3"),
            key := PySem.Value.str (PySem.Str.ofString "map_table_b3") 2497, val := PySem.Value.ref 179 },
          { hash := PySem.PyData.keyHash P (PySem.Str.ofString "c9_set"),
            key := PySem.Value.str (PySem.Str.ofString "c9_set") 2697, val := PySem.Value.ref 187 },
          { hash := PySem.PyData.keyHash P (PySem.Str.ofString "in_table_c9"),
            key := PySem.Value.str (PySem.Str.ofString "in_table_c9") 2704, val := PySem.Value.ref 197 },
          { hash := PySem.PyData.keyHash P (PySem.Str.ofString "_law_mail"),
            key := PySem.Value.str (PySem.Str.ofString "_law_mail") 2725, val := PySem.Value.ref 204 },
          { hash := PySem.PyData.keyHash P (PySem.Str.ofString "_law_read"),
            key := PySem.Value.str (PySem.Str.ofString "_law_read") 2731, val := PySem.Value.ref 209 },
          { hash := PySem.PyData.keyHash P (PySem.Str.ofString "_law_turned"),
            key := PySem.Value.str (PySem.Str.ofString "_law_turned") 2737, val := PySem.Value.ref 214 },
          { hash := PySem.PyData.keyHash P (PySem.Str.ofString "_law_fraction"),
            key := PySem.Value.str (PySem.Str.ofString "_law_fraction") 2747, val := PySem.Value.ref 221 },
          { hash := PySem.PyData.keyHash P (PySem.Str.ofString "_law_run"),
            key := PySem.Value.str (PySem.Str.ofString "_law_run") 2759, val := PySem.Value.ref 228 },
          { hash := PySem.PyData.keyHash P (PySem.Str.ofString "_law_fall_together"),
            key := PySem.Value.str (PySem.Str.ofString "_law_fall_together") 2767, val := PySem.Value.ref 235 },
          { hash := PySem.PyData.keyHash P (PySem.Str.ofString "_law_dual"),
            key := PySem.Value.str (PySem.Str.ofString "_law_dual") 2773, val := PySem.Value.ref 240 },
          { hash := PySem.PyData.keyHash P (PySem.Str.ofString "law"),
            key := PySem.Value.str (PySem.Str.ofString "law") 2779, val := PySem.Value.ref 245 }]
        38 }) ::
  (nat_lit 35,
  { cls := PySem.Value.type "tuple",
    data :=
      PySem.Data.seq
        #[PySem.Value.int 14 0, PySem.Value.int 4 0, PySem.Value.int 0 0, PySem.Value.int 1 0, PySem.Value.int 1 0,
          PySem.Value.int 6 0, PySem.Value.int 1 0, PySem.Value.int 16 0, PySem.Value.int 46 0, PySem.Value.int 1 0] }) ::
  (nat_lit 36,
  { cls := PySem.Value.type "re.Pattern",
    data :=
      PySem.Data.fields
        #[PySem.Value.str (PySem.Str.ofString "(?m)^\\.") 285, PySem.Value.int 40 298, PySem.Value.int 0 0,
          PySem.Value.none, PySem.Value.none, PySem.Value.ref 35, PySem.Value.int 0 0] }) ::
  (nat_lit 40,
  { cls := PySem.Value.type "tuple",
    data :=
      PySem.Data.seq
        #[PySem.Value.int 14 0, PySem.Value.int 9 0, PySem.Value.int 4 0, PySem.Value.int 1 0, PySem.Value.int 2 0,
          PySem.Value.int 16 0, PySem.Value.int 10 0, PySem.Value.int 16 0, PySem.Value.int 13 0, PySem.Value.int 0 0,
          PySem.Value.int 7 0, PySem.Value.int 7 0, PySem.Value.int 16 0, PySem.Value.int 13 0, PySem.Value.int 16 0,
          PySem.Value.int 10 0, PySem.Value.int 15 0, PySem.Value.int 18 0, PySem.Value.int 5 0, PySem.Value.int 16 0,
          PySem.Value.int 10 0, PySem.Value.int 15 0, PySem.Value.int 13 0, PySem.Value.int 11 0, PySem.Value.int 16 0,
          PySem.Value.int 13 0, PySem.Value.int 5 0, PySem.Value.int 5 0, PySem.Value.int 0 0, PySem.Value.int 16 0,
          PySem.Value.int 10 0, PySem.Value.int 1 0, PySem.Value.int 15 0, PySem.Value.int 2 0, PySem.Value.int 0 0,
          PySem.Value.int 1 0] }) ::
  (nat_lit 41,
  { cls := PySem.Value.type "re.Pattern",
    data :=
      PySem.Data.fields
        #[PySem.Value.str (PySem.Str.ofString "(?:\\r\\n|\\n|\\r(?!\\n))") 301, PySem.Value.int 32 340,
          PySem.Value.int 0 0, PySem.Value.none, PySem.Value.none, PySem.Value.ref 40, PySem.Value.int 0 0] }) ::
  (nat_lit 42, { cls := PySem.Value.type "tuple", data := PySem.Data.seq #[] }) ::
  (nat_lit 44, { cls := PySem.Value.type "tuple", data := PySem.Data.seq #[PySem.Value.str (PySem.Str.ofString "data") 347] }) ::
  (nat_lit 45, { cls := PySem.Value.type "tuple", data := PySem.Data.seq #[] }) ::
  (nat_lit 47,
  { cls := PySem.Value.type "code",
    data :=
      PySem.Data.fields
        #[PySem.Value.str (PySem.Str.ofString "quotedata") 344, PySem.Value.str (PySem.Str.ofString "quotedata") 345,
          PySem.Value.str (PySem.Str.ofString "/claim/cut.py") 346, PySem.Value.int 6 0, PySem.Value.int 1 0,
          PySem.Value.int 0 0, PySem.Value.int 0 0, PySem.Value.int 3 0, PySem.Value.ref 42, PySem.Value.bool Bool.true,
          PySem.Value.int 276 0, PySem.Value.ref 43, PySem.Value.none, PySem.Value.ref 44, PySem.Value.ref 45,
          PySem.Value.ref 46, PySem.Value.int 348 0, PySem.Value.int 6 0,
          PySem.Value.str (PySem.Str.ofString "/claim/cut.py") 349] }) ::
  (nat_lit 48, { cls := PySem.Value.type "function", data := PySem.Data.func { name := PySem.Str.ofString "quotedata", qualname := PySem.Str.ofString "quotedata", params := pars4, body := .stmts body4, scope := scope4, globals := 3, closure := [], defaults := PySem.Value.none, kwdefaults := PySem.Value.none, doc := PySem.Value.none, pyModule := PySem.Value.str (PySem.Str.ofString "cpy313.smtplib") 282, annotations := Option.none, code := PySem.Value.ref 47, closureTuple := PySem.Value.none, builtins := 0 } }) ::
  (nat_lit 49, { cls := PySem.Value.type "tuple", data := PySem.Data.seq #[] }) ::
  (nat_lit 51, { cls := PySem.Value.type "tuple", data := PySem.Data.seq #[PySem.Value.str (PySem.Str.ofString "data") 354] }) ::
  (nat_lit 52, { cls := PySem.Value.type "tuple", data := PySem.Data.seq #[] }) ::
  (nat_lit 54,
  { cls := PySem.Value.type "code",
    data :=
      PySem.Data.fields
        #[PySem.Value.str (PySem.Str.ofString "_fix_eols") 351, PySem.Value.str (PySem.Str.ofString "_fix_eols") 352,
          PySem.Value.str (PySem.Str.ofString "/claim/cut.py") 353, PySem.Value.int 8 0, PySem.Value.int 1 0,
          PySem.Value.int 0 0, PySem.Value.int 0 0, PySem.Value.int 3 0, PySem.Value.ref 49, PySem.Value.bool Bool.true,
          PySem.Value.int 276 0, PySem.Value.ref 50, PySem.Value.none, PySem.Value.ref 51, PySem.Value.ref 52,
          PySem.Value.ref 53, PySem.Value.int 355 0, PySem.Value.int 8 0,
          PySem.Value.str (PySem.Str.ofString "/claim/cut.py") 356] }) ::
  (nat_lit 55, { cls := PySem.Value.type "function", data := PySem.Data.func { name := PySem.Str.ofString "_fix_eols", qualname := PySem.Str.ofString "_fix_eols", params := pars5, body := .stmts body5, scope := scope5, globals := 3, closure := [], defaults := PySem.Value.none, kwdefaults := PySem.Value.none, doc := PySem.Value.none, pyModule := PySem.Value.str (PySem.Str.ofString "cpy313.smtplib") 282, annotations := Option.none, code := PySem.Value.ref 54, closureTuple := PySem.Value.none, builtins := 0 } }) ::
  (nat_lit 56, { cls := PySem.Value.type "tuple", data := PySem.Data.seq #[] }) ::
  (nat_lit 58,
  { cls := PySem.Value.type "tuple",
    data :=
      PySem.Data.seq
        #[PySem.Value.str (PySem.Str.ofString "a") 365, PySem.Value.str (PySem.Str.ofString "b") 366,
          PySem.Value.str (PySem.Str.ofString "n") 367, PySem.Value.str (PySem.Str.ofString "pad") 368,
          PySem.Value.str (PySem.Str.ofString "half_n") 369, PySem.Value.str (PySem.Str.ofString "mask") 370,
          PySem.Value.str (PySem.Str.ofString "b1") 371, PySem.Value.str (PySem.Str.ofString "b2") 372,
          PySem.Value.str (PySem.Str.ofString "q1") 373, PySem.Value.str (PySem.Str.ofString "r") 374,
          PySem.Value.str (PySem.Str.ofString "q2") 375] }) ::
  (nat_lit 59, { cls := PySem.Value.type "tuple", data := PySem.Data.seq #[] }) ::
  (nat_lit 61,
  { cls := PySem.Value.type "code",
    data :=
      PySem.Data.fields
        #[PySem.Value.str (PySem.Str.ofString "_div2n1n") 362, PySem.Value.str (PySem.Str.ofString "_div2n1n") 363,
          PySem.Value.str (PySem.Str.ofString "/claim/cut.py") 364, PySem.Value.int 12 0, PySem.Value.int 3 0,
          PySem.Value.int 0 0, PySem.Value.int 0 0, PySem.Value.int 3 0, PySem.Value.ref 56, PySem.Value.bool Bool.true,
          PySem.Value.int 276 0, PySem.Value.ref 57, PySem.Value.none, PySem.Value.ref 58, PySem.Value.ref 59,
          PySem.Value.ref 60, PySem.Value.int 376 0, PySem.Value.int 12 0,
          PySem.Value.str (PySem.Str.ofString "/claim/cut.py") 377] }) ::
  (nat_lit 62, { cls := PySem.Value.type "function", data := PySem.Data.func { name := PySem.Str.ofString "_div2n1n", qualname := PySem.Str.ofString "_div2n1n", params := pars8, body := .stmts body8, scope := scope8, globals := 3, closure := [], defaults := PySem.Value.none, kwdefaults := PySem.Value.none, doc := PySem.Value.none, pyModule := PySem.Value.str (PySem.Str.ofString "cpy313._pylong") 358, annotations := Option.none, code := PySem.Value.ref 61, closureTuple := PySem.Value.none, builtins := 0 } }) ::
  (nat_lit 63, { cls := PySem.Value.type "tuple", data := PySem.Data.seq #[] }) ::
  (nat_lit 65,
  { cls := PySem.Value.type "tuple",
    data :=
      PySem.Data.seq
        #[PySem.Value.str (PySem.Str.ofString "a12") 382, PySem.Value.str (PySem.Str.ofString "a3") 383,
          PySem.Value.str (PySem.Str.ofString "b") 384, PySem.Value.str (PySem.Str.ofString "b1") 385,
          PySem.Value.str (PySem.Str.ofString "b2") 386, PySem.Value.str (PySem.Str.ofString "n") 387,
          PySem.Value.str (PySem.Str.ofString "q") 388, PySem.Value.str (PySem.Str.ofString "r") 389] }) ::
  (nat_lit 66, { cls := PySem.Value.type "tuple", data := PySem.Data.seq #[] }) ::
  (nat_lit 68,
  { cls := PySem.Value.type "code",
    data :=
      PySem.Data.fields
        #[PySem.Value.str (PySem.Str.ofString "_div3n2n") 379, PySem.Value.str (PySem.Str.ofString "_div3n2n") 380,
          PySem.Value.str (PySem.Str.ofString "/claim/cut.py") 381, PySem.Value.int 28 0, PySem.Value.int 6 0,
          PySem.Value.int 0 0, PySem.Value.int 0 0, PySem.Value.int 3 0, PySem.Value.ref 63, PySem.Value.bool Bool.true,
          PySem.Value.int 276 0, PySem.Value.ref 64, PySem.Value.none, PySem.Value.ref 65, PySem.Value.ref 66,
          PySem.Value.ref 67, PySem.Value.int 390 0, PySem.Value.int 28 0,
          PySem.Value.str (PySem.Str.ofString "/claim/cut.py") 391] }) ::
  (nat_lit 69, { cls := PySem.Value.type "function", data := PySem.Data.func { name := PySem.Str.ofString "_div3n2n", qualname := PySem.Str.ofString "_div3n2n", params := pars9, body := .stmts body9, scope := scope9, globals := 3, closure := [], defaults := PySem.Value.none, kwdefaults := PySem.Value.none, doc := PySem.Value.none, pyModule := PySem.Value.str (PySem.Str.ofString "cpy313._pylong") 358, annotations := Option.none, code := PySem.Value.ref 68, closureTuple := PySem.Value.none, builtins := 0 } }) ::
  (nat_lit 70, { cls := PySem.Value.type "tuple", data := PySem.Data.seq #[] }) ::
  (nat_lit 72,
  { cls := PySem.Value.type "tuple",
    data :=
      PySem.Data.seq #[PySem.Value.str (PySem.Str.ofString "a") 396, PySem.Value.str (PySem.Str.ofString "n") 397] }) ::
  (nat_lit 73,
  { cls := PySem.Value.type "tuple",
    data :=
      PySem.Data.seq
        #[PySem.Value.str (PySem.Str.ofString "n") 398, PySem.Value.str (PySem.Str.ofString "a_digits") 399,
          PySem.Value.str (PySem.Str.ofString "inner") 400] }) ::
  (nat_lit 75,
  { cls := PySem.Value.type "code",
    data :=
      PySem.Data.fields
        #[PySem.Value.str (PySem.Str.ofString "_int2digits") 393,
          PySem.Value.str (PySem.Str.ofString "_int2digits") 394,
          PySem.Value.str (PySem.Str.ofString "/claim/cut.py") 395, PySem.Value.int 38 0, PySem.Value.int 2 0,
          PySem.Value.int 0 0, PySem.Value.int 0 0, PySem.Value.int 3 0, PySem.Value.ref 70, PySem.Value.bool Bool.true,
          PySem.Value.int 276 0, PySem.Value.ref 71, PySem.Value.none, PySem.Value.ref 72, PySem.Value.ref 73,
          PySem.Value.ref 74, PySem.Value.int 401 0, PySem.Value.int 38 0,
          PySem.Value.str (PySem.Str.ofString "/claim/cut.py") 402] }) ::
  (nat_lit 76, { cls := PySem.Value.type "function", data := PySem.Data.func { name := PySem.Str.ofString "_int2digits", qualname := PySem.Str.ofString "_int2digits", params := pars10, body := .stmts body10, scope := scope10, globals := 3, closure := [], defaults := PySem.Value.none, kwdefaults := PySem.Value.none, doc := PySem.Value.none, pyModule := PySem.Value.str (PySem.Str.ofString "cpy313._pylong") 358, annotations := Option.none, code := PySem.Value.ref 75, closureTuple := PySem.Value.none, builtins := 0 } }) ::
  (nat_lit 77, { cls := PySem.Value.type "tuple", data := PySem.Data.seq #[] }) ::
  (nat_lit 79,
  { cls := PySem.Value.type "tuple",
    data :=
      PySem.Data.seq
        #[PySem.Value.str (PySem.Str.ofString "digits") 407, PySem.Value.str (PySem.Str.ofString "n") 408] }) ::
  (nat_lit 80,
  { cls := PySem.Value.type "tuple",
    data :=
      PySem.Data.seq
        #[PySem.Value.str (PySem.Str.ofString "digits") 409, PySem.Value.str (PySem.Str.ofString "n") 410,
          PySem.Value.str (PySem.Str.ofString "inner") 411] }) ::
  (nat_lit 82,
  { cls := PySem.Value.type "code",
    data :=
      PySem.Data.fields
        #[PySem.Value.str (PySem.Str.ofString "_digits2int") 404,
          PySem.Value.str (PySem.Str.ofString "_digits2int") 405,
          PySem.Value.str (PySem.Str.ofString "/claim/cut.py") 406, PySem.Value.int 54 0, PySem.Value.int 2 0,
          PySem.Value.int 0 0, PySem.Value.int 0 0, PySem.Value.int 3 0, PySem.Value.ref 77, PySem.Value.bool Bool.true,
          PySem.Value.int 276 0, PySem.Value.ref 78, PySem.Value.none, PySem.Value.ref 79, PySem.Value.ref 80,
          PySem.Value.ref 81, PySem.Value.int 412 0, PySem.Value.int 54 0,
          PySem.Value.str (PySem.Str.ofString "/claim/cut.py") 413] }) ::
  (nat_lit 83, { cls := PySem.Value.type "function", data := PySem.Data.func { name := PySem.Str.ofString "_digits2int", qualname := PySem.Str.ofString "_digits2int", params := pars11, body := .stmts body11, scope := scope11, globals := 3, closure := [], defaults := PySem.Value.none, kwdefaults := PySem.Value.none, doc := PySem.Value.none, pyModule := PySem.Value.str (PySem.Str.ofString "cpy313._pylong") 358, annotations := Option.none, code := PySem.Value.ref 82, closureTuple := PySem.Value.none, builtins := 0 } }) ::
  (nat_lit 84, { cls := PySem.Value.type "tuple", data := PySem.Data.seq #[] }) ::
  (nat_lit 86,
  { cls := PySem.Value.type "tuple",
    data :=
      PySem.Data.seq
        #[PySem.Value.str (PySem.Str.ofString "a") 418, PySem.Value.str (PySem.Str.ofString "b") 419,
          PySem.Value.str (PySem.Str.ofString "n") 420, PySem.Value.str (PySem.Str.ofString "a_digits") 421,
          PySem.Value.str (PySem.Str.ofString "r") 422, PySem.Value.str (PySem.Str.ofString "q_digits") 423,
          PySem.Value.str (PySem.Str.ofString "a_digit") 424, PySem.Value.str (PySem.Str.ofString "q_digit") 425,
          PySem.Value.str (PySem.Str.ofString "q") 426] }) ::
  (nat_lit 87, { cls := PySem.Value.type "tuple", data := PySem.Data.seq #[] }) ::
  (nat_lit 89,
  { cls := PySem.Value.type "code",
    data :=
      PySem.Data.fields
        #[PySem.Value.str (PySem.Str.ofString "_divmod_pos") 415,
          PySem.Value.str (PySem.Str.ofString "_divmod_pos") 416,
          PySem.Value.str (PySem.Str.ofString "/claim/cut.py") 417, PySem.Value.int 63 0, PySem.Value.int 2 0,
          PySem.Value.int 0 0, PySem.Value.int 0 0, PySem.Value.int 3 0, PySem.Value.ref 84, PySem.Value.bool Bool.true,
          PySem.Value.int 276 0, PySem.Value.ref 85, PySem.Value.none, PySem.Value.ref 86, PySem.Value.ref 87,
          PySem.Value.ref 88, PySem.Value.int 427 0, PySem.Value.int 63 0,
          PySem.Value.str (PySem.Str.ofString "/claim/cut.py") 428] }) ::
  (nat_lit 90, { cls := PySem.Value.type "function", data := PySem.Data.func { name := PySem.Str.ofString "_divmod_pos", qualname := PySem.Str.ofString "_divmod_pos", params := pars12, body := .stmts body12, scope := scope12, globals := 3, closure := [], defaults := PySem.Value.none, kwdefaults := PySem.Value.none, doc := PySem.Value.none, pyModule := PySem.Value.str (PySem.Str.ofString "cpy313._pylong") 358, annotations := Option.none, code := PySem.Value.ref 89, closureTuple := PySem.Value.none, builtins := 0 } }) ::
  (nat_lit 91, { cls := PySem.Value.type "tuple", data := PySem.Data.seq #[] }) ::
  (nat_lit 93,
  { cls := PySem.Value.type "tuple",
    data :=
      PySem.Data.seq
        #[PySem.Value.str (PySem.Str.ofString "a") 433, PySem.Value.str (PySem.Str.ofString "b") 434,
          PySem.Value.str (PySem.Str.ofString "q") 435, PySem.Value.str (PySem.Str.ofString "r") 436] }) ::
  (nat_lit 94, { cls := PySem.Value.type "tuple", data := PySem.Data.seq #[] }) ::
  (nat_lit 96,
  { cls := PySem.Value.type "code",
    data :=
      PySem.Data.fields
        #[PySem.Value.str (PySem.Str.ofString "int_divmod") 430, PySem.Value.str (PySem.Str.ofString "int_divmod") 431,
          PySem.Value.str (PySem.Str.ofString "/claim/cut.py") 432, PySem.Value.int 74 0, PySem.Value.int 2 0,
          PySem.Value.int 0 0, PySem.Value.int 0 0, PySem.Value.int 3 0, PySem.Value.ref 91, PySem.Value.bool Bool.true,
          PySem.Value.int 276 0, PySem.Value.ref 92, PySem.Value.none, PySem.Value.ref 93, PySem.Value.ref 94,
          PySem.Value.ref 95, PySem.Value.int 437 0, PySem.Value.int 74 0,
          PySem.Value.str (PySem.Str.ofString "/claim/cut.py") 438] }) ::
  (nat_lit 97, { cls := PySem.Value.type "function", data := PySem.Data.func { name := PySem.Str.ofString "int_divmod", qualname := PySem.Str.ofString "int_divmod", params := pars13, body := .stmts body13, scope := scope13, globals := 3, closure := [], defaults := PySem.Value.none, kwdefaults := PySem.Value.none, doc := PySem.Value.none, pyModule := PySem.Value.str (PySem.Str.ofString "cpy313._pylong") 358, annotations := Option.none, code := PySem.Value.ref 96, closureTuple := PySem.Value.none, builtins := 0 } }) ::
  (nat_lit 98, { cls := PySem.Value.type "tuple", data := PySem.Data.seq #[PySem.Value.int 0 442, PySem.Value.none] }) ::
  (nat_lit 99,
  { cls := PySem.Value.type "dict",
    data :=
      PySem.Data.dict
        #[{ hash := PySem.PyData.keyHash P (PySem.Str.ofString "key"),
            key := PySem.Value.str (PySem.Str.ofString "key") 443, val := PySem.Value.none }]
        1 }) ::
  (nat_lit 100, { cls := PySem.Value.type "tuple", data := PySem.Data.seq #[] }) ::
  (nat_lit 102,
  { cls := PySem.Value.type "tuple",
    data :=
      PySem.Data.seq
        #[PySem.Value.str (PySem.Str.ofString "a") 447, PySem.Value.str (PySem.Str.ofString "x") 448,
          PySem.Value.str (PySem.Str.ofString "lo") 449, PySem.Value.str (PySem.Str.ofString "hi") 450,
          PySem.Value.str (PySem.Str.ofString "key") 451, PySem.Value.str (PySem.Str.ofString "mid") 452] }) ::
  (nat_lit 103, { cls := PySem.Value.type "tuple", data := PySem.Data.seq #[] }) ::
  (nat_lit 105,
  { cls := PySem.Value.type "code",
    data :=
      PySem.Data.fields
        #[PySem.Value.str (PySem.Str.ofString "bisect_right") 444,
          PySem.Value.str (PySem.Str.ofString "bisect_right") 445,
          PySem.Value.str (PySem.Str.ofString "/claim/cut.py") 446, PySem.Value.int 86 0, PySem.Value.int 4 0,
          PySem.Value.int 0 0, PySem.Value.int 1 0, PySem.Value.int 3 0, PySem.Value.ref 100,
          PySem.Value.bool Bool.true, PySem.Value.int 276 0, PySem.Value.ref 101, PySem.Value.none, PySem.Value.ref 102,
          PySem.Value.ref 103, PySem.Value.ref 104, PySem.Value.int 453 0, PySem.Value.int 86 0,
          PySem.Value.str (PySem.Str.ofString "/claim/cut.py") 454] }) ::
  (nat_lit 106, { cls := PySem.Value.type "function", data := PySem.Data.func { name := PySem.Str.ofString "bisect_right", qualname := PySem.Str.ofString "bisect_right", params := pars15, body := .stmts body15, scope := scope15, globals := 3, closure := [], defaults := PySem.Value.ref 98, kwdefaults := PySem.Value.ref 99, doc := PySem.Value.none, pyModule := PySem.Value.str (PySem.Str.ofString "cpy313.bisect") 440, annotations := Option.none, code := PySem.Value.ref 105, closureTuple := PySem.Value.none, builtins := 0 } }) ::
  (nat_lit 107, { cls := PySem.Value.type "tuple", data := PySem.Data.seq #[PySem.Value.int 0 456, PySem.Value.none] }) ::
  (nat_lit 108,
  { cls := PySem.Value.type "dict",
    data :=
      PySem.Data.dict
        #[{ hash := PySem.PyData.keyHash P (PySem.Str.ofString "key"),
            key := PySem.Value.str (PySem.Str.ofString "key") 457, val := PySem.Value.none }]
        1 }) ::
  (nat_lit 109, { cls := PySem.Value.type "tuple", data := PySem.Data.seq #[] }) ::
  (nat_lit 111,
  { cls := PySem.Value.type "tuple",
    data :=
      PySem.Data.seq
        #[PySem.Value.str (PySem.Str.ofString "a") 461, PySem.Value.str (PySem.Str.ofString "x") 462,
          PySem.Value.str (PySem.Str.ofString "lo") 463, PySem.Value.str (PySem.Str.ofString "hi") 464,
          PySem.Value.str (PySem.Str.ofString "key") 465, PySem.Value.str (PySem.Str.ofString "mid") 466] }) ::
  (nat_lit 112, { cls := PySem.Value.type "tuple", data := PySem.Data.seq #[] }) ::
  (nat_lit 114,
  { cls := PySem.Value.type "code",
    data :=
      PySem.Data.fields
        #[PySem.Value.str (PySem.Str.ofString "bisect_left") 458,
          PySem.Value.str (PySem.Str.ofString "bisect_left") 459,
          PySem.Value.str (PySem.Str.ofString "/claim/cut.py") 460, PySem.Value.int 106 0, PySem.Value.int 4 0,
          PySem.Value.int 0 0, PySem.Value.int 1 0, PySem.Value.int 3 0, PySem.Value.ref 109,
          PySem.Value.bool Bool.true, PySem.Value.int 276 0, PySem.Value.ref 110, PySem.Value.none, PySem.Value.ref 111,
          PySem.Value.ref 112, PySem.Value.ref 113, PySem.Value.int 467 0, PySem.Value.int 106 0,
          PySem.Value.str (PySem.Str.ofString "/claim/cut.py") 468] }) ::
  (nat_lit 115, { cls := PySem.Value.type "function", data := PySem.Data.func { name := PySem.Str.ofString "bisect_left", qualname := PySem.Str.ofString "bisect_left", params := pars16, body := .stmts body16, scope := scope16, globals := 3, closure := [], defaults := PySem.Value.ref 107, kwdefaults := PySem.Value.ref 108, doc := PySem.Value.none, pyModule := PySem.Value.str (PySem.Str.ofString "cpy313.bisect") 440, annotations := Option.none, code := PySem.Value.ref 114, closureTuple := PySem.Value.none, builtins := 0 } }) ::
  (nat_lit 127, { cls := PySem.Value.type "tuple", data := PySem.Data.seq #[] }) ::
  (nat_lit 129, { cls := PySem.Value.type "tuple", data := PySem.Data.seq #[PySem.Value.str (PySem.Str.ofString "code") 535] }) ::
  (nat_lit 130, { cls := PySem.Value.type "tuple", data := PySem.Data.seq #[] }) ::
  (nat_lit 132,
  { cls := PySem.Value.type "code",
    data :=
      PySem.Data.fields
        #[PySem.Value.str (PySem.Str.ofString "in_table_b1") 532,
          PySem.Value.str (PySem.Str.ofString "in_table_b1") 533,
          PySem.Value.str (PySem.Str.ofString "/claim/cut.py") 534, PySem.Value.int 128 0, PySem.Value.int 1 0,
          PySem.Value.int 0 0, PySem.Value.int 0 0, PySem.Value.int 3 0, PySem.Value.ref 127,
          PySem.Value.bool Bool.true, PySem.Value.int 276 0, PySem.Value.ref 128, PySem.Value.none, PySem.Value.ref 129,
          PySem.Value.ref 130, PySem.Value.ref 131, PySem.Value.int 536 0, PySem.Value.int 128 0,
          PySem.Value.str (PySem.Str.ofString "/claim/cut.py") 537] }) ::
  (nat_lit 133, { cls := PySem.Value.type "function", data := PySem.Data.func { name := PySem.Str.ofString "in_table_b1", qualname := PySem.Str.ofString "in_table_b1", params := pars19, body := .stmts body19, scope := scope19, globals := 3, closure := [], defaults := PySem.Value.none, kwdefaults := PySem.Value.none, doc := PySem.Value.none, pyModule := PySem.Value.str (PySem.Str.ofString "cpy313.stringprep") 470, annotations := Option.none, code := PySem.Value.ref 132, closureTuple := PySem.Value.none, builtins := 0 } }) ::
  (nat_lit 173, { cls := PySem.Value.type "tuple", data := PySem.Data.seq #[] }) ::
  (nat_lit 175,
  { cls := PySem.Value.type "tuple",
    data :=
      PySem.Data.seq
        #[PySem.Value.str (PySem.Str.ofString "code") 2493, PySem.Value.str (PySem.Str.ofString "r") 2494] }) ::
  (nat_lit 176, { cls := PySem.Value.type "tuple", data := PySem.Data.seq #[] }) ::
  (nat_lit 178,
  { cls := PySem.Value.type "code",
    data :=
      PySem.Data.fields
        #[PySem.Value.str (PySem.Str.ofString "map_table_b3") 2490,
          PySem.Value.str (PySem.Str.ofString "map_table_b3") 2491,
          PySem.Value.str (PySem.Str.ofString "/claim/cut.py") 2492, PySem.Value.int 131 0, PySem.Value.int 1 0,
          PySem.Value.int 0 0, PySem.Value.int 0 0, PySem.Value.int 3 0, PySem.Value.ref 173,
          PySem.Value.bool Bool.true, PySem.Value.int 276 0, PySem.Value.ref 174, PySem.Value.none, PySem.Value.ref 175,
          PySem.Value.ref 176, PySem.Value.ref 177, PySem.Value.int 2495 0, PySem.Value.int 131 0,
          PySem.Value.str (PySem.Str.ofString "/claim/cut.py") 2496] }) ::
  (nat_lit 179, { cls := PySem.Value.type "function", data := PySem.Data.func { name := PySem.Str.ofString "map_table_b3", qualname := PySem.Str.ofString "map_table_b3", params := pars21, body := .stmts body21, scope := scope21, globals := 3, closure := [], defaults := PySem.Value.none, kwdefaults := PySem.Value.none, doc := PySem.Value.none, pyModule := PySem.Value.str (PySem.Str.ofString "cpy313.stringprep") 470, annotations := Option.none, code := PySem.Value.ref 178, closureTuple := PySem.Value.none, builtins := 0 } }) ::
  (nat_lit 191, { cls := PySem.Value.type "tuple", data := PySem.Data.seq #[] }) ::
  (nat_lit 193, { cls := PySem.Value.type "tuple", data := PySem.Data.seq #[PySem.Value.str (PySem.Str.ofString "code") 2701] }) ::
  (nat_lit 194, { cls := PySem.Value.type "tuple", data := PySem.Data.seq #[] }) ::
  (nat_lit 196,
  { cls := PySem.Value.type "code",
    data :=
      PySem.Data.fields
        #[PySem.Value.str (PySem.Str.ofString "in_table_c9") 2698,
          PySem.Value.str (PySem.Str.ofString "in_table_c9") 2699,
          PySem.Value.str (PySem.Str.ofString "/claim/cut.py") 2700, PySem.Value.int 137 0, PySem.Value.int 1 0,
          PySem.Value.int 0 0, PySem.Value.int 0 0, PySem.Value.int 3 0, PySem.Value.ref 191,
          PySem.Value.bool Bool.true, PySem.Value.int 276 0, PySem.Value.ref 192, PySem.Value.none, PySem.Value.ref 193,
          PySem.Value.ref 194, PySem.Value.ref 195, PySem.Value.int 2702 0, PySem.Value.int 137 0,
          PySem.Value.str (PySem.Str.ofString "/claim/cut.py") 2703] }) ::
  (nat_lit 197, { cls := PySem.Value.type "function", data := PySem.Data.func { name := PySem.Str.ofString "in_table_c9", qualname := PySem.Str.ofString "in_table_c9", params := pars23, body := .stmts body23, scope := scope23, globals := 3, closure := [], defaults := PySem.Value.none, kwdefaults := PySem.Value.none, doc := PySem.Value.none, pyModule := PySem.Value.str (PySem.Str.ofString "cpy313.stringprep") 470, annotations := Option.none, code := PySem.Value.ref 196, closureTuple := PySem.Value.none, builtins := 0 } }) ::
  (nat_lit 198, { cls := PySem.Value.type "tuple", data := PySem.Data.seq #[] }) ::
  (nat_lit 200,
  { cls := PySem.Value.type "tuple",
    data :=
      PySem.Data.seq
        #[PySem.Value.str (PySem.Str.ofString "drawn") 2710, PySem.Value.str (PySem.Str.ofString "marks") 2711,
          PySem.Value.str (PySem.Str.ofString "ends") 2712, PySem.Value.str (PySem.Str.ofString "written") 2713,
          PySem.Value.str (PySem.Str.ofString "plain") 2714, PySem.Value.str (PySem.Str.ofString "sent") 2715,
          PySem.Value.str (PySem.Str.ofString "quiet") 2716, PySem.Value.str (PySem.Str.ofString "heard") 2717,
          PySem.Value.str (PySem.Str.ofString "v") 2718, PySem.Value.str (PySem.Str.ofString "count") 2719,
          PySem.Value.str (PySem.Str.ofString "mark") 2720, PySem.Value.str (PySem.Str.ofString "line") 2721,
          PySem.Value.str (PySem.Str.ofString "loud") 2722] }) ::
  (nat_lit 201, { cls := PySem.Value.type "tuple", data := PySem.Data.seq #[] }) ::
  (nat_lit 203,
  { cls := PySem.Value.type "code",
    data :=
      PySem.Data.fields
        #[PySem.Value.str (PySem.Str.ofString "_law_mail") 2707, PySem.Value.str (PySem.Str.ofString "_law_mail") 2708,
          PySem.Value.str (PySem.Str.ofString "/claim/cut.py") 2709, PySem.Value.int 140 0, PySem.Value.int 1 0,
          PySem.Value.int 0 0, PySem.Value.int 0 0, PySem.Value.int 3 0, PySem.Value.ref 198,
          PySem.Value.bool Bool.true, PySem.Value.int 276 0, PySem.Value.ref 199, PySem.Value.none, PySem.Value.ref 200,
          PySem.Value.ref 201, PySem.Value.ref 202, PySem.Value.int 2723 0, PySem.Value.int 140 0,
          PySem.Value.str (PySem.Str.ofString "/claim/cut.py") 2724] }) ::
  (nat_lit 204, { cls := PySem.Value.type "function", data := PySem.Data.func { name := PySem.Str.ofString "_law_mail", qualname := PySem.Str.ofString "_law_mail", params := pars25, body := .stmts body25, scope := scope25, globals := 3, closure := [], defaults := PySem.Value.none, kwdefaults := PySem.Value.none, doc := PySem.Value.none, pyModule := PySem.Value.str (PySem.Str.ofString "law_sn0081_01") 2705, annotations := Option.none, code := PySem.Value.ref 203, closureTuple := PySem.Value.none, builtins := 0 } }) ::
  (nat_lit 205, { cls := PySem.Value.type "tuple", data := PySem.Data.seq #[] }) ::
  (nat_lit 208,
  { cls := PySem.Value.type "code",
    data :=
      PySem.Data.fields
        #[PySem.Value.str (PySem.Str.ofString "_law_read") 2726, PySem.Value.str (PySem.Str.ofString "_law_read") 2727,
          PySem.Value.str (PySem.Str.ofString "/claim/cut.py") 2728, PySem.Value.int 170 0, PySem.Value.int 1 0,
          PySem.Value.int 0 0, PySem.Value.int 0 0, PySem.Value.int 3 0, PySem.Value.ref 205,
          PySem.Value.bool Bool.true, PySem.Value.int 276 0, PySem.Value.ref 206, PySem.Value.none, PySem.Value.none,
          PySem.Value.none, PySem.Value.ref 207, PySem.Value.int 2729 0, PySem.Value.int 170 0,
          PySem.Value.str (PySem.Str.ofString "/claim/cut.py") 2730] }) ::
  (nat_lit 209, { cls := PySem.Value.type "function", data := PySem.Data.func { name := PySem.Str.ofString "_law_read", qualname := PySem.Str.ofString "_law_read", params := pars26, body := .stmts body26, scope := scope26, globals := 3, closure := [], defaults := PySem.Value.none, kwdefaults := PySem.Value.none, doc := PySem.Value.none, pyModule := PySem.Value.str (PySem.Str.ofString "law_sn0081_01") 2705, annotations := Option.none, code := PySem.Value.ref 208, closureTuple := PySem.Value.none, builtins := 0 } }) ::
  (nat_lit 210, { cls := PySem.Value.type "tuple", data := PySem.Data.seq #[] }) ::
  (nat_lit 213,
  { cls := PySem.Value.type "code",
    data :=
      PySem.Data.fields
        #[PySem.Value.str (PySem.Str.ofString "_law_turned") 2732,
          PySem.Value.str (PySem.Str.ofString "_law_turned") 2733,
          PySem.Value.str (PySem.Str.ofString "/claim/cut.py") 2734, PySem.Value.int 176 0, PySem.Value.int 1 0,
          PySem.Value.int 0 0, PySem.Value.int 0 0, PySem.Value.int 3 0, PySem.Value.ref 210,
          PySem.Value.bool Bool.true, PySem.Value.int 276 0, PySem.Value.ref 211, PySem.Value.none, PySem.Value.none,
          PySem.Value.none, PySem.Value.ref 212, PySem.Value.int 2735 0, PySem.Value.int 176 0,
          PySem.Value.str (PySem.Str.ofString "/claim/cut.py") 2736] }) ::
  (nat_lit 214, { cls := PySem.Value.type "function", data := PySem.Data.func { name := PySem.Str.ofString "_law_turned", qualname := PySem.Str.ofString "_law_turned", params := pars27, body := .stmts body27, scope := scope27, globals := 3, closure := [], defaults := PySem.Value.none, kwdefaults := PySem.Value.none, doc := PySem.Value.none, pyModule := PySem.Value.str (PySem.Str.ofString "law_sn0081_01") 2705, annotations := Option.none, code := PySem.Value.ref 213, closureTuple := PySem.Value.none, builtins := 0 } }) ::
  (nat_lit 215, { cls := PySem.Value.type "tuple", data := PySem.Data.seq #[] }) ::
  (nat_lit 217,
  { cls := PySem.Value.type "tuple",
    data :=
      PySem.Data.seq
        #[PySem.Value.str (PySem.Str.ofString "parts") 2741, PySem.Value.str (PySem.Str.ofString "n") 2742,
          PySem.Value.str (PySem.Str.ofString "q") 2743, PySem.Value.str (PySem.Str.ofString "part") 2744] }) ::
  (nat_lit 218, { cls := PySem.Value.type "tuple", data := PySem.Data.seq #[] }) ::
  (nat_lit 220,
  { cls := PySem.Value.type "code",
    data :=
      PySem.Data.fields
        #[PySem.Value.str (PySem.Str.ofString "_law_fraction") 2738,
          PySem.Value.str (PySem.Str.ofString "_law_fraction") 2739,
          PySem.Value.str (PySem.Str.ofString "/claim/cut.py") 2740, PySem.Value.int 185 0, PySem.Value.int 1 0,
          PySem.Value.int 0 0, PySem.Value.int 0 0, PySem.Value.int 3 0, PySem.Value.ref 215,
          PySem.Value.bool Bool.true, PySem.Value.int 276 0, PySem.Value.ref 216, PySem.Value.none, PySem.Value.ref 217,
          PySem.Value.ref 218, PySem.Value.ref 219, PySem.Value.int 2745 0, PySem.Value.int 185 0,
          PySem.Value.str (PySem.Str.ofString "/claim/cut.py") 2746] }) ::
  (nat_lit 221, { cls := PySem.Value.type "function", data := PySem.Data.func { name := PySem.Str.ofString "_law_fraction", qualname := PySem.Str.ofString "_law_fraction", params := pars28, body := .stmts body28, scope := scope28, globals := 3, closure := [], defaults := PySem.Value.none, kwdefaults := PySem.Value.none, doc := PySem.Value.none, pyModule := PySem.Value.str (PySem.Str.ofString "law_sn0081_01") 2705, annotations := Option.none, code := PySem.Value.ref 220, closureTuple := PySem.Value.none, builtins := 0 } }) ::
  (nat_lit 222, { cls := PySem.Value.type "tuple", data := PySem.Data.seq #[] }) ::
  (nat_lit 224,
  { cls := PySem.Value.type "tuple",
    data :=
      PySem.Data.seq
        #[PySem.Value.str (PySem.Str.ofString "n") 2751, PySem.Value.str (PySem.Str.ofString "q") 2752,
          PySem.Value.str (PySem.Str.ofString "parts") 2753, PySem.Value.str (PySem.Str.ofString "turn") 2754,
          PySem.Value.str (PySem.Str.ofString "quotient") 2755, PySem.Value.str (PySem.Str.ofString "rest") 2756] }) ::
  (nat_lit 225, { cls := PySem.Value.type "tuple", data := PySem.Data.seq #[] }) ::
  (nat_lit 227,
  { cls := PySem.Value.type "code",
    data :=
      PySem.Data.fields
        #[PySem.Value.str (PySem.Str.ofString "_law_run") 2748, PySem.Value.str (PySem.Str.ofString "_law_run") 2749,
          PySem.Value.str (PySem.Str.ofString "/claim/cut.py") 2750, PySem.Value.int 190 0, PySem.Value.int 2 0,
          PySem.Value.int 0 0, PySem.Value.int 0 0, PySem.Value.int 3 0, PySem.Value.ref 222,
          PySem.Value.bool Bool.true, PySem.Value.int 276 0, PySem.Value.ref 223, PySem.Value.none, PySem.Value.ref 224,
          PySem.Value.ref 225, PySem.Value.ref 226, PySem.Value.int 2757 0, PySem.Value.int 190 0,
          PySem.Value.str (PySem.Str.ofString "/claim/cut.py") 2758] }) ::
  (nat_lit 228, { cls := PySem.Value.type "function", data := PySem.Data.func { name := PySem.Str.ofString "_law_run", qualname := PySem.Str.ofString "_law_run", params := pars29, body := .stmts body29, scope := scope29, globals := 3, closure := [], defaults := PySem.Value.none, kwdefaults := PySem.Value.none, doc := PySem.Value.none, pyModule := PySem.Value.str (PySem.Str.ofString "law_sn0081_01") 2705, annotations := Option.none, code := PySem.Value.ref 227, closureTuple := PySem.Value.none, builtins := 0 } }) ::
  (nat_lit 229, { cls := PySem.Value.type "tuple", data := PySem.Data.seq #[] }) ::
  (nat_lit 231,
  { cls := PySem.Value.type "tuple",
    data :=
      PySem.Data.seq
        #[PySem.Value.str (PySem.Str.ofString "left") 2763, PySem.Value.str (PySem.Str.ofString "right") 2764] }) ::
  (nat_lit 232, { cls := PySem.Value.type "tuple", data := PySem.Data.seq #[] }) ::
  (nat_lit 234,
  { cls := PySem.Value.type "code",
    data :=
      PySem.Data.fields
        #[PySem.Value.str (PySem.Str.ofString "_law_fall_together") 2760,
          PySem.Value.str (PySem.Str.ofString "_law_fall_together") 2761,
          PySem.Value.str (PySem.Str.ofString "/claim/cut.py") 2762, PySem.Value.int 199 0, PySem.Value.int 2 0,
          PySem.Value.int 0 0, PySem.Value.int 0 0, PySem.Value.int 3 0, PySem.Value.ref 229,
          PySem.Value.bool Bool.true, PySem.Value.int 276 0, PySem.Value.ref 230, PySem.Value.none, PySem.Value.ref 231,
          PySem.Value.ref 232, PySem.Value.ref 233, PySem.Value.int 2765 0, PySem.Value.int 199 0,
          PySem.Value.str (PySem.Str.ofString "/claim/cut.py") 2766] }) ::
  (nat_lit 235, { cls := PySem.Value.type "function", data := PySem.Data.func { name := PySem.Str.ofString "_law_fall_together", qualname := PySem.Str.ofString "_law_fall_together", params := pars30, body := .stmts body30, scope := scope30, globals := 3, closure := [], defaults := PySem.Value.none, kwdefaults := PySem.Value.none, doc := PySem.Value.none, pyModule := PySem.Value.str (PySem.Str.ofString "law_sn0081_01") 2705, annotations := Option.none, code := PySem.Value.ref 234, closureTuple := PySem.Value.none, builtins := 0 } }) ::
  (nat_lit 236, { cls := PySem.Value.type "tuple", data := PySem.Data.seq #[] }) ::
  (nat_lit 239,
  { cls := PySem.Value.type "code",
    data :=
      PySem.Data.fields
        #[PySem.Value.str (PySem.Str.ofString "_law_dual") 2768, PySem.Value.str (PySem.Str.ofString "_law_dual") 2769,
          PySem.Value.str (PySem.Str.ofString "/claim/cut.py") 2770, PySem.Value.int 210 0, PySem.Value.int 1 0,
          PySem.Value.int 0 0, PySem.Value.int 0 0, PySem.Value.int 3 0, PySem.Value.ref 236,
          PySem.Value.bool Bool.true, PySem.Value.int 276 0, PySem.Value.ref 237, PySem.Value.none, PySem.Value.none,
          PySem.Value.none, PySem.Value.ref 238, PySem.Value.int 2771 0, PySem.Value.int 210 0,
          PySem.Value.str (PySem.Str.ofString "/claim/cut.py") 2772] }) ::
  (nat_lit 240, { cls := PySem.Value.type "function", data := PySem.Data.func { name := PySem.Str.ofString "_law_dual", qualname := PySem.Str.ofString "_law_dual", params := pars31, body := .stmts body31, scope := scope31, globals := 3, closure := [], defaults := PySem.Value.none, kwdefaults := PySem.Value.none, doc := PySem.Value.none, pyModule := PySem.Value.str (PySem.Str.ofString "law_sn0081_01") 2705, annotations := Option.none, code := PySem.Value.ref 239, closureTuple := PySem.Value.none, builtins := 0 } }) ::
  (nat_lit 241, { cls := PySem.Value.type "tuple", data := PySem.Data.seq #[] }) ::
  (nat_lit 244,
  { cls := PySem.Value.type "code",
    data :=
      PySem.Data.fields
        #[PySem.Value.str (PySem.Str.ofString "law") 2774, PySem.Value.str (PySem.Str.ofString "law") 2775,
          PySem.Value.str (PySem.Str.ofString "/claim/cut.py") 2776, PySem.Value.int 225 0, PySem.Value.int 1 0,
          PySem.Value.int 0 0, PySem.Value.int 0 0, PySem.Value.int 3 0, PySem.Value.ref 241,
          PySem.Value.bool Bool.true, PySem.Value.int 276 0, PySem.Value.ref 242, PySem.Value.none, PySem.Value.none,
          PySem.Value.none, PySem.Value.ref 243, PySem.Value.int 2777 0, PySem.Value.int 225 0,
          PySem.Value.str (PySem.Str.ofString "/claim/cut.py") 2778] }) ::
  (nat_lit 245, { cls := PySem.Value.type "function", data := PySem.Data.func { name := PySem.Str.ofString "law", qualname := PySem.Str.ofString "law", params := pars32, body := .stmts body32, scope := scope32, globals := 3, closure := [], defaults := PySem.Value.none, kwdefaults := PySem.Value.none, doc := PySem.Value.none, pyModule := PySem.Value.str (PySem.Str.ofString "law_sn0081_01") 2705, annotations := Option.none, code := PySem.Value.ref 244, closureTuple := PySem.Value.none, builtins := 0 } }) :: []

/-- the objects that the law's walk meets, written out -/
noncomputable def K (P : Params) : Frag := by
  refine (?f : (X : Frag) → X = Ktext P → Frag) ?X ?h
  case f => exact fun X _ => X
  rotate_left
  case h => conv => rhs; delta Ktext pars4 body4 scope4 pars5 body5 scope5 pars8 body8 scope8 pars9 body9 scope9 pars10 body10 scope10 pars11 body11 scope11 pars12 body12 scope12 pars13 body13 scope13 pars15 body15 scope15 pars16 body16 scope16 pars19 body19 scope19 pars21 body21 scope21 pars23 body23 scope23 pars25 body25 scope25 pars26 body26 scope26 pars27 body27 scope27 pars28 body28 scope28 pars29 body29 scope29 pars30 body30 scope30 pars31 body31 scope31 pars32 body32 scope32

end Mine
end

section
set_option maxRecDepth 100000
set_option maxHeartbeats 0
namespace Mine
open PySem PySem.W PyProof.Rows

noncomputable abbrev outs (s0 : Shared) (xA xB xD xE : SharedT × Thread) (P : Params) := (seenAt s0 xA xB xD xE, openSeen qv loose (importedModules pw.main.body) Xt true xE.1.abs, ((K P).map (·.1)).map fun a => xE.1.tree.get a)
theorem kern0 (v1 v2 : Vs) (vd : Vd) (w : World) : (fun w : World => whole (fun s0 xA xB xD xE => outs s0 xA xB xD xE w.params) v1 v2 vd w) (w.withFollow "special-get-raises" false)
    = (fun w : World => (st0 treeTable w).map fun s0 => (wanted v1 v2 vd w (denote treeTable) s0, openGood qv loose, (K w.params).map fun p => some p.2)) (w.withFollow "special-get-raises" false) := by
  unfold outs whole wholeP st0 stA stB stDP stE fencedOpening wanted kD kDP tail tailP
  rw [PySem.W.Fast.te11892475500146522536, PySem.W.Fast.te10156331382660048174, PySem.W.Fast.te2348191978395082540, PySem.W.Fast.te14364793385576792824, PySem.W.Fast.te10274390034422433532, PySem.W.Fast.te14289696077712309145,
    PySem.W.Fast.te12563942051412417395, PySem.W.Fast.te9442747609961115081, PySem.W.Fast.te7536695828754713326, PySem.W.Fast.te4187177175401517315, PySem.W.R.bindR_eq, PySem.W.R.onRaiseR_eq]
  kernel_rfl
theorem kern1 (v1 v2 : Vs) (vd : Vd) (w : World) : (fun w : World => whole (fun s0 xA xB xD xE => outs s0 xA xB xD xE w.params) v1 v2 vd w) (w.withFollow "special-get-raises" true)
    = (fun w : World => (st0 treeTable w).map fun s0 => (wanted v1 v2 vd w (denote treeTable) s0, openGood qv loose, (K w.params).map fun p => some p.2)) (w.withFollow "special-get-raises" true) := by
  unfold outs whole wholeP st0 stA stB stDP stE fencedOpening wanted kD kDP tail tailP
  rw [PySem.W.Fast.te11892475500146522536, PySem.W.Fast.te10156331382660048174, PySem.W.Fast.te2348191978395082540, PySem.W.Fast.te14364793385576792824, PySem.W.Fast.te10274390034422433532, PySem.W.Fast.te14289696077712309145,
    PySem.W.Fast.te12563942051412417395, PySem.W.Fast.te9442747609961115081, PySem.W.Fast.te7536695828754713326, PySem.W.Fast.te4187177175401517315, PySem.W.R.bindR_eq, PySem.W.R.onRaiseR_eq]
  kernel_rfl
theorem kern (v1 v2 : Vs) (vd : Vd) (w : World) : whole (fun s0 xA xB xD xE => outs s0 xA xB xD xE w.params) v1 v2 vd w
    = (st0 treeTable w).map fun s0 => (wanted v1 v2 vd w (denote treeTable) s0, openGood qv loose, (K w.params).map fun p => some p.2) := by
  have e := World.withFollow_self w "special-get-raises"
  cases hb : w.params.followText "special-get-raises" <;> rw [hb] at e
  · have z := kern0 v1 v2 vd w; rw [e] at z; exact z
  · have z := kern1 v1 v2 vd w; rw [e] at z; exact z
/-- the opening comes through -/
theorem opens (w : World) : (st0 treeTable w).isSome = true := by
  have e := World.withFollow_self w "special-get-raises"
  have z : ∀ b, (fun w : World => (st0 treeTable w).isSome) (w.withFollow "special-get-raises" b) = true := by
    unfold st0 fencedOpening
    rw [PySem.W.Fast.te14364793385576792824, PySem.W.Fast.te10274390034422433532, PySem.W.Fast.te14289696077712309145]
    intro b
    cases b <;> kernel_rfl
  have y := z (w.params.followText "special-get-raises")
  rw [e] at y
  exact y
theorem dict_is : asDict (tops.drop 20) = some dD := by kernel_rfl
theorem rows_are : rowsIn dD.ks dD.vs = some rowsD := by kernel_rfl
theorem rows_len : rowsD.length = 650 := by kernel_rfl
/-- the numbers rise -/
noncomputable def up : Int → List Int → Bool
  | _, [] => true
  | a, b :: r => decide (a < b) && up b r
theorem up_lt : ∀ {l : List Int} {a : Int}, up a l = true → ∀ x ∈ l, a < x
  | [], _, _, _, h => nomatch h
  | b :: r, a, h, x, hx => by
    obtain ⟨h1, h2⟩ := Bool.and_eq_true_iff.mp h
    have h1 := of_decide_eq_true h1
    rcases List.mem_cons.mp hx with rfl | hx
    · exact h1
    · exact Int.lt_trans h1 (up_lt h2 x hx)
theorem up_nodup : ∀ {l : List Int} {a : Int}, up a l = true → l.Nodup
  | [], _, _ => List.nodup_nil
  | b :: r, a, h => by
    obtain ⟨_, h2⟩ := Bool.and_eq_true_iff.mp h
    exact List.nodup_cons.mpr ⟨fun hb => absurd (up_lt h2 b hb) (Int.lt_irrefl b), up_nodup h2⟩
theorem rows_up : up 0 (rowsD.map (·.1)) = true := by kernel_rfl
theorem rows_once : (rowsD.map (·.1)).Nodup := up_nodup rows_up
end Mine
end

section
set_option maxRecDepth 100000
set_option maxHeartbeats 400000
namespace Mine
open PySem PySem.W PyProof.Rows

/-- what the stages are, for each choice of what they meet -/
noncomputable def Staged (w : World) (s0 : Shared) (v1 v2 : Vs) (vd : Vd) (xA xB xD xE : SharedT × Thread) : Prop :=
  stA (denote treeTable) Thread.calm (stepT (denote treeTable) pw w) s0 = some xA ∧ stB (denote treeTable) Thread.calm (stepT (denote treeTable) pw w) v1 xA 55 = some xB ∧
  stDP (denote treeTable) Thread.calm (stepT (denote treeTable) pw w) (kD dD.nm dD.px dD.rest) vd xB = some xD ∧ stE (denote treeTable) Thread.calm (stepT (denote treeTable) pw w) v2 xD = some xE ∧
  outs s0 xA xB xD xE w.params = (wanted v1 v2 vd w (denote treeTable) s0, openGood qv loose, (K w.params).map fun p => some p.2)
theorem staged {w : World} {s0 : Shared} (h0 : st0 treeTable w = some s0) (v1 v2 : Vs) (vd : Vd) : ∃ xA xB xD xE, Staged w s0 v1 v2 vd xA xB xD xE := by
  have k := kern v1 v2 vd w
  unfold whole wholeP at k
  rw [h0, Option.map_some, Option.bind_some] at k
  obtain ⟨xA, hA, k⟩ := Option.bind_eq_some_iff.mp k
  obtain ⟨xB, hB, k⟩ := Option.bind_eq_some_iff.mp k
  obtain ⟨xD, hD, k⟩ := Option.bind_eq_some_iff.mp k
  obtain ⟨xE, hE, k⟩ := Option.map_eq_some_iff.mp k
  exact ⟨xA, xB, xD, xE, hA, hB, hD, hE, k⟩
theorem ends_goT {p : Program} {w : World} {F : Result → Shared → Prop} (n : Nat) {s : SharedT} {t : Thread} {x : SharedT × Thread} (h : goM (denote treeTable) Thread.calm (stepT (denote treeTable) p w) n s t = some x) (k : Ends p w x.1.abs x.2 F) : Ends p w s.abs t F := by
  rw [← table_eq_tree] at h
  exact ends_go n h k
noncomputable def v0 : Vs := ⟨#[], 0, .fresh 0 0 true, none, #[], default⟩
noncomputable def vd0 : Vd := ⟨#[], 0, fun _ => ⟨default, none, #[], 0, #[]⟩, default⟩

/-- the end of the top -/
noncomputable def TopEnd (w : World) (s0 : Shared) (r : Result) (s' : Shared) : Prop :=
  (∃ f, r = .ok f) ∧ ∃ v1 v2 vd xA xB xD xE, Staged w s0 v1 v2 vd xA xB xD xE ∧ SetObj pw w ns1 v1.set ∧ RowsObj pw w rowsD vd.dict ∧ SetObj pw w ns2 v2.set ∧ s' = xE.1.abs
theorem ns1_len : ns1.length = 27 := by decide +kernel
theorem ns2_len : ns2.length = 97 := by decide +kernel

theorem top_ends {w : World} {s0 : Shared} (h0 : st0 treeTable w = some s0) : Ends pw w s0 (topStub pw) (TopEnd w s0) := by
  have tb := table_eq_tree
  obtain ⟨xA, _, _, _, hA, _, _, _, o⟩ := staged h0 v0 v0 vd0
  have oA := congrArg (fun x => x.1.aA) o
  simp only [outs, seenAt, wanted, Prod.mk.injEq] at oA
  obtain ⟨a1, a2, a3, a4, a5, a6, a7⟩ := oA
  have g : Ends pw w (toT s0).abs (topStub pw) (TopEnd w s0) := by
    refine ends_goT 988 hA ?_
    refine ends_loop (l := 122) (ns := ns1) a1 (by rw [tb]; exact a2) (by rw [a3]; exact a7) (by rw [a3]; decide) (by rw [a3]; decide) (by rw [a3]; decide) (by decide) (by decide) (by decide) a5 a6 a4 (by rw [ns1_len]; decide) fun v1 hv1 => ?_
    obtain ⟨xA', xB, _, _, hA', hB, _, _, o⟩ := staged h0 v1 v0 vd0
    obtain rfl : xA = xA' := Option.some.inj (hA.symm.trans hA')
    have oB := congrArg (fun x => x.1.aB) o
    simp only [outs, seenAt, wanted, Prod.mk.injEq] at oB
    obtain ⟨b1, b2, b3⟩ := oB
    rw [ns1_len, tb]
    refine ends_goT 55 hB ?_
    refine ends_dict (d := dD) (rows := rowsD) (c := 38) (by rw [b1, asDict_is dict_is]) (by rw [b2]; exact b3) (by rw [b2]; decide) rows_are rows_once (by rw [rows_len]; decide) (by rw [rows_len]) fun vd hvd => ?_
    obtain ⟨xA', xB', xD, _, hA', hB', hD, _, o⟩ := staged h0 v1 v0 vd
    obtain rfl : xA = xA' := Option.some.inj (hA.symm.trans hA')
    obtain rfl : xB = xB' := Option.some.inj (hB.symm.trans hB')
    have oD := congrArg (fun x => x.1.aD) o
    simp only [outs, seenAt, wanted, Prod.mk.injEq] at oD
    obtain ⟨d1, d2, d3, d4, d5, d6, d7⟩ := oD
    rw [rows_len, b2]
    refine ends_goT 1815 hD ?_
    refine ends_loop (l := 186) (ns := ns2) d1 (by rw [tb]; exact d2) (by rw [d3]; exact d7) (by rw [d3]; decide) (by rw [d3]; decide) (by rw [d3]; decide) (by decide) (by decide) (by decide) d5 d6 d4 (by rw [ns2_len]; decide) fun v2 hv2 => ?_
    obtain ⟨xA', xB', xD', xE, hA', hB', hD', hE, o⟩ := staged h0 v1 v2 vd
    obtain rfl : xA = xA' := Option.some.inj (hA.symm.trans hA')
    obtain rfl : xB = xB' := Option.some.inj (hB.symm.trans hB')
    obtain rfl : xD = xD' := Option.some.inj (hD.symm.trans hD')
    rw [ns2_len, tb]
    refine ends_goT 306 hE ?_
    have oE := congrArg (fun x => x.1.aE.1) o
    have ht : through xE.2 = true := oE
    obtain ⟨y, cur, code, pos, stack⟩ := xE
    unfold through at ht
    obtain ⟨h1, h2⟩ := Bool.and_eq_true_iff.mp ht
    have h1 : stack = [] := List.isEmpty_iff.mp h1
    subst h1
    cases cur <;> try cases h2
    rename_i fin
    cases fin with
    | again c => cases h2
    | done f => exact ⟨y.abs, .ok f, .exit ⟨rfl, rfl⟩, ⟨f, rfl⟩, v1, v2, vd, xA, xB, xD, _, ⟨hA, hB, hD, hE, o⟩, hv1, hvd, hv2, rfl⟩
  rw [toT_abs] at g
  exact g
end Mine
end

section
set_option maxRecDepth 100000
namespace Mine
open PySem PySem.W PyProof.Rows PySem.Calls

/-- what the law's walk is given of the heap behind the top -/
structure LawHeap (w : World) (h : Heap) : Prop where
  kin : (K w.params).In h
  b1 : ∃ o, h.get? 123 = some o ∧ SetObj pw w ns1 o
  b3 : ∃ o, h.get? 134 = some o ∧ RowsObj pw w rowsD o
  c9 : ∃ o, h.get? 187 = some o ∧ SetObj pw w ns2 o
theorem LawHeap.keeps (w : World) (h h' : Heap) (x : LawHeap w h) (k : ∀ b o, h.get? b = some o → h'.get? b = some o) : LawHeap w h' :=
  ⟨x.kin.keeps k, let ⟨o, a, b⟩ := x.b1; ⟨o, k _ _ a, b⟩, let ⟨o, a, b⟩ := x.b3; ⟨o, k _ _ a, b⟩, let ⟨o, a, b⟩ := x.c9; ⟨o, k _ _ a, b⟩⟩

theorem chains : chainsOk qv = true := by kernel_rfl

/-- the state behind the top, as the head's readers want it -/
structure Behind1 (w : World) (s₀ s₁ : Shared) : Prop where
  ran : TopRan pw w s₀ s₁
  asleep : s₁.asleep
  gens : s₁.gens = #[]
  ns : s₁.heap.isNs mainGlobals = true
  ground : Ground qv loose [] (XL qv []) w s₁ (s₁.heap.nsMap mainGlobals) (s₁.heap.nsMap builtinsNs) s₁.heap
  law : LawHeap w s₁.heap

theorem behind1 {w : World} {s₀ : Shared} (h0 : st0 treeTable w = some s₀) (hz : s₀.asleep) : s₀.gens = #[] ∧ ∃ s₁, Behind1 w s₀ s₁ := by
  obtain ⟨s', r, hR, ⟨f, rfl⟩, v1, v2, vd, xA, xB, xD, xE, ⟨hA, hB, hD, hE, o⟩, k1, k2, k3, rfl⟩ := top_ends h0
  have o1 := congrArg (fun x => x.1) o
  have o2 := congrArg (fun x => x.2.1) o
  have o3 : ((K w.params).map (·.1)).map (fun a => xE.1.tree.get a) = (K w.params).map fun p => some p.2 := congrArg (fun x => x.2.2) o
  have p0 := congrArg Obs.a0 o1
  have pE := congrArg Obs.aE o1
  have pT := congrArg Obs.aT o1
  have pN : xE.1.n = 246 := congrArg Obs.aN o1
  simp only [seenAt, wanted, Prod.mk.injEq] at p0 pE pT
  obtain ⟨g0, n0, ns0, an0⟩ := p0
  obtain ⟨_, e2, e3, e4, e5, e6, e7, e8⟩ := pE
  obtain ⟨t1, t2, t3⟩ := pT
  have hg : xE.1.abs.gens = #[] := e2
  have hl : xE.1.abs.heap.life = s₀.heap.life := e6
  obtain ⟨n, τ, hs, ht⟩ := sched_ends hz hg hR
  obtain ⟨G, _, q1, q2, q3, q4, q5⟩ := ground_of_open (w := w) (fun s e => xl_of s e) chains o2
  have old : ∀ b ob, s₀.heap.get? b = some ob → ¬ theTopsOwn s₀.heap b → xE.1.abs.heap.get? b = some ob := fun b ob hb hn => by
    have hlt : b < 28 := by rw [← n0]; exact Heap.lt_size hb
    have hm : b ∈ olds := by
      have h2 : b ≠ 2 := fun e => hn (.inr (.inl e))
      have h3 : b ≠ 3 := fun e => hn (.inl e)
      have h6 : b ≠ 6 := fun e => hn (.inr (.inr (by rw [Pin.globalOf_eq ns0, an0, e])))
      have all : (List.range 28).all (fun b => b == 2 || b == 3 || b == 6 || olds.contains b) = true := by decide +kernel
      have y := List.all_eq_true.mp all b (List.mem_range.mpr hlt)
      simp only [Bool.or_eq_true, beq_iff_eq, List.contains_iff_mem] at y
      rcases y with ((y | y) | y) | y
      · exact absurd y h2
      · exact absurd y h3
      · exact absurd y h6
      · exact y
    have e : xE.1.tree.get b = s₀.heap.objs[b]? := List.map_inj_left.mp e8 b hm
    have hbo := objs_of_get hb
    rw [hbo] at e
    refine (abs_get (show b < xE.1.n by rw [pN]; exact Nat.lt_trans hlt (by decide)) e).trans ?_
    have hu := hb
    unfold Heap.get? at hu
    rw [hbo] at hu
    obtain ⟨c, d, dt, sl⟩ := ob
    cases dt <;> first | rfl | (exfalso; cases hu)
  have at_ : ∀ (a : Nat) (ob : Obj), a < 246 → xE.1.tree.get a = some ob → ob.isFreed = false → xE.1.abs.heap.get? a = some ob := fun a ob ha e hf => by
    refine (abs_get (show a < xE.1.n by rw [pN]; exact ha) e).trans ?_
    obtain ⟨c, d, dt, sl⟩ := ob
    cases dt <;> first | rfl | cases hf
  have kin : (K w.params).In xE.1.abs.heap := by
    refine Frag.in_of (as := (K w.params).map (·.1)) rfl ?_
    have live : ∀ x ∈ K w.params, x.1 < 246 ∧ x.2.isFreed = false := by
      have : (K w.params).all (fun x => decide (x.1 < 246) && !x.2.isFreed) = true := by kernel_rfl
      intro x hx
      have y := List.all_eq_true.mp this x hx
      simpa using y
    rw [List.map_map] at o3 ⊢
    refine List.map_congr_left fun x hx => ?_
    have y : xE.1.tree.get x.1 = some x.2 := List.map_inj_left.mp o3 x hx
    exact at_ _ _ (live x hx).1 y (live x hx).2
  refine ⟨g0, xE.1.abs, ⟨⟨⟨n, τ, hs, ht⟩, hl, Shared.rest_eq e7, old, q2, statics_of_ok t1, q3, q4, q5, fun g hg' => ?_, names_of_bound t2, laid_of_kept t3⟩, Shared.asleep_of_life hl hz, hg, q1, G,
    ⟨kin, ⟨_, at_ 123 _ (by decide) e3 rfl, k1⟩, ⟨_, at_ 134 _ (by decide) e4 rfl, k2⟩, ⟨_, at_ 187 _ (by decide) e5 rfl, k3⟩⟩⟩⟩
  rw [hg] at hg'
  exact absurd hg' (by simp)

theorem behind (w : World) : (∃ s, AfterRun (opening pw) w s) ∧ ∀ s, AfterRun (opening pw) w s → ∃ s₀, fenceModules? pw s = some s₀ ∧ s₀.gens = #[] ∧ ∃ s₁, Behind1 w s₀ s₁ := by
  obtain ⟨s₀, h0⟩ := Option.isSome_iff_exists.mp (opens w)
  have h1 := h0
  unfold st0 fencedOpening at h1
  obtain ⟨s, hs, hf⟩ := Option.bind_eq_some_iff.mp h1
  rw [← table_eq_tree] at hs
  have A := AfterImport.of_importEnds hs
  refine ⟨⟨s, A⟩, fun s' hs' => ?_⟩
  obtain rfl : s' = s := AfterImport.unique hs' A
  obtain ⟨g, s₁, B⟩ := behind1 h0 (Shared.asleep_of_life (fence_lifeW hf) A.life)
  exact ⟨s₀, hf, g, s₁, B⟩
end Mine
end

section
set_option maxRecDepth 100000
namespace Mine
open PySem PySem.W PyProof.Rows PySem.Calls

noncomputable abbrev row : OpenRow := PySem.Challenge.rw_sn0081_01.row
noncomputable def posAt (i : Nat) : Pos := match tops[i]? with
  | some (.FunctionDef _ _ _ _ _ _ _ _ _ p) => p
  | _ => default
noncomputable def pos32 : Pos := by
  refine (?f : (X : Pos) → X = posAt 32 → Pos) ?X ?h
  case f => exact fun X _ => X
  rotate_left
  case h => conv => rhs; whnf
/-- the law's own def -/
noncomputable def dLaw : DefRec := by
  refine (?f : (X : DefRec) → X = DefRec.mk "law" pars32 body32 scope32 pos32 → DefRec) ?X ?h
  case f => exact fun X _ => X
  rotate_left
  case h => conv => rhs; delta pars32 body32 scope32 pos32
theorem def_is : defOf qv row.name = some (dLaw, []) := by kernel_rfl
theorem looks : (opensWell pw && (frees row.toRowW && row.within.isEmpty)) = true := by kernel_rfl
theorem free : row.records.isEmpty = true := by kernel_rfl
theorem meets : row.toRowW.promised := ⟨[.list []], by kernel_rfl, by kernel_rfl⟩
theorem the_def : pw.theDef row.name = some (dLaw.params, dLaw.body, dLaw.scope) := by kernel_rfl
theorem kws : kwWritten? dLaw.params.kwonlyargs dLaw.params.kw_defaults = some [] := by kernel_rfl
theorem bare_ : pw.bare := ⟨rfl, rfl, rfl, rfl, rfl, by decide +kernel⟩

/-- the law's row holds where its callee, run on what stands behind the top, answers as the row says -/
theorem holds_of_walk (said : row.wellSaid = true) (walk : WalkO qv loose (XL qv []) LawHeap row.toRowW dLaw [] fun f vs => PySem.call f vs) : row.Holds := by
  obtain ⟨ow, k⟩ := Bool.and_eq_true_iff.mp looks
  obtain ⟨fr, wi⟩ := Bool.and_eq_true_iff.mp k
  obtain ⟨hsame, hu, ha, hap, hm⟩ := frees_parts fr
  have hwi : row.claim.within = [] := List.isEmpty_iff.mp wi
  have hrec : row.records = [] := List.isEmpty_iff.mp free
  have hid := ident_freeW hu ha hap
  refine ⟨said, meets, ⟨bare_, ow, List.map_eq_nil_iff.mpr hm⟩, meets.witness, fun w => ⟨(behind w).1, fun s hs => ?_⟩⟩
  obtain ⟨s₀, hf, hg, s₁, B⟩ := (behind w).2 s hs
  have RF : RecFacts row.records s₁.heap := recFacts_nil hrec
  refine ⟨s₀, hf, hg, s₁, B.ran, fun n hn => ?_, RF.1, RF.2.1, ?_⟩
  · have e : n = row.name := by split at hn <;> simp_all
    subst e
    exact pinned_of_view B.ns B.ground def_is the_def kws
  refine ClaimW.callFrom_of_specG (c := row.claim) B.asleep B.gens fun args hpre hlay ord hord => ?_
  have G : Ground qv loose row.records (XL qv []) w s₁ _ _ s₁.heap := RF.ground B.ground
  obtain ⟨⟨vs, s₂⟩, hlaid⟩ := Option.isSome_iff_exists.mp (layAllW_isSome (P := w.params) (ord := ord) G.has args row.args s₁ (pre_splitW hpre).1)
  have more := layAllW_keeps _ _ _ hlaid
  have rest := layAllW_rest _ _ _ hlaid
  obtain ⟨as, hrd, hin, hold⟩ := reads_layAllW hord _ _ _ hlaid hlay s₂.heap (fun _ _ e => e)
  have L : Laid row.records w s₁ s₂ args vs as := ⟨⟨ord, hord, hlaid⟩, hrd, hin, hold, more, rest.1.trans B.gens, rest.2.2.1⟩
  have G₂ := G.keeps XL.keeps more
  obtain ⟨a, o, pm, cd, doc, dV, kV, f1, f2, f3, f4, f5⟩ := G₂.fn def_is
  have called := walk w s₁ s₂ _ _ G₂ (LawHeap.keeps _ _ _ B.law more) a o pm cd doc dV kV f2 f3 f4 f5 (defOf_name def_is ▸ f1) L.gens args vs as hpre hlay L.reads L.well (L.low G.low)
  have told : ∀ {r : Result} {s' : Shared}, GoodWG row.claim (classAt s₁.heap) (ExcName.means s₁.heap) args s₂ r s' → row.claim.Ends s₁ args vs s₂ r s' ∧ s'.os = s₁.os ∧ AllBare s'.gens ∧
      (row.writes = true → namesKept row.claim.prog row.keeps s₁.heap s'.heap ∧ ∀ x ∈ row.claim.records, ∀ a, classAt s₁.heap x.1 = some a → recordClass s'.heap a x.1 (x.2.map (·.1)) = true) := fun {r s'} g => by
    obtain ⟨z1, z2, z3⟩ := g.laid (c := row.claim) hsame hwi hid L
    refine ⟨z1, z2, z3, fun _ => ⟨namesKept_of B.ran B.ns row.keeps more g.2.1.old, fun x hx => ?_⟩⟩
    have : x ∈ row.records := hx
    rw [hrec] at this
    cases this
  refine ⟨vs, s₂, hlaid, wpAny_bind (wpAny_nsGet G₂.T.g ?_)⟩
  rw [f1]
  exact wpAny_bind (wpAny_mono called (fun v s' g => wpAny_pure ⟨_, rfl, told g⟩) fun e s' g => told g)
end Mine
end

section
open PySem PySem.W PyProof.Rows
set_option Elab.async false
set_option maxRecDepth 100000
set_option maxHeartbeats 0
namespace Mine
theorem llooks : looksOpen PySem.Challenge.rw_sn0081_01.row.toRowW.prog = true := by
  unfold looksOpen
  repeat' with_reducible refine look_both ?_ ?_
  all_goals decide +kernel
theorem lpart : PySem.Challenge.rw_sn0081_01.row.partSaid = true := by
  unfold OpenRow.partSaid
  repeat' with_reducible refine look_both ?_ ?_
  exact llooks
  all_goals decide +kernel
theorem lsaid : PySem.Challenge.rw_sn0081_01.wellSaid = true := by
  unfold OpenLaw.wellSaid OpenRow.wellSaid
  repeat' with_reducible refine look_both ?_ ?_
  exact lpart
  all_goals decide +kernel
end Mine
end

section
open PySem PySem.W PyProof.Rows
namespace Mine
/-- a place where the walk stops for a step by hand -/
noncomputable def Stuck (P : Prop) : Prop := P
theorem stuck_of {P : Prop} (h : Stuck P) : P := h
theorem of_stuck {P : Prop} (h : P) : Stuck P := h
theorem room_in {d D e n : Nat} (h : d + D + 1 < n) (k : Nat.ble (e + 1) D = true) : d + 1 + e + 1 < n := by
  have := Nat.le_of_ble_eq_true k
  omega
theorem room_0 {d D n : Nat} (h : d + D + 1 < n) : d < n := by omega
theorem units_in {u D e n : Nat} (h : u + 8 * (D + 1) < n) (k : Nat.ble (3 + 8 * (e + 1)) (8 * (D + 1)) = true) : u + 3 + 8 * (e + 1) < n := by
  have := Nat.le_of_ble_eq_true k
  omega
theorem units_64 {u D n : Nat} (h : u + 8 * (D + 1) < n) (k : Nat.ble 67 (8 * (D + 1)) = true) : u + 3 + 64 < n := by
  have := Nat.le_of_ble_eq_true k
  omega
theorem room_s {d k n : Nat} (h : d + (k + 1) + 1 < n) : d + 1 + k + 1 < n := by omega
theorem units_s {u k n : Nat} (h : u + 8 * (k + 1 + 1) < n) : u + 3 + 8 * (k + 1) < n := by omega
end Mine
end

section
open PySem PySem.W PyProof.Rows
set_option Elab.async false
set_option maxRecDepth 100000
set_option maxHeartbeats 0
namespace Mine
open PySem.Calls
/-- what the loop of set() leaves: a number is in it if it is among the first i -/
theorem firstMet_has (ns : List Int) (k : Int) : ∀ i, i ≤ ns.length → (firstMet (fun j => ns.getD j 0) i).any (· == k) = decide (k ∈ ns.take i)
  | 0, _ => by rw [firstMet_zero, List.take_zero]; simp
  | i + 1, h => by
    rw [firstMet_succ, step_any, firstMet_has ns k i (by omega), List.take_add_one]
    have hlt : i < ns.length := by omega
    have e : ns.getD i 0 = ns[i] := by simp [hlt]
    rw [e, List.getElem?_eq_getElem hlt]
    have m : k ∈ ns.take i ++ (some ns[i]).toList ↔ (k ∈ ns.take i ∨ k = ns[i]) := by
      rw [List.mem_append, Option.toList, List.mem_singleton]
    by_cases h1 : k ∈ ns.take i <;> by_cases h2 : k = ns[i]
    · rw [decide_eq_true h1, decide_eq_true (m.mpr (.inl h1))]; rfl
    · rw [decide_eq_true h1, decide_eq_true (m.mpr (.inl h1))]; rfl
    · rw [decide_eq_false h1, decide_eq_true h2, decide_eq_true (m.mpr (.inr h2))]; rfl
    · rw [decide_eq_false h1, decide_eq_false h2, decide_eq_false (fun x => (m.mp x).elim h1 h2)]; rfl
theorem in_setObj {w : World} {A : Around} {s : Shared} {a : Addr} {o : Obj} {ns : List Int} {c : Int} {t : Tok} {Q E : Value → Shared → Prop} (H : SetObj pw w ns o) (g : s.heap.get? a = some o)
    (h : Q (.bool (decide (c ∈ ns))) { s with toks := s.toks + 1 }) : wpAny (model pw w) A (compareOp .In (.int c t) (.ref a)) Q E s := by
  refine wpAny_inSet_of (knd := intKind pw w) (k := c) (intKind_is _ _ _ _) rfl (H _ _ g) ?_
  have e : (firstMet (fun j => ns.getD j 0) ns.length).any (· == c) = decide (c ∈ ns) := by
    rw [firstMet_has ns c ns.length (Nat.le_refl _), List.take_length]
  rw [e]
  exact h
theorem in_c9 {w : World} {A : Around} {s : Shared} {h₀ g : Heap} {L L' : Addr} {m m' : Str → Option Value} {c : Int} {t : Tok} {Q E : Value → Shared → Prop} (H : LawHeap w h₀) (F : Fr h₀ L g m) (F' : Fr g L' s.heap m')
    (h : Q (.bool (decide (c ∈ ns2))) { s with toks := s.toks + 1 }) : wpAny (model PySem.Challenge.rw_sn0081_01.row.prog w) A (compareOp .In (.int c t) (.ref 187)) Q E s := by
  obtain ⟨o, e, k⟩ := H.c9
  exact in_setObj k (F'.keep _ _ (F.keep _ _ e)) h
theorem in_b1 {w : World} {A : Around} {s : Shared} {h₀ g : Heap} {L L' : Addr} {m m' : Str → Option Value} {c : Int} {t : Tok} {Q E : Value → Shared → Prop} (H : LawHeap w h₀) (F : Fr h₀ L g m) (F' : Fr g L' s.heap m')
    (h : Q (.bool (decide (c ∈ ns1))) { s with toks := s.toks + 1 }) : wpAny (model PySem.Challenge.rw_sn0081_01.row.prog w) A (compareOp .In (.int c t) (.ref 123)) Q E s := by
  obtain ⟨o, e, k⟩ := H.b1
  exact in_setObj k (F'.keep _ _ (F.keep _ _ e)) h
local macro_rules | `(tactic| k_room) => `(tactic| ktr_room)
local macro_rules | `(tactic| k_units) => `(tactic| ktr_units)
local macro_rules | `(tactic| walk_at "compareOp In") => `(tactic| (first | refine in_c9 (by assumption) (by assumption) (by assumption) ?_ | refine in_b1 (by assumption) (by assumption) (by assumption) ?_))
/-- a call of a def of the law's from the frame of another: the heap behind the top as it stood, the caller's frame kept -/
noncomputable abbrev Con (w : World) (p : Program) (loose : List Str) (mean : ExcName → Option Value) (mg mb : Str → Option Value) (f : Addr) (news : List (Addr × Obj)) (vs : List Value) (R : Tok → Value) : Prop :=
  ∀ (dp un : Nat) (gd : Option (List Code)) (cn : Str) (names : List (Str × NameKind)) (g1 g2 : Bool) (more : List (Str × Const)) (a : Addr) (ccd : Value) (cl : List (Str × Addr)) (outer : List Env) (A₀ : Around) (base h₀ : Heap) (L : Addr) (m : Str → Option Value) (s : Shared) (Q E : Value → Shared → Prop),
    Below A₀ base outer h₀ → Fr h₀ L s.heap m → LawHeap w h₀ → (K w.params).In h₀ → News h₀ L s.heap news → Top p loose mean mg mb h₀ → dp + 1 < recursionLimit → un + 8 < cLine → CbRet h₀ L m news s Q R →
      wpAny (model PySem.Challenge.rw_sn0081_01.row.prog w) (ktrTop dp un gd cn ⟨.function, names, g1, g2, more⟩ L a ccd cl outer) (call (.ref f) vs) Q E s
theorem c_c9 {w : World} {p : Program} {loose : List Str} {mean : ExcName → Option Value} {mg mb : Str → Option Value} {news : List (Addr × Obj)} (c : Nat) (t : Tok) :
    Con w p loose mean mg mb 197 news [.str ⟨#[c]⟩ t] (fun _ => .bool (decide ((c : Int) ∈ ns2))) := by
  dsimp only [Con, CbRet]
  k_fill
  intros; rename_i hret
  refine wpAny_call ?_
  k_dflt k_enter
  k_steps
  all_goals cb_end hret
theorem c_b1 {w : World} {p : Program} {loose : List Str} {mean : ExcName → Option Value} {mg mb : Str → Option Value} {news : List (Addr × Obj)} (c : Nat) (t : Tok) :
    Con w p loose mean mg mb 133 news [.str ⟨#[c]⟩ t] (fun _ => .bool (decide ((c : Int) ∈ ns1))) := by
  dsimp only [Con, CbRet]
  k_fill
  intros; rename_i hret
  refine wpAny_call ?_
  k_dflt k_enter
  k_steps
  all_goals cb_end hret
end Mine
end

section
open PySem PySem.W PyProof.Rows
set_option Elab.async false
set_option maxRecDepth 100000
set_option maxHeartbeats 0
namespace Mine
open PySem.Calls
noncomputable def rowAt (c : Int) : Option Str := (rowsD.find? fun r => decide (r.1 = c)).map (·.2)
theorem rows_find {c : Int} : ∀ {kvs : List (Int × Value)} {rows : List (Int × Str)}, RowsAre kvs rows → match (rows.find? fun r => decide (r.1 = c)).map (·.2) with
    | some x => ∃ t, valueAt kvs c = some (.str x t)
    | none => valueAt kvs c = none
  | [], [], _ => rfl
  | (k, v) :: kvs, (j, x) :: rows, h => by
    obtain ⟨rfl, ⟨t, rfl⟩, h⟩ := h
    unfold valueAt
    rw [List.find?_cons, List.find?_cons]
    by_cases e : k = c
    · simp only [e, decide_true, Option.map_some]; exact ⟨t, rfl⟩
    · simp only [e, decide_false]; exact rows_find h
  | [], _ :: _, h => h.elim
  | _ :: _, [], h => h.elim
theorem get_b3 {w : World} {A : Around} {s : Shared} {h₀ g : Heap} {L L' : Addr} {m m' : Str → Option Value} {c : Int} {t : Tok} {Q E : Value → Shared → Prop} (H : LawHeap w h₀) (F : Fr h₀ L g m) (F' : Fr g L' s.heap m')
    (h : match rowAt c with
      | some x => ∀ t, Q (.str x t) { s with toks := s.toks + 1 }
      | none => Q .none { s with toks := s.toks + 1 }) : wpAny (model PySem.Challenge.rw_sn0081_01.row.prog w) A (call (.builtin "dict.get") [.ref 134, .int c t]) Q E s := by
  obtain ⟨o, e, kvs, hr, hk⟩ := H.b3
  have hd := hk s.heap 134 (F'.keep _ _ (F.keep _ _ e))
  have hm := hd.mapOf
  refine call_meetsIn PySem.F.slot_dict_get hm.typeIs PySem.F.entry_dict_get (PySem.F.args_dict_get_2 _ _) (meets_dict_get (intKind _ w) 134 (k := c) (intKind_is _ _ _ _) rfl) ⟨_, hm, ?_⟩
  have z := rows_find (c := c) hr
  unfold rowAt at h
  revert h z
  generalize (rowsD.find? fun r => decide (r.1 = c)).map (·.2) = r
  intro h z
  cases r with
  | none => dsimp only at z h; rw [z]; exact h
  | some x => obtain ⟨t, z⟩ := z; dsimp only at h; rw [z]; exact h t
theorem method_b3 {w : World} {A : Around} {s : Shared} {h₀ g : Heap} {L L' : Addr} {m m' : Str → Option Value} {pl : Sem Bool} {Q : Value × List Value → Shared → Prop} {E : Value → Shared → Prop} (H : LawHeap w h₀) (F : Fr h₀ L g m) (F' : Fr g L' s.heap m')
    (h : Q (.builtin "dict.get", [.ref 134]) s) : wpAny (model PySem.Challenge.rw_sn0081_01.row.prog w) A (getMethod (.ref 134) "get" pl) Q E s := by
  obtain ⟨o, e, kvs, hr, hk⟩ := H.b3
  have hm := (hk s.heap 134 (F'.keep _ _ (F.keep _ _ e))).mapOf
  exact getMethod_builtin hm.typeIs PySem.F.plainAttrs_dict PySem.F.slot_dict_get PySem.F.type_dict_get hm.noDict h
theorem row46 : rowAt 46 = none := by kernel_rfl
theorem row13255 : rowAt 13255 = some ("co." : Str) := by kernel_rfl
theorem get_46 {w : World} {A : Around} {s : Shared} {h₀ g : Heap} {L L' : Addr} {m m' : Str → Option Value} {c : Int} {t : Tok} {Q E : Value → Shared → Prop} (H : LawHeap w h₀) (F : Fr h₀ L g m) (F' : Fr g L' s.heap m') (hc : c = 46)
    (h : Q .none { s with toks := s.toks + 1 }) : wpAny (model PySem.Challenge.rw_sn0081_01.row.prog w) A (call (.builtin "dict.get") [.ref 134, .int c t]) Q E s := by
  subst hc
  exact get_b3 H F F' (by rw [row46]; exact h)
theorem get_13255 {w : World} {A : Around} {s : Shared} {h₀ g : Heap} {L L' : Addr} {m m' : Str → Option Value} {c : Int} {t : Tok} {Q E : Value → Shared → Prop} (H : LawHeap w h₀) (F : Fr h₀ L g m) (F' : Fr g L' s.heap m') (hc : c = 13255)
    (h : ∀ t, Q (.str ("co." : Str) t) { s with toks := s.toks + 1 }) : wpAny (model PySem.Challenge.rw_sn0081_01.row.prog w) A (call (.builtin "dict.get") [.ref 134, .int c t]) Q E s := by
  subst hc
  exact get_b3 H F F' (by rw [row13255]; exact h)
local macro_rules | `(tactic| k_room) => `(tactic| ktr_room)
local macro_rules | `(tactic| k_units) => `(tactic| ktr_units)
local macro_rules | `(tactic| walk_at "getMethod ref") => `(tactic| refine method_b3 (by assumption) (by assumption) (by assumption) ?_)
local macro_rules | `(tactic| walk_at "call builtin:dict.get") => `(tactic| first | refine get_46 (by assumption) (by assumption) (by assumption) (by first | rfl | decide +kernel) ?_ | (refine get_13255 (by assumption) (by assumption) (by assumption) (by first | rfl | decide +kernel) ?_; intro _))
theorem c_b3dot {w : World} {p : Program} {loose : List Str} {mean : ExcName → Option Value} {mg mb : Str → Option Value} {news : List (Addr × Obj)} (t : Tok) :
    Con w p loose mean mg mb 179 news [.str ⟨#[46]⟩ t] (fun t => .str ⟨#[46]⟩ t) := by
  dsimp only [Con, CbRet]
  k_fill
  intros; rename_i hret
  refine wpAny_call ?_
  k_dflt k_enter
  k_steps
  all_goals cb_end hret
theorem c_b3co {w : World} {p : Program} {loose : List Str} {mean : ExcName → Option Value} {mg mb : Str → Option Value} {news : List (Addr × Obj)} (t : Tok) :
    Con w p loose mean mg mb 179 news [.str ⟨#[13255]⟩ t] (fun t => .str ("co." : Str) t) := by
  dsimp only [Con, CbRet]
  k_fill
  intros; rename_i hret
  refine wpAny_call ?_
  k_dflt k_enter
  k_steps
  all_goals cb_end hret
end Mine
end

section
open PySem PySem.W PyProof.Rows
set_option Elab.async false
set_option maxRecDepth 100000
set_option maxHeartbeats 0
namespace Mine
open PySem.Calls
/-- the walk of a bisection: where test says to go left -/
noncomputable def bisGo (go : Int → Bool) : Nat → Int → Int → Int
    | 0, lo, _ => lo
    | f + 1, lo, hi => if lo < hi then (if go ((lo + hi).fdiv 2) = true then bisGo go f lo ((lo + hi).fdiv 2) else bisGo go f ((lo + hi).fdiv 2 + 1) hi) else lo
theorem half {lo hi : Int} : (lo + hi).fdiv 2 = (lo + hi) / 2 := Int.fdiv_eq_ediv_of_nonneg _ (by decide)
theorem bisGo_enough (go : Int → Bool) : ∀ (f g : Nat) (lo hi : Int), hi - lo ≤ f → hi - lo ≤ g → bisGo go f lo hi = bisGo go g lo hi
  | 0, 0, _, _, _, _ => rfl
  | 0, g + 1, lo, hi, h, _ => by
    have : ¬ lo < hi := by omega
    simp [bisGo, this]
  | f + 1, 0, lo, hi, _, h => by
    have : ¬ lo < hi := by omega
    simp [bisGo, this]
  | f + 1, g + 1, lo, hi, h1, h2 => by
    unfold bisGo
    have e := @half lo hi
    split
    · rw [bisGo_enough go f g _ _ (by omega) (by omega), bisGo_enough go f g _ _ (by omega) (by omega)]
    · rfl
noncomputable def bisAt (go : Int → Bool) (lo hi : Int) : Int := bisGo go (hi - lo).toNat lo hi
theorem bisAt_step {go : Int → Bool} {lo hi : Int} (h : lo < hi) : bisAt go lo hi = if go ((lo + hi).fdiv 2) = true then bisAt go lo ((lo + hi).fdiv 2) else bisAt go ((lo + hi).fdiv 2 + 1) hi := by
  unfold bisAt
  obtain ⟨f, hf⟩ : ∃ f, (hi - lo).toNat = f + 1 := ⟨(hi - lo).toNat - 1, by omega⟩
  have e := @half lo hi
  rw [hf]
  show (if lo < hi then _ else _) = _
  rw [if_pos h, bisGo_enough go f (((lo + hi).fdiv 2) - lo).toNat lo _ (by omega) (by omega), bisGo_enough go f (hi - ((lo + hi).fdiv 2 + 1)).toNat _ _ (by omega) (by omega)]
theorem bisAt_end {go : Int → Bool} {lo hi : Int} (h : ¬ lo < hi) : bisAt go lo hi = lo := by
  unfold bisAt
  have : (hi - lo).toNat = 0 := by omega
  rw [this]; rfl
noncomputable def goR (a : List Int) (x : Int) (i : Int) : Bool := decide (x < a.getD i.toNat 0)
noncomputable def goL (a : List Int) (x : Int) (i : Int) : Bool := !decide (a.getD i.toNat 0 < x)
noncomputable def bisR (a : List Int) (x : Int) : Int := bisAt (goR a x) 0 a.length
noncomputable def bisL (a : List Int) (x : Int) : Int := bisAt (goL a x) 0 a.length
theorem bis_left {go : Int → Bool} {r lo hi n : Int} (h0 : 0 ≤ lo) (h2 : hi ≤ n) (hB : bisAt go lo hi = r) (hlt : lo < hi) (hx : go ((lo + hi).fdiv 2) = true) :
    0 ≤ lo ∧ lo ≤ (lo + hi).fdiv 2 ∧ (lo + hi).fdiv 2 ≤ n ∧ bisAt go lo ((lo + hi).fdiv 2) = r := by
  have e := @half lo hi
  refine ⟨h0, by omega, by omega, ?_⟩
  rw [← hB, bisAt_step hlt, if_pos hx]
theorem bis_right {go : Int → Bool} {r lo hi n : Int} (h0 : 0 ≤ lo) (h2 : hi ≤ n) (hB : bisAt go lo hi = r) (hlt : lo < hi) (hx : go ((lo + hi).fdiv 2) = false) :
    0 ≤ (lo + hi).fdiv 2 + 1 ∧ (lo + hi).fdiv 2 + 1 ≤ hi ∧ hi ≤ n ∧ bisAt go ((lo + hi).fdiv 2 + 1) hi = r := by
  have e := @half lo hi
  refine ⟨by omega, by omega, h2, ?_⟩
  rw [← hB, bisAt_step hlt, if_neg (by rw [hx]; exact Bool.false_ne_true)]
theorem bis_lessL {lo hi : Int} (h : lo < hi) : ((lo + hi).fdiv 2 - lo).toNat < (hi - lo).toNat := by have e := @half lo hi; omega
theorem bis_lessR {lo hi : Int} (h : lo < hi) : (hi - ((lo + hi).fdiv 2 + 1)).toNat < (hi - lo).toNat := by have e := @half lo hi; omega
theorem goR_t {a : List Int} {x i : Int} (h : x < a.getD i.toNat 0) : goR a x i = true := decide_eq_true h
theorem goR_f {a : List Int} {x i : Int} (h : ¬ x < a.getD i.toNat 0) : goR a x i = false := decide_eq_false h
theorem goL_t {a : List Int} {x i : Int} (h : ¬ a.getD i.toNat 0 < x) : goL a x i = true := by unfold goL; rw [decide_eq_false h]; rfl
theorem goL_f {a : List Int} {x i : Int} (h : a.getD i.toNat 0 < x) : goL a x i = false := by unfold goL; rw [decide_eq_true h]; rfl
local macro_rules | `(tactic| k_room) => `(tactic| ktr_room)
local macro_rules | `(tactic| k_units) => `(tactic| ktr_units)
local macro_rules | `(tactic| walk_at "KswEnd") => `(tactic| ((rename News _ _ _ _ => nE'); (refine ksw_end ⟨_, _, _, _⟩ (by assumption) nE' (by kst_in) (by kst_facts) (by kst_all) (by ksw_same) ?kp ?km); (case kp => first | exact bis_left (by assumption) (by assumption) (by assumption) (by assumption) (goR_t (by assumption)) | exact bis_right (by assumption) (by assumption) (by assumption) (by assumption) (goR_f (by first | assumption | omega)) | exact bis_left (by assumption) (by assumption) (by assumption) (by assumption) (goL_t (by first | assumption | omega)) | exact bis_right (by assumption) (by assumption) (by assumption) (by assumption) (goL_f (by assumption))); (case km => first | exact bis_lessL (by assumption) | exact bis_lessR (by assumption))))
end Mine
end

section
open PySem PySem.W PyProof.Rows
set_option Elab.async false
set_option maxRecDepth 100000
set_option maxHeartbeats 0
namespace Mine
open PySem.Calls
local macro_rules | `(tactic| k_room) => `(tactic| ktr_room)
local macro_rules | `(tactic| k_units) => `(tactic| ktr_units)
/-- a contract whose return is a claim of its own; dep: how many calls deep it goes -/
noncomputable def ConN (w : World) (p : Program) (loose : List Str) (mean : ExcName → Option Value) (mg mb : Str → Option Value) (dep : Nat) (f : Addr) (news : List (Addr × Obj)) (vs : List Value) (Ret : Heap → Addr → (Str → Option Value) → Shared → (Value → Shared → Prop) → Prop) : Prop :=
  ∀ (dp un : Nat) (gd : Option (List Code)) (cn : Str) (names : List (Str × NameKind)) (g1 g2 : Bool) (more : List (Str × Const)) (a : Addr) (ccd : Value) (cl : List (Str × Addr)) (outer : List Env) (A₀ : Around) (base h₀ : Heap) (L : Addr) (m : Str → Option Value) (s : Shared) (Q E : Value → Shared → Prop),
    Below A₀ base outer h₀ → Fr h₀ L s.heap m → (K w.params).In h₀ → News h₀ L s.heap news → Top p loose mean mg mb h₀ → dp + dep + 1 < recursionLimit → un + 8 * (dep + 1) < cLine → Ret h₀ L m s Q →
      wpAny (model PySem.Challenge.rw_sn0081_01.row.prog w) (ktrTop dp un gd cn ⟨.function, names, g1, g2, more⟩ L a ccd cl outer) (call (.ref f) vs) Q E s
theorem ConN.use {w : World} {p : Program} {loose : List Str} {mean : ExcName → Option Value} {mg mb : Str → Option Value} {dep : Nat} {f : Addr} {news : List (Addr × Obj)} {vs : List Value} {Ret : Heap → Addr → (Str → Option Value) → Shared → (Value → Shared → Prop) → Prop}
    (H : ConN w p loose mean mg mb dep f news vs Ret) {dp un : Nat} {gd : Option (List Code)} {cn : Str} {names : List (Str × NameKind)} {g1 g2 : Bool} {more : List (Str × Const)} {a : Addr} {ccd : Value} {cl : List (Str × Addr)} {outer : List Env} {A₀ : Around} {base h₀ : Heap} {L : Addr} {m : Str → Option Value} {s : Shared} {Q E : Value → Shared → Prop}
    (B : Below A₀ base outer h₀) (F : Fr h₀ L s.heap m) (X : (K w.params).In h₀) (N : News h₀ L s.heap news) (T : Top p loose mean mg mb h₀) (hd : dp + dep + 1 < recursionLimit) (hu : un + 8 * (dep + 1) < cLine) (hret : Ret h₀ L m s Q) :
      wpAny (model PySem.Challenge.rw_sn0081_01.row.prog w) (ktrTop dp un gd cn ⟨.function, names, g1, g2, more⟩ L a ccd cl outer) (call (.ref f) vs) Q E s := H dp un gd cn names g1 g2 more a ccd cl outer A₀ base h₀ L m s Q E B F X N T hd hu hret
/-- the return of a pair of ints -/
noncomputable abbrev RetPair (news : List (Addr × Obj)) (x y : Int) (h₀ : Heap) (L : Addr) (m : Str → Option Value) (s : Shared) (Q : Value → Shared → Prop) : Prop :=
  ∀ (p : Addr) (t1 t2 : Tok) (c : Nat) (h' : Heap) (tk' : Nat), Fr h₀ L h' m → News h₀ L h' ((p, ({ cls := .type "tuple", data := .seq #[.int x t1, .int y t2] c } : Obj)) :: news) → (∀ q ∈ news, q.1 < p) → Q (.ref p) { s with heap := h', toks := tk' }
theorem c_div2n1n {w : World} {p : Program} {loose : List Str} {mean : ExcName → Option Value} {mg mb : Str → Option Value} {news : List (Addr × Obj)} (a b n : Int) (t u v : Tok) (hb : 0 < b) (ha : 0 ≤ a) (hbb : b < 1073741824) (haa : a < 1073741824) (hn : ((Builtin.Int.intBits a : Nat) : Int) - n ≤ 4000) :
    ConN w p loose mean mg mb 0 62 news [.int a t, .int b u, .int n v] (RetPair news (a.fdiv b) (a.fmod b)) := by
  unfold ConN
  dsimp only [RetPair]
  k_fill
  intros; rename_i hret
  refine wpAny_call ?_
  k_dflt k_enter
  k_steps
  refine' hret _ _ _ _ _ _ ?f ?n ?l
  case f => k_asm
  case n => k_asm
  case l => rename News _ _ _ news => N1; exact fun q hq => Heap.lt_size (N1 q hq).1
end Mine
end

section
open PySem PySem.W PyProof.Rows
set_option Elab.async false
set_option maxRecDepth 100000
set_option maxHeartbeats 0
namespace Mine
open PySem.Calls
theorem ne_of_lt {news : List (Addr × Obj)} {X d : Addr} (h : ∀ p ∈ news, p.1 < X) (e : @LE.le Nat _ X d) : ∀ p ∈ news, p.1 ≠ d := fun p hp => Nat.ne_of_lt (Nat.lt_of_lt_of_le (h p hp) e)
theorem allLt_mem {X : Addr} : ∀ {news : List (Addr × Obj)}, AllLt X news → ∀ p ∈ news, p.1 < X
  | [], _, _, h => nomatch h
  | _ :: _, x, _, h => by
    rcases List.mem_cons.mp h with rfl | h
    · exact x.1
    · exact allLt_mem x.2 _ h
theorem ne_of_allLt {news : List (Addr × Obj)} {X d : Addr} (h : AllLt X news) (e : @LE.le Nat _ X d) : ∀ p ∈ news, p.1 ≠ d := ne_of_lt (allLt_mem h) e
/-- a def's table of the codes made within it: bare, or holding the one code at d -/
noncomputable def TabSt (line col : Nat) (qual : Str) (ps : Array Value) (d : Addr) (od : Obj) (rest : List (Addr × Obj)) : Prop :=
  (∀ q ∈ rest, q.1 ≠ d) ∧ (ps = #[] ∨ (ps = #[rawInt line, rawInt col, .ref d] ∧ ∃ vs t, od.data = .fields vs ∧ vs[1]? = some (.str qual t)))
noncomputable def AllOff (d c : Nat) : List (Addr × Obj) → Prop
  | [] => True
  | p :: r => (@LT.lt Nat _ d p.1 → @Ne Nat p.1 c) ∧ AllOff d c r
theorem allOff_of {d c : Addr} : ∀ {l : List (Addr × Obj)}, ((∀ q ∈ l, q.1 < c) ∨ c = d) → AllOff d c l
  | [], _ => trivial
  | p :: r, h => ⟨fun hlt => by
      rcases h with h | rfl
      · exact Nat.ne_of_lt (h p (.head _))
      · exact Nat.ne_of_gt hlt, allOff_of (h.imp_left fun h q hq => h q (.tail _ hq))⟩
section
variable {M : Model} {A : Around} {E : Value → Shared → Prop} {s : Shared} {h₀ : Heap} {L a c P : Addr} {m mg mb : Str → Option Value} {cn : Str} {cs : Scope} {ccd : Value} {cl : List (Str × Addr)} {news rest : List (Addr × Obj)} {g : Obj → List (Addr × Obj)}
  {p : Program} {loose : List Str} {mean : ExcName → Option Value} {name qual : Str} {params : Arguments} {body : List Stmt} {scope : Scope} {ps : Array Value} {pos : Pos} {firstLine : Nat} {clos : List (Str × Addr)} {d : Addr} {od : Obj}
theorem updF_same {o : Obj} : ∀ {l : List (Addr × Obj)} {g : Obj → List (Addr × Obj)}, UpdF P o l g → g o = l
  | _, _, .head _ => rfl
  | _, _, .tail (p := q) _ r => congrArg (q :: ·) (updF_same r)
theorem nestBoth {Q : Value → Shared → Prop} (F : Fr h₀ L s.heap m) (N : News h₀ L s.heap news) (T : Top p loose mean mg mb h₀) (C : CodeHd h₀ c P) (hcd : ccd = .ref c) (U : UpdF P (tabObj ps) news g) (hm : (d, od) ∈ news)
    (hdP : d ≠ P) (S : TabSt pos.line pos.col qual ps d od rest) (hr : ∀ q ∈ rest, q ∈ news)
    (hcl : closureFor scope (envX cn cs L a ccd cl) = pure clos)
    (h : ∀ f c' oc vs t ctv doc h' tk, Fr h₀ L h' m →
      News h₀ L h' ((f, fnMade name qual params body scope clos doc ((mg "__name__").getD .none) c' ctv) :: (c', oc) :: g (tabObj #[rawInt pos.line, rawInt pos.col, .ref c'])) →
      oc.data = .fields vs → vs[1]? = some (.str qual t) → (∀ q ∈ news, q.1 < f) → c' < f → ((∀ q ∈ news, q.1 < c') ∨ c' = d) → (∀ q ∈ rest, q.1 ≠ c') → c' ≠ P → Q (.ref f) { s with heap := h', toks := tk }) :
    wpAny M A (makeFunction name qual params (.stmts body) scope (envX cn cs L a ccd cl) [] [] [] pos firstLine) Q E s := by
  unfold TabSt at S
  obtain ⟨hne, S⟩ := S
  rcases S with rfl | ⟨rfl, vs, t, e1, e2⟩
  · have hP : (P, tabObj #[]) ∈ news := by
      obtain ⟨pre, post, e, _⟩ := U.split
      rw [e]
      exact List.mem_append_right _ (.head _)
    refine nest_K F N T C hcd U trivial rfl hcl fun f c' oc vs t ctv doc h' tk F' N' e1 e2 l1 l2 => ?_
    exact h f c' oc vs t ctv doc h' tk F' N' e1 e2 (fun q hq => Nat.lt_trans (l1 q hq) l2) l2 (.inl l1) (fun q hq => Nat.ne_of_lt (l1 q (hr q hq))) (Nat.ne_of_gt (l1 _ hP))
  · have hP : (P, tabObj #[rawInt pos.line, rawInt pos.col, .ref d]) ∈ news := by
      obtain ⟨pre, post, e, _⟩ := U.split
      rw [e]
      exact List.mem_append_right _ (.head _)
    refine nestHit_K (c' := d) F N T C hcd hP (by simp [TriplesOk, rawInt]) (by simp [codeAmong, rawInt]) hcl fun f ctv doc h' tk F' N' l1 => ?_
    refine h f d od vs t ctv doc h' tk F' ?_ e1 e2 l1 (l1 _ hm) (.inr rfl) hne hdP
    rw [updF_same U]
    intro q hq
    rcases List.mem_cons.mp hq with rfl | hq
    · exact N' _ (.head _)
    · rcases List.mem_cons.mp hq with rfl | hq
      · exact N' _ (.tail _ hm)
      · exact N' _ (.tail _ hq)
end
end Mine
end

section
open PySem PySem.W PyProof.Rows PySem.Calls
namespace Mine
local macro_rules | `(tactic| omega) => `(tactic| first
  | with_reducible assumption
  | (with_reducible refine Nat.ne_of_gt ?_; simp only [*]; done)
  | (with_reducible refine Nat.ne_of_lt ?_; simp only [*]; done)
  | (with_reducible refine Ne.symm ?_; simp only [*, ne_eq, not_false_eq_true]; done)
  | with_reducible exact Nat.le_refl _
  | with_reducible exact room_0 (by assumption)
  | with_reducible exact units_64 (by assumption) (by decide))
local macro_rules | `(tactic| k_room) => `(tactic| first | with_reducible exact room_in (by assumption) (by decide) | with_reducible exact room_s (by assumption) | ktr_room)
local macro_rules | `(tactic| k_units) => `(tactic| first | with_reducible exact units_in (by assumption) (by decide) | with_reducible exact units_s (by assumption) | ktr_units)
local macro_rules | `(tactic| k_all) => `(tactic| first
  | assumption
  | (refine ne_of_lt (by assumption) ?_; (try dsimp only); omega)
  | (refine ne_of_allLt (by assumption) ?_; (try dsimp only); omega)
  | (refine ne_of_allLt (And.right (by assumption)) ?_; (try dsimp only); omega)
  | (refine ne_of_allLt (And.right (And.right (by assumption))) ?_; (try dsimp only); omega)
  | (refine ne_of_allLt (And.right (And.right (And.right (by assumption)))) ?_; (try dsimp only); omega)
  | (refine ne_of_allLt (And.right (And.right (And.right (And.right (by assumption))))) ?_; (try dsimp only); omega)
  | (refine ne_of_allLt (And.right (And.right (And.right (And.right (And.right (by assumption)))))) ?_; (try dsimp only); omega)
  | (refine ne_of_allLt (And.right (And.right (And.right (And.right (And.right (And.right (by assumption))))))) ?_; (try dsimp only); omega)
  | (refine ne_of_allLt (And.right (And.right (And.right (And.right (And.right (And.right (And.right (by assumption)))))))) ?_; (try dsimp only); omega)
  | (refine ne_of_allLt (And.right (And.right (And.right (And.right (And.right (And.right (And.right (And.right (by assumption))))))))) ?_; (try dsimp only); omega)
  | (refine ne_of_allLt (And.right (And.right (And.right (And.right (And.right (And.right (And.right (And.right (And.right (by assumption)))))))))) ?_; (try dsimp only); omega)
  | (refine ne_of_allLt (And.right (And.right (And.right (And.right (And.right (And.right (And.right (And.right (And.right (And.right (by assumption))))))))))) ?_; (try dsimp only); omega)
  | (refine ne_of_allLt (And.right (And.right (And.right (And.right (And.right (And.right (And.right (And.right (And.right (And.right (And.right (by assumption)))))))))))) ?_; (try dsimp only); omega)
  | (refine ne_of_allLt (And.right (And.right (And.right (And.right (And.right (And.right (And.right (And.right (And.right (And.right (And.right (And.right (by assumption))))))))))))) ?_; (try dsimp only); omega)
  | (refine ne_of_allLt (And.right (And.right (And.right (And.right (And.right (And.right (And.right (And.right (And.right (And.right (And.right (And.right (And.right (by assumption)))))))))))))) ?_; (try dsimp only); omega)
  | (refine ne_of_allLt (And.right (And.right (And.right (And.right (And.right (And.right (And.right (And.right (And.right (And.right (And.right (And.right (And.right (And.right (by assumption))))))))))))))) ?_; (try dsimp only); omega)
  | (refine ne_of_allLt (And.right (And.right (And.right (And.right (And.right (And.right (And.right (And.right (And.right (And.right (And.right (And.right (And.right (And.right (And.right (by assumption)))))))))))))))) ?_; (try dsimp only); omega)
  | fail "no order at hand")
section
open PySem PySem.W PyProof.Rows
set_option Elab.async false
set_option maxRecDepth 100000
set_option maxHeartbeats 0
open PySem.Calls
/-- the def within a def's body -/
noncomputable def innerOf : List Stmt → Arguments × List Stmt × Scope
  | _ :: .FunctionDef _ ps bd _ _ _ sc _ _ _ :: _ => (ps, bd, sc)
  | .FunctionDef _ ps bd _ _ _ sc _ _ _ :: _ => (ps, bd, sc)
  | _ => default
noncomputable def parsI1 : Arguments := by
  refine (?f : (X : Arguments) → X = (innerOf body10).1 → Arguments) ?X ?h
  case f => exact fun X _ => X
  rotate_left
  case h => conv => rhs; whnf
noncomputable def bodyI1 : List Stmt := by
  refine (?f : (X : List Stmt) → X = (innerOf body10).2.1 → List Stmt) ?X ?h
  case f => exact fun X _ => X
  rotate_left
  case h => conv => rhs; whnf
noncomputable def scopeI1 : Scope := by
  refine (?f : (X : Scope) → X = (innerOf body10).2.2 → Scope) ?X ?h
  case f => exact fun X _ => X
  rotate_left
  case h => conv => rhs; whnf
noncomputable def midOf (lo hi : Int) : Int := (lo + hi).fdiv (2 ^ (1 : Int).toNat)
noncomputable def upOf (n x lo mid : Int) : Int := x.fdiv (2 ^ ((mid - lo) * n).toNat)
noncomputable def lowOf (n x lo mid : Int) : Int := Builtin.bitXor x (upOf n x lo mid * 2 ^ ((mid - lo) * n).toNat)
/-- the digits of x, put into ns from lo to hi -/
noncomputable def putD (n : Int) : Nat → Int → Int → Int → List Int → List Int
  | 0, _, _, _, ns => ns
  | k + 1, x, lo, hi, ns => if lo + 1 = hi then ns.set lo.toNat x else
      putD n k (upOf n x lo (midOf lo hi)) (midOf lo hi) hi (putD n k (lowOf n x lo (midOf lo hi)) lo (midOf lo hi) ns)
noncomputable def okP (n : Int) : Nat → Int → Int → Int → Bool
  | 0, _, _, _ => false
  | k + 1, x, lo, hi => decide (0 ≤ x) && decide (x < 1073741824) && (decide (lo + 1 = hi) || (okP n k (lowOf n x lo (midOf lo hi)) lo (midOf lo hi) && okP n k (upOf n x lo (midOf lo hi)) (midOf lo hi) hi))
theorem putD_length (n : Int) : ∀ (k : Nat) (x lo hi : Int) (ns : List Int), (putD n k x lo hi ns).length = ns.length
  | 0, _, _, _, _ => rfl
  | k + 1, x, lo, hi, ns => by
    unfold putD
    split
    · exact List.length_set ..
    · rw [putD_length n k, putD_length n k]
noncomputable abbrev led1 (f c' D l0 cI cD cN : Addr) (oc ol oI oD oN : Obj) (qual : Str) (dc pm ct : Value) (rest : List (Addr × Obj)) (vs : List Value) (ep : Nat) : List (Addr × Obj) :=
  (f, fnMade (Str.ofString "inner") qual parsI1 bodyI1 scopeI1 [(Str.ofString "n", cN), (Str.ofString "inner", cI), (Str.ofString "a_digits", cD)] dc pm c' ct) :: (c', oc) :: (D, listOf vs.toArray ep) :: (l0, ol) :: (cI, oI) :: (cD, oD) :: (cN, oN) :: rest
noncomputable def In1 (w : World) (p : Program) (loose : List Str) (mean : ExcName → Option Value) (mg mb : Str → Option Value) (k : Nat) : Prop :=
  ∀ (f c' D l0 cI cD cN : Addr) (oc ol oI oD oN : Obj) (qual : Str) (dc pm ct : Value) (fv : Array Value) (tq tn : Tok) (rest : List (Addr × Obj)) (vs : List Value) (ns : List Int) (ep : Nat) (n x lo hi : Int) (tx tl th : Tok),
    oc.data = .fields fv → fv[1]? = some (.str qual tq) → oI.data = .cell (some (.ref f)) → oD.data = .cell (some (.ref D)) → oN.data = .cell (some (.int n tn)) →
    (@Ne Nat D f ∧ @Ne Nat D c' ∧ @Ne Nat D l0 ∧ @Ne Nat D cI ∧ @Ne Nat D cD ∧ @Ne Nat D cN) → (∀ q ∈ rest, q.1 ≠ D) → 0 < n → n < 31 → IntsAre vs ns → 0 ≤ lo → lo < hi → hi ≤ ns.length → ns.length ≤ 10 → okP n k x lo hi = true →
    ConN w p loose mean mg mb k f (led1 f c' D l0 cI cD cN oc ol oI oD oN qual dc pm ct rest vs ep) [.int x tx, .int lo tl, .int hi th]
      fun h₀ L m s Q => ∀ (vs' : List Value) (h' : Heap) (tk' : Nat), IntsAre vs' (putD n k x lo hi ns) → Fr h₀ L h' m → News h₀ L h' (led1 f c' D l0 cI cD cN oc ol oI oD oN qual dc pm ct rest vs' ep) → Q .none { s with heap := h', toks := tk' }
theorem in1_zero {w : World} {p : Program} {loose : List Str} {mean : ExcName → Option Value} {mg mb : Str → Option Value} : In1 w p loose mean mg mb 0 := by
  unfold In1
  intros
  rename_i h
  exact absurd h Bool.false_ne_true
theorem In1.use {w : World} {p : Program} {loose : List Str} {mean : ExcName → Option Value} {mg mb : Str → Option Value} {k : Nat} {f c' D l0 cI cD cN : Addr} {oc ol oI oD oN : Obj} {qual : Str} {dc pm ct : Value} {fv : Array Value} {tq tn : Tok} {rest : List (Addr × Obj)} {vs : List Value} {ns : List Int} {ep : Nat} {n x lo hi : Int} {tx tl th : Tok}
    {dp un : Nat} {gd : Option (List Code)} {cn : Str} {names : List (Str × NameKind)} {g1 g2 : Bool} {more : List (Str × Const)} {a : Addr} {ccd : Value} {cl : List (Str × Addr)} {outer : List Env} {A₀ : Around} {base h₀ : Heap} {L : Addr} {m : Str → Option Value} {s : Shared} {Q E : Value → Shared → Prop}
    (B : Below A₀ base outer h₀) (F : Fr h₀ L s.heap m) (X : (K w.params).In h₀) (N : News h₀ L s.heap (led1 f c' D l0 cI cD cN oc ol oI oD oN qual dc pm ct rest vs ep)) (T : Top p loose mean mg mb h₀) (H : In1 w p loose mean mg mb k)
    (d1 : oc.data = .fields fv) (d2 : fv[1]? = some (.str qual tq)) (d3 : oI.data = .cell (some (.ref f))) (d4 : oD.data = .cell (some (.ref D))) (d5 : oN.data = .cell (some (.int n tn)))
    (hne : @Ne Nat D f ∧ @Ne Nat D c' ∧ @Ne Nat D l0 ∧ @Ne Nat D cI ∧ @Ne Nat D cD ∧ @Ne Nat D cN) (hr : ∀ q ∈ rest, q.1 ≠ D) (hn : 0 < n) (hn2 : n < 31) (hi1 : IntsAre vs ns) (h0 : 0 ≤ lo) (h1 : lo < hi) (h2 : hi ≤ ns.length) (h3 : ns.length ≤ 10) (hx : okP n k x lo hi = true)
    (hd : dp + k + 1 < recursionLimit) (hu : un + 8 * (k + 1) < cLine)
    (hret : ∀ (vs' : List Value) (h' : Heap) (tk' : Nat), IntsAre vs' (putD n k x lo hi ns) → Fr h₀ L h' m → News h₀ L h' (led1 f c' D l0 cI cD cN oc ol oI oD oN qual dc pm ct rest vs' ep) → Q .none { s with heap := h', toks := tk' }) :
      wpAny (model PySem.Challenge.rw_sn0081_01.row.prog w) (ktrTop dp un gd cn ⟨.function, names, g1, g2, more⟩ L a ccd cl outer) (call (.ref f) [.int x tx, .int lo tl, .int hi th]) Q E s :=
  (H f c' D l0 cI cD cN oc ol oI oD oN qual dc pm ct fv tq tn rest vs ns ep n x lo hi tx tl th d1 d2 d3 d4 d5 hne hr hn hn2 hi1 h0 h1 h2 h3 hx).use B F X N T hd hu hret
theorem okP_succ {n : Int} {k : Nat} {x lo hi : Int} (h : okP n (k + 1) x lo hi = true) : 0 ≤ x ∧ x < 1073741824 ∧ (lo + 1 ≠ hi → okP n k (lowOf n x lo (midOf lo hi)) lo (midOf lo hi) = true ∧ okP n k (upOf n x lo (midOf lo hi)) (midOf lo hi) hi = true) := by
  unfold okP at h
  simp only [Bool.and_eq_true, Bool.or_eq_true, decide_eq_true_eq] at h
  exact ⟨h.1.1, h.1.2, fun e => h.2.resolve_left e⟩
theorem midOf_is (lo hi : Int) : midOf lo hi = (lo + hi) / 2 := by
  unfold midOf
  rw [Int.fdiv_eq_ediv_of_nonneg _ (by decide)]
  rfl
theorem okP_low {n : Int} {k : Nat} {x lo hi : Int} (h : okP n (k + 1) x lo hi = true) (e : lo + 1 ≠ hi) : okP n k (lowOf n x lo (midOf lo hi)) lo (midOf lo hi) = true := ((okP_succ h).2.2 e).1
theorem okP_up {n : Int} {k : Nat} {x lo hi : Int} (h : okP n (k + 1) x lo hi = true) (e : lo + 1 ≠ hi) : okP n k (upOf n x lo (midOf lo hi)) (midOf lo hi) hi = true := ((okP_succ h).2.2 e).2
theorem mid_0 {lo hi : Int} (h : 0 ≤ lo) (h1 : lo < hi) : 0 ≤ midOf lo hi := by rw [midOf_is]; omega
theorem mid_lo {lo hi : Int} (h1 : lo < hi) (e : lo + 1 ≠ hi) : lo < midOf lo hi := by rw [midOf_is]; omega
theorem mid_hi {lo hi : Int} (h1 : lo < hi) : midOf lo hi < hi := by rw [midOf_is]; omega
theorem mid_len {lo hi : Int} {z : Int} (h1 : lo < hi) (h2 : hi ≤ z) : midOf lo hi ≤ z := by rw [midOf_is]; omega
theorem sh_0 {lo hi n : Int} (h1 : lo < hi) (e : lo + 1 ≠ hi) (hn : 0 < n) : 0 ≤ (midOf lo hi - lo) * n := Int.mul_nonneg (by have := mid_lo h1 e; omega) (by omega)
theorem sh_le {lo hi n : Int} {z : Nat} (h0 : 0 ≤ lo) (h1 : lo < hi) (h2 : hi ≤ z) (h3 : z ≤ 10) (e : lo + 1 ≠ hi) (hn : 0 < n) (hn2 : n < 31) : (midOf lo hi - lo) * n ≤ 1000000 := by
  have a : midOf lo hi - lo ≤ 10 := by rw [midOf_is]; omega
  have b : 0 ≤ midOf lo hi - lo := by have := mid_lo h1 e; omega
  have c : (midOf lo hi - lo) * n ≤ 10 * 31 := Int.mul_le_mul a (by omega) (by omega) (by omega)
  omega
theorem up_small {n x lo mid : Int} (h0 : 0 ≤ x) (h1 : x < 1073741824) : (upOf n x lo mid).natAbs < 2 ^ 64 := by
  unfold upOf
  have e : (0 : Int) < 2 ^ ((mid - lo) * n).toNat := Int.pow_pos (by decide)
  rw [Int.fdiv_eq_ediv_of_nonneg _ (by omega)]
  have a : 0 ≤ x / 2 ^ ((mid - lo) * n).toNat := Int.ediv_nonneg h0 (by omega)
  have b : x / 2 ^ ((mid - lo) * n).toNat ≤ x := Int.ediv_le_self _ h0
  omega
local macro_rules | `(tactic| walk_at "binaryOp RShift int int") => `(tactic| (k_here; refine stuck_of ?_))
local macro_rules | `(tactic| walk_at "binaryOp LShift int int") => `(tactic| (k_here; refine stuck_of ?_))
local macro_rules | `(tactic| walk_at "call ref") => `(tactic| (k_here; refine stuck_of ?_))
theorem in1_succ {w : World} {p : Program} {loose : List Str} {mean : ExcName → Option Value} {mg mb : Str → Option Value} {k : Nat} (ih : In1 w p loose mean mg mb k) : In1 w p loose mean mg mb (k + 1) := by
  intro f c' D l0 cI cD cN oc ol oI oD oN qual dc pm ct fv tq tn rest vs ns ep n x lo hi tx tl th d1 d2 d3 d4 d5 hne hr hn hn2 hi1 h0 h1 h2 h3 hok
  obtain ⟨hx, hx2, hstep⟩ := okP_succ hok
  have hm := midOf_is lo hi
  unfold ConN
  delta led1 parsI1 bodyI1 scopeI1
  dsimp only
  k_fill
  intros; rename_i hret
  have hC := codeHd_of_K (c := 75) (P := 71) (by assumption) (by kernel_rfl)
  refine wpAny_call ?_
  k_dflt kn_enter
  k_steps
  repeat' ((with_reducible refine of_stuck ?_); (first
    | ((with_reducible show wpAny _ _ (call (Value.ref _) _) _ _ _); refine In1.use (by k_asm) (by k_asm) (by k_asm) (by k_asm) (by k_asm) ih d1 d2 d3 d4 d5 hne hr hn hn2 (by assumption) (by first | exact h0 | exact mid_0 h0 h1) (by first | exact mid_lo h1 (by assumption) | exact mid_hi h1) (by first | exact mid_len h1 h2 | (rw [putD_length]; exact h2)) (by first | exact h3 | (rw [putD_length]; exact h3)) (by first | exact okP_low hok (by assumption) | exact okP_up hok (by assumption)) (by k_room) (by k_units) ?_; intro vs' h' tk' i' F' N'; (delta led1 at N'); (try dsimp only at N'))
    | ((with_reducible show wpAny _ _ (binaryOp .LShift _ _) _ _ _); refine lshift_int_small (sh_0 h1 (by assumption) hn) (sh_le h0 h1 h2 h3 (by assumption) hn hn2) (up_small hx hx2) ?_)
    | ((with_reducible show wpAny _ _ (binaryOp .RShift _ _) _ _ _); first | refine rshift_int (by decide) ?_ | refine rshift_int (sh_0 h1 (by assumption) hn) ?_)); k_steps)
  · exact hret _ _ _ (by unfold putD; rw [if_pos (by assumption)]; assumption) (by k_asm) (by k_asm)
  · exact hret _ _ _ (by unfold putD; rw [if_neg (by assumption)]; assumption) (by k_asm) (by k_asm)
theorem in1 {w : World} {p : Program} {loose : List Str} {mean : ExcName → Option Value} {mg mb : Str → Option Value} : ∀ k, In1 w p loose mean mg mb k
  | 0 => in1_zero
  | k + 1 => in1_succ (in1 k)
end

local macro_rules | `(tactic| walk_at "no line 0") => `(tactic| fail)
local macro_rules | `(tactic| walk_at "no line 1") => `(tactic| fail)
section
open PySem PySem.W PyProof.Rows
set_option Elab.async false
set_option maxRecDepth 100000
set_option maxHeartbeats 0
open PySem.Calls
noncomputable def parsI2 : Arguments := by
  refine (?f : (X : Arguments) → X = (innerOf body11).1 → Arguments) ?X ?h
  case f => exact fun X _ => X
  rotate_left
  case h => conv => rhs; whnf
noncomputable def bodyI2 : List Stmt := by
  refine (?f : (X : List Stmt) → X = (innerOf body11).2.1 → List Stmt) ?X ?h
  case f => exact fun X _ => X
  rotate_left
  case h => conv => rhs; whnf
noncomputable def scopeI2 : Scope := by
  refine (?f : (X : Scope) → X = (innerOf body11).2.2 → Scope) ?X ?h
  case f => exact fun X _ => X
  rotate_left
  case h => conv => rhs; whnf
/-- the number that the digits of ns from lo to hi make -/
noncomputable def getV (n : Int) : Nat → Int → Int → List Int → Int
  | 0, _, _, _ => 0
  | k + 1, lo, hi, ns => if lo + 1 = hi then ns.getD lo.toNat 0 else
      getV n k (midOf lo hi) hi ns * 2 ^ ((midOf lo hi - lo) * n).toNat + getV n k lo (midOf lo hi) ns
noncomputable def okG (n : Int) : Nat → Int → Int → List Int → Bool
  | 0, _, _, _ => false
  | k + 1, lo, hi, ns => decide (lo + 1 = hi) || (okG n k (midOf lo hi) hi ns && okG n k lo (midOf lo hi) ns && decide ((getV n k (midOf lo hi) hi ns).natAbs < 2 ^ 64))
theorem okG_succ {n : Int} {k : Nat} {lo hi : Int} {ns : List Int} (h : okG n (k + 1) lo hi ns = true) (e : lo + 1 ≠ hi) : okG n k (midOf lo hi) hi ns = true ∧ okG n k lo (midOf lo hi) ns = true ∧ (getV n k (midOf lo hi) hi ns).natAbs < 2 ^ 64 := by
  unfold okG at h
  simp only [Bool.and_eq_true, Bool.or_eq_true, decide_eq_true_eq] at h
  have h := h.resolve_left e
  exact ⟨h.1.1, h.1.2, h.2⟩
noncomputable abbrev led2 (f c' D cI cN cG : Addr) (oc oI oN oG : Obj) (qual : Str) (dc pm ct : Value) (rest : List (Addr × Obj)) (vs : List Value) (ep : Nat) : List (Addr × Obj) :=
  (f, fnMade (Str.ofString "inner") qual parsI2 bodyI2 scopeI2 [(Str.ofString "n", cN), (Str.ofString "inner", cI), (Str.ofString "digits", cG)] dc pm c' ct) :: (c', oc) :: (cI, oI) :: (cN, oN) :: (cG, oG) :: (D, listOf vs.toArray ep) :: rest
noncomputable def In2 (w : World) (p : Program) (loose : List Str) (mean : ExcName → Option Value) (mg mb : Str → Option Value) (k : Nat) : Prop :=
  ∀ (f c' D cI cN cG : Addr) (oc oI oN oG : Obj) (qual : Str) (dc pm ct : Value) (fv : Array Value) (tq tn : Tok) (rest : List (Addr × Obj)) (vs : List Value) (ns : List Int) (ep : Nat) (n lo hi : Int) (tl th : Tok),
    oc.data = .fields fv → fv[1]? = some (.str qual tq) → oI.data = .cell (some (.ref f)) → oG.data = .cell (some (.ref D)) → oN.data = .cell (some (.int n tn)) →
    0 < n → n < 31 → IntsAre vs ns → 0 ≤ lo → lo < hi → hi ≤ ns.length → ns.length ≤ 10 → okG n k lo hi ns = true →
    ConN w p loose mean mg mb k f (led2 f c' D cI cN cG oc oI oN oG qual dc pm ct rest vs ep) [.int lo tl, .int hi th]
      fun h₀ L m s Q => ∀ (t : Tok) (h' : Heap) (tk' : Nat), Fr h₀ L h' m → News h₀ L h' (led2 f c' D cI cN cG oc oI oN oG qual dc pm ct rest vs ep) → Q (.int (getV n k lo hi ns) t) { s with heap := h', toks := tk' }
theorem In2.use {w : World} {p : Program} {loose : List Str} {mean : ExcName → Option Value} {mg mb : Str → Option Value} {k : Nat} {f c' D cI cN cG : Addr} {oc oI oN oG : Obj} {qual : Str} {dc pm ct : Value} {fv : Array Value} {tq tn : Tok} {rest : List (Addr × Obj)} {vs : List Value} {ns : List Int} {ep : Nat} {n lo hi : Int} {tl th : Tok}
    {dp un : Nat} {gd : Option (List Code)} {cn : Str} {names : List (Str × NameKind)} {g1 g2 : Bool} {more : List (Str × Const)} {a : Addr} {ccd : Value} {cl : List (Str × Addr)} {outer : List Env} {A₀ : Around} {base h₀ : Heap} {L : Addr} {m : Str → Option Value} {s : Shared} {Q E : Value → Shared → Prop}
    (B : Below A₀ base outer h₀) (F : Fr h₀ L s.heap m) (X : (K w.params).In h₀) (N : News h₀ L s.heap (led2 f c' D cI cN cG oc oI oN oG qual dc pm ct rest vs ep)) (T : Top p loose mean mg mb h₀) (H : In2 w p loose mean mg mb k)
    (d1 : oc.data = .fields fv) (d2 : fv[1]? = some (.str qual tq)) (d3 : oI.data = .cell (some (.ref f))) (d4 : oG.data = .cell (some (.ref D))) (d5 : oN.data = .cell (some (.int n tn)))
    (hn : 0 < n) (hn2 : n < 31) (hi1 : IntsAre vs ns) (h0 : 0 ≤ lo) (h1 : lo < hi) (h2 : hi ≤ ns.length) (h3 : ns.length ≤ 10) (hx : okG n k lo hi ns = true)
    (hd : dp + k + 1 < recursionLimit) (hu : un + 8 * (k + 1) < cLine)
    (hret : ∀ (t : Tok) (h' : Heap) (tk' : Nat), Fr h₀ L h' m → News h₀ L h' (led2 f c' D cI cN cG oc oI oN oG qual dc pm ct rest vs ep) → Q (.int (getV n k lo hi ns) t) { s with heap := h', toks := tk' }) :
      wpAny (model PySem.Challenge.rw_sn0081_01.row.prog w) (ktrTop dp un gd cn ⟨.function, names, g1, g2, more⟩ L a ccd cl outer) (call (.ref f) [.int lo tl, .int hi th]) Q E s :=
  (H f c' D cI cN cG oc oI oN oG qual dc pm ct fv tq tn rest vs ns ep n lo hi tl th d1 d2 d3 d4 d5 hn hn2 hi1 h0 h1 h2 h3 hx).use B F X N T hd hu hret
theorem okG_up {n : Int} {k : Nat} {lo hi : Int} {ns : List Int} (h : okG n (k + 1) lo hi ns = true) (e : lo + 1 ≠ hi) : okG n k (midOf lo hi) hi ns = true := (okG_succ h e).1
theorem okG_low {n : Int} {k : Nat} {lo hi : Int} {ns : List Int} (h : okG n (k + 1) lo hi ns = true) (e : lo + 1 ≠ hi) : okG n k lo (midOf lo hi) ns = true := (okG_succ h e).2.1
theorem okG_val {n : Int} {k : Nat} {lo hi : Int} {ns : List Int} (h : okG n (k + 1) lo hi ns = true) (e : lo + 1 ≠ hi) : (getV n k (midOf lo hi) hi ns).natAbs < 2 ^ 64 := (okG_succ h e).2.2
local macro_rules | `(tactic| walk_at "binaryOp LShift int int") => `(tactic| (k_here; refine stuck_of ?_))
local macro_rules | `(tactic| walk_at "call ref") => `(tactic| (k_here; refine stuck_of ?_))
theorem ret_int {Q : Value → Shared → Prop} {x y : Int} {t : Tok} {s : Shared} (e : y = x) (h : Q (.int x t) s) : Q (.int y t) s := e ▸ h
theorem in2_zero {w : World} {p : Program} {loose : List Str} {mean : ExcName → Option Value} {mg mb : Str → Option Value} : In2 w p loose mean mg mb 0 := by
  unfold In2
  intros
  rename_i h
  exact absurd h Bool.false_ne_true
theorem in2_succ {w : World} {p : Program} {loose : List Str} {mean : ExcName → Option Value} {mg mb : Str → Option Value} {k : Nat} (ih : In2 w p loose mean mg mb k) : In2 w p loose mean mg mb (k + 1) := by
  intro f c' D cI cN cG oc oI oN oG qual dc pm ct fv tq tn rest vs ns ep n lo hi tl th d1 d2 d3 d4 d5 hn hn2 hi1 h0 h1 h2 h3 hok
  unfold ConN
  delta led2 parsI2 bodyI2 scopeI2
  dsimp only
  k_fill
  intros; rename_i hret
  have hC := codeHd_of_K (c := 75) (P := 71) (by assumption) (by kernel_rfl)
  refine wpAny_call ?_
  k_dflt kn_enter
  k_steps
  repeat' ((with_reducible refine of_stuck ?_); (first
    | ((with_reducible show wpAny _ _ (call (Value.ref _) _) _ _ _); refine In2.use (by k_asm) (by k_asm) (by k_asm) (by k_asm) (by k_asm) ih d1 d2 d3 d4 d5 hn hn2 hi1 (by first | exact h0 | exact mid_0 h0 h1) (by first | exact mid_lo h1 (by assumption) | exact mid_hi h1) (by first | exact mid_len h1 h2 | exact h2) h3 (by first | exact okG_low hok (by assumption) | exact okG_up hok (by assumption)) (by k_room) (by k_units) ?_; intro t' h' tk' F' N'; (delta led2 at N'); (try dsimp only at N'))
    | ((with_reducible show wpAny _ _ (binaryOp .LShift _ _) _ _ _); refine lshift_int_small (sh_0 h1 (by assumption) hn) (sh_le h0 h1 h2 h3 (by assumption) hn hn2) (okG_val hok (by assumption)) ?_)); k_steps)
  · exact ret_int (by unfold getV; rw [if_pos (by assumption)]) (hret _ _ _ (by k_asm) (by k_asm))
  · exact ret_int (by conv => rhs; unfold getV; rw [if_neg (by assumption)]
                      rfl) (hret _ _ _ (by k_asm) (by k_asm))
theorem in2 {w : World} {p : Program} {loose : List Str} {mean : ExcName → Option Value} {mg mb : Str → Option Value} : ∀ k, In2 w p loose mean mg mb k
  | 0 => in2_zero
  | k + 1 => in2_succ (in2 k)
end

section
open PySem PySem.W PyProof.Rows
set_option Elab.async false
set_option maxRecDepth 100000
set_option maxHeartbeats 0
open PySem.Calls
noncomputable abbrev qual1 : Str := Str.ofString "_int2digits.<locals>.inner"
noncomputable abbrev qual2 : Str := Str.ofString "_digits2int.<locals>.inner"
noncomputable abbrev full (line col : Nat) (c : Addr) : Array Value := #[rawInt line, rawInt col, .ref c]
/-- the digits of a: d of them -/
noncomputable def digs (a n : Int) (d : Nat) : List Int := if a = 0 then (List.replicate (d : Int).toNat [0]).flatten else putD n 9 a 0 d (List.replicate (d : Int).toNat [0]).flatten
theorem ok_at {n a z : Int} {d : Nat} (h : a ≠ 0 → 0 < d ∧ okP n 9 a 0 d = true) (ha : a ≠ 0) (e : z = d) : okP n 9 a 0 z = true := by rw [e]; exact (h ha).2
theorem pos_at {n a z : Int} {d : Nat} (h : a ≠ 0 → 0 < d ∧ okP n 9 a 0 d = true) (ha : a ≠ 0) (e : z = d) : 0 < z := by rw [e]; have := (h ha).1; omega
theorem digs_z {a n : Int} {d : Nat} (h : a = 0) : digs a n d = (List.replicate (d : Int).toNat [0]).flatten := if_pos h
theorem digs_p {a n z : Int} {d : Nat} (h : a ≠ 0) (e : z = d) : digs a n d = putD n 9 a 0 z (List.replicate (d : Int).toNat [0]).flatten := by rw [e]; exact if_neg h
theorem digs_ints {a n z : Int} {d : Nat} {vs : List Value} (i : IntsAre vs (putD n 9 a 0 z (List.replicate (d : Int).toNat [0]).flatten)) (h : a ≠ 0) (e : z = d) : IntsAre vs (digs a n d) := by rw [digs_p h e]; exact i
theorem dig_news {h₀ h : Heap} {L c r : Addr} {oc o t : Obj} {a1 a2 a3 a4 a5 a6 : Addr × Obj} {rest : List (Addr × Obj)} (N : News h₀ L h (a1 :: (c, oc) :: (r, o) :: a2 :: a3 :: a4 :: a5 :: (71, t) :: a6 :: rest)) : News h₀ L h ((r, o) :: (71, t) :: (c, oc) :: rest) :=
  cb_drop N (by simp +contextual)
theorem tab_hot {line col : Nat} {q : Str} {d : Addr} {od : Obj} {rest : List (Addr × Obj)} {vs : Array Value} {t : Tok} (h1 : od.data = .fields vs) (h2 : vs[1]? = some (.str q t)) (h3 : ∀ q ∈ rest, q.1 ≠ d) : TabSt line col q (full line col d) d od rest := ⟨h3, .inr ⟨rfl, vs, t, h1, h2⟩⟩
theorem nk_eq {n1 k : Nat} (h : 0 ≤ (k : Int) → (n1 : Int) = ((0 + 1 : Nat) : Int) * (k : Int)) : (n1 : Int) = (k : Int) := by
  have := h (by omega)
  omega
theorem nk_len {l n1 k : Nat} (e : l = n1) (h : 0 ≤ (k : Int) → (n1 : Int) = ((0 + 1 : Nat) : Int) * (k : Int)) (hk : k ≤ 10) : l ≤ 10 := by
  have := h (by omega)
  omega
theorem nk_62 {n1 k : Nat} (h : 0 ≤ (k : Int) → (n1 : Int) = ((0 + 1 : Nat) : Int) * (k : Int)) (hk : k ≤ 10) : n1 < 2 ^ 62 := by
  have := h (by omega)
  omega
local macro_rules | `(tactic| omega) => `(tactic| first | with_reducible exact nk_eq (by assumption) | with_reducible exact nk_len (by assumption) (by assumption) (by assumption) | with_reducible exact nk_62 (by assumption) (by assumption))
local macro_rules | `(tactic| walk_at "exec FunctionDef") => `(tactic| (k_here; refine stuck_of ?_))
local macro_rules | `(tactic| walk_at "binaryOp Mult ref int") => `(tactic| (k_here; (with_reducible show wpAny _ _ (binaryOp _ (Value.ref _) (Value.int (Int.fdiv _ _) _)) _ _ _); refine stuck_of ?_))
local macro_rules | `(tactic| walk_at "call ref") => `(tactic| (k_here; refine stuck_of ?_))
theorem c_int2digits {w : World} {p : Program} {loose : List Str} {mean : ExcName → Option Value} {mg mb : Str → Option Value} {rest : List (Addr × Obj)} (ps : Array Value) (d : Addr) (od : Obj) (a n : Int) (k : Nat) (t u : Tok) (ha : 0 ≤ a) (haa : a < 1073741824) (hn : 0 < n) (hnn : n < 31) (hd : (((Builtin.Int.intBits a : Nat) : Int) + n - 1).fdiv n = (k : Int)) (hk : k ≤ 10) (hok : a ≠ 0 → 0 < k ∧ okP n 9 a 0 k = true)
    (hT : TabSt 41 4 qual1 ps d od rest) (hdn : d ≠ 71) (hrn : ∀ q ∈ rest, q.1 ≠ 71) :
    ConN w p loose mean mg mb 10 76 ((71, tabObj ps) :: (d, od) :: rest) [.int a t, .int n u] fun h₀ L m s Q =>
      ∀ (r : Addr) (vs : List Value) (c : Nat) (d' : Addr) (od' : Obj) (h' : Heap) (tk' : Nat), IntsAre vs (digs a n k) → Fr h₀ L h' m → News h₀ L h' ((r, listOf vs.toArray c) :: (71, tabObj (full 41 4 d')) :: (d', od') :: rest) →
        TabSt 41 4 qual1 (full 41 4 d') d' od' rest → d' ≠ 71 → @Ne Nat d' r → (@LT.lt Nat _ 71 r ∧ ∀ q ∈ rest, q.1 < r) → Q (.ref r) { s with heap := h', toks := tk' } := by
  unfold ConN
  k_fill
  intros; rename_i hret
  have hC := codeHd_of_K (c := 75) (P := 71) (by assumption) (by kernel_rfl)
  refine wpAny_call ?_
  k_dflt k_enter
  k_steps
  repeat' ((with_reducible refine of_stuck ?_); (first
    | ((with_reducible show wpAny _ _ (call (Value.ref _) _) _ _ _); k_dflt (refine In1.use (by k_asm) (by k_asm) (by k_asm) (by k_asm) (by k_asm) (in1 9) (by assumption) (by assumption) (by assumption) (by assumption) (by assumption) (by refine ⟨?_, ?_, ?_, ?_, ?_, ?_⟩ <;> omega) (by k_all) (by assumption) (by assumption) (by assumption) (by decide) (pos_at (by assumption) (by assumption) (by omega)) (by omega) (by omega) (ok_at (by assumption) (by assumption) (by omega)) (by k_room) (by k_units) ?_); intro vs' h' tk' i' F' N'; (delta led1 at N'); (try dsimp only at N'))
    | ((with_reducible show wpAny _ _ (binaryOp _ (Value.ref _) (Value.int (Int.fdiv _ _) _)) _ _ _); (rename (Int.fdiv _ _ = _) => hd9); rw [hd9])
    | ((with_reducible show wpAny _ _ (exec _ _) _ _ _); (refine' nestDef_K ?d0 ?k0 ?a0 ?_; (case d0 => exact rfl); (case k0 => exact rfl); (case a0 => exact rfl)); (refine' nestBoth ?F ?N ?T ?C ?cd ?U ?hm ?dP ?S ?hr ?cl ?_; (case F => k_asm); (case N => k_asm); (case T => k_asm); (case cd => exact rfl); (case C => first | assumption | exact CodeHd.keeps (by assumption) (Fr.keep (by assumption))); (case U => k_updF); (case S => (rename TabSt _ _ _ _ _ _ _ => hS9); with_unfolding_all exact hS9); (case hm => k_mem); (case dP => assumption); (case hr => kcj_all); (case cl => exact rfl); k_whole); intro f' c' oc' vs' t' ct' dc' h' tk' F' N' d1' d2' l1 l2 l3 l4 l5; (try dsimp only at N'); (try k_lt l1); (try (replace l3 := allOff_of l3; simp (maxDischargeDepth := 6) only [AllOff, and_true, true_and, *, true_implies, false_implies, Nat.lt_add_right, Nat.lt_irrefl] at l3)))); k_steps)
  · exact hret _ _ _ _ _ _ _ (digs_ints (by assumption) (by assumption) (by omega)) (by k_asm) (dig_news (by k_asm)) (tab_hot (by assumption) (by rename (_[1]? = some (Value.str _ _)) => h9; with_unfolding_all exact h9) (by assumption)) (by assumption) (by omega) ⟨by omega, by first     | exact allLt_mem (by assumption)     | exact allLt_mem (And.right (by assumption))     | exact allLt_mem (And.right (And.right (by assumption)))     | exact allLt_mem (And.right (And.right (And.right (by assumption))))     | exact allLt_mem (And.right (And.right (And.right (And.right (by assumption)))))     | exact allLt_mem (And.right (And.right (And.right (And.right (And.right (by assumption))))))     | exact allLt_mem (And.right (And.right (And.right (And.right (And.right (And.right (by assumption)))))))     | exact allLt_mem (And.right (And.right (And.right (And.right (And.right (And.right (And.right (by assumption))))))))     | exact allLt_mem (And.right (And.right (And.right (And.right (And.right (And.right (And.right (And.right (by assumption)))))))))     | exact allLt_mem (And.right (And.right (And.right (And.right (And.right (And.right (And.right (And.right (And.right (by assumption))))))))))     | exact allLt_mem (And.right (And.right (And.right (And.right (And.right (And.right (And.right (And.right (And.right (And.right (by assumption)))))))))))     | exact allLt_mem (And.right (And.right (And.right (And.right (And.right (And.right (And.right (And.right (And.right (And.right (And.right (by assumption))))))))))))     | exact allLt_mem (And.right (And.right (And.right (And.right (And.right (And.right (And.right (And.right (And.right (And.right (And.right (And.right (by assumption)))))))))))))     | exact allLt_mem (And.right (And.right (And.right (And.right (And.right (And.right (And.right (And.right (And.right (And.right (And.right (And.right (And.right (by assumption))))))))))))))     | exact allLt_mem (And.right (And.right (And.right (And.right (And.right (And.right (And.right (And.right (And.right (And.right (And.right (And.right (And.right (And.right (by assumption)))))))))))))))     | exact allLt_mem (And.right (And.right (And.right (And.right (And.right (And.right (And.right (And.right (And.right (And.right (And.right (And.right (And.right (And.right (And.right (by assumption)))))))))))))))) ⟩
  · exact hret _ _ _ _ _ _ _ (by rw [digs_z (by assumption)]; assumption) (by k_asm) (dig_news (by k_asm)) (tab_hot (by assumption) (by rename (_[1]? = some (Value.str _ _)) => h9; with_unfolding_all exact h9) (by assumption)) (by assumption) (by omega) ⟨by omega, by first     | exact allLt_mem (by assumption)     | exact allLt_mem (And.right (by assumption))     | exact allLt_mem (And.right (And.right (by assumption)))     | exact allLt_mem (And.right (And.right (And.right (by assumption))))     | exact allLt_mem (And.right (And.right (And.right (And.right (by assumption)))))     | exact allLt_mem (And.right (And.right (And.right (And.right (And.right (by assumption))))))     | exact allLt_mem (And.right (And.right (And.right (And.right (And.right (And.right (by assumption)))))))     | exact allLt_mem (And.right (And.right (And.right (And.right (And.right (And.right (And.right (by assumption))))))))     | exact allLt_mem (And.right (And.right (And.right (And.right (And.right (And.right (And.right (And.right (by assumption)))))))))     | exact allLt_mem (And.right (And.right (And.right (And.right (And.right (And.right (And.right (And.right (And.right (by assumption))))))))))     | exact allLt_mem (And.right (And.right (And.right (And.right (And.right (And.right (And.right (And.right (And.right (And.right (by assumption)))))))))))     | exact allLt_mem (And.right (And.right (And.right (And.right (And.right (And.right (And.right (And.right (And.right (And.right (And.right (by assumption))))))))))))     | exact allLt_mem (And.right (And.right (And.right (And.right (And.right (And.right (And.right (And.right (And.right (And.right (And.right (And.right (by assumption)))))))))))))     | exact allLt_mem (And.right (And.right (And.right (And.right (And.right (And.right (And.right (And.right (And.right (And.right (And.right (And.right (And.right (by assumption))))))))))))))     | exact allLt_mem (And.right (And.right (And.right (And.right (And.right (And.right (And.right (And.right (And.right (And.right (And.right (And.right (And.right (And.right (by assumption)))))))))))))))     | exact allLt_mem (And.right (And.right (And.right (And.right (And.right (And.right (And.right (And.right (And.right (And.right (And.right (And.right (And.right (And.right (And.right (by assumption)))))))))))))))) ⟩
end

local macro_rules | `(tactic| walk_at "no line 2") => `(tactic| fail)
local macro_rules | `(tactic| walk_at "no line 3") => `(tactic| fail)
section
open PySem PySem.W PyProof.Rows
set_option Elab.async false
set_option maxRecDepth 100000
set_option maxHeartbeats 0
open PySem.Calls
noncomputable def joinD (n : Int) (ns : List Int) : Int := if ns.length = 0 then 0 else getV n 9 0 ns.length ns
theorem joinD_z {n : Int} {ns : List Int} (h : ns.length = 0) : joinD n ns = 0 := if_pos h
theorem joinD_p {n : Int} {ns : List Int} (h : ns.length ≠ 0) : joinD n ns = getV n 9 0 ns.length ns := if_neg h
theorem okG_at {n : Int} {ns : List Int} {z : Int} (h : ns.length ≠ 0 → okG n 9 0 ns.length ns = true) (ha : ns.length ≠ 0) (e : z = ns.length) : okG n 9 0 z ns = true := by rw [e]; exact h ha
theorem jn_news {h₀ h : Heap} {L c r : Addr} {oc o t : Obj} {a1 a2 a3 a4 a5 : Addr × Obj} {rest : List (Addr × Obj)} (N : News h₀ L h (a1 :: (c, oc) :: a2 :: a3 :: a4 :: (r, o) :: (78, t) :: a5 :: rest)) : News h₀ L h ((r, o) :: (78, t) :: (c, oc) :: rest) :=
  cb_drop N (by simp +contextual)
local macro_rules | `(tactic| walk_at "exec FunctionDef") => `(tactic| (k_here; refine stuck_of ?_))
local macro_rules | `(tactic| walk_at "call ref") => `(tactic| (k_here; refine stuck_of ?_))
theorem c_digits2int {w : World} {p : Program} {loose : List Str} {mean : ExcName → Option Value} {mg mb : Str → Option Value} {rest : List (Addr × Obj)} (ps : Array Value) (d D : Addr) (od : Obj) (vs : List Value) (ns : List Int) (ep : Nat) (n : Int) (u : Tok) (hn : 0 < n) (hnn : n < 31) (hi : IntsAre vs ns) (hk : ns.length ≤ 10) (hok : ns.length ≠ 0 → okG n 9 0 ns.length ns = true)
    (hT : TabSt 56 4 qual2 ps d od ((D, listOf vs.toArray ep) :: rest)) (hdn : d ≠ 78) (hD : @Ne Nat D 78) (hrn : ∀ q ∈ rest, q.1 ≠ 78) :
    ConN w p loose mean mg mb 10 83 ((D, listOf vs.toArray ep) :: (78, tabObj ps) :: (d, od) :: rest) [.ref D, .int n u] fun h₀ L m s Q =>
      ∀ (t : Tok) (d' : Addr) (od' : Obj) (h' : Heap) (tk' : Nat), Fr h₀ L h' m → News h₀ L h' ((D, listOf vs.toArray ep) :: (78, tabObj (full 56 4 d')) :: (d', od') :: rest) →
        TabSt 56 4 qual2 (full 56 4 d') d' od' ((D, listOf vs.toArray ep) :: rest) → d' ≠ 78 → Q (.int (joinD n ns) t) { s with heap := h', toks := tk' } := by
  unfold ConN
  k_fill
  intros; rename_i hret
  have hC := codeHd_of_K (c := 82) (P := 78) (by assumption) (by kernel_rfl)
  refine wpAny_call ?_
  k_dflt k_enter
  k_steps
  repeat' ((with_reducible refine of_stuck ?_); (first
    | ((with_reducible show wpAny _ _ (call (Value.ref _) _) _ _ _); k_dflt (refine In2.use (by k_asm) (by k_asm) (by k_asm) (by k_asm) (by k_asm) (in2 9) (by assumption) (by assumption) (by assumption) (by assumption) (by assumption) (by assumption) (by assumption) (by assumption) (by decide) (by omega) (by omega) (by omega) (okG_at (by assumption) (by omega) (by omega)) (by k_room) (by k_units) ?_); intro t' h' tk' F' N'; (delta led2 at N'); (try dsimp only at N'))
    | ((with_reducible show wpAny _ _ (exec _ _) _ _ _); (refine' nestDef_K ?d0 ?k0 ?a0 ?_; (case d0 => exact rfl); (case k0 => exact rfl); (case a0 => exact rfl)); (refine' nestBoth ?F ?N ?T ?C ?cd ?U ?hm ?dP ?S ?hr ?cl ?_; (case F => k_asm); (case N => k_asm); (case T => k_asm); (case cd => exact rfl); (case C => first | assumption | exact CodeHd.keeps (by assumption) (Fr.keep (by assumption))); (case U => k_updF); (case S => (rename TabSt _ _ _ _ _ _ _ => hS9); with_unfolding_all exact hS9); (case hm => k_mem); (case dP => assumption); (case hr => kcj_all); (case cl => exact rfl); k_whole); intro f' c' oc' vs' t' ct' dc' h' tk' F' N' d1' d2' l1 l2 l3 l4 l5; (try dsimp only at N'); (try k_lt l1); (try (replace l3 := allOff_of l3; simp (maxDischargeDepth := 6) only [AllOff, and_true, true_and, *, true_implies, false_implies, Nat.lt_add_right, Nat.lt_irrefl] at l3)))); k_steps)
  · exact ret_int (joinD_p (by omega)).symm (hret _ _ _ _ _ (by k_asm) (jn_news (by k_asm)) (tab_hot (by assumption) (by rename (_[1]? = some (Value.str _ _)) => h9; with_unfolding_all exact h9) (by assumption)) (by assumption))
  · exact ret_int (joinD_z (by omega)).symm (hret _ _ _ _ _ (by k_asm) (jn_news (by k_asm)) (tab_hot (by assumption) (by rename (_[1]? = some (Value.str _ _)) => h9; with_unfolding_all exact h9) (by assumption)) (by assumption))
end

section
open PySem PySem.W PyProof.Rows
set_option Elab.async false
set_option maxRecDepth 100000
set_option maxHeartbeats 0
open PySem.Calls
/-- a goal that the walk leaves to the hand -/
noncomputable def Stop (P : Prop) : Prop := P
theorem stop_of {P : Prop} (h : Stop P) : P := h
theorem drop1 {h₀ h : Heap} {L : Addr} {x : Addr × Obj} {r : List (Addr × Obj)} (N : News h₀ L h (x :: r)) : News h₀ L h r := cb_drop N fun p hp => .tail _ hp
theorem ints_snoc {z : Int} {t : Tok} : ∀ {vs : List Value} {ns : List Int}, IntsAre vs ns → IntsAre (vs ++ [.int z t]) (ns ++ [z])
  | _, _, .nil => .cons _ _ .nil
  | _, _, .cons i u h => .cons i u (ints_snoc h)
theorem addr_of {h₀ h : Heap} {L D : Addr} {o : Obj} {r : List (Addr × Obj)} (_N : News h₀ L h ((D, o) :: r)) : ∃ D', D' = D := ⟨D, rfl⟩
section
variable {prog : Program} {w : World} {A : Around} {E : Value → Shared → Prop} {s : Shared} {env : Env} {h₀ : Heap} {x : Str} {body : List Stmt} {Q : Flow → Shared → Prop} {I : Addr} {a : Int} {n : Nat} {lp : Addr × Obj}
theorem unrPost_mono {h₀ : Heap} {L : Addr} {s₁ : Shared} {it : Obj} {R R' : (Str → Option Value) → List (Addr × Obj) → Prop} (h : ∀ m' n', R m' n' → R' m' n') {f : Flow} {s₂ : Shared} (p : UnrPost h₀ L s₁ I it R Q f s₂) : UnrPost h₀ L s₁ I it R' Q f s₂ := by
  have go : UnrEnd h₀ L s₁ I it R s₂ → UnrEnd h₀ L s₁ I it R' s₂ := fun ⟨h', tk, m', n', e, F, N, o, r⟩ => ⟨h', tk, m', n', e, F, N, o, h _ _ r⟩
  cases f with
  | ret v => exact p
  | brk => exact p
  | next => exact go p
  | cont => exact go p
/-- a range's loop by what holds between its turns -/
theorem rangeRest_ind (Inv : Nat → Nat → (Str → Option Value) → List (Addr × Obj) → Prop)
    (h0 : ∀ i m news, Inv 0 i m news → ∀ h tk, Fr h₀ env.locals h m → News h₀ env.locals h news → Q .next { s with heap := h, toks := tk })
    (hs : ∀ k i m news, Inv (k + 1) i m news → ∀ t h tk, Fr h₀ env.locals h (fun y => if y = x then some (.int (a + (i : Int)) t) else m y) →
      News h₀ env.locals h ((I, itR (a + ((i + 1 : Nat) : Int)) ((n : Int) - ((i + 1 : Nat) : Int))) :: news) →
      wpAny (model prog w) A (execs body env) (UnrPost h₀ env.locals { s with heap := h, toks := tk } I (itR (a + ((i + 1 : Nat) : Int)) ((n : Int) - ((i + 1 : Nat) : Int))) (Inv k (i + 1)) Q) E { s with heap := h, toks := tk }) :
    ∀ k i m news, Inv k i m news → RangeRest prog w A E h₀ env x body Q s I a n k i m news
  | 0, i, m, news, H => RangeRest.zero (h0 i m news H)
  | k + 1, i, m, news, H => RangeRest.succ fun t h tk F N => wpAny_mono (hs k i m news H t h tk F N) (fun f s₂ p => unrPost_mono (rangeRest_ind Inv h0 hs k (i + 1)) p) fun _ _ e => e
/-- a reversed list's loop by what holds between its turns -/
theorem revRest_ind (Inv : List Value → (Str → Option Value) → List (Addr × Obj) → Prop)
    (h0 : ∀ m news, Inv [] m news → ∀ h tk, Fr h₀ env.locals h m → News h₀ env.locals h news → Q .next { s with heap := h, toks := tk })
    (hs : ∀ v r m news, Inv (v :: r) m news → ∀ (it : Obj) h tk, it.cls = .type "list_reverseiterator" → Fr h₀ env.locals h (fun y => if y = x then some v else m y) → News h₀ env.locals h ((I, it) :: news) →
      wpAny (model prog w) A (execs body env) (UnrPost h₀ env.locals { s with heap := h, toks := tk } I it (fun m' n' => lp ∈ n' ∧ Inv r m' n') Q) E { s with heap := h, toks := tk }) :
    ∀ r m news, Inv r m news → RevRest prog w A E h₀ env x body Q s I lp r m news
  | [], m, news, H => RevRest.zero (h0 m news H)
  | v :: r, m, news, H => RevRest.succ fun it h tk c F N => wpAny_mono (hs v r m news H it h tk c F N) (fun f s₂ p => unrPost_mono (fun m' n' q => ⟨q.1, revRest_ind Inv h0 hs r m' n' q.2⟩) p) fun _ _ e => e
/-- a list's loop by what holds between its turns -/
theorem listRest_ind (Inv : List Value → (Str → Option Value) → List (Addr × Obj) → Prop)
    (h0 : ∀ m news, Inv [] m news → ∀ h tk, Fr h₀ env.locals h m → News h₀ env.locals h news → Q .next { s with heap := h, toks := tk })
    (hs : ∀ v r m news, Inv (v :: r) m news → ∀ (it : Obj) h tk, it.cls = .type "list_iterator" → Fr h₀ env.locals h (fun y => if y = x then some v else m y) → News h₀ env.locals h ((I, it) :: news) →
      wpAny (model prog w) A (execs body env) (UnrPost h₀ env.locals { s with heap := h, toks := tk } I it (fun m' n' => lp ∈ n' ∧ Inv r m' n') Q) E { s with heap := h, toks := tk }) :
    ∀ r m news, Inv r m news → ListRest prog w A E h₀ env x body Q s I lp r m news
  | [], m, news, H => ListRest.zero (h0 m news H)
  | v :: r, m, news, H => ListRest.succ fun it h tk c F N => wpAny_mono (hs v r m news H it h tk c F N) (fun f s₂ p => unrPost_mono (fun m' n' q => ⟨q.1, listRest_ind Inv h0 hs r m' n' q.2⟩) p) fun _ _ e => e
end
theorem shape3 {m : Str → Option Value} {a b c : Str} {va vb vc : Value} (ha : m a = some va) (hb : m b = some vb) (hc : m c = some vc) : m = fun y => if y = a then some va else if y = b then some vb else if y = c then some vc else m y := by
  funext y
  by_cases h1 : y = a
  · rw [if_pos h1, h1, ha]
  · rw [if_neg h1]
    by_cases h2 : y = b
    · rw [if_pos h2, h2, hb]
    · rw [if_neg h2]
      by_cases h3 : y = c
      · rw [if_pos h3, h3, hc]
      · rw [if_neg h3]
theorem shape2 {m : Str → Option Value} {a b : Str} {va vb : Value} (ha : m a = some va) (hb : m b = some vb) : m = fun y => if y = a then some va else if y = b then some vb else m y := by
  funext y
  by_cases h1 : y = a
  · rw [if_pos h1, h1, ha]
  · rw [if_neg h1]
    by_cases h2 : y = b
    · rw [if_pos h2, h2, hb]
    · rw [if_neg h2]
theorem shape1 {m : Str → Option Value} {a : Str} {va : Value} (ha : m a = some va) : m = fun y => if y = a then some va else m y := by
  funext y
  by_cases h1 : y = a
  · rw [if_pos h1, h1, ha]
  · rw [if_neg h1]
noncomputable abbrev over (a : Str) (va : Value) (m : Str → Option Value) : Str → Option Value := fun y => if y = a then some va else m y
theorem over_of {m u : Str → Option Value} {a : Str} {va : Value} (ha : m a = some va) (hu : m = u) : m = over a va u := by
  subst hu
  exact shape1 ha
theorem ints_rev {vs : List Value} {ns : List Int} (h : IntsAre vs ns) : IntsAre vs.reverse ns.reverse := by
  induction h with
  | nil => exact .nil
  | cons i t _ ih => rw [List.reverse_cons, List.reverse_cons]; exact ints_snoc ih
theorem ints_cons {v : Value} {r : List Value} {ns : List Int} (h : IntsAre (v :: r) ns) : ∃ x t rs, v = .int x t ∧ ns = x :: rs ∧ IntsAre r rs := by
  cases h with
  | cons x t h => exact ⟨x, t, _, rfl, rfl, h⟩
theorem ints_nil {ns : List Int} (h : IntsAre [] ns) : ns = [] := by cases h; rfl
theorem drop_under {h₀ h : Heap} {L : Addr} {x : Addr × Obj} {r r' : List (Addr × Obj)} (N : News h₀ L h (x :: r)) (hs : ∀ p ∈ r', p ∈ r) : News h₀ L h (x :: r') := cb_drop N fun p hp => (List.mem_cons.mp hp).elim (fun e => e ▸ .head _) fun h => .tail _ (hs p h)
end

section
open PySem PySem.W PyProof.Rows
set_option Elab.async false
set_option maxRecDepth 100000
set_option maxHeartbeats 0
open PySem.Calls
noncomputable def stepD (b n : Int) (c : Int × List Int × Bool) (x : Int) : Int × List Int × Bool :=
  ((c.1 * 2 ^ n.toNat + x).fmod b, c.2.1 ++ [(c.1 * 2 ^ n.toNat + x).fdiv b], c.2.2 && (decide (0 ≤ c.1 * 2 ^ n.toNat + x) && decide (c.1 * 2 ^ n.toNat + x < 1073741824)))
noncomputable def runD (b n : Int) (ds : List Int) : Int × List Int × Bool := ds.foldl (stepD b n) (0, [], true)
/-- both tables of codes -/
noncomputable def Tabs2 (ps1 : Array Value) (d1 : Addr) (o1 : Obj) (ps2 : Array Value) (d2 : Addr) (o2 : Obj) (rest : List (Addr × Obj)) : Prop :=
  TabSt 41 4 qual1 ps1 d1 o1 ((78, tabObj ps2) :: (d2, o2) :: rest) ∧ TabSt 56 4 qual2 ps2 d2 o2 ((71, tabObj ps1) :: (d1, o1) :: rest) ∧ (d1 ≠ 71 ∧ d1 ≠ 78 ∧ d2 ≠ 71 ∧ d2 ≠ 78) ∧ ∀ q ∈ rest, q.1 ≠ 71 ∧ q.1 ≠ 78
section
variable {ps1 : Array Value} {d1 : Addr} {o1 : Obj} {ps2 : Array Value} {d2 : Addr} {o2 : Obj} {rest : List (Addr × Obj)} {d1' : Addr} {o1' : Obj} {d2' : Addr} {o2' : Obj} {D : Addr} {oD : Obj}
theorem Tabs2.st1 (T : Tabs2 ps1 d1 o1 ps2 d2 o2 rest) : TabSt 41 4 qual1 ps1 d1 o1 ((78, tabObj ps2) :: (d2, o2) :: rest) := T.1
theorem Tabs2.n1 (T : Tabs2 ps1 d1 o1 ps2 d2 o2 rest) : d1 ≠ 71 := T.2.2.1.1
theorem Tabs2.r1 (T : Tabs2 ps1 d1 o1 ps2 d2 o2 rest) : ∀ q ∈ (78, tabObj ps2) :: (d2, o2) :: rest, q.1 ≠ 71 := by
  intro q hq
  rcases List.mem_cons.mp hq with rfl | hq
  · show (78 : Nat) ≠ 71; decide
  · rcases List.mem_cons.mp hq with rfl | hq
    · exact T.2.2.1.2.2.1
    · exact (T.2.2.2 q hq).1
theorem tabSt_more {line col : Nat} {q : Str} {ps : Array Value} {d : Addr} {od : Obj} {r r' : List (Addr × Obj)} (T : TabSt line col q ps d od r) (h : (∀ q ∈ r, q.1 ≠ d) → ∀ q ∈ r', q.1 ≠ d) : TabSt line col q ps d od r' :=
  ⟨h T.1, T.2⟩
theorem tabSt_off {line col : Nat} {q : Str} {ps : Array Value} {d : Addr} {od : Obj} {r : List (Addr × Obj)} (T : TabSt line col q ps d od r) : ∀ q ∈ r, q.1 ≠ d := T.1
theorem Tabs2.st2 (T : Tabs2 ps1 d1 o1 ps2 d2 o2 rest) (T1 : TabSt 41 4 qual1 (full 41 4 d1') d1' o1' ((78, tabObj ps2) :: (d2, o2) :: rest)) (hD : D ≠ d2) :
    TabSt 56 4 qual2 ps2 d2 o2 ((D, oD) :: (71, tabObj (full 41 4 d1')) :: (d1', o1') :: rest) := by
  refine tabSt_more T.2.1 fun h q hq => ?_
  have e := tabSt_off T1
  rcases List.mem_cons.mp hq with rfl | hq
  · exact hD
  · rcases List.mem_cons.mp hq with rfl | hq
    · exact T.2.2.1.2.2.1.symm
    · rcases List.mem_cons.mp hq with rfl | hq
      · exact (e _ (.tail _ (.head _))).symm
      · exact h q (.tail _ (.tail _ hq))
theorem Tabs2.n2 (T : Tabs2 ps1 d1 o1 ps2 d2 o2 rest) : d2 ≠ 78 := T.2.2.1.2.2.2
theorem Tabs2.r2 (T : Tabs2 ps1 d1 o1 ps2 d2 o2 rest) (T1 : TabSt 41 4 qual1 (full 41 4 d1') d1' o1' ((78, tabObj ps2) :: (d2, o2) :: rest)) : ∀ q ∈ (71, tabObj (full 41 4 d1')) :: (d1', o1') :: rest, q.1 ≠ 78 := by
  intro q hq
  have e := tabSt_off T1
  rcases List.mem_cons.mp hq with rfl | hq
  · show (71 : Nat) ≠ 78; decide
  · rcases List.mem_cons.mp hq with rfl | hq
    · exact (e (78, tabObj ps2) (.head _)).symm
    · exact (T.2.2.2 q hq).2
theorem Tabs2.out (T : Tabs2 ps1 d1 o1 ps2 d2 o2 rest) (T1 : TabSt 41 4 qual1 (full 41 4 d1') d1' o1' ((78, tabObj ps2) :: (d2, o2) :: rest)) (hn1 : d1' ≠ 71)
    (T2 : TabSt 56 4 qual2 (full 56 4 d2') d2' o2' ((D, oD) :: (71, tabObj (full 41 4 d1')) :: (d1', o1') :: rest)) (hn2 : d2' ≠ 78) : Tabs2 (full 41 4 d1') d1' o1' (full 56 4 d2') d2' o2' rest := by
  have e1 := tabSt_off T1
  have e2 := tabSt_off T2
  have e3 : d1' ≠ d2' := e2 _ (.tail _ (.tail _ (.head _)))
  refine ⟨tabSt_more T1 fun h q hq => ?_, tabSt_more T2 fun h q hq => ?_, ⟨hn1, (e1 (78, tabObj ps2) (.head _)).symm, (e2 (71, tabObj (full 41 4 d1')) (.tail _ (.head _))).symm, hn2⟩, T.2.2.2⟩
  · rcases List.mem_cons.mp hq with rfl | hq
    · exact e1 (78, tabObj ps2) (.head _)
    · rcases List.mem_cons.mp hq with rfl | hq
      · exact e3.symm
      · exact e1 q (.tail _ (.tail _ hq))
  · rcases List.mem_cons.mp hq with rfl | hq
    · exact e2 _ (.tail _ (.head _))
    · rcases List.mem_cons.mp hq with rfl | hq
      · exact e3
      · exact e2 q (.tail _ (.tail _ (.tail _ hq)))
end
theorem digs_length {a n : Int} {k : Nat} : (digs a n k).length = k := by
  have z : ((List.replicate (k : Int).toNat [(0 : Int)]).flatten).length = k := by simp
  unfold digs
  split
  · exact z
  · rw [putD_length]; exact z
theorem bits_small {a : Int} (h0 : 0 ≤ a) (h1 : a < 1073741824) {n : Int} (hn : 0 < n) : ((Builtin.Int.intBits a : Nat) : Int) - n ≤ 4000 := by
  unfold Builtin.Int.intBits
  split
  · omega
  · have e : a.natAbs ≠ 0 := by intro h; rename_i hh; exact hh (by rw [Int.natAbs_eq_zero.mp h]; rfl)
    have : a.natAbs.log2 < 30 := (Nat.log2_lt e).mpr (by omega)
    omega
/-- news' is all but x -/
inductive Rm (x : Addr × Obj) : List (Addr × Obj) → List (Addr × Obj) → Prop
  | head {r} : Rm x (x :: r) r
  | tail {y r r'} : Rm x r r' → Rm x (y :: r) (y :: r')
theorem Rm.mem {x : Addr × Obj} : ∀ {l l' : List (Addr × Obj)}, Rm x l l' → x ∈ l ∧ ∀ p ∈ l', p ∈ l
  | _, _, .head => ⟨.head _, fun _ h => .tail _ h⟩
  | _, _, .tail r => ⟨.tail _ r.mem.1, fun p h => (List.mem_cons.mp h).elim (fun e => e ▸ .head _) fun h => .tail _ (r.mem.2 p h)⟩
theorem use83 {w : World} {p : Program} {loose : List Str} {mean : ExcName → Option Value} {mg mb : Str → Option Value} {ps1 : Array Value} {d1 : Addr} {o1 : Obj} {ps2 : Array Value} {d2 : Addr} {o2 : Obj} {rest all : List (Addr × Obj)} {d1' : Addr} {o1' : Obj} {D : Addr} {oD : Obj} {vs : List Value} {ns : List Int} {ep : Nat} {n : Int} {u : Tok}
    {dp un : Nat} {gd : Option (List Code)} {cn : Str} {names : List (Str × NameKind)} {g1 g2 : Bool} {more : List (Str × Const)} {a : Addr} {ccd : Value} {cl : List (Str × Addr)} {outer : List Env} {A₀ : Around} {base h₀ : Heap} {L : Addr} {m : Str → Option Value} {s : Shared} {Q E : Value → Shared → Prop}
    (B : Below A₀ base outer h₀) (F : Fr h₀ L s.heap m) (X : (K w.params).In h₀) (N : News h₀ L s.heap all) (T : Top p loose mean mg mb h₀) (TT : Tabs2 ps1 d1 o1 ps2 d2 o2 rest) (T1 : TabSt 41 4 qual1 (full 41 4 d1') d1' o1' ((78, tabObj ps2) :: (d2, o2) :: rest))
    (m1 : (D, oD) ∈ all) (m2 : (78, tabObj ps2) ∈ all) (m3 : (d2, o2) ∈ all) (m4 : (71, tabObj (full 41 4 d1')) ∈ all) (m5 : (d1', o1') ∈ all) (m6 : ∀ q ∈ rest, q ∈ all) (eD : oD = listOf vs.toArray ep)
    (hok : ns.length ≠ 0 → okG n 9 0 ns.length ns = true) (hn : 0 < n) (hnn : n < 31) (hi : IntsAre vs ns) (hk : ns.length ≤ 10) (hD : @Ne Nat D d2) (hD8 : @Ne Nat D 78) (hd : dp + 10 + 1 < recursionLimit) (hu : un + 8 * (10 + 1) < cLine)
    (hret : ∀ (t : Tok) (d' : Addr) (od' : Obj) (h' : Heap) (tk' : Nat), Fr h₀ L h' m → News h₀ L h' ((D, listOf vs.toArray ep) :: (78, tabObj (full 56 4 d')) :: (d', od') :: (71, tabObj (full 41 4 d1')) :: (d1', o1') :: rest) →
        TabSt 56 4 qual2 (full 56 4 d') d' od' ((D, listOf vs.toArray ep) :: (71, tabObj (full 41 4 d1')) :: (d1', o1') :: rest) → d' ≠ 78 → Q (.int (joinD n ns) t) { s with heap := h', toks := tk' }) :
      wpAny (model PySem.Challenge.rw_sn0081_01.row.prog w) (ktrTop dp un gd cn ⟨.function, names, g1, g2, more⟩ L a ccd cl outer) (call (.ref 83) [.ref D, .int n u]) Q E s := by
  subst eD
  refine (c_digits2int (rest := (71, tabObj (full 41 4 d1')) :: (d1', o1') :: rest) ps2 d2 D o2 vs ns ep n u hn hnn hi hk hok (TT.st2 T1 hD) TT.n2 hD8 (TT.r2 T1)).use B F X (fun q hq => ?_) T hd hu hret
  rcases List.mem_cons.mp hq with rfl | hq
  · exact N _ m1
  · rcases List.mem_cons.mp hq with rfl | hq
    · exact N _ m2
    · rcases List.mem_cons.mp hq with rfl | hq
      · exact N _ m3
      · rcases List.mem_cons.mp hq with rfl | hq
        · exact N _ m4
        · rcases List.mem_cons.mp hq with rfl | hq
          · exact N _ m5
          · exact N _ (m6 q hq)
theorem fin_news {h₀ h : Heap} {L p c d : Addr} {op oc od t t' : Obj} {a1 : Addr × Obj} {rest : List (Addr × Obj)} (N : News h₀ L h ((p, op) :: a1 :: (78, t) :: (d, od) :: (71, t') :: (c, oc) :: rest)) : News h₀ L h ((p, op) :: (71, t') :: (c, oc) :: (78, t) :: (d, od) :: rest) :=
  cb_drop N (by simp +contextual)
theorem offI_of {I : Addr} {it : Obj} : ∀ {l : List (Addr × Obj)}, (∀ q ∈ l, q.1 ≠ I) → OffI I it l
  | [], _ => trivial
  | _ :: _, h => ⟨.inl (h _ (.head _)), offI_of fun q hq => h q (.tail _ hq)⟩
/-- the run's bounds were kept -/
theorem stepD_ok {b n : Int} : ∀ {rs : List Int} {c : Int × List Int × Bool}, (rs.foldl (stepD b n) c).2.2 = true → c.2.2 = true
  | [], _, h => h
  | x :: rs, c, h => by
    have := stepD_ok (rs := rs) (c := stepD b n c x) h
    simp only [stepD, Bool.and_eq_true] at this
    exact this.1
theorem step_next {b n r1 x : Int} {rs qs : List Int} {G : Int × List Int × Bool} (hG : G.2.2 = true) (ev : (x :: rs).foldl (stepD b n) (r1, qs, true) = G) :
    (0 ≤ r1 * 2 ^ n.toNat + x ∧ r1 * 2 ^ n.toNat + x < 1073741824) ∧ rs.foldl (stepD b n) ((r1 * 2 ^ n.toNat + x).fmod b, qs ++ [(r1 * 2 ^ n.toNat + x).fdiv b], true) = G := by
  have h := hG
  rw [← ev, List.foldl_cons] at h
  have k := stepD_ok h
  simp only [stepD, Bool.true_and, Bool.and_eq_true, decide_eq_true_eq] at k
  refine ⟨k, ?_⟩
  rw [← ev, List.foldl_cons]
  simp only [stepD, Bool.true_and, decide_eq_true k.1, decide_eq_true k.2, Bool.and_self]
theorem push1 {h₀ h : Heap} {L D : Addr} {y z : Addr × Obj} {v1 : List Value} {a1 : Value} {e1 : Nat} {r : List (Addr × Obj)} (N : News h₀ L h (y :: z :: (D, listOf (v1.toArray.push a1) e1) :: r)) :
    News h₀ L h (y :: z :: (D, listOf (v1 ++ [a1]).toArray e1) :: r) := by
  rw [show v1.toArray.push a1 = (v1 ++ [a1]).toArray by simp] at N
  exact N
theorem div_names {h₀ h : Heap} {L I D : Addr} {oi o : Obj} {r : List (Addr × Obj)} (_N : News h₀ L h ((I, oi) :: (D, o) :: r)) : ∃ I' D', I' = I ∧ D' = D := ⟨I, D, rfl, rfl⟩
/-- what holds between the turns of the long division -/
inductive DivInv (D : Addr) (b n : Int) (u : Tok) (base : List (Addr × Obj)) (k : Nat) (G : Int × List Int × Bool) (r : List Value) (m : Str → Option Value) (nx : List (Addr × Obj)) : Prop
  | mk (r1 : Int) (tr tn : Tok) (rs qs : List Int) (vq : List Value) (eq : Nat)
    (_ : (∀ q ∈ (D, listOf vq.toArray eq) :: base, q ∈ nx))
    (_ : m (Str.ofString "b") = some (.int b u))
    (_ : m (Str.ofString "n") = some (.int n tn))
    (_ : m (Str.ofString "r") = some (.int r1 tr))
    (_ : m (Str.ofString "q_digits") = some (.ref D))
    (_ : IntsAre r rs)
    (_ : IntsAre vq qs)
    (_ : qs.length + rs.length = k)
    (_ : 0 ≤ r1 ∧ r1 < b)
    (_ : rs.foldl (stepD b n) (r1, qs, true) = G) : DivInv D b n u base k G r m nx
local macro_rules | `(tactic| k_offL) => `(tactic| exact offI_of (by k_all))
local macro_rules | `(tactic| walk_at "UnrEnd") => `(tactic| (k_here; refine stop_of ?_))
local macro_rules | `(tactic| walk_at "pyIter ref") => `(tactic| (k_here; ((with_reducible show wpAny _ _ (pyIter (Value.ref _)) (fun it s₂ => LoopAtV _ _ _ _ _ _ _ _ _ it s₂) _ _)); l_hasStore; with_unfolding_all refine iter_revUnr (by rfl) (by k_asm) (by k_asm) (by k_offL) (by k_mem) (by rfl) (by rfl) (stop_of ?_)))
local macro_rules | `(tactic| walk_at "call builtin:list.reverse") => `(tactic| (k_here; refine stuck_of ?_))
local macro_rules | `(tactic| walk_at "binaryOp LShift int int") => `(tactic| (k_here; refine stuck_of ?_))
local macro_rules | `(tactic| walk_at "call ref") => `(tactic| (k_here; refine stuck_of ?_))
theorem c_divposK {w : World} {p : Program} {loose : List Str} {mean : ExcName → Option Value} {mg mb : Str → Option Value} {rest : List (Addr × Obj)} (ps1 : Array Value) (d1 : Addr) (o1 : Obj) (ps2 : Array Value) (d2 : Addr) (o2 : Obj) (a b n : Int) (k : Nat) (t u : Tok) (ha : 0 ≤ a) (haa : a < 1073741824) (hb : 0 < b) (hbb : b < 1073741824) (hn : ((Builtin.Int.intBits b : Nat) : Int) = n) (hn0 : 0 < n) (hn1 : n < 31)
    (hd : (((Builtin.Int.intBits a : Nat) : Int) + n - 1).fdiv n = (k : Int)) (hk : k ≤ 10) (hok : a ≠ 0 → 0 < k ∧ okP n 9 a 0 (k : Int) = true) (hrun : (runD b n (digs a n k).reverse).2.2 = true) (hokG : (runD b n (digs a n k).reverse).2.1.reverse.length ≠ 0 → okG n 9 0 (runD b n (digs a n k).reverse).2.1.reverse.length (runD b n (digs a n k).reverse).2.1.reverse = true)
    (hT : Tabs2 ps1 d1 o1 ps2 d2 o2 rest) :
    ConN w p loose mean mg mb 12 90 ((71, tabObj ps1) :: (d1, o1) :: (78, tabObj ps2) :: (d2, o2) :: rest) [.int a t, .int b u] fun h₀ L m s Q =>
      ∀ (r : Addr) (t1 t2 : Tok) (c : Nat) (d1' : Addr) (o1' : Obj) (d2' : Addr) (o2' : Obj) (h' : Heap) (tk' : Nat), Fr h₀ L h' m →
        News h₀ L h' ((r, ({ cls := .type "tuple", data := .seq #[.int (joinD n (runD b n (digs a n k).reverse).2.1.reverse) t1, .int (runD b n (digs a n k).reverse).1 t2] c } : Obj)) :: (71, tabObj (full 41 4 d1')) :: (d1', o1') :: (78, tabObj (full 56 4 d2')) :: (d2', o2') :: rest) →
        Tabs2 (full 41 4 d1') d1' o1' (full 56 4 d2') d2' o2' rest → AllLt r ((71, tabObj (full 41 4 d1')) :: (d1', o1') :: (78, tabObj (full 56 4 d2')) :: (d2', o2') :: rest) → Q (.ref r) { s with heap := h', toks := tk' } := by
  unfold ConN
  k_fill
  intros; rename_i hret
  subst hn
  refine wpAny_call ?_
  k_dflt k_enter
  k_steps
  repeat' ((with_reducible refine of_stuck ?_); (first
    | ((with_reducible show wpAny _ _ (call (Value.ref 83) _) _ _ _); refine use83 (vs := vq.reverse) (by k_asm) (by k_asm) (by k_asm) (by k_asm) (by k_asm) hT T1' (by k_mem) (by k_mem) (by k_mem) (by k_mem) (by k_mem) (by kcj_all) (by with_unfolding_all rfl) hokG hn0 hn1 (ints_rev iq) hlq (by omega) (by omega) (by k_room) (by k_units) ?_; intro t' d2' od2' h' tk' F' N' T2' n2'; (try k_sweep))
    | ((with_reducible show wpAny _ _ (call (Value.ref 62) _) _ _ _); refine (c_div2n1n _ _ _ _ _ _ hb hx9.1 hbb hx9.2 (bits_small hx9.1 hx9.2 hn0)).use (by k_asm) (by k_asm) (by k_asm) (by k_asm) (by k_asm) (by k_room) (by k_units) ?_; intro p' t1' t2' c' h' tk' F' N' l1; (try k_lt l1); (try k_sweep))
    | ((with_reducible show wpAny _ _ (call (Value.ref 76) _) _ _ _); refine (c_int2digits ps1 d1 o1 a _ k _ _ ha haa hn0 hn1 hd hk hok (Tabs2.st1 hT) (Tabs2.n1 hT) (Tabs2.r1 hT)).use (by k_asm) (by k_asm) (by k_asm) (by k_asm) (by k_asm) (by k_room) (by k_units) ?_; intro r' vs' ca da oda h' tk' i' F' N' T1' n1' n2' l1'; (replace l1' := And.intro l1'.1 (allLt_of l1'.2)); (simp only [AllLt, and_true] at l1'))
    | ((with_reducible show wpAny _ _ (binaryOp .LShift _ _) _ _ _); refine lshift_int_small (by omega) (by omega) (by omega) ?_)
    | ((with_reducible show wpAny _ _ (call (Value.builtin "list.reverse") _) _ _ _); refine kl_reverse (l := vq.reverse) (by k_asm) (by k_asm) rfl (by k_upd) hzq ?_; intro h' F' N')); k_steps)
  unfold Stop
  rename (_ < _ ∧ _ < _ ∧ _ < _ ∧ _ < _ ∧ _ < _ ∧ _ < _ ∧ AllLt _ rest) => lI
  rename News _ _ _ _ => N2
  obtain ⟨I, D, hI, hD⟩ := div_names N2
  subst hI
  subst hD
  refine revRest_ind (fun r m nx => DivInv D b ((Builtin.Int.intBits b : Nat) : Int) u ((r', listOf vs'.toArray ca) :: (71, tabObj (full 41 4 da)) :: (da, oda) :: (78, tabObj ps2) :: (d2, o2) :: rest) k (runD b ((Builtin.Int.intBits b : Nat) : Int) (digs a ((Builtin.Int.intBits b : Nat) : Int) k).reverse) r m nx) ?h0 ?hs vs'.reverse _ _ ?st
  case st => exact ⟨0, _, _, (digs a ((Builtin.Int.intBits b : Nat) : Int) k).reverse, [], [], 0, fun q hq => hq, rfl, rfl, rfl, rfl, ints_rev i', .nil, by rw [List.length_reverse, digs_length, List.length_nil, Nat.zero_add], ⟨Int.le_refl 0, hb⟩, rfl⟩
  case h0 =>
    rintro m nx ⟨r1, tr, tn, rs, qs, vq, eq, hnx, hm1, hm2, hm3, hm4, iv, iq, hl, hr1, ev⟩ h9 tk9 F9 N9
    obtain rfl := ints_nil iv
    obtain ⟨u9, hu9⟩ : ∃ u9 : Str → Option Value, m = over (Str.ofString "b") (.int b u) (over (Str.ofString "n") (.int ((Builtin.Int.intBits b : Nat) : Int) tn) (over (Str.ofString "r") (.int r1 tr) (over (Str.ofString "q_digits") (.ref D) u9))) :=
      ⟨m, over_of hm1 (over_of hm2 (over_of hm3 (over_of hm4 rfl)))⟩
    clear hm1 hm2 hm3 hm4 iv
    subst hu9
    delta over at F9
    (try dsimp only at F9)
    replace N9 := cb_drop N9 hnx
    rw [← ev] at hret hokG
    dsimp only [List.foldl_nil] at hret hokG
    have hlq : qs.reverse.length ≤ 10 := by
      rw [List.length_reverse]
      rw [List.length_nil, Nat.add_zero] at hl
      omega
    have hzq : vq.toArray.toList.length ≤ sizeLine := by
      have h1 := iq.length
      have h2 : 10 ≤ sizeLine := by decide
      rw [List.length_reverse] at hlq
      show vq.length ≤ _
      omega
    k_steps
    repeat' ((with_reducible refine of_stuck ?_); (first
      | ((with_reducible show wpAny _ _ (call (Value.ref 83) _) _ _ _); refine use83 (vs := vq.reverse) (by k_asm) (by k_asm) (by k_asm) (by k_asm) (by k_asm) hT T1' (by k_mem) (by k_mem) (by k_mem) (by k_mem) (by k_mem) (by kcj_all) (by with_unfolding_all rfl) hokG hn0 hn1 (ints_rev iq) hlq (by omega) (by omega) (by k_room) (by k_units) ?_; intro t' d2' od2' h' tk' F' N' T2' n2'; (try k_sweep))
      | ((with_reducible show wpAny _ _ (call (Value.ref 62) _) _ _ _); refine (c_div2n1n _ _ _ _ _ _ hb hx9.1 hbb hx9.2 (bits_small hx9.1 hx9.2 hn0)).use (by k_asm) (by k_asm) (by k_asm) (by k_asm) (by k_asm) (by k_room) (by k_units) ?_; intro p' t1' t2' c' h' tk' F' N' l1; (try k_lt l1); (try k_sweep))
      | ((with_reducible show wpAny _ _ (call (Value.ref 76) _) _ _ _); refine (c_int2digits ps1 d1 o1 a _ k _ _ ha haa hn0 hn1 hd hk hok (Tabs2.st1 hT) (Tabs2.n1 hT) (Tabs2.r1 hT)).use (by k_asm) (by k_asm) (by k_asm) (by k_asm) (by k_asm) (by k_room) (by k_units) ?_; intro r' vs' ca da oda h' tk' i' F' N' T1' n1' n2' l1'; (replace l1' := And.intro l1'.1 (allLt_of l1'.2)); (simp only [AllLt, and_true] at l1'))
      | ((with_reducible show wpAny _ _ (binaryOp .LShift _ _) _ _ _); refine lshift_int_small (by omega) (by omega) (by omega) ?_)
      | ((with_reducible show wpAny _ _ (call (Value.builtin "list.reverse") _) _ _ _); refine kl_reverse (l := vq.reverse) (by k_asm) (by k_asm) rfl (by k_upd) hzq ?_; intro h' F' N')); k_steps)
    exact hret _ _ _ _ _ _ _ _ _ _ (by k_asm) (fin_news (by k_asm)) (Tabs2.out hT T1' n1' T2' n2') ⟨by (try dsimp only); omega, by (try dsimp only); omega, by (try dsimp only); omega, by (try dsimp only); omega, allLt_of (by first     | exact allLt_mem (by assumption)     | exact allLt_mem (And.right (by assumption))     | exact allLt_mem (And.right (And.right (by assumption)))     | exact allLt_mem (And.right (And.right (And.right (by assumption))))     | exact allLt_mem (And.right (And.right (And.right (And.right (by assumption)))))     | exact allLt_mem (And.right (And.right (And.right (And.right (And.right (by assumption))))))     | exact allLt_mem (And.right (And.right (And.right (And.right (And.right (And.right (by assumption)))))))     | exact allLt_mem (And.right (And.right (And.right (And.right (And.right (And.right (And.right (by assumption))))))))     | exact allLt_mem (And.right (And.right (And.right (And.right (And.right (And.right (And.right (And.right (by assumption)))))))))     | exact allLt_mem (And.right (And.right (And.right (And.right (And.right (And.right (And.right (And.right (And.right (by assumption))))))))))     | exact allLt_mem (And.right (And.right (And.right (And.right (And.right (And.right (And.right (And.right (And.right (And.right (by assumption)))))))))))     | exact allLt_mem (And.right (And.right (And.right (And.right (And.right (And.right (And.right (And.right (And.right (And.right (And.right (by assumption))))))))))))     | exact allLt_mem (And.right (And.right (And.right (And.right (And.right (And.right (And.right (And.right (And.right (And.right (And.right (And.right (by assumption)))))))))))))     | exact allLt_mem (And.right (And.right (And.right (And.right (And.right (And.right (And.right (And.right (And.right (And.right (And.right (And.right (And.right (by assumption))))))))))))))     | exact allLt_mem (And.right (And.right (And.right (And.right (And.right (And.right (And.right (And.right (And.right (And.right (And.right (And.right (And.right (And.right (by assumption)))))))))))))))     | exact allLt_mem (And.right (And.right (And.right (And.right (And.right (And.right (And.right (And.right (And.right (And.right (And.right (And.right (And.right (And.right (And.right (by assumption)))))))))))))))) )⟩
  case hs =>
    rintro v r m nx ⟨r1, tr, tn, rs, qs, vq, eq, hnx, hm1, hm2, hm3, hm4, iv, iq, hl, hr1, ev⟩ it9 h9 tk9 c9 F9 N9
    obtain ⟨x9, t9, rs9, rfl, rfl, iv9⟩ := ints_cons iv
    obtain ⟨u9, hu9⟩ : ∃ u9 : Str → Option Value, m = over (Str.ofString "b") (.int b u) (over (Str.ofString "n") (.int ((Builtin.Int.intBits b : Nat) : Int) tn) (over (Str.ofString "r") (.int r1 tr) (over (Str.ofString "q_digits") (.ref D) u9))) :=
      ⟨m, over_of hm1 (over_of hm2 (over_of hm3 (over_of hm4 rfl)))⟩
    clear hm1 hm2 hm3 hm4 iv
    subst hu9
    delta over at F9
    (try dsimp only at F9)
    replace N9 := drop_under N9 hnx
    obtain ⟨hx9, ev9⟩ := step_next hrun ev
    obtain ⟨hr0, hrb⟩ := hr1
    k_steps
    repeat' ((with_reducible refine of_stuck ?_); (first
      | ((with_reducible show wpAny _ _ (call (Value.ref 83) _) _ _ _); refine use83 (vs := vq.reverse) (by k_asm) (by k_asm) (by k_asm) (by k_asm) (by k_asm) hT T1' (by k_mem) (by k_mem) (by k_mem) (by k_mem) (by k_mem) (by kcj_all) (by with_unfolding_all rfl) hokG hn0 hn1 (ints_rev iq) hlq (by omega) (by omega) (by k_room) (by k_units) ?_; intro t' d2' od2' h' tk' F' N' T2' n2'; (try k_sweep))
      | ((with_reducible show wpAny _ _ (call (Value.ref 62) _) _ _ _); refine (c_div2n1n _ _ _ _ _ _ hb hx9.1 hbb hx9.2 (bits_small hx9.1 hx9.2 hn0)).use (by k_asm) (by k_asm) (by k_asm) (by k_asm) (by k_asm) (by k_room) (by k_units) ?_; intro p' t1' t2' c' h' tk' F' N' l1; (try k_lt l1); (try k_sweep))
      | ((with_reducible show wpAny _ _ (call (Value.ref 76) _) _ _ _); refine (c_int2digits ps1 d1 o1 a _ k _ _ ha haa hn0 hn1 hd hk hok (Tabs2.st1 hT) (Tabs2.n1 hT) (Tabs2.r1 hT)).use (by k_asm) (by k_asm) (by k_asm) (by k_asm) (by k_asm) (by k_room) (by k_units) ?_; intro r' vs' ca da oda h' tk' i' F' N' T1' n1' n2' l1'; (replace l1' := And.intro l1'.1 (allLt_of l1'.2)); (simp only [AllLt, and_true] at l1'))
      | ((with_reducible show wpAny _ _ (binaryOp .LShift _ _) _ _ _); refine lshift_int_small (by omega) (by omega) (by omega) ?_)
      | ((with_reducible show wpAny _ _ (call (Value.builtin "list.reverse") _) _ _ _); refine kl_reverse (l := vq.reverse) (by k_asm) (by k_asm) rfl (by k_upd) hzq ?_; intro h' F' N')); k_steps)
    unfold Stop
    exact UnrEnd.intro (by k_asm) (push1 (by k_asm)) ((D, listOf (vq ++ [_]).toArray (eq + 1)) :: (r', listOf vs'.toArray ca) :: (71, tabObj (full 41 4 da)) :: (da, oda) :: (78, tabObj ps2) :: (d2, o2) :: rest) (fun p hp => .tail _ hp) (ne_of_allLt (news := (D, listOf (vq ++ [_]).toArray (eq + 1)) :: (r', listOf vs'.toArray ca) :: (71, tabObj (full 41 4 da)) :: (da, oda) :: (78, tabObj ps2) :: (d2, o2) :: rest) lI (Nat.le_refl _))
      ⟨by k_mem, (r1 * 2 ^ ((Builtin.Int.intBits b : Nat) : Int).toNat + x9).fmod b, _, _, rs9, qs ++ [(r1 * 2 ^ ((Builtin.Int.intBits b : Nat) : Int).toNat + x9).fdiv b], _, _, fun q hq => hq, rfl, rfl, rfl, rfl, iv9, ints_snoc iq, by rw [List.length_append, List.length_singleton]; rw [List.length_cons] at hl; omega, ⟨Int.fmod_nonneg_of_pos _ hb, Int.fmod_lt_of_pos _ hb⟩, ev9⟩
end

local macro_rules | `(tactic| walk_at "no line 4") => `(tactic| fail)
local macro_rules | `(tactic| walk_at "no line 5") => `(tactic| fail)
section
open PySem PySem.W PyProof.Rows
set_option Elab.async false
set_option maxRecDepth 100000
set_option maxHeartbeats 0
open PySem.Calls
noncomputable abbrev bl (b : Int) : Int := ((Builtin.Int.intBits b : Nat) : Int)
/-- how many digits a has, each as long as b -/
noncomputable def nDig (a b : Int) : Nat := ((bl a + bl b - 1).fdiv (bl b)).toNat
noncomputable def qDigs (a b : Int) : Int × List Int × Bool := runD b (bl b) (digs a (bl b) (nDig a b)).reverse
noncomputable def divPos (a b : Int) : Int × Int := (joinD (bl b) (qDigs a b).2.1.reverse, (qDigs a b).1)
noncomputable def okDiv (a b : Int) : Bool :=
  (decide (0 ≤ a) && decide (a < 1073741824) && decide (0 < b) && decide (b < 1073741824)) && (decide (0 < bl b) && decide (bl b < 31)) && (nDig a b == 1 || nDig a b == 2 || nDig a b == 3) &&
    okP (bl b) 9 a 0 (nDig a b) && (qDigs a b).2.2 && okG (bl b) 9 0 (qDigs a b).2.1.reverse.length (qDigs a b).2.1.reverse
noncomputable abbrev RetT (rest : List (Addr × Obj)) (x y : Int) (h₀ : Heap) (L : Addr) (m : Str → Option Value) (s : Shared) (Q : Value → Shared → Prop) : Prop :=
  ∀ (r : Addr) (t1 t2 : Tok) (c : Nat) (d1' : Addr) (o1' : Obj) (d2' : Addr) (o2' : Obj) (h' : Heap) (tk' : Nat), Fr h₀ L h' m →
    News h₀ L h' ((r, ({ cls := .type "tuple", data := .seq #[.int x t1, .int y t2] c } : Obj)) :: (71, tabObj (full 41 4 d1')) :: (d1', o1') :: (78, tabObj (full 56 4 d2')) :: (d2', o2') :: rest) →
    Tabs2 (full 41 4 d1') d1' o1' (full 56 4 d2') d2' o2' rest → AllLt r ((71, tabObj (full 41 4 d1')) :: (d1', o1') :: (78, tabObj (full 56 4 d2')) :: (d2', o2') :: rest) → Q (.ref r) { s with heap := h', toks := tk' }
theorem c_divpos {w : World} {p : Program} {loose : List Str} {mean : ExcName → Option Value} {mg mb : Str → Option Value} {rest : List (Addr × Obj)} (ps1 : Array Value) (d1 : Addr) (o1 : Obj) (ps2 : Array Value) (d2 : Addr) (o2 : Obj) (a b : Int) (t u : Tok) (hok : okDiv a b = true) (hT : Tabs2 ps1 d1 o1 ps2 d2 o2 rest) :
    ConN w p loose mean mg mb 12 90 ((71, tabObj ps1) :: (d1, o1) :: (78, tabObj ps2) :: (d2, o2) :: rest) [.int a t, .int b u] (RetT rest (divPos a b).1 (divPos a b).2) := by
  unfold okDiv at hok
  simp only [Bool.and_eq_true, Bool.or_eq_true, decide_eq_true_eq, beq_iff_eq] at hok
  obtain ⟨⟨⟨⟨⟨⟨⟨⟨a0, a1⟩, b0⟩, b1⟩, n0, n1⟩, hk⟩, hP⟩, hR⟩, hG⟩ := hok
  have hz : 0 < nDig a b := by omega
  have hd : (bl a + bl b - 1).fdiv (bl b) = (nDig a b : Int) := by
    unfold nDig at hz ⊢
    omega
  unfold divPos
  unfold qDigs at hR hG ⊢
  exact c_divposK ps1 d1 o1 ps2 d2 o2 a b (bl b) (nDig a b) t u a0 a1 b0 b1 rfl n0 n1 hd (by omega) (fun _ => ⟨hz, hP⟩) hR (fun _ => hG) hT
theorem okDiv_pos {a b : Int} (hok : okDiv a b = true) : 0 ≤ a ∧ 0 < b := by
  unfold okDiv at hok
  simp only [Bool.and_eq_true, Bool.or_eq_true, decide_eq_true_eq, beq_iff_eq] at hok
  obtain ⟨⟨⟨⟨⟨⟨⟨⟨a0, a1⟩, b0⟩, b1⟩, n0, n1⟩, hk⟩, hP⟩, hR⟩, hG⟩ := hok
  exact ⟨a0, b0⟩
theorem retT_swap {rest : List (Addr × Obj)} {h₀ h : Heap} {L p a1 a2 a3 a4 : Addr} {op o1 o2 o3 o4 : Obj} {x : Addr × Obj} (N : News h₀ L h ((p, op) :: x :: (a1, o1) :: (a2, o2) :: (a3, o3) :: (a4, o4) :: rest)) : News h₀ L h ((p, op) :: (a1, o1) :: (a2, o2) :: (a3, o3) :: (a4, o4) :: rest) :=
  cb_drop N (by simp +contextual)
local macro_rules | `(tactic| walk_at "call ref") => `(tactic| (k_here; refine stuck_of ?_))
theorem c_intdiv0 {w : World} {p : Program} {loose : List Str} {mean : ExcName → Option Value} {mg mb : Str → Option Value} {rest : List (Addr × Obj)} (ps1 : Array Value) (d1 : Addr) (o1 : Obj) (ps2 : Array Value) (d2 : Addr) (o2 : Obj) (a b : Int) (t u : Tok) (hok : okDiv a b = true) (hT : Tabs2 ps1 d1 o1 ps2 d2 o2 rest) :
    ConN w p loose mean mg mb 13 97 ((71, tabObj ps1) :: (d1, o1) :: (78, tabObj ps2) :: (d2, o2) :: rest) [.int a t, .int b u] (RetT rest (divPos a b).1 (divPos a b).2) := by
  unfold ConN RetT
  k_fill
  intros; rename_i hret
  obtain ⟨ha, hb⟩ := okDiv_pos hok
  refine wpAny_call ?_
  k_dflt k_enter
  k_steps
  repeat' ((with_reducible refine of_stuck ?_); (first
    | ((with_reducible show wpAny _ _ (call (Value.ref _) _) _ _ _); k_dflt (refine (c_divpos _ _ _ _ _ _ _ _ _ _ (by assumption) (by assumption)).use (by k_asm) (by k_asm) (by k_asm) (by k_asm) (by k_asm) (by k_room) (by k_units) ?_); intro r' t1' t2' c' d1' o1' d2' o2' h' tk' F' N' T2' l1; (try simp only [AllLt, and_true] at l1))); k_steps)
  · exfalso; omega
  · exact hret _ _ _ _ _ _ _ _ _ _ (by k_asm) (by k_asm) (by assumption) (by simp only [AllLt, and_true]; assumption)
theorem c_intdiv1 {w : World} {p : Program} {loose : List Str} {mean : ExcName → Option Value} {mg mb : Str → Option Value} {rest : List (Addr × Obj)} (ps1 : Array Value) (d1 : Addr) (o1 : Obj) (ps2 : Array Value) (d2 : Addr) (o2 : Obj) (a b : Int) (t u : Tok) (ha : a < 0) (hok : okDiv (Builtin.bitNot a) b = true) (hT : Tabs2 ps1 d1 o1 ps2 d2 o2 rest) :
    ConN w p loose mean mg mb 14 97 ((71, tabObj ps1) :: (d1, o1) :: (78, tabObj ps2) :: (d2, o2) :: rest) [.int a t, .int b u] (RetT rest (Builtin.bitNot (divPos (Builtin.bitNot a) b).1) (b + Builtin.bitNot (divPos (Builtin.bitNot a) b).2)) := by
  unfold ConN RetT
  k_fill
  intros; rename_i hret
  obtain ⟨ha', hb⟩ := okDiv_pos hok
  refine wpAny_call ?_
  k_dflt k_enter
  k_steps
  repeat' ((with_reducible refine of_stuck ?_); (first
    | ((with_reducible show wpAny _ _ (call (Value.ref _) _) _ _ _); k_dflt (refine (c_intdiv0 _ _ _ _ _ _ _ _ _ _ (by assumption) (by assumption)).use (by k_asm) (by k_asm) (by k_asm) (by k_asm) (by k_asm) (by k_room) (by k_units) ?_); intro r' t1' t2' c' d1' o1' d2' o2' h' tk' F' N' T2' l1; (try simp only [AllLt, and_true] at l1))
    | ((with_reducible show wpAny _ _ (call (Value.ref _) _) _ _ _); k_dflt (refine (c_divpos _ _ _ _ _ _ _ _ _ _ (by assumption) (by assumption)).use (by k_asm) (by k_asm) (by k_asm) (by k_asm) (by k_asm) (by k_room) (by k_units) ?_); intro r' t1' t2' c' d1' o1' d2' o2' h' tk' F' N' T2' l1; (try simp only [AllLt, and_true] at l1))); k_steps)
  · exfalso; omega
  · exact hret _ _ _ _ _ _ _ _ _ _ (by k_asm) (retT_swap (by k_asm)) (by assumption) (by simp only [AllLt, and_true]; exact And.right (by assumption))
theorem ConN.mono {w : World} {p : Program} {loose : List Str} {mean : ExcName → Option Value} {mg mb : Str → Option Value} {k k' : Nat} {f : Addr} {news : List (Addr × Obj)} {vs : List Value} {Ret : Heap → Addr → (Str → Option Value) → Shared → (Value → Shared → Prop) → Prop}
    (H : ConN w p loose mean mg mb k f news vs Ret) (h : k ≤ k') : ConN w p loose mean mg mb k' f news vs Ret := by
  intro dp un gd cn names g1 g2 more a ccd cl outer A₀ base h₀ L m s Q E B F X N T hd hu hret
  exact H dp un gd cn names g1 g2 more a ccd cl outer A₀ base h₀ L m s Q E B F X N T (by omega) (by omega) hret
noncomputable def intDiv (a b : Int) : Int × Int := if a < 0 then (Builtin.bitNot (divPos (Builtin.bitNot a) b).1, b + Builtin.bitNot (divPos (Builtin.bitNot a) b).2) else divPos a b
noncomputable def okI (a b : Int) : Bool := if a < 0 then okDiv (Builtin.bitNot a) b else okDiv a b
theorem c_intdiv {w : World} {p : Program} {loose : List Str} {mean : ExcName → Option Value} {mg mb : Str → Option Value} {rest : List (Addr × Obj)} (ps1 : Array Value) (d1 : Addr) (o1 : Obj) (ps2 : Array Value) (d2 : Addr) (o2 : Obj) (a b : Int) (t u : Tok) (hok : okI a b = true) (hT : Tabs2 ps1 d1 o1 ps2 d2 o2 rest) :
    ConN w p loose mean mg mb 14 97 ((71, tabObj ps1) :: (d1, o1) :: (78, tabObj ps2) :: (d2, o2) :: rest) [.int a t, .int b u] (RetT rest (intDiv a b).1 (intDiv a b).2) := by
  unfold okI at hok
  unfold intDiv
  by_cases h : a < 0
  · rw [if_pos h] at hok ⊢
    exact c_intdiv1 ps1 d1 o1 ps2 d2 o2 a b t u h hok hT
  · rw [if_neg h] at hok ⊢
    exact (c_intdiv0 ps1 d1 o1 ps2 d2 o2 a b t u hok hT).mono (by decide)
end

section
open PySem PySem.W PyProof.Rows
set_option Elab.async false
set_option maxRecDepth 100000
set_option maxHeartbeats 0
open PySem.Calls
theorem Tabs2.grow {ps1 : Array Value} {d1 : Addr} {o1 : Obj} {ps2 : Array Value} {d2 : Addr} {o2 : Obj} {rest more : List (Addr × Obj)} (T : Tabs2 ps1 d1 o1 ps2 d2 o2 rest) (h : ∀ q ∈ more, q.1 ≠ 71 ∧ q.1 ≠ 78 ∧ q.1 ≠ d1 ∧ q.1 ≠ d2) : Tabs2 ps1 d1 o1 ps2 d2 o2 (more ++ rest) := by
  refine ⟨tabSt_more T.1 fun k q hq => ?_, tabSt_more T.2.1 fun k q hq => ?_, T.2.2.1, fun q hq => ?_⟩
  · rcases List.mem_cons.mp hq with rfl | hq
    · exact k _ (.head _)
    · rcases List.mem_cons.mp hq with rfl | hq
      · exact k _ (.tail _ (.head _))
      · rcases List.mem_append.mp hq with hq | hq
        · exact (h q hq).2.2.1
        · exact k q (.tail _ (.tail _ hq))
  · rcases List.mem_cons.mp hq with rfl | hq
    · exact k _ (.head _)
    · rcases List.mem_cons.mp hq with rfl | hq
      · exact k _ (.tail _ (.head _))
      · rcases List.mem_append.mp hq with hq | hq
        · exact (h q hq).2.2.2
        · exact k q (.tail _ (.tail _ hq))
  · rcases List.mem_append.mp hq with hq | hq
    · exact ⟨(h q hq).1, (h q hq).2.1⟩
    · exact T.2.2.2 q hq
theorem Tabs2.cut {ps1 : Array Value} {d1 : Addr} {o1 : Obj} {ps2 : Array Value} {d2 : Addr} {o2 : Obj} {rest more : List (Addr × Obj)} (T : Tabs2 ps1 d1 o1 ps2 d2 o2 (more ++ rest)) : Tabs2 ps1 d1 o1 ps2 d2 o2 rest := by
  refine ⟨tabSt_more T.1 fun k q hq => ?_, tabSt_more T.2.1 fun k q hq => ?_, T.2.2.1, fun q hq => T.2.2.2 q (List.mem_append_right _ hq)⟩
  · rcases List.mem_cons.mp hq with rfl | hq
    · exact k _ (.head _)
    · rcases List.mem_cons.mp hq with rfl | hq
      · exact k _ (.tail _ (.head _))
      · exact k q (.tail _ (.tail _ (List.mem_append_right _ hq)))
  · rcases List.mem_cons.mp hq with rfl | hq
    · exact k _ (.head _)
    · rcases List.mem_cons.mp hq with rfl | hq
      · exact k _ (.tail _ (.head _))
      · exact k q (.tail _ (.tail _ (List.mem_append_right _ hq)))
theorem Tabs2.off {t1 t2 : Array Value} {d1 : Addr} {o1 : Obj} {d2 : Addr} {o2 : Obj} {rest more : List (Addr × Obj)} (T : Tabs2 t1 d1 o1 t2 d2 o2 (more ++ rest)) : ∀ q ∈ more, q.1 ≠ d1 ∧ q.1 ≠ d2 := fun q hq =>
  ⟨tabSt_off T.1 q (.tail _ (.tail _ (List.mem_append_left _ hq))), tabSt_off T.2.1 q (.tail _ (.tail _ (List.mem_append_left _ hq)))⟩
/-- the run: the quotients rounded up, till q is 0 -/
noncomputable def runGo : Nat → Int → Int → List Int → List Int
  | 0, _, _, ps => ps
  | k + 1, n, q, ps => if q ≤ 0 then ps else runGo k q (intDiv (-n) q).2 (ps ++ [-(intDiv (-n) q).1])
noncomputable def okRun : Nat → Int → Int → Bool
  | 0, _, _ => true
  | k + 1, n, q => if q ≤ 0 then true else okI (-n) q && okRun k q (intDiv (-n) q).2
theorem okRun_div {k : Nat} {n q : Int} (h : okRun (k + 1) n q = true) (e : ¬ q ≤ 0) : okI (-n) q = true := by
  unfold okRun at h
  rw [if_neg e, Bool.and_eq_true] at h
  exact h.1
theorem okRun_next {k : Nat} {n q : Int} (h : okRun (k + 1) n q = true) (e : ¬ q ≤ 0) : okRun k q (intDiv (-n) q).2 = true := by
  unfold okRun at h
  rw [if_neg e, Bool.and_eq_true] at h
  exact h.2
theorem runGo_end {k : Nat} {n q : Int} {ps : List Int} (e : q ≤ 0) : runGo (k + 1) n q ps = ps := by conv => lhs; unfold runGo; rw [if_pos e]
theorem runGo_next {k : Nat} {n q : Int} {ps : List Int} (e : ¬ q ≤ 0) : runGo (k + 1) n q ps = runGo k q (intDiv (-n) q).2 (ps ++ [-(intDiv (-n) q).1]) := by conv => lhs; unfold runGo; rw [if_neg e]
theorem use97 {w : World} {p : Program} {loose : List Str} {mean : ExcName → Option Value} {mg mb : Str → Option Value} {ps1 : Array Value} {d1 : Addr} {o1 : Obj} {ps2 : Array Value} {d2 : Addr} {o2 : Obj} {rest : List (Addr × Obj)} {x1 x2 : Addr} {z1 z2 : Obj} {aa bb : Int} {t u : Tok}
    {dp un : Nat} {gd : Option (List Code)} {cn : Str} {names : List (Str × NameKind)} {g1 g2 : Bool} {more : List (Str × Const)} {a : Addr} {ccd : Value} {cl : List (Str × Addr)} {outer : List Env} {A₀ : Around} {base h₀ : Heap} {L : Addr} {m : Str → Option Value} {s : Shared} {Q E : Value → Shared → Prop}
    (B : Below A₀ base outer h₀) (F : Fr h₀ L s.heap m) (X : (K w.params).In h₀) (N : News h₀ L s.heap ((x1, z1) :: (x2, z2) :: (71, tabObj ps1) :: (d1, o1) :: (78, tabObj ps2) :: (d2, o2) :: rest)) (T : Top p loose mean mg mb h₀) (TT : Tabs2 ps1 d1 o1 ps2 d2 o2 rest)
    (hx : (@Ne Nat x1 71 ∧ @Ne Nat x1 78 ∧ @Ne Nat x1 d1 ∧ @Ne Nat x1 d2) ∧ (@Ne Nat x2 71 ∧ @Ne Nat x2 78 ∧ @Ne Nat x2 d1 ∧ @Ne Nat x2 d2)) (hok : okI aa bb = true) (hd : dp + 14 + 1 < recursionLimit) (hu : un + 8 * (14 + 1) < cLine)
    (hret : ∀ (r : Addr) (t1 t2 : Tok) (c : Nat) (d1' : Addr) (o1' : Obj) (d2' : Addr) (o2' : Obj) (h' : Heap) (tk' : Nat), Fr h₀ L h' m →
      News h₀ L h' ((r, ({ cls := .type "tuple", data := .seq #[.int (intDiv aa bb).1 t1, .int (intDiv aa bb).2 t2] c } : Obj)) :: (x1, z1) :: (x2, z2) :: (71, tabObj (full 41 4 d1')) :: (d1', o1') :: (78, tabObj (full 56 4 d2')) :: (d2', o2') :: rest) →
      Tabs2 (full 41 4 d1') d1' o1' (full 56 4 d2') d2' o2' rest → ((@Ne Nat x1 d1' ∧ @Ne Nat x1 d2') ∧ (@Ne Nat x2 d1' ∧ @Ne Nat x2 d2')) →
      (∀ q ∈ ((x1, z1) :: (x2, z2) :: (71, tabObj (full 41 4 d1')) :: (d1', o1') :: (78, tabObj (full 56 4 d2')) :: (d2', o2') :: rest), q.1 < r) → Q (.ref r) { s with heap := h', toks := tk' }) :
      wpAny (model PySem.Challenge.rw_sn0081_01.row.prog w) (ktrTop dp un gd cn ⟨.function, names, g1, g2, more⟩ L a ccd cl outer) (call (.ref 97) [.int aa t, .int bb u]) Q E s := by
  have T2 : Tabs2 ps1 d1 o1 ps2 d2 o2 ([(x1, z1), (x2, z2)] ++ rest) := TT.grow fun q hq => by
    rcases List.mem_cons.mp hq with rfl | hq
    · exact hx.1
    · rcases List.mem_singleton.mp hq with rfl
      exact hx.2
  refine (c_intdiv (rest := [(x1, z1), (x2, z2)] ++ rest) ps1 d1 o1 ps2 d2 o2 aa bb t u hok T2).use B F X (cb_drop N (by simp +contextual)) T hd hu ?_
  intro r t1 t2 c d1' o1' d2' o2' h' tk' F' N' T' l'
  have e := T'.off
  have l := allLt_mem l'
  refine hret r t1 t2 c d1' o1' d2' o2' h' tk' F' (cb_drop N' (by simp +contextual)) T'.cut ⟨e (x1, z1) (by simp), e (x2, z2) (by simp)⟩ fun q hq => l q ?_
  revert hq
  simp only [List.mem_cons, List.mem_append, List.not_mem_nil, or_false]
  rintro (h | h | h | h | h | h | h) <;> simp [h]
end

local macro_rules | `(tactic| walk_at "no line 6") => `(tactic| fail)
section
open PySem PySem.W PyProof.Rows
set_option Elab.async false
set_option maxRecDepth 100000
set_option maxHeartbeats 0
open PySem.Calls
noncomputable abbrev RetLT (rest : List (Addr × Obj)) (ns : List Int) (h₀ : Heap) (L : Addr) (m : Str → Option Value) (s : Shared) (Q : Value → Shared → Prop) : Prop :=
  ∀ (r : Addr) (vs : List Value) (c : Nat) (ps1' : Array Value) (d1' : Addr) (o1' : Obj) (ps2' : Array Value) (d2' : Addr) (o2' : Obj) (h' : Heap) (tk' : Nat), IntsAre vs ns → Fr h₀ L h' m →
    News h₀ L h' ((r, listOf vs.toArray c) :: (71, tabObj ps1') :: (d1', o1') :: (78, tabObj ps2') :: (d2', o2') :: rest) →
    Tabs2 ps1' d1' o1' ps2' d2' o2' rest → (@Ne Nat r d1' ∧ @Ne Nat r d2' ∧ @LT.lt Nat _ 71 r ∧ @LT.lt Nat _ 78 r ∧ ∀ q ∈ rest, q.1 < r) → Q (.ref r) { s with heap := h', toks := tk' }
theorem run_end {h₀ : Heap} {L I D a1 a2 : Addr} {it b1 b2 : Obj} {R : (Str → Option Value) → List (Addr × Obj) → Prop} {s₁ : Shared} {h' : Heap} {tk ep : Nat} {m' : Str → Option Value} {y1 y2 : Addr × Obj} {vs : List Value} {z : Int} {tz : Tok} {t1 t2 : Array Value} {rest : List (Addr × Obj)} (F : Fr h₀ L h' m')
    (N : News h₀ L h' (y1 :: y2 :: (I, it) :: (D, listOf (vs.toArray.push (.int z tz)) (ep + 1)) :: (71, tabObj t1) :: (a1, b1) :: (78, tabObj t2) :: (a2, b2) :: rest))
    (off : (@Ne Nat D I ∧ @Ne Nat 71 I ∧ @Ne Nat a1 I ∧ @Ne Nat 78 I ∧ @Ne Nat a2 I) ∧ ∀ q ∈ rest, q.1 ≠ I) (r : R m' ((D, listOf (vs ++ [Value.int z tz]).toArray (ep + 1)) :: (71, tabObj t1) :: (a1, b1) :: (78, tabObj t2) :: (a2, b2) :: rest)) :
    UnrEnd h₀ L s₁ I it R { s₁ with heap := h', toks := tk } := by
  have e : vs.toArray.push (.int z tz) = (vs ++ [Value.int z tz]).toArray := by simp
  rw [e] at N
  refine UnrEnd.intro F N _ (fun p hp => ?_) (fun p hp => ?_) r
  · exact .tail _ (.tail _ hp)
  · rcases List.mem_cons.mp hp with rfl | hp
    · exact off.1.1
    · rcases List.mem_cons.mp hp with rfl | hp
      · exact off.1.2.1
      · rcases List.mem_cons.mp hp with rfl | hp
        · exact off.1.2.2.1
        · rcases List.mem_cons.mp hp with rfl | hp
          · exact off.1.2.2.2.1
          · rcases List.mem_cons.mp hp with rfl | hp
            · exact off.1.2.2.2.2
            · exact off.2 p hp
inductive RunInv (D I : Addr) (n q : Int) (rest : List (Addr × Obj)) (k : Nat) (m : Str → Option Value) (nx : List (Addr × Obj)) : Prop
  | mk (n1 q1 : Int) (tn tq : Tok) (ps : List Int) (vs : List Value) (ep : Nat) (e1 : Array Value) (a1 : Addr) (b1 : Obj) (e2 : Array Value) (a2 : Addr) (b2 : Obj)
    (_ : nx = (D, listOf vs.toArray ep) :: (71, tabObj e1) :: (a1, b1) :: (78, tabObj e2) :: (a2, b2) :: rest)
    (_ : m (Str.ofString "n") = some (.int n1 tn))
    (_ : m (Str.ofString "q") = some (.int q1 tq))
    (_ : m (Str.ofString "parts") = some (.ref D))
    (_ : okRun k n1 q1 = true)
    (_ : runGo k n1 q1 ps = runGo 40 n q [])
    (_ : IntsAre vs ps)
    (_ : ps.length + k ≤ 40)
    (_ : Tabs2 e1 a1 b1 e2 a2 b2 rest)
    (_ : (@Ne Nat D a1 ∧ @Ne Nat D a2))
    (_ : (@Ne Nat I a1 ∧ @Ne Nat I a2)) : RunInv D I n q rest k m nx
local macro_rules | `(tactic| walk_at "UnrEnd") => `(tactic| (k_here; refine stop_of ?_))
local macro_rules | `(tactic| walk_at "call ref") => `(tactic| (k_here; refine stuck_of ?_))
local macro_rules | `(tactic| walk_at "pyIter ref") => `(tactic| (k_here; (with_reducible show wpAny _ _ (pyIter (Value.ref _)) (fun it s₂ => LoopAtV _ _ _ _ _ _ _ _ _ it s₂) _ _); l_hasStore; with_unfolding_all refine iter_rangeUnr (n := 40) (by rfl) (by assumption) (by first | decide | rfl) (by first | decide | rfl) (by k_asm) (by k_asm) ?_; intro i' l1; (try k_lt l1); refine stop_of ?_))
theorem c_run {w : World} {p : Program} {loose : List Str} {mean : ExcName → Option Value} {mg mb : Str → Option Value} {rest : List (Addr × Obj)} (ps1 : Array Value) (d1 : Addr) (o1 : Obj) (ps2 : Array Value) (d2 : Addr) (o2 : Obj) (n q : Int) (t u : Tok) (hok : okRun 40 n q = true) (hT : Tabs2 ps1 d1 o1 ps2 d2 o2 rest) :
    ConN w p loose mean mg mb 16 228 ((71, tabObj ps1) :: (d1, o1) :: (78, tabObj ps2) :: (d2, o2) :: rest) [.int n t, .int q u] (RetLT rest (runGo 40 n q [])) := by
  unfold ConN RetLT
  k_fill
  intros; rename_i hret
  refine wpAny_call ?_
  k_dflt k_enter
  k_steps
  repeat' ((with_reducible refine of_stuck ?_); (first
    | ((with_reducible show wpAny _ _ (call (Value.ref _) _) _ _ _); k_dflt (refine use97 (by k_asm) (by k_asm) (by k_asm) (by k_asm) (by k_asm) (by assumption) (by refine ⟨⟨?_, ?_, ?_, ?_⟩, ⟨?_, ?_, ?_, ?_⟩⟩ <;> omega) (okRun_div (by assumption) (by omega)) (by k_room) (by k_units) ?_); intro r' t1' t2' c' d1' o1' d2' o2' h' tk' F' N' T2' n2' l1; (try k_lt l1))); k_steps)
  unfold Stop
  rename_i I lI
  rename News _ _ _ _ => N2
  obtain ⟨D, hD⟩ := addr_of N2
  subst hD
  refine rangeRest_ind (fun k _ m nx => RunInv D I n q rest k m nx) ?h0 ?hs 40 0 _ _ ?st
  case st => exact ⟨n, q, _, _, [], [], 0, ps1, d1, o1, ps2, d2, o2, rfl, rfl, rfl, rfl, hok, rfl, .nil, by decide, hT, by omega, by omega⟩
  case h0 =>
    rintro i m nx ⟨n1, q1, tn, tq, ps, vs, ep, e1, a1, b1, e2, a2, b2, rfl, hm1, hm2, hm3, ok1, ev, iv, hl, TT, ne1, ne2⟩ h9 tk9 F9 N9
    obtain ⟨u9, hu9⟩ : ∃ u : Str → Option Value, m = fun y => if y = Str.ofString "n" then some (.int n1 tn) else if y = Str.ofString "q" then some (.int q1 tq) else if y = Str.ofString "parts" then some (.ref D) else u y := ⟨m, shape3 hm1 hm2 hm3⟩
    clear hm1 hm2 hm3
    subst hu9
    k_steps
    repeat' ((with_reducible refine of_stuck ?_); (first
      | ((with_reducible show wpAny _ _ (call (Value.ref _) _) _ _ _); k_dflt (refine use97 (by k_asm) (by k_asm) (by k_asm) (by k_asm) (by k_asm) (by assumption) (by refine ⟨⟨?_, ?_, ?_, ?_⟩, ⟨?_, ?_, ?_, ?_⟩⟩ <;> omega) (okRun_div (by assumption) (by omega)) (by k_room) (by k_units) ?_); intro r' t1' t2' c' d1' o1' d2' o2' h' tk' F' N' T2' n2' l1; (try k_lt l1))); k_steps)
    exact hret _ _ _ _ _ _ _ _ _ _ _ (by rw [← ev]; exact iv) (by k_asm) (by k_asm) TT ⟨ne1.1, ne1.2, by omega, by omega, by first     | exact allLt_mem (by assumption)     | exact allLt_mem (And.right (by assumption))     | exact allLt_mem (And.right (And.right (by assumption)))     | exact allLt_mem (And.right (And.right (And.right (by assumption))))     | exact allLt_mem (And.right (And.right (And.right (And.right (by assumption)))))     | exact allLt_mem (And.right (And.right (And.right (And.right (And.right (by assumption))))))     | exact allLt_mem (And.right (And.right (And.right (And.right (And.right (And.right (by assumption)))))))     | exact allLt_mem (And.right (And.right (And.right (And.right (And.right (And.right (And.right (by assumption))))))))     | exact allLt_mem (And.right (And.right (And.right (And.right (And.right (And.right (And.right (And.right (by assumption)))))))))     | exact allLt_mem (And.right (And.right (And.right (And.right (And.right (And.right (And.right (And.right (And.right (by assumption))))))))))     | exact allLt_mem (And.right (And.right (And.right (And.right (And.right (And.right (And.right (And.right (And.right (And.right (by assumption)))))))))))     | exact allLt_mem (And.right (And.right (And.right (And.right (And.right (And.right (And.right (And.right (And.right (And.right (And.right (by assumption))))))))))))     | exact allLt_mem (And.right (And.right (And.right (And.right (And.right (And.right (And.right (And.right (And.right (And.right (And.right (And.right (by assumption)))))))))))))     | exact allLt_mem (And.right (And.right (And.right (And.right (And.right (And.right (And.right (And.right (And.right (And.right (And.right (And.right (And.right (by assumption))))))))))))))     | exact allLt_mem (And.right (And.right (And.right (And.right (And.right (And.right (And.right (And.right (And.right (And.right (And.right (And.right (And.right (And.right (by assumption)))))))))))))))     | exact allLt_mem (And.right (And.right (And.right (And.right (And.right (And.right (And.right (And.right (And.right (And.right (And.right (And.right (And.right (And.right (And.right (by assumption)))))))))))))))) ⟩
  case hs =>
    rintro k i m nx ⟨n1, q1, tn, tq, ps, vs, ep, e1, a1, b1, e2, a2, b2, rfl, hm1, hm2, hm3, ok1, ev, iv, hl, TT, ne1, ne2⟩ t9 h9 tk9 F9 N9
    obtain ⟨u9, hu9⟩ : ∃ u : Str → Option Value, m = fun y => if y = Str.ofString "n" then some (.int n1 tn) else if y = Str.ofString "q" then some (.int q1 tq) else if y = Str.ofString "parts" then some (.ref D) else u y := ⟨m, shape3 hm1 hm2 hm3⟩
    clear hm1 hm2 hm3
    subst hu9
    k_steps
    repeat' ((with_reducible refine of_stuck ?_); (first
      | ((with_reducible show wpAny _ _ (call (Value.ref _) _) _ _ _); k_dflt (refine use97 (by k_asm) (by k_asm) (by k_asm) (by k_asm) (by k_asm) (by assumption) (by refine ⟨⟨?_, ?_, ?_, ?_⟩, ⟨?_, ?_, ?_, ?_⟩⟩ <;> omega) (okRun_div (by assumption) (by omega)) (by k_room) (by k_units) ?_); intro r' t1' t2' c' d1' o1' d2' o2' h' tk' F' N' T2' n2' l1; (try k_lt l1))); k_steps)
    · exact hret _ _ _ _ _ _ _ _ _ _ _ (by rw [← ev, runGo_end (by assumption)]; exact iv) (by k_asm) (drop1 (by k_asm)) TT ⟨ne1.1, ne1.2, by omega, by omega, by first     | exact allLt_mem (by assumption)     | exact allLt_mem (And.right (by assumption))     | exact allLt_mem (And.right (And.right (by assumption)))     | exact allLt_mem (And.right (And.right (And.right (by assumption))))     | exact allLt_mem (And.right (And.right (And.right (And.right (by assumption)))))     | exact allLt_mem (And.right (And.right (And.right (And.right (And.right (by assumption))))))     | exact allLt_mem (And.right (And.right (And.right (And.right (And.right (And.right (by assumption)))))))     | exact allLt_mem (And.right (And.right (And.right (And.right (And.right (And.right (And.right (by assumption))))))))     | exact allLt_mem (And.right (And.right (And.right (And.right (And.right (And.right (And.right (And.right (by assumption)))))))))     | exact allLt_mem (And.right (And.right (And.right (And.right (And.right (And.right (And.right (And.right (And.right (by assumption))))))))))     | exact allLt_mem (And.right (And.right (And.right (And.right (And.right (And.right (And.right (And.right (And.right (And.right (by assumption)))))))))))     | exact allLt_mem (And.right (And.right (And.right (And.right (And.right (And.right (And.right (And.right (And.right (And.right (And.right (by assumption))))))))))))     | exact allLt_mem (And.right (And.right (And.right (And.right (And.right (And.right (And.right (And.right (And.right (And.right (And.right (And.right (by assumption)))))))))))))     | exact allLt_mem (And.right (And.right (And.right (And.right (And.right (And.right (And.right (And.right (And.right (And.right (And.right (And.right (And.right (by assumption))))))))))))))     | exact allLt_mem (And.right (And.right (And.right (And.right (And.right (And.right (And.right (And.right (And.right (And.right (And.right (And.right (And.right (And.right (by assumption)))))))))))))))     | exact allLt_mem (And.right (And.right (And.right (And.right (And.right (And.right (And.right (And.right (And.right (And.right (And.right (And.right (And.right (And.right (And.right (by assumption)))))))))))))))) ⟩
    · unfold Stop
      rename Tabs2 _ _ _ _ _ _ _ => T9
      rename ((_ ∧ _) ∧ _ ∧ _) => ne9
      rename ¬ q1 ≤ 0 => hq
      refine run_end (by k_asm) (by k_asm) ⟨⟨by omega, by omega, by omega, by omega, by omega⟩, by k_all⟩ ?_
      exact ⟨q1, (intDiv (-n1) q1).2, _, _, ps ++ [-(intDiv (-n1) q1).1], _, _, _, _, _, _, _, _, rfl, rfl, rfl, rfl, okRun_next ok1 hq, by rw [← ev, runGo_next hq], ints_snoc iv, by rw [List.length_append, List.length_singleton]; omega, T9, ne9.2, ne9.1⟩
end

local macro_rules | `(tactic| walk_at "no line 7") => `(tactic| fail)
local macro_rules | `(tactic| walk_at "no line 8") => `(tactic| fail)
section
open PySem PySem.W PyProof.Rows
set_option Elab.async false
set_option maxRecDepth 100000
set_option maxHeartbeats 0
open PySem.Calls
noncomputable def fracStep (c : Int × Int) (part : Int) : Int × Int := (part * c.1 - c.2, c.1)
/-- n over q, of the parts from the last one on -/
noncomputable def fracOf (ns : List Int) : Int × Int := ns.reverse.foldl fracStep (1, 0)
inductive FracInv (l : Addr) (vs : List Value) (ep : Nat) (news : List (Addr × Obj)) (ns : List Int) (r : List Value) (m : Str → Option Value) (nx : List (Addr × Obj)) : Prop
  | mk (n1 q1 : Int) (tn tq : Tok) (rs : List Int)
    (_ : (∀ q ∈ (l, listOf vs.toArray ep) :: news, q ∈ nx))
    (_ : m (Str.ofString "n") = some (.int n1 tn))
    (_ : m (Str.ofString "q") = some (.int q1 tq))
    (_ : IntsAre r rs)
    (_ : (∀ x ∈ rs, 0 ≤ x ∧ x < 1000))
    (_ : rs.foldl fracStep (n1, q1) = fracOf ns) : FracInv l vs ep news ns r m nx
local macro_rules | `(tactic| k_offL) => `(tactic| exact offI_of (by k_all))
local macro_rules | `(tactic| walk_at "UnrEnd") => `(tactic| (k_here; refine stop_of ?_))
local macro_rules | `(tactic| walk_at "pyIter ref") => `(tactic| (k_here; ((with_reducible show wpAny _ _ (pyIter (Value.ref _)) (fun it s₂ => LoopAtV _ _ _ _ _ _ _ _ _ it s₂) _ _)); l_hasStore; with_unfolding_all refine iter_revUnr (by rfl) (by k_asm) (by k_asm) (by k_offL) (by k_mem) (by rfl) (by rfl) (stop_of ?_)))
theorem c_frac {w : World} {p : Program} {loose : List Str} {mean : ExcName → Option Value} {mg mb : Str → Option Value} {news : List (Addr × Obj)} (l : Addr) (vs : List Value) (ns : List Int) (ep : Nat) (hv : IntsAre vs ns) (hb : ∀ x ∈ ns, 0 ≤ x ∧ x < 1000) (hl : ∀ q ∈ news, q.1 ≠ l) :
    ConN w p loose mean mg mb 0 221 ((l, listOf vs.toArray ep) :: news) [.ref l] (RetPair ((l, listOf vs.toArray ep) :: news) (fracOf ns).1 (fracOf ns).2) := by
  unfold ConN
  dsimp only [RetPair]
  k_fill
  intros; rename_i hret
  refine wpAny_call ?_
  k_dflt k_enter
  k_steps
  unfold Stop
  rename_i lI
  rename News _ _ _ _ => N2
  obtain ⟨I, hI⟩ := addr_of N2
  subst hI
  refine revRest_ind (fun r m nx => FracInv l vs ep news ns r m nx) ?h0 ?hs vs.reverse _ _ ?st
  case st => exact ⟨1, 0, _, _, ns.reverse, fun q hq => .tail _ hq, rfl, rfl, ints_rev hv, fun x hx => hb x (List.mem_reverse.mp hx), rfl⟩
  case h0 =>
    rintro m nx ⟨n1, q1, tn, tq, rs, hnx, hm1, hm2, iv, hbs, ev⟩ h9 tk9 F9 N9
    obtain rfl := ints_nil iv
    obtain ⟨u9, hu9⟩ : ∃ u : Str → Option Value, m = fun y => if y = Str.ofString "n" then some (.int n1 tn) else if y = Str.ofString "q" then some (.int q1 tq) else u y := ⟨m, shape2 hm1 hm2⟩
    clear hm1 hm2
    subst hu9
    replace N9 := cb_drop N9 hnx
    rw [← ev] at hret
    dsimp only [List.foldl_nil] at hret
    k_steps
    exact hret _ _ _ _ _ _ (by k_asm) (by k_asm) (allLt_mem (by assumption))
  case hs =>
    rintro v r m nx ⟨n1, q1, tn, tq, rs, hnx, hm1, hm2, iv, hbs, ev⟩ it9 h9 tk9 c9 F9 N9
    obtain ⟨x9, t9, rs9, rfl, rfl, iv9⟩ := ints_cons iv
    obtain ⟨u9, hu9⟩ : ∃ u : Str → Option Value, m = fun y => if y = Str.ofString "n" then some (.int n1 tn) else if y = Str.ofString "q" then some (.int q1 tq) else u y := ⟨m, shape2 hm1 hm2⟩
    clear hm1 hm2 iv
    subst hu9
    replace N9 := drop_under N9 hnx
    obtain ⟨x0, x1⟩ := hbs x9 (.head _)
    k_steps
    unfold Stop
    exact UnrEnd.intro (by k_asm) (by k_asm) ((l, listOf vs.toArray ep) :: news) (fun p hp => .tail _ hp) (ne_of_allLt (news := (l, listOf vs.toArray ep) :: news) lI.2 (Nat.le_refl _))
      ⟨.head _, x9 * n1 - q1, n1, _, _, rs9, fun q hq => hq, rfl, rfl, iv9, fun x hx => hbs x (.tail _ hx), ev⟩
end

local macro_rules | `(tactic| walk_at "no line 9") => `(tactic| fail)
section
open PySem PySem.W PyProof.Rows
set_option Elab.async false
set_option maxRecDepth 100000
set_option maxHeartbeats 0
open PySem.Calls
local macro_rules | `(tactic| k_room) => `(tactic| ktr_room)
local macro_rules | `(tactic| k_units) => `(tactic| ktr_units)
local macro_rules | `(tactic| walk_at "KswEnd") => `(tactic| ((rename News _ _ _ _ => nE'); (refine ksw_end ⟨_, _, _, _⟩ (by assumption) nE' (by kst_in) (by kst_facts) (by kst_all) (by ksw_same) ?kp ?km); (case kp => first | exact bis_left (by assumption) (by assumption) (by assumption) (by assumption) (goR_t (by assumption)) | exact bis_right (by assumption) (by assumption) (by assumption) (by assumption) (goR_f (by first | assumption | omega)) | exact bis_left (by assumption) (by assumption) (by assumption) (by assumption) (goL_t (by first | assumption | omega)) | exact bis_right (by assumption) (by assumption) (by assumption) (by assumption) (goL_f (by assumption))); (case km => first | exact bis_lessL (by assumption) | exact bis_lessR (by assumption))))
section
local macro_rules | `(tactic| walk_at "exec While") => `(tactic| first | ((with_reducible show wpAny _ (Around.deeper _ (envOf (Str.ofString "bisect_right") _ _ _ _)) _ _ _ _); k_dflt (k_while_given ["a", "x"] (fun (a : List Int) (x : Int) (_ : List Int) lo hi => 0 ≤ lo ∧ lo ≤ hi ∧ hi ≤ (a.length : Int) ∧ bisAt (goR a x) lo hi = bisR a x) (fun (a : List Int) (x : Int) (_ : List Int) lo hi => (hi - lo).toNat) "lo" "hi")) | ((with_reducible show wpAny _ (Around.deeper _ (envOf (Str.ofString "bisect_left") _ _ _ _)) _ _ _ _); k_dflt (k_while_given ["a", "x"] (fun (a : List Int) (x : Int) (_ : List Int) lo hi => 0 ≤ lo ∧ lo ≤ hi ∧ hi ≤ (a.length : Int) ∧ bisAt (goL a x) lo hi = bisL a x) (fun (a : List Int) (x : Int) (_ : List Int) lo hi => (hi - lo).toNat) "lo" "hi")))
theorem n_bisR {w : World} {p : Program} {loose : List Str} {mean : ExcName → Option Value} {mg mb : Str → Option Value} {news : List (Addr × Obj)} (l : Addr) (vs : List Value) (ns : List Int) (ep : Nat) (x : Int) (t : Tok) (hv : IntsAre vs ns) (hz : ns.length < 2 ^ 62) :
    ConN w p loose mean mg mb 0 106 ((l, listOf vs.toArray ep) :: news) [.ref l, .int x t] (fun h₀ L m s Q => CbRet h₀ L m ((l, listOf vs.toArray ep) :: news) s Q fun t => .int (bisR ns x) t) := by
  unfold ConN
  dsimp only [CbRet]
  k_fill
  intros; rename_i hret
  refine wpAny_call ?_
  k_dflt k_enter
  k_steps
  refine' cb_retI hret ?e ?f ?n
  case f => k_asm
  case n => first | k_asm | (refine' cb_drop ?cbN ?cbS; (case cbN => assumption); (case cbS => kcj_all))
  (rename (bisAt _ _ _ = _) => hB)
  rw [← hB]
  exact (bisAt_end (by first | assumption | omega)).symm
theorem n_bisL {w : World} {p : Program} {loose : List Str} {mean : ExcName → Option Value} {mg mb : Str → Option Value} {news : List (Addr × Obj)} (l : Addr) (vs : List Value) (ns : List Int) (ep : Nat) (x : Int) (t : Tok) (hv : IntsAre vs ns) (hz : ns.length < 2 ^ 62) :
    ConN w p loose mean mg mb 0 115 ((l, listOf vs.toArray ep) :: news) [.ref l, .int x t] (fun h₀ L m s Q => CbRet h₀ L m ((l, listOf vs.toArray ep) :: news) s Q fun t => .int (bisL ns x) t) := by
  unfold ConN
  dsimp only [CbRet]
  k_fill
  intros; rename_i hret
  refine wpAny_call ?_
  k_dflt k_enter
  k_steps
  refine' cb_retI hret ?e ?f ?n
  case f => k_asm
  case n => first | k_asm | (refine' cb_drop ?cbN ?cbS; (case cbN => assumption); (case cbS => kcj_all))
  (rename (bisAt _ _ _ = _) => hB)
  rw [← hB]
  exact (bisAt_end (by first | assumption | omega)).symm
end
end

section
open PySem PySem.W PyProof.Rows
set_option Elab.async false
set_option maxRecDepth 100000
set_option maxHeartbeats 0
open PySem.Calls
noncomputable def turnStep (c : List Int × List Int × Int) (wd : Int) : List Int × List Int × Int := (c.1 ++ [c.2.2], c.2.1 ++ [c.2.2 + wd - 1], c.2.2 + wd - 1)
noncomputable def turnGo (ws : List Int) : List Int × List Int × Int := ws.foldl turnStep ([], [], 0)
noncomputable def turned (ws : List Int) : List Int := (rangeKs 0 ((turnGo ws).2.2 + 1).toNat).map fun k => bisR (turnGo ws).1 k - bisL (turnGo ws).2.1 k
section
variable {w : World} {p : Program} {loose : List Str} {mean : ExcName → Option Value} {mg mb : Str → Option Value} {all : List (Addr × Obj)} {l : Addr} {o : Obj} {vs : List Value} {ns : List Int} {ep : Nat} {x : Int} {t : Tok}
    {dp un : Nat} {gd : Option (List Code)} {cn : Str} {names : List (Str × NameKind)} {g1 g2 : Bool} {more : List (Str × Const)} {a : Addr} {ccd : Value} {cl : List (Str × Addr)} {outer : List Env} {A₀ : Around} {base h₀ : Heap} {L : Addr} {m : Str → Option Value} {s : Shared} {Q E : Value → Shared → Prop}
theorem use106 (B : Below A₀ base outer h₀) (F : Fr h₀ L s.heap m) (X : (K w.params).In h₀) (N : News h₀ L s.heap all) (T : Top p loose mean mg mb h₀) (m1 : (l, o) ∈ all) (e : o = listOf vs.toArray ep) (hv : IntsAre vs ns) (hz : ns.length < 2 ^ 62) (hd : dp + 0 + 1 < recursionLimit) (hu : un + 8 * (0 + 1) < cLine)
    (hret : ∀ (t : Tok) (h' : Heap) (tk' : Nat), Fr h₀ L h' m → News h₀ L h' all → Q (.int (bisR ns x) t) { s with heap := h', toks := tk' }) :
    wpAny (model PySem.Challenge.rw_sn0081_01.row.prog w) (ktrTop dp un gd cn ⟨.function, names, g1, g2, more⟩ L a ccd cl outer) (call (.ref 106) [.ref l, .int x t]) Q E s := by
  subst e
  exact (n_bisR l vs ns ep x t hv hz (news := all)).use B F X (fun q hq => (List.mem_cons.mp hq).elim (fun e => e ▸ N _ m1) fun h => N q h) T hd hu fun t h' tk' F' N' => hret t h' tk' F' (drop1 N')
theorem use115 (B : Below A₀ base outer h₀) (F : Fr h₀ L s.heap m) (X : (K w.params).In h₀) (N : News h₀ L s.heap all) (T : Top p loose mean mg mb h₀) (m1 : (l, o) ∈ all) (e : o = listOf vs.toArray ep) (hv : IntsAre vs ns) (hz : ns.length < 2 ^ 62) (hd : dp + 0 + 1 < recursionLimit) (hu : un + 8 * (0 + 1) < cLine)
    (hret : ∀ (t : Tok) (h' : Heap) (tk' : Nat), Fr h₀ L h' m → News h₀ L h' all → Q (.int (bisL ns x) t) { s with heap := h', toks := tk' }) :
    wpAny (model PySem.Challenge.rw_sn0081_01.row.prog w) (ktrTop dp un gd cn ⟨.function, names, g1, g2, more⟩ L a ccd cl outer) (call (.ref 115) [.ref l, .int x t]) Q E s := by
  subst e
  exact (n_bisL l vs ns ep x t hv hz (news := all)).use B F X (fun q hq => (List.mem_cons.mp hq).elim (fun e => e ▸ N _ m1) fun h => N q h) T hd hu fun t h' tk' F' N' => hret t h' tk' F' (drop1 N')
end
/-- the return of a new list of ints -/
noncomputable abbrev RetInts (news : List (Addr × Obj)) (ns : List Int) (h₀ : Heap) (L : Addr) (m : Str → Option Value) (s : Shared) (Q : Value → Shared → Prop) : Prop :=
  ∀ (p : Addr) (vs : List Value) (c : Nat) (h' : Heap) (tk' : Nat), IntsAre vs ns → Fr h₀ L h' m → News h₀ L h' ((p, listOf vs.toArray c) :: news) → (∀ q ∈ news, q.1 ≠ p) → Q (.ref p) { s with heap := h', toks := tk' }
theorem parts_of {h₀ h : Heap} {L D1 D2 : Addr} {o1 o2 : Obj} {r : List (Addr × Obj)} (_N : News h₀ L h ((D2, o2) :: (D1, o1) :: r)) : ∃ D2' D1' r', D2' = D2 ∧ D1' = D1 ∧ r' = r := ⟨D2, D1, r, rfl, rfl, rfl⟩
theorem off1_mem {D : Addr} : ∀ {l : List (Addr × Obj)}, LCg.Off1 D l → ∀ p ∈ l, p.1 ≠ D
  | [], _, _, h => nomatch h
  | _ :: _, x, _, h => by
    rcases List.mem_cons.mp h with rfl | h
    · exact x.1
    · exact off1_mem x.2 _ h
theorem allLt_ne {X : Addr} {r : List (Addr × Obj)} (h : AllLt X r) : ∀ p ∈ r, p.1 ≠ X := ne_of_allLt h (Nat.le_refl _)
theorem tr_news {h₀ h : Heap} {L p : Addr} {op : Obj} {a1 a2 a3 a4 : Addr × Obj} {r : List (Addr × Obj)} (N : News h₀ L h ((p, op) :: a1 :: a2 :: a3 :: a4 :: r)) : News h₀ L h ((p, op) :: r) := cb_drop N (by simp +contextual)
theorem push2 {h₀ h : Heap} {L D1 D2 : Addr} {y : Addr × Obj} {v1 v2 : List Value} {a1 a2 : Value} {e1 e2 : Nat} {r : List (Addr × Obj)} (N : News h₀ L h (y :: (D2, listOf (v2.toArray.push a2) e2) :: (D1, listOf (v1.toArray.push a1) e1) :: r)) :
    News h₀ L h (y :: (D2, listOf (v2 ++ [a2]).toArray e2) :: (D1, listOf (v1 ++ [a1]).toArray e1) :: r) := by
  rw [show v2.toArray.push a2 = (v2 ++ [a2]).toArray by simp, show v1.toArray.push a1 = (v1 ++ [a1]).toArray by simp] at N
  exact N
inductive TurnInv (D1 D2 : Addr) (r5 : List (Addr × Obj)) (ns : List Int) (r : List Value) (m : Str → Option Value) (nx : List (Addr × Obj)) : Prop
  | mk (pl : Int) (tp : Tok) (rs fs ls : List Int) (v1 v2 : List Value) (e1 e2 : Nat)
    (_ : (∀ q ∈ (D2, listOf v2.toArray e2) :: (D1, listOf v1.toArray e1) :: r5, q ∈ nx))
    (_ : m (Str.ofString "place") = some (.int pl tp))
    (_ : IntsAre r rs)
    (_ : IntsAre v1 fs)
    (_ : IntsAre v2 ls)
    (_ : fs.length + rs.length ≤ 1000)
    (_ : ls.length = fs.length)
    (_ : rs.foldl turnStep (fs, ls, pl) = turnGo ns) : TurnInv D1 D2 r5 ns r m nx
local macro_rules | `(tactic| walk_at "UnrEnd") => `(tactic| (k_here; refine stop_of ?_))
local macro_rules | `(tactic| walk_at "pyIter ref") => `(tactic| (k_here; ((with_reducible show wpAny _ _ (pyIter (Value.ref _)) (fun it s₂ => LoopAtV _ _ _ _ _ _ _ _ _ it s₂) _ _)); l_hasStore; with_unfolding_all refine iter_listUnr (by rfl) (by k_asm) (by k_asm) (by k_mem) (by rfl) (by rfl) ?_; intro i' l1; (try k_lt l1); refine stop_of ?_))
local macro_rules | `(tactic| walk_at "call ref") => `(tactic| (k_here; k_dflt (first
  | refine use106 (by k_asm) (by k_asm) (by k_asm) (by k_asm) (by k_asm) (by k_mem) (by rfl) (by assumption) (by omega) (by k_room) (by k_units) ?_
  | refine use115 (by k_asm) (by k_asm) (by k_asm) (by k_asm) (by k_asm) (by k_mem) (by rfl) (by assumption) (by omega) (by k_room) (by k_units) ?_); intro t' h' tk' F' N'))
theorem c_turned {w : World} {p : Program} {loose : List Str} {mean : ExcName → Option Value} {mg mb : Str → Option Value} {news : List (Addr × Obj)} (l : Addr) (vs : List Value) (ns : List Int) (ep : Nat) (hv : IntsAre vs ns) (hz : ns.length < 1000) (hp0 : 0 ≤ (turnGo ns).2.2) (hp1 : (turnGo ns).2.2 < 1000) :
    ConN w p loose mean mg mb 2 214 ((l, listOf vs.toArray ep) :: news) [.ref l] (RetInts ((l, listOf vs.toArray ep) :: news) (turned ns)) := by
  unfold ConN
  dsimp only [RetInts]
  k_fill
  intros; rename_i hret
  refine wpAny_call ?_
  k_dflt k_enter
  k_steps
  unfold Stop
  rename_i I lI
  rename News _ _ _ _ => N2
  obtain ⟨D2, D1, r5, hD2, hD1, hr5⟩ := parts_of N2
  subst hD2
  subst hD1
  refine listRest_ind (fun r m nx => TurnInv D1 D2 r5 ns r m nx) ?h0 ?hs vs _ _ ?st
  case st => exact ⟨0, _, ns, [], [], [], [], 0, 0, fun q hq => by rw [hr5] at hq; exact hq, rfl, by assumption, .nil, .nil, by simp; omega, rfl, rfl⟩
  case h0 =>
    rintro m nx ⟨pl, tp, rs, fs, ls, v1, v2, e1, e2, hnx, hm1, iv, i1, i2, hl1, hl2, ev⟩ h9 tk9 F9 N9
    obtain rfl := ints_nil iv
    obtain ⟨u9, hu9⟩ : ∃ u : Str → Option Value, m = fun y => if y = Str.ofString "place" then some (.int pl tp) else u y := ⟨m, shape1 hm1⟩
    clear hm1
    subst hu9
    replace N9 := cb_drop N9 hnx
    subst hr5
    rw [turned, ← ev] at hret
    rw [← ev] at hp0 hp1
    dsimp only [List.foldl_nil] at hret hp0 hp1 hl1
    k_steps
    rename IntsAre _ (List.map _ _) => hI
    rw [Int.sub_zero] at hI
    exact hret _ _ _ _ _ hI (by k_asm) (tr_news (by k_asm)) (off1_mem (And.right (And.right (And.right (And.right (by assumption))))))
  case hs =>
    rintro v r m nx ⟨pl, tp, rs, fs, ls, v1, v2, e1, e2, hnx, hm1, iv, i1, i2, hl1, hl2, ev⟩ it9 h9 tk9 c9 F9 N9
    obtain ⟨x9, t9, rs9, rfl, rfl, iv9⟩ := ints_cons iv
    obtain ⟨u9, hu9⟩ : ∃ u : Str → Option Value, m = fun y => if y = Str.ofString "place" then some (.int pl tp) else u y := ⟨m, shape1 hm1⟩
    clear hm1 iv
    subst hu9
    replace N9 := drop_under N9 hnx
    subst hr5
    k_steps
    unfold Stop
    exact UnrEnd.intro (by k_asm) (push2 (by k_asm)) ((D2, listOf (v2 ++ [Value.int (pl + x9 - 1) _]).toArray (e2 + 1)) :: (D1, listOf (v1 ++ [Value.int pl tp]).toArray (e1 + 1)) :: (_, _) :: (_, _) :: (l, listOf vs.toArray ep) :: news) (fun p hp => hp) (allLt_ne lI)
      ⟨by k_mem, pl + x9 - 1, _, rs9, fs ++ [pl], ls ++ [pl + x9 - 1], _, _, _, _, fun q hq => hq, rfl, iv9, ints_snoc i1, ints_snoc i2, by simp at hl1 ⊢; omega, by simp; exact hl2, ev⟩
end

local macro_rules | `(tactic| walk_at "no line 10") => `(tactic| fail)
local macro_rules | `(tactic| walk_at "no line 11") => `(tactic| fail)
local macro_rules | `(tactic| walk_at "no line 12") => `(tactic| fail)
section
open PySem PySem.W PyProof.Rows
set_option Elab.async false
set_option maxRecDepth 100000
set_option maxHeartbeats 0
open PySem.Calls
theorem while_exit {prog : Program} {w : World} {A : Around} {E : Value → Shared → Prop} {Q : Flow → Shared → Prop} {s : Shared} {env : Env} {h₀ : Heap} {L : Addr} {test : Expr} {body : List Stmt} {pos : Pos} {m : Str → Option Value} {news : List (Addr × Obj)} (J : Nat → (Str → Option Value) → List (Addr × Obj) → Prop) (X : Heap → Addr → Shared → Flow → Shared → Prop) {n₀ : Nat}
    (F : Fr h₀ L s.heap m) (N : News h₀ L s.heap news) (hJ : J n₀ m news)
    (turn : ∀ n m₁ news₁ h₁ tk₁, Fr h₀ L h₁ m₁ → News h₀ L h₁ news₁ → J n m₁ news₁ →
      wpAny (model prog w) A (isTrue test env (eval test env)) (fun b s₂ =>
        if b = true then wpAny (model prog w) A (execs body env) (WhileStep2 h₀ L s J (X h₀ L s) n) E s₂ else X h₀ L s .next s₂) E { s with heap := h₁, toks := tk₁ })
    (cont : ∀ f s₂, X h₀ L s f s₂ → Q f s₂) (hE : PassesOwn (model prog w) A env E := by passes_own) :
    wpAny (model prog w) A (exec (.While test body [] pos) env) Q E s := wpAny_mono (While_inv2 J F N hJ turn hE) cont fun _ _ e => e
noncomputable def lst (xs : List Int) : Int := xs.getD (-1 + (xs.length : Int)).toNat 0
noncomputable def cut (xs : List Int) : List Int := xs.take (xs.length - 1)
noncomputable def down (xs : List Int) : List Int := xs.take (xs.length - 1) ++ [xs.getD (-1 + (xs.length : Int)).toNat 0 - 1]
/-- the two runs fall together to 2, 1, 2 -/
noncomputable def fallGo : Nat → List Int → List Int → Bool
  | 0, _, _ => false
  | k + 1, xs, ys => if 0 < (xs.length : Int) ∧ 0 < (ys.length : Int) ∧ 2 < (xs.length : Int) + ys.length then
      (if lst xs - 1 = 1 ∧ 1 < lst ys - 1 then fallGo k (cut (down xs)) (down ys) else if lst ys - 1 = 1 ∧ 1 < lst xs - 1 then fallGo k (down xs) (cut (down ys)) else false)
    else decide (xs = [2]) && decide (ys = [2])
section
variable {k : Nat} {xs ys : List Int} (h : fallGo (k + 1) xs ys = true)
include h
theorem fall_A (h1 : 0 < (xs.length : Int)) (h2 : 0 < (ys.length : Int)) (h3 : 2 < (xs.length : Int) + ys.length) (e1 : lst xs - 1 = 1) (e2 : 1 < lst ys - 1) : fallGo k (cut (down xs)) (down ys) = true := by
  unfold fallGo at h
  rw [if_pos ⟨h1, h2, h3⟩, if_pos ⟨e1, e2⟩] at h
  exact h
theorem fall_B (h1 : 0 < (xs.length : Int)) (h2 : 0 < (ys.length : Int)) (h3 : 2 < (xs.length : Int) + ys.length) (e0 : lst xs - 1 ≠ 1) (e1 : lst ys - 1 = 1) (e2 : 1 < lst xs - 1) : fallGo k (down xs) (cut (down ys)) = true := by
  unfold fallGo at h
  rw [if_pos ⟨h1, h2, h3⟩, if_neg (fun x => e0 x.1), if_pos ⟨e1, e2⟩] at h
  exact h
theorem fall_no (h1 : 0 < (xs.length : Int)) (h2 : 0 < (ys.length : Int)) (h3 : 2 < (xs.length : Int) + ys.length) (e1 : ¬ (lst xs - 1 = 1 ∧ 1 < lst ys - 1)) (e2 : ¬ (lst ys - 1 = 1 ∧ 1 < lst xs - 1)) : False := by
  unfold fallGo at h
  rw [if_pos ⟨h1, h2, h3⟩, if_neg e1, if_neg e2] at h
  exact Bool.false_ne_true h
theorem fall_end (e : ¬ (0 < (xs.length : Int) ∧ 0 < (ys.length : Int) ∧ 2 < (xs.length : Int) + ys.length)) : (decide (xs = [2]) && decide (ys = [2])) = true := by
  unfold fallGo at h
  rw [if_neg e] at h
  exact h
end
theorem mn_is {a : Nat} (h : 0 < a) : min (a - 1) a + (0 + 1) = a := by omega
theorem fl_A {a b n : Nat} (h : a + b = n) (ha : 0 < (a : Int)) (hb : 0 < (b : Int)) : min (a - 1) a + (0 + 1) + min (min (b - 1) b + (0 + 1) - 1) (min (b - 1) b + (0 + 1)) + 1 = n := by
  rw [mn_is (by omega), mn_is (by omega)]
  omega
theorem fl_B {a b n : Nat} (h : a + b = n) (ha : 0 < (a : Int)) (hb : 0 < (b : Int)) : min (min (a - 1) a + (0 + 1) - 1) (min (a - 1) a + (0 + 1)) + (min (b - 1) b + (0 + 1)) + 1 = n := by
  rw [mn_is (by omega), mn_is (by omega)]
  omega
theorem fl_l1 {a b n : Nat} (h : a + b = n) (hn : n < 2000) : a ≤ 16777216 := by omega
theorem fl_l2 {a b n : Nat} (h : a + b = n) (hn : n < 2000) : b ≤ 16777216 := by omega
theorem fl_m {a : Nat} (h : a ≤ 16777215) : min (a - 1) a + (0 + 1) ≤ 16777216 := by omega
theorem fl_m1 {a b n : Nat} (h : a + b = n) (hn : n < 2000) : min (a - 1) a + (0 + 1) ≤ 16777216 := fl_m (by omega)
theorem fl_m2 {a b n : Nat} (h : a + b = n) (hn : n < 2000) : min (b - 1) b + (0 + 1) ≤ 16777216 := fl_m (by omega)
local macro_rules | `(tactic| omega) => `(tactic| first | with_reducible exact fl_l1 (by assumption) (by assumption) | with_reducible exact fl_l2 (by assumption) (by assumption) | with_reducible exact fl_m1 (by assumption) (by assumption) | with_reducible exact fl_m2 (by assumption) (by assumption) | with_reducible exact fl_A (by assumption) (by assumption) (by assumption) | with_reducible exact fl_B (by assumption) (by assumption) (by assumption))
local macro_rules | `(tactic| units_room) => `(tactic| ktr_units)
local macro_rules | `(tactic| walk_at "exec While") => `(tactic| (k_here; refine stop_of ?_))
inductive FallNext (h₀ : Heap) (L : Addr) (s : Shared) (news : List (Addr × Obj)) (R : Bool) (s₂ : Shared) : Prop
  | mk (a1 a2 : Addr) (u1 u2 : List Value) (xs ys : List Int) (e1 e2 : Nat) (h : Heap) (tk : Nat) (m : Str → Option Value)
    (_ : s₂ = { s with heap := h, toks := tk }) (_ : Fr h₀ L h m) (_ : News h₀ L h ((a1, listOf u1.toArray e1) :: (a2, listOf u2.toArray e2) :: news))
    (_ : m (Str.ofString "left") = some (.ref a1)) (_ : m (Str.ofString "right") = some (.ref a2)) (_ : IntsAre u1 xs) (_ : IntsAre u2 ys) (_ : (decide (xs = [2]) && decide (ys = [2])) = R) : FallNext h₀ L s news R s₂
inductive FallRet (h₀ : Heap) (L : Addr) (s : Shared) (news : List (Addr × Obj)) (R : Bool) (v : Value) (s₂ : Shared) : Prop
  | mk (h : Heap) (tk : Nat) (m : Str → Option Value) (_ : s₂ = { s with heap := h, toks := tk }) (_ : Fr h₀ L h m) (_ : News h₀ L h news) (_ : v = .bool false) (_ : R = false) : FallRet h₀ L s news R v s₂
noncomputable def FallExit (h₀ : Heap) (L : Addr) (s : Shared) (news : List (Addr × Obj)) (R : Bool) : Flow → Shared → Prop
  | .next, s₂ => FallNext h₀ L s news R s₂
  | .ret v, s₂ => FallRet h₀ L s news R v s₂
  | _, _ => False
inductive FallJ (base : List (Addr × Obj)) (k : Nat) (m : Str → Option Value) (nx : List (Addr × Obj)) : Prop
  | mk (a1 a2 : Addr) (u1 u2 : List Value) (xs ys : List Int) (e1 e2 : Nat) (_ : ∀ q ∈ (a1, listOf u1.toArray e1) :: (a2, listOf u2.toArray e2) :: base, q ∈ nx) (_ : m (Str.ofString "left") = some (.ref a1)) (_ : m (Str.ofString "right") = some (.ref a2))
    (_ : IntsAre u1 xs) (_ : IntsAre u2 ys) (_ : xs.length + ys.length = k) (_ : k < 2000) (_ : fallGo (k + 1) xs ys = true) : FallJ base k m nx
theorem fall_next {h₀ : Heap} {L : Addr} {s : Shared} {base all : List (Addr × Obj)} {X : Flow → Shared → Prop} {n : Nat} {h' : Heap} {tk : Nat} {m' : Str → Option Value} {a1 a2 : Addr} {u1 u2 : List Value} {xs ys : List Int} {e1 e2 : Nat} (F : Fr h₀ L h' m') (N : News h₀ L h' all)
    (hl : m' (Str.ofString "left") = some (.ref a1)) (hr : m' (Str.ofString "right") = some (.ref a2)) (q1 : (a1, listOf u1.toArray e1) ∈ all) (q2 : (a2, listOf u2.toArray e2) ∈ all) (q3 : ∀ q ∈ base, q ∈ all) (i1 : IntsAre u1 xs) (i2 : IntsAre u2 ys)
    (hf : fallGo n xs ys = true) (hn : xs.length + ys.length + 1 = n) (hk : n < 2000) : WhileStep2 h₀ L s (FallJ base) X n .next { s with heap := h', toks := tk } :=
  ⟨h', tk, m', all, xs.length + ys.length, rfl, F, N, by omega, a1, a2, u1, u2, xs, ys, e1, e2, fun q hq => by
    rcases List.mem_cons.mp hq with rfl | hq
    · exact q1
    · rcases List.mem_cons.mp hq with rfl | hq
      · exact q2
      · exact q3 q hq, hl, hr, i1, i2, rfl, by omega, by rw [hn]; exact hf⟩
theorem ret_bool {Q : Value → Shared → Prop} {x y : Bool} {s : Shared} (e : y = x) (h : Q (.bool x) s) : Q (.bool y) s := e ▸ h
theorem c_fall {w : World} {p : Program} {loose : List Str} {mean : ExcName → Option Value} {mg mb : Str → Option Value} {news : List (Addr × Obj)} (l1 l2 : Addr) (v1 v2 : List Value) (xs ys : List Int) (e1 e2 : Nat) (h1 : IntsAre v1 xs) (h2 : IntsAre v2 ys) (hz1 : xs.length < 1000) (hz2 : ys.length < 1000) (hfall : fallGo (xs.length + ys.length + 1) xs ys = true) :
    ConN w p loose mean mg mb 12 235 ((l1, listOf v1.toArray e1) :: (l2, listOf v2.toArray e2) :: news) [.ref l1, .ref l2] (fun h₀ L m s Q => ∀ (h' : Heap) (tk' : Nat), Fr h₀ L h' m → News h₀ L h' ((l1, listOf v1.toArray e1) :: (l2, listOf v2.toArray e2) :: news) → Q (.bool true) { s with heap := h', toks := tk' }) := by
  unfold ConN
  k_fill
  intros; rename_i hret
  refine wpAny_call ?_
  k_dflt k_enter
  k_steps
  unfold Stop
  refine while_exit (FallJ ((l1, listOf v1.toArray e1) :: (l2, listOf v2.toArray e2) :: news))
    (fun h₀ L s => FallExit h₀ L s ((l1, listOf v1.toArray e1) :: (l2, listOf v2.toArray e2) :: news) true) (by k_asm) (by k_asm) ⟨l1, l2, v1, v2, xs, ys, e1, e2, by simp, rfl, rfl, h1, h2, rfl, by omega, hfall⟩ ?turn ?cont
  case cont =>
    rintro f s₂ hx
    cases f with
    | brk => exact hx.elim
    | cont => exact hx.elim
    | next =>
      obtain ⟨a1, a2, u1, u2, xs1, ys1, f1, f2, h9, tk9, m, rfl, F9, N9, hm1, hm2, i1, i2, hR⟩ := hx
      obtain ⟨u9, hu9⟩ : ∃ u : Str → Option Value, m = fun y => if y = Str.ofString "left" then some (.ref a1) else if y = Str.ofString "right" then some (.ref a2) else u y := ⟨m, shape2 hm1 hm2⟩
      clear hm1 hm2
      subst hu9
      obtain ⟨hx, hy⟩ := Bool.and_eq_true_iff.mp hR
      k_steps
      · first | exact ret_bool hy (hret _ _ (by k_asm) (cb_drop (by k_asm) (by simp +contextual))) | exact ret_bool hx (hret _ _ (by k_asm) (cb_drop (by k_asm) (by simp +contextual)))
      all_goals first | exact ret_bool hy (hret _ _ (by k_asm) (cb_drop (by k_asm) (by simp +contextual))) | exact ret_bool hx (hret _ _ (by k_asm) (cb_drop (by k_asm) (by simp +contextual)))
    | ret v =>
      obtain ⟨h9, tk9, m, rfl, F9, N9, rfl, hR⟩ := hx
      exact absurd hR (by decide)
  case turn =>
    rintro n m nx h9 tk9 F9 N9 ⟨a1, a2, u1, u2, xs1, ys1, f1, f2, hnx, hm1, hm2, i1, i2, hl, hk, hF⟩
    obtain ⟨u9, hu9⟩ : ∃ u : Str → Option Value, m = fun y => if y = Str.ofString "left" then some (.ref a1) else if y = Str.ofString "right" then some (.ref a2) else u y := ⟨m, shape2 hm1 hm2⟩
    clear hm1 hm2
    subst hu9
    replace N9 := cb_drop N9 hnx
    k_steps
    ·
      refine fall_next (by k_asm) (by k_asm) rfl rfl (by k_mem) (by k_mem) (by kcj_all) (by assumption) (by assumption) (fall_A hF (by assumption) (by assumption) (by assumption) (by assumption) (by assumption)) ?_ (by omega)
      simp only [cut, down, List.length_append, List.length_take, List.length_cons, List.length_nil]
      omega
    · exact (fall_no hF (by assumption) (by assumption) (by assumption) (fun x => by have := x.1; have := x.2; unfold lst at *; omega) (fun x => by have := x.1; have := x.2; unfold lst at *; omega)).elim
    · exact (fall_no hF (by assumption) (by assumption) (by assumption) (fun x => by have := x.1; have := x.2; unfold lst at *; omega) (fun x => by have := x.1; have := x.2; unfold lst at *; omega)).elim
    ·
      refine fall_next (by k_asm) (by k_asm) rfl rfl (by k_mem) (by k_mem) (by kcj_all) (by assumption) (by assumption) (fall_B hF (by assumption) (by assumption) (by assumption) (by assumption) (by assumption) (by assumption)) ?_ (by omega)
      simp only [cut, down, List.length_append, List.length_take, List.length_cons, List.length_nil]
      omega
    · exact (fall_no hF (by assumption) (by assumption) (by assumption) (fun x => by have := x.1; have := x.2; unfold lst at *; omega) (fun x => by have := x.1; have := x.2; unfold lst at *; omega)).elim
    · exact (fall_no hF (by assumption) (by assumption) (by assumption) (fun x => by have := x.1; have := x.2; unfold lst at *; omega) (fun x => by have := x.1; have := x.2; unfold lst at *; omega)).elim
    all_goals exact ⟨a1, a2, u1, u2, xs1, ys1, f1, f2, _, _, _, rfl, by k_asm, by k_asm, rfl, rfl, i1, i2, fall_end hF (by omega)⟩
end

section
open PySem PySem.W PyProof.Rows
set_option Elab.async false
set_option maxRecDepth 100000
set_option maxHeartbeats 0
open PySem.Calls
/-- the list's entries, each another one than the tables' -/
inductive OffTo (d1 d2 : Addr) (r0 : List (Addr × Obj)) : List (Addr × Obj) → Prop
  | base : OffTo d1 d2 r0 r0
  | cons {a o r} : (@Ne Nat a 71 ∧ @Ne Nat a 78 ∧ @Ne Nat a d1 ∧ @Ne Nat a d2) → OffTo d1 d2 r0 r → OffTo d1 d2 r0 ((a, o) :: r)
noncomputable def OffL (d1 d2 : Addr) : List (Addr × Obj) → Prop
  | [] => True
  | p :: r => (@Ne Nat p.1 d1 ∧ @Ne Nat p.1 d2) ∧ OffL d1 d2 r
theorem offL_of {d1 d2 : Addr} : ∀ {l : List (Addr × Obj)}, (∀ q ∈ l, q.1 ≠ d1 ∧ q.1 ≠ d2) → OffL d1 d2 l
  | [], _ => trivial
  | _ :: _, h => ⟨h _ (.head _), offL_of fun q hq => h q (.tail _ hq)⟩
theorem OffTo.mem {d1 d2 : Addr} {r0 : List (Addr × Obj)} : ∀ {r : List (Addr × Obj)}, OffTo d1 d2 r0 r → ∃ more, r = more ++ r0 ∧ ∀ q ∈ more, q.1 ≠ 71 ∧ q.1 ≠ 78 ∧ q.1 ≠ d1 ∧ q.1 ≠ d2
  | _, .base => ⟨[], rfl, fun _ h => nomatch h⟩
  | _, .cons (a := a) (o := o) h t => by
    obtain ⟨more, e, k⟩ := t.mem
    refine ⟨(a, o) :: more, by rw [e]; rfl, fun q hq => ?_⟩
    rcases List.mem_cons.mp hq with rfl | hq
    · exact h
    · exact k q hq
theorem Tabs2.to {ps1 : Array Value} {d1 : Addr} {o1 : Obj} {ps2 : Array Value} {d2 : Addr} {o2 : Obj} {r0 r : List (Addr × Obj)} (T : Tabs2 ps1 d1 o1 ps2 d2 o2 r0) (h : OffTo d1 d2 r0 r) : Tabs2 ps1 d1 o1 ps2 d2 o2 r := by
  obtain ⟨more, rfl, k⟩ := h.mem
  exact T.grow k
theorem OffTo.again {t1 t2 : Array Value} {d1 d2 d1' d2' : Addr} {o1' o2' : Obj} {r0 : List (Addr × Obj)} : ∀ {r : List (Addr × Obj)}, OffTo d1 d2 r0 r → Tabs2 t1 d1' o1' t2 d2' o2' r → OffTo d1' d2' r0 r ∧ Tabs2 t1 d1' o1' t2 d2' o2' r0
  | _, .base, T => ⟨.base, T⟩
  | _, .cons (a := a) (o := o) (r := r) h t, T => by
    have T1 : Tabs2 t1 d1' o1' t2 d2' o2' ([(a, o)] ++ r) := T
    obtain ⟨x, y⟩ := t.again T1.cut
    have z := T1.off (a, o) (.head _)
    exact ⟨.cons ⟨h.1, h.2.1, z.1, z.2⟩ x, y⟩
theorem off1_of {D : Addr} : ∀ {l : List (Addr × Obj)}, (∀ p ∈ l, p.1 ≠ D) → LCg.Off1 D l
  | [], _ => trivial
  | _ :: _, h => ⟨h _ (.head _), off1_of fun q hq => h q (.tail _ hq)⟩
structure Pull (all : List (Addr × Obj)) (t1 : Array Value) (d1 : Addr) (o1 : Obj) (t2 : Array Value) (d2 : Addr) (o2 : Obj) (rest : List (Addr × Obj)) : Prop where
  sub : ∀ q ∈ (71, tabObj t1) :: (d1, o1) :: (78, tabObj t2) :: (d2, o2) :: rest, q ∈ all
theorem Pull.of {all r1 r2 r3 rest : List (Addr × Obj)} {t1 : Array Value} {d1 : Addr} {o1 : Obj} {t2 : Array Value} {d2 : Addr} {o2 : Obj} (a : Rm (71, tabObj t1) all r1) (b : Rm (d1, o1) r1 r2) (c : Rm (78, tabObj t2) r2 r3) (d : Rm (d2, o2) r3 rest) : Pull all t1 d1 o1 t2 d2 o2 rest :=
  ⟨fun q hq => by
    rcases List.mem_cons.mp hq with rfl | hq
    · exact a.mem.1
    · rcases List.mem_cons.mp hq with rfl | hq
      · exact a.mem.2 _ b.mem.1
      · rcases List.mem_cons.mp hq with rfl | hq
        · exact a.mem.2 _ (b.mem.2 _ c.mem.1)
        · rcases List.mem_cons.mp hq with rfl | hq
          · exact a.mem.2 _ (b.mem.2 _ (c.mem.2 _ d.mem.1))
          · exact a.mem.2 _ (b.mem.2 _ (c.mem.2 _ (d.mem.2 q hq)))⟩
section
variable {w : World} {p : Program} {loose : List Str} {mean : ExcName → Option Value} {mg mb : Str → Option Value} {all rest r0 : List (Addr × Obj)} {l l' : Addr} {o o' : Obj} {vs vs' : List Value} {ns ns' : List Int} {ep ep' : Nat} {x y : Int} {t u : Tok}
    {t1 : Array Value} {d1 : Addr} {o1 : Obj} {t2 : Array Value} {d2 : Addr} {o2 : Obj}
    {dp un : Nat} {gd : Option (List Code)} {cn : Str} {names : List (Str × NameKind)} {g1 g2 : Bool} {more : List (Str × Const)} {a : Addr} {ccd : Value} {cl : List (Str × Addr)} {outer : List Env} {A₀ : Around} {base h₀ : Heap} {L : Addr} {m : Str → Option Value} {s : Shared} {Q E : Value → Shared → Prop}
theorem use214 (B : Below A₀ base outer h₀) (F : Fr h₀ L s.heap m) (X : (K w.params).In h₀) (N : News h₀ L s.heap all) (T : Top p loose mean mg mb h₀) (m1 : (l, o) ∈ all) (e : o = listOf vs.toArray ep) (hv : IntsAre vs ns) (hz : ns.length < 1000) (hp : 0 ≤ (turnGo ns).2.2 ∧ (turnGo ns).2.2 < 1000) (hd : dp + 2 + 1 < recursionLimit) (hu : un + 8 * (2 + 1) < cLine)
    (hret : ∀ (p : Addr) (vs : List Value) (c : Nat) (h' : Heap) (tk' : Nat), IntsAre vs (turned ns) → Fr h₀ L h' m → News h₀ L h' ((p, listOf vs.toArray c) :: all) → LCg.Off1 p all → Q (.ref p) { s with heap := h', toks := tk' }) :
    wpAny (model PySem.Challenge.rw_sn0081_01.row.prog w) (ktrTop dp un gd cn ⟨.function, names, g1, g2, more⟩ L a ccd cl outer) (call (.ref 214) [.ref l]) Q E s := by
  subst e
  refine (c_turned l vs ns ep hv hz hp.1 hp.2 (news := all)).use B F X (fun q hq => (List.mem_cons.mp hq).elim (fun e => e ▸ N _ m1) fun h => N q h) T hd hu fun p vs c h' tk' i F' N' ne => ?_
  refine hret p vs c h' tk' i F' (cb_drop N' fun q hq => ?_) (off1_of fun q hq => ne q (.tail _ hq))
  rcases List.mem_cons.mp hq with rfl | hq
  · exact .head _
  · exact .tail _ (.tail _ hq)
theorem use221 (B : Below A₀ base outer h₀) (F : Fr h₀ L s.heap m) (X : (K w.params).In h₀) (N : News h₀ L s.heap all) (T : Top p loose mean mg mb h₀) (R : Rm (l, listOf vs.toArray ep) all rest) (hl : LCg.Off1 l rest) (hv : IntsAre vs ns) (hb : ∀ x ∈ ns, 0 ≤ x ∧ x < 1000) (hd : dp + 0 + 1 < recursionLimit) (hu : un + 8 * (0 + 1) < cLine)
    (hret : ∀ (p : Addr) (t1 t2 : Tok) (c : Nat) (h' : Heap) (tk' : Nat), Fr h₀ L h' m → News h₀ L h' ((p, ({ cls := .type "tuple", data := .seq #[.int (fracOf ns).1 t1, .int (fracOf ns).2 t2] c } : Obj)) :: (l, listOf vs.toArray ep) :: rest) → AllLt p ((l, listOf vs.toArray ep) :: rest) → Q (.ref p) { s with heap := h', toks := tk' }) :
    wpAny (model PySem.Challenge.rw_sn0081_01.row.prog w) (ktrTop dp un gd cn ⟨.function, names, g1, g2, more⟩ L a ccd cl outer) (call (.ref 221) [.ref l]) Q E s := by
  refine (c_frac l vs ns ep hv hb (off1_mem hl) (news := rest)).use B F X (fun q hq => ?_) T hd hu fun p t1 t2 c h' tk' F' N' lt => hret p t1 t2 c h' tk' F' N' (allLt_of lt)
  rcases List.mem_cons.mp hq with rfl | hq
  · exact N _ R.mem.1
  · exact N _ (R.mem.2 q hq)
theorem use228 (B : Below A₀ base outer h₀) (F : Fr h₀ L s.heap m) (X : (K w.params).In h₀) (N : News h₀ L s.heap all) (T : Top p loose mean mg mb h₀) (TT : Tabs2 t1 d1 o1 t2 d2 o2 r0) (P : Pull all t1 d1 o1 t2 d2 o2 rest) (O : OffTo d1 d2 r0 rest) (hok : okRun 40 x y = true) (hd : dp + 16 + 1 < recursionLimit) (hu : un + 8 * (16 + 1) < cLine)
    (hret : ∀ (r : Addr) (vs : List Value) (c : Nat) (t1' : Array Value) (d1' : Addr) (o1' : Obj) (t2' : Array Value) (d2' : Addr) (o2' : Obj) (h' : Heap) (tk' : Nat), IntsAre vs (runGo 40 x y []) → Fr h₀ L h' m →
      News h₀ L h' ((r, listOf vs.toArray c) :: (71, tabObj t1') :: (d1', o1') :: (78, tabObj t2') :: (d2', o2') :: rest) → Tabs2 t1' d1' o1' t2' d2' o2' r0 → OffTo d1' d2' r0 rest → (@Ne Nat r d1' ∧ @Ne Nat r d2' ∧ @LT.lt Nat _ 71 r ∧ @LT.lt Nat _ 78 r) → AllLt r rest → Q (.ref r) { s with heap := h', toks := tk' }) :
    wpAny (model PySem.Challenge.rw_sn0081_01.row.prog w) (ktrTop dp un gd cn ⟨.function, names, g1, g2, more⟩ L a ccd cl outer) (call (.ref 228) [.int x t, .int y u]) Q E s := by
  refine (c_run t1 d1 o1 t2 d2 o2 x y t u hok (TT.to O)).use B F X (fun q hq => N q (P.sub q hq)) T hd hu fun r vs c t1' d1' o1' t2' d2' o2' h' tk' i F' N' T' ne => ?_
  obtain ⟨O', T0⟩ := O.again T'
  exact hret r vs c t1' d1' o1' t2' d2' o2' h' tk' i F' N' T0 O' ⟨ne.1, ne.2.1, ne.2.2.1, ne.2.2.2.1⟩ (allLt_of ne.2.2.2.2)
theorem use97' (B : Below A₀ base outer h₀) (F : Fr h₀ L s.heap m) (X : (K w.params).In h₀) (N : News h₀ L s.heap all) (T : Top p loose mean mg mb h₀) (TT : Tabs2 t1 d1 o1 t2 d2 o2 r0) (P : Pull all t1 d1 o1 t2 d2 o2 rest) (O : OffTo d1 d2 r0 rest) (hok : okI x y = true) (hd : dp + 14 + 1 < recursionLimit) (hu : un + 8 * (14 + 1) < cLine)
    (hret : ∀ (r : Addr) (q1 q2 : Tok) (c : Nat) (t1' : Array Value) (d1' : Addr) (o1' : Obj) (t2' : Array Value) (d2' : Addr) (o2' : Obj) (h' : Heap) (tk' : Nat), Fr h₀ L h' m →
      News h₀ L h' ((r, ({ cls := .type "tuple", data := .seq #[.int (intDiv x y).1 q1, .int (intDiv x y).2 q2] c } : Obj)) :: (71, tabObj t1') :: (d1', o1') :: (78, tabObj t2') :: (d2', o2') :: rest) → Tabs2 t1' d1' o1' t2' d2' o2' r0 → OffTo d1' d2' r0 rest → AllLt r ((71, tabObj t1') :: (d1', o1') :: (78, tabObj t2') :: (d2', o2') :: rest) → Q (.ref r) { s with heap := h', toks := tk' }) :
    wpAny (model PySem.Challenge.rw_sn0081_01.row.prog w) (ktrTop dp un gd cn ⟨.function, names, g1, g2, more⟩ L a ccd cl outer) (call (.ref 97) [.int x t, .int y u]) Q E s := by
  refine (c_intdiv t1 d1 o1 t2 d2 o2 x y t u hok (TT.to O)).use B F X (fun q hq => N q (P.sub q hq)) T hd hu fun r q1 q2 c d1' o1' d2' o2' h' tk' F' N' T' lt => ?_
  obtain ⟨O', T0⟩ := O.again T'
  exact hret r q1 q2 c _ d1' o1' _ d2' o2' h' tk' F' N' T0 O' lt
theorem use235 (B : Below A₀ base outer h₀) (F : Fr h₀ L s.heap m) (X : (K w.params).In h₀) (N : News h₀ L s.heap all) (T : Top p loose mean mg mb h₀) (m1 : (l, o) ∈ all) (m2 : (l', o') ∈ all) (e : o = listOf vs.toArray ep) (e' : o' = listOf vs'.toArray ep') (hv : IntsAre vs ns) (hv' : IntsAre vs' ns') (hz : ns.length < 1000) (hz' : ns'.length < 1000) (hf : fallGo (ns.length + ns'.length + 1) ns ns' = true) (hd : dp + 12 + 1 < recursionLimit) (hu : un + 8 * (12 + 1) < cLine)
    (hret : ∀ (h' : Heap) (tk' : Nat), Fr h₀ L h' m → News h₀ L h' all → Q (.bool true) { s with heap := h', toks := tk' }) :
    wpAny (model PySem.Challenge.rw_sn0081_01.row.prog w) (ktrTop dp un gd cn ⟨.function, names, g1, g2, more⟩ L a ccd cl outer) (call (.ref 235) [.ref l, .ref l']) Q E s := by
  subst e
  subst e'
  refine (c_fall l l' vs vs' ns ns' ep ep' hv hv' hz hz' hf (news := all)).use B F X (fun q hq => ?_) T hd hu fun h' tk' F' N' => hret h' tk' F' (drop1 (drop1 N'))
  rcases List.mem_cons.mp hq with rfl | hq
  · exact N _ m1
  · rcases List.mem_cons.mp hq with rfl | hq
    · exact N _ m2
    · exact N q hq
end
end

section
open PySem PySem.W PyProof.Rows
set_option Elab.async false
set_option maxRecDepth 100000
set_option maxHeartbeats 0
open PySem.Calls
noncomputable def midOf2 (ps : List Int) : List Int := (ps.drop (1 : Int).toNat).take (ps.length - (-(-1 : Int)).toNat - (1 : Int).toNat)
noncomputable def small (ns : List Int) : Bool := ns.all fun x => decide (0 ≤ x) && decide (x < 1000)
noncomputable def dualOK (ws : List Int) : Bool :=
  let cs := turned ws
  let ps := ws.map (· + 1)
  let n := (fracOf ps).1
  let q := (fracOf ps).2
  let z := (fracOf ps.reverse).2
  decide (ws.length < 1000) && decide (cs.length < 1000) && decide (0 ≤ (turnGo ws).2.2) && decide ((turnGo ws).2.2 < 1000) && decide (0 ≤ (turnGo cs).2.2) && decide ((turnGo cs).2.2 < 1000) && small ps && small cs &&
    decide (turned cs = ws) && okRun 40 n q && okRun 40 n (n - q) && decide (runGo 40 n q [] = ps) && decide (runGo 40 n (n - q) [] = cs.map (· + 1)) && decide ((fracOf ps.reverse).1 = n) && okI (q * z) n && decide (intDiv (q * z) n = ((fracOf (midOf2 ps)).1, 1)) &&
    fallGo (ps.length + cs.length + 1) ps (cs.map (· + 1)) && decide (0 ≤ q) && decide (q < 100000) && decide (0 ≤ z) && decide (z < 100000)
noncomputable def widths4 : List (List Int) := [1, 2, 3, 4].flatMap fun a => [1, 2, 3, 4].flatMap fun b => [1, 2, 3, 4].flatMap fun c => [1, 2, 3, 4].map fun d => [a, b, c, d]
/-- those whose first two are a and b -/
noncomputable def from2 (a b : Int) : List (List Int) := [1, 2, 3, 4].flatMap fun c => [1, 2, 3, 4].map fun d => [a, b, c, d]
theorem dual_11 : (from2 1 1).all dualOK = true := by decide +kernel
theorem dual_12 : (from2 1 2).all dualOK = true := by decide +kernel
theorem dual_13 : (from2 1 3).all dualOK = true := by decide +kernel
theorem dual_14 : (from2 1 4).all dualOK = true := by decide +kernel
theorem dual_21 : (from2 2 1).all dualOK = true := by decide +kernel
theorem dual_22 : (from2 2 2).all dualOK = true := by decide +kernel
theorem dual_23 : (from2 2 3).all dualOK = true := by decide +kernel
theorem dual_24 : (from2 2 4).all dualOK = true := by decide +kernel
theorem dual_31 : (from2 3 1).all dualOK = true := by decide +kernel
theorem dual_32 : (from2 3 2).all dualOK = true := by decide +kernel
theorem dual_33 : (from2 3 3).all dualOK = true := by decide +kernel
theorem dual_34 : (from2 3 4).all dualOK = true := by decide +kernel
theorem dual_41 : (from2 4 1).all dualOK = true := by decide +kernel
theorem dual_42 : (from2 4 2).all dualOK = true := by decide +kernel
theorem dual_43 : (from2 4 3).all dualOK = true := by decide +kernel
theorem dual_44 : (from2 4 4).all dualOK = true := by decide +kernel
theorem all_dual : widths4.all dualOK = true := by
  show (([1, 2, 3, 4] : List Int).flatMap fun a => ([1, 2, 3, 4] : List Int).flatMap fun b => from2 a b).all dualOK = true
  simp only [List.all_flatMap, List.all_cons, List.all_nil, dual_11, dual_12, dual_13, dual_14, dual_21, dual_22, dual_23, dual_24, dual_31, dual_32, dual_33, dual_34, dual_41, dual_42, dual_43, dual_44, Bool.and_true]
end

section
open PySem PySem.W PyProof.Rows
set_option Elab.async false
set_option maxRecDepth 100000
set_option maxHeartbeats 0
open PySem.Builtin.Re
/-! the engine of the patterns: what it finds -/
noncomputable def dotCode : Array Nat := #[14, 4, 0, 1, 1, 6, 1, 16, 46, 1]
noncomputable def eolCode : Array Nat := #[14, 9, 4, 1, 2, 16, 10, 16, 13, 0, 7, 7, 16, 13, 16, 10, 15, 18, 5, 16, 10, 15, 13, 11, 16, 13, 5, 5, 0, 16, 10, 1, 15, 2, 0, 1]
theorem runFor_done : ∀ (b : Nat) (m : Sre.M), m.outcome.isSome = true → m.runFor b = m
  | 0, _, _ => rfl
  | b + 1, m, h => by unfold Sre.M.runFor; rw [if_pos h]
theorem runFor_add : ∀ (a b : Nat) (m : Sre.M), m.runFor (a + b) = (m.runFor a).runFor b
  | 0, b, m => by rw [Nat.zero_add]; rfl
  | a + 1, b, m => by
    rw [Nat.succ_add]
    show (if m.outcome.isSome then m else m.step.runFor (a + b)) = (if m.outcome.isSome then m else m.step.runFor a).runFor b
    split
    · rename_i h; exact (runFor_done b m h).symm
    · exact runFor_add a b m.step
/-- k steps lead from the one machine to the other -/
noncomputable def Go (k : Nat) (m m' : Sre.M) : Prop := ∀ j, m.runFor (k + j) = m'.runFor j
theorem Go.none (m : Sre.M) : Go 0 m m := fun j => by rw [Nat.zero_add]
theorem Go.then {a b : Nat} {m m' m'' : Sre.M} (x : Go a m m') (y : Go b m' m'') : Go (a + b) m m'' := fun j => by rw [Nat.add_assoc, x, y]
theorem Go.one {m m' : Sre.M} (h : m.outcome.isSome = false) (e : m.step = m') : Go 1 m m' := fun j => by
  rw [Nat.add_comm 1 j]
  show (if m.outcome.isSome then m else m.step.runFor j) = _
  rw [h, e]; rfl
theorem Go.ends {k : Nat} {m m' : Sre.M} (x : Go k m m') : m.runFor k = m' := x 0
theorem wpAny_reDrive {M : Model} {A : Around} {Q : Sre.M → Shared → Prop} {E : Value → Shared → Prop} {s : Shared} : ∀ (k n : Nat) (m : Sre.M), n ≤ 4 * k → 0 < k → (m.runFor n).outcome.isSome = true → Q (m.runFor n) s → wpAny M A (reDrive k m) Q E s
  | 0, _, _, _, h, _, _ => absurd h (Nat.lt_irrefl 0)
  | k + 1, n, m, hn, _, ho, hq => by
    unfold reDrive
    dsimp only
    by_cases hs : (m.runFor reTurnSteps).outcome.isSome = true
    · rw [if_pos hs]
      refine wpAny_pure ?_
      have : m.runFor reTurnSteps = m.runFor n := by
        rcases Nat.le_total n reTurnSteps with h | h
        · obtain ⟨d, hd⟩ := Nat.le.dest h
          rw [← hd, runFor_add, runFor_done d _ ho]
        · obtain ⟨d, hd⟩ := Nat.le.dest h
          rw [← hd, runFor_add, runFor_done d _ hs]
      rw [this]; exact hq
    · rw [if_neg hs]
      refine wpAny_bind (wpAny_rule ?_)
      have h4 : reTurnSteps ≤ n := by
        rcases Nat.le_total n reTurnSteps with h | h
        · obtain ⟨d, hd⟩ := Nat.le.dest h
          exact absurd (by rw [← hd, runFor_add, runFor_done d _ ho]; exact ho) hs
        · exact h
      obtain ⟨d, hd⟩ := Nat.le.dest h4
      have e : (m.runFor reTurnSteps).runFor d = m.runFor n := by rw [← runFor_add, hd]
      have h5 : 0 < k := by
        rcases Nat.eq_zero_or_pos k with h | h
        · subst h
          have : n = reTurnSteps := by unfold reTurnSteps at *; omega
          rw [this] at ho
          exact absurd ho hs
        · exact h
      refine wpAny_reDrive k d _ ?_ h5 (by rw [e]; exact ho) (by rw [e]; exact hq)
      unfold reTurnSteps at hd
      omega
theorem wpAny_rules {M : Model} {A : Around} {Q : PUnit → Shared → Prop} {E : Value → Shared → Prop} {s : Shared} (sn : Sre.Seen) : ∀ (l : List Nat), Q ⟨⟩ s → wpAny M A (forIn l PUnit.unit fun i (_ : PUnit) => if sn.has i = true then (do rule (Sre.names.getD i ""); pure (ForInStep.yield PUnit.unit)) else pure (ForInStep.yield PUnit.unit)) Q E s
  | [], h => by rw [List.forIn_nil]; exact wpAny_pure h
  | i :: l, h => by
    rw [List.forIn_cons]
    refine wpAny_bind ?_
    by_cases hi : sn.has i = true
    · rw [if_pos hi]
      exact wpAny_bind (wpAny_rule (wpAny_pure (wpAny_rules sn l h)))
    · rw [if_neg hi]
      exact (wpAny_pure (wpAny_rules sn l h))
theorem wpAny_reRunToEnd {M : Model} {A : Around} {Q : Option Sre.M → Shared → Prop} {E : Value → Shared → Prop} {s : Shared} (m m' : Sre.M) (n : Nat) (hn : n ≤ 4 * 2 ^ 64) (hg : Go n m m') (r : Option Sre.M)
    (hr : (m'.outcome = some .matched ∧ r = some m') ∨ (m'.outcome = some .failed ∧ r = none)) (h : Q r s) : wpAny M A (reRunToEnd m) Q E s := by
  unfold reRunToEnd
  have e : m.runFor n = m' := hg.ends
  have hs : m'.outcome.isSome = true := by rcases hr with ⟨h, _⟩ | ⟨h, _⟩ <;> rw [h] <;> rfl
  refine wpAny_bind (wpAny_reDrive (2 ^ 64) n m hn (by decide) (by rw [e]; exact hs) ?_)
  rw [e]
  refine wpAny_bind (wpAny_rules m'.seen _ ?_)
  rcases hr with ⟨h', rfl⟩ | ⟨h', rfl⟩
  · rw [h']; exact wpAny_pure h
  · rw [h']; exact wpAny_pure h
/-! the steps, an op each -/
section
variable {m : Sre.M}
theorem go_lit_yes (ho : m.outcome = none) (ha : m.answer = none) (hc : m.pc < m.code.size) (hw : Sre.ops[m.word 0]? = some .LITERAL) (hw' : Sre.ops[m.code.getD m.pc 0]? = some .LITERAL) (hp : m.pos < m.lim) (he : m.text.getD m.pos 0 = m.code.getD (m.pc + 1) 0) :
    Go 1 m { m with seen := m.seen.add (m.word 0), pc := m.pc + 2, pos := m.pos + 1 } := by
  refine Go.one (by rw [ho]; rfl) ?_
  unfold Sre.M.step
  rw [ho, ha]
  simp only [Option.isSome_none, Bool.false_eq_true, if_false, if_pos hc]
  unfold Sre.M.exec
  rw [hw]
  simp only [Nat.not_le.mpr hp, if_false, Sre.accepts, hw', he, beq_self_eq_true, Sre.itemWidth, ho, ha]
theorem go_lit_no (ho : m.outcome = none) (ha : m.answer = none) (hc : m.pc < m.code.size) (hw : Sre.ops[m.word 0]? = some .LITERAL) (hw' : Sre.ops[m.code.getD m.pc 0]? = some .LITERAL) (he : m.pos < m.lim → m.text.getD m.pos 0 ≠ m.code.getD (m.pc + 1) 0) :
    Go 1 m { m with seen := m.seen.add (m.word 0), answer := some false } := by
  refine Go.one (by rw [ho]; rfl) ?_
  unfold Sre.M.step
  rw [ho, ha]
  simp only [Option.isSome_none, Bool.false_eq_true, if_false, if_pos hc]
  unfold Sre.M.exec
  rw [hw]
  by_cases hp : m.pos < m.lim
  · have hb : (m.text.getD m.pos 0 == m.code.getD (m.pc + 1) 0) = false := by simpa using he hp
    simp only [Nat.not_le.mpr hp, if_false, Sre.accepts, hw', hb, ge_iff_le, Sre.M.say, ho, ha]
  · simp only [Nat.not_lt.mp hp, if_true, ge_iff_le, Sre.M.say, ho, ha]
end
/-! the one dot at the beginning of a row -/
noncomputable abbrev dotAt (x : Array Nat) (p : Nat) : Bool := p == 0 || x.getD (p - 1) 0 == 10
noncomputable def D0 (x : Array Nat) (p : Nat) (first : Bool) (sn : Sre.Seen) (hd : Nat) : Sre.M :=
  { code := dotCode, text := x, lim := x.size, start := p, lastStart := x.size, pc := 5, pos := p, handed := p, outermost := first, marks := #[], frames := [{ wait := .nextStart, pc := 5, pos := p, outermost := first }], weight := 1, seen := sn }
theorem D0_at (x : Array Nat) (p : Nat) (first : Bool) (sn : Sre.Seen) (hd : Nat) (h : dotAt x p = true) : Go 1 (D0 x p first sn hd) { D0 x p first ((sn.add 6).add 44) hd with pc := 7 } := by
  refine Go.one rfl ?_
  show (if dotAt x p then _ else _) = _
  rw [if_pos h]
  rfl
theorem D0_off (x : Array Nat) (p : Nat) (first : Bool) (sn : Sre.Seen) (hd : Nat) (h : dotAt x p = false) : Go 1 (D0 x p first sn hd) { D0 x p first ((sn.add 6).add 44) hd with answer := some false } := by
  refine Go.one rfl ?_
  show (if dotAt x p then _ else _) = _
  rw [if_neg (by rw [h]; decide)]
  rfl
theorem D0_succ (x : Array Nat) (p : Nat) (first : Bool) (sn : Sre.Seen) (hd : Nat) : Go 1 { D0 x p first sn hd with pc := 9, pos := p + 1 } { D0 x p first (sn.add 1) hd with pc := 9, pos := p + 1, handed := p + 1, answer := some true } := by
  cases first <;> exact Go.one rfl rfl
theorem D0_no (x : Array Nat) (p : Nat) (first : Bool) (sn : Sre.Seen) (hd : Nat) (pc : Nat) (h : p < x.size) : Go 1 { D0 x p first sn hd with answer := some false, pc := pc } (D0 x (p + 1) false sn hd) := by
  refine Go.one rfl ?_
  show (if p < x.size then _ else _) = _
  rw [if_pos h]
  rfl
theorem D0_last (x : Array Nat) (p : Nat) (first : Bool) (sn : Sre.Seen) (hd : Nat) (pc : Nat) (h : ¬ p < x.size) : ∃ m', Go 2 { D0 x p first sn hd with answer := some false, pc := pc } m' ∧ m'.outcome = some .failed := by
  refine ⟨_, Go.then (a := 1) (b := 1) (Go.one rfl (m' := { D0 x p first sn hd with answer := some false, frames := [], weight := 0 }) ?_) (Go.one rfl rfl), rfl⟩
  show (if p < x.size then _ else _) = _
  rw [if_neg h]
  rfl
noncomputable def dotFind (x : Array Nat) : (fuel p : Nat) → Option Nat
  | 0, _ => none
  | f + 1, p => if dotAt x p && decide (p < x.size) && x.getD p 0 == 46 then some p else dotFind x f (p + 1)
theorem dot_go (x : Array Nat) : ∀ (f p : Nat) (first : Bool) (sn : Sre.Seen) (hd : Nat), p + f = x.size + 1 → 0 < f → ∃ k m', k ≤ 3 * f + 6 ∧ Go k (D0 x p first sn hd) m' ∧
    match dotFind x f p with
    | some q => m'.outcome = some .matched ∧ m'.start = q ∧ m'.handed = q + 1
    | none => m'.outcome = some .failed
  | 0, _, _, _, _, _, h => absurd h (Nat.lt_irrefl 0)
  | f + 1, p, first, sn, hd, hf, _ => by
    have next : ∀ (sn' : Sre.Seen) (pc : Nat), ∃ k m', k ≤ 3 * f + 7 ∧ Go k { D0 x p first sn' hd with answer := some false, pc := pc } m' ∧
        match dotFind x f (p + 1) with
        | some q => m'.outcome = some .matched ∧ m'.start = q ∧ m'.handed = q + 1
        | none => m'.outcome = some .failed := by
      intro sn' pc
      by_cases hp : p < x.size
      · obtain ⟨k, m', hk, g, r⟩ := dot_go x f (p + 1) false sn' hd (by omega) (by omega)
        exact ⟨1 + k, m', by omega, (D0_no x p first sn' hd pc hp).then g, r⟩
      · obtain ⟨m', g, r⟩ := D0_last x p first sn' hd pc hp
        refine ⟨2, m', by omega, g, ?_⟩
        have : f = 0 := by omega
        subst this
        exact r
    by_cases h1 : dotAt x p = true
    · by_cases h2 : p < x.size ∧ x.getD p 0 = 46
      · refine ⟨1 + (1 + (1 + (1 + 1))), _, by omega, (D0_at x p first sn hd h1).then ((go_lit_yes rfl rfl (by show (7 : Nat) < 10; decide) rfl rfl h2.1 h2.2).then ((D0_succ x p first _ hd).then ((Go.one rfl rfl).then (Go.one rfl rfl)))), ?_⟩
        unfold dotFind
        rw [h1, h2.2]
        simp only [h2.1, decide_true, Bool.and_true, beq_self_eq_true, if_true]
        exact ⟨rfl, rfl, rfl⟩
      · obtain ⟨k, m', hk, g, r⟩ := next _ _
        refine ⟨1 + (1 + k), m', by omega, (D0_at x p first sn hd h1).then ((go_lit_no rfl rfl (by show (7 : Nat) < 10; decide) rfl rfl ?_).then g), ?_⟩
        · intro hp he
          exact h2 ⟨hp, he⟩
        · unfold dotFind
          rw [if_neg ?_]
          · exact r
          · intro h
            simp only [Bool.and_eq_true, decide_eq_true_eq, beq_iff_eq] at h
            exact h2 ⟨h.1.2, h.2⟩
    · obtain ⟨k, m', hk, g, r⟩ := next _ _
      refine ⟨1 + k, m', by omega, (D0_off x p first sn hd (by simpa using h1)).then g, ?_⟩
      unfold dotFind
      rw [if_neg ?_]
      · exact r
      · intro h
        simp only [Bool.and_eq_true] at h
        exact h1 h.1.1
theorem dot_start (x : Array Nat) (p : Nat) (h : p < x.size) : ∃ sn hd, Sre.forSearch dotCode x 0 p x.size false = D0 x p true sn hd := by
  refine ⟨({} : Sre.Seen).add 14, p, ?_⟩
  show (if (decide (p > x.size) || decide (x.size - p < 1)) = true then _ else _) = _
  rw [if_neg (by simp only [Bool.or_eq_true, decide_eq_true_eq]; omega)]
  rfl
theorem dot_none (x : Array Nat) (p : Nat) (h : ¬ p < x.size) : ∃ m', Go 1 (Sre.forSearch dotCode x 0 p x.size false) m' ∧ m'.outcome = some .failed := by
  have e : ∃ m : Sre.M, Sre.forSearch dotCode x 0 p x.size false = m ∧ m.outcome = none ∧ m.answer = some false ∧ m.frames = [] := by
    refine ⟨_, rfl, ?_⟩
    show Sre.M.outcome (if (decide (p > x.size) || decide (x.size - p < 1)) = true then _ else _) = none ∧ Sre.M.answer (if (decide (p > x.size) || decide (x.size - p < 1)) = true then _ else _) = some false ∧ Sre.M.frames (if (decide (p > x.size) || decide (x.size - p < 1)) = true then _ else _) = []
    rw [if_pos (by simp only [Bool.or_eq_true, decide_eq_true_eq]; omega)]
    exact ⟨rfl, rfl, rfl⟩
  obtain ⟨m, e, ho, ha, hf⟩ := e
  rw [e]
  refine ⟨{ m with outcome := some .failed }, Go.one (by rw [ho]; rfl) ?_, rfl⟩
  unfold Sre.M.step
  rw [ho, ha, hf]
  rfl
/-! the row's end -/
noncomputable def isEol (c : Nat) : Bool := c == 10 || c == 13
noncomputable def eolFind (x : Array Nat) : (fuel p : Nat) → Option Nat
  | 0, _ => none
  | f + 1, p => if p ≥ x.size then none else if isEol (x.getD p 0) then some p else eolFind x f (p + 1)
noncomputable def eolLen (x : Array Nat) (q : Nat) : Nat := if x.getD q 0 == 13 && (decide (q + 1 < x.size) && x.getD (q + 1) 0 == 10) then 2 else 1
theorem inSet_eol (c : Nat) (sn : Sre.Seen) : ∃ sn', Sre.inSet eolCode c eolCode.size 5 true sn = .ok (isEol c, sn') := by
  show ∃ sn', (if (c == 10) = true then (Except.ok (true, sn.add 16) : Except String (Bool × Sre.Seen)) else if (c == 13) = true then Except.ok (true, (sn.add 16).add 16) else Except.ok (false, ((sn.add 16).add 16).add 0)) = .ok (isEol c, sn')
  unfold isEol
  by_cases h : (c == 10) = true
  · rw [if_pos h, h]; exact ⟨_, rfl⟩
  · rw [if_neg h]
    by_cases h' : (c == 13) = true
    · rw [if_pos h', h', Bool.or_true]; exact ⟨_, rfl⟩
    · rw [if_neg h']
      rw [Bool.not_eq_true] at h h'
      rw [h, h']; exact ⟨_, rfl⟩
theorem admitted_eol (m : Sre.M) (hc : m.code = eolCode) (hl : m.lim = m.text.size) : ∀ (f p : Nat) (sn : Sre.Seen), ∃ sn', Sre.M.admitted m f p sn = .ok (eolFind m.text f p, sn')
  | 0, p, sn => ⟨sn, rfl⟩
  | f + 1, p, sn => by
    unfold Sre.M.admitted eolFind
    rw [hl]
    by_cases hp : p ≥ m.text.size
    · rw [if_pos hp, if_pos hp]; exact ⟨_, rfl⟩
    · rw [if_neg hp, if_neg hp, hc]
      obtain ⟨sn', e⟩ := inSet_eol (m.text.getD p 0) sn
      rw [e]
      by_cases hx : isEol (m.text.getD p 0) = true
      · rw [hx]; exact ⟨_, rfl⟩
      · rw [Bool.not_eq_true] at hx
        rw [hx]
        exact admitted_eol m hc hl f (p + 1) sn'
/-- a state of the engine at the row's end q -/
noncomputable def EM (x : Array Nat) (q pc pos : Nat) (fr : List Sre.Frame) (wt : Nat) (ans : Option Bool) (om : Bool) (hd : Nat) (sn : Sre.Seen) : Sre.M :=
  { code := eolCode, text := x, lim := x.size, start := q, lastStart := x.size, pc := pc, pos := pos, handed := hd, outermost := om, marks := #[], frames := fr, weight := wt, answer := ans, seen := sn }
noncomputable abbrev EF0 (q : Nat) : List Sre.Frame := [{ wait := .nextStart, pc := 10, pos := q, outermost := true }]
noncomputable abbrev EFB (q alt : Nat) : List Sre.Frame := { wait := .nextBranch, pc := alt, pos := q, outermost := true } :: EF0 q
noncomputable abbrev EFN (q pos : Nat) : List Sre.Frame := { wait := .lookNot, pc := 26, pos := pos, outermost := true } :: EFB q 23
noncomputable abbrev E0 (x : Array Nat) (q : Nat) (sn : Sre.Seen) : Sre.M := EM x q 10 q (EF0 q) 1 none true q sn
section
variable (x : Array Nat) (q pc pos : Nat) (fr : List Sre.Frame) (wt : Nat) (om : Bool) (hd : Nat) (sn : Sre.Seen)
theorem em_yes (hw : Sre.ops[eolCode.getD pc 0]? = some .LITERAL) (hc : pc < 36) (hp : pos < x.size) (he : x.getD pos 0 = eolCode.getD (pc + 1) 0) : ∃ sn', Go 1 (EM x q pc pos fr wt none om hd sn) (EM x q (pc + 2) (pos + 1) fr wt none om hd sn') :=
  ⟨_, go_lit_yes (m := EM x q pc pos fr wt none om hd sn) rfl rfl hc hw hw hp he⟩
theorem em_no (hw : Sre.ops[eolCode.getD pc 0]? = some .LITERAL) (hc : pc < 36) (he : pos < x.size → x.getD pos 0 ≠ eolCode.getD (pc + 1) 0) : ∃ sn', Go 1 (EM x q pc pos fr wt none om hd sn) (EM x q pc pos fr wt (some false) om hd sn') :=
  ⟨_, go_lit_no (m := EM x q pc pos fr wt none om hd sn) rfl rfl hc hw hw he⟩
theorem em_branch : ∃ sn', Go 1 (EM x q 10 q (EF0 q) 1 none true hd sn) (EM x q 12 q (EFB q 11) 2 none true q sn') := ⟨_, Go.one rfl rfl⟩
theorem em_next1 : ∃ sn', Go 1 (EM x q pc pos (EFB q 11) 2 (some false) om hd sn) (EM x q 19 q (EFB q 18) 2 none true q sn') := ⟨_, Go.one rfl rfl⟩
theorem em_next2 : ∃ sn', Go 1 (EM x q pc pos (EFB q 18) 2 (some false) om hd sn) (EM x q 24 q (EFB q 23) 2 none true q sn') := ⟨_, Go.one rfl rfl⟩
theorem em_jump1 : ∃ sn', Go 1 (EM x q 16 pos fr wt none om hd sn) (EM x q 35 pos fr wt none om hd sn') := ⟨_, Go.one rfl rfl⟩
theorem em_jump2 : ∃ sn', Go 1 (EM x q 21 pos fr wt none om hd sn) (EM x q 35 pos fr wt none om hd sn') := ⟨_, Go.one rfl rfl⟩
theorem em_jump3 : ∃ sn', Go 1 (EM x q 32 pos fr wt none om hd sn) (EM x q 35 pos fr wt none om hd sn') := ⟨_, Go.one rfl rfl⟩
theorem em_not : ∃ sn', Go 1 (EM x q 26 pos (EFB q 23) 2 none true hd sn) (EM x q 29 pos (EFN q pos) 3 none false pos sn') := ⟨_, Go.one rfl rfl⟩
theorem em_notNo (p' : Nat) : ∃ sn', Go 1 (EM x q 29 p' (EFN q pos) 3 (some false) om hd sn) (EM x q 32 pos (EFB q 23) 2 none true hd sn') := ⟨_, Go.one rfl rfl⟩
theorem em_end (alt : Nat) : ∃ k m', k = 4 ∧ Go k (EM x q 35 pos (EFB q alt) 2 none true hd sn) m' ∧ m'.outcome = some .matched ∧ m'.start = q ∧ m'.handed = pos :=
  ⟨1 + (1 + (1 + 1)), _, rfl, (Go.one rfl (show _ = EM x q 35 pos (EFB q alt) 2 (some true) true pos (sn.add 1) from rfl)).then ((Go.one rfl (show _ = EM x q alt q (EF0 q) 1 (some true) true pos (sn.add 1) from rfl)).then ((Go.one rfl (show _ = EM x q 10 q [] 0 (some true) true pos (sn.add 1) from rfl)).then (Go.one rfl rfl))), rfl, rfl, rfl⟩
end
theorem eol_go (x : Array Nat) (q : Nat) (sn : Sre.Seen) (hq : q < x.size) (h : isEol (x.getD q 0) = true) : ∃ k m', k ≤ 20 ∧ Go k (E0 x q sn) m' ∧ m'.outcome = some .matched ∧ m'.start = q ∧ m'.handed = q + eolLen x q := by
  obtain ⟨s1, g1⟩ := em_branch x q q sn
  by_cases h13 : x.getD q 0 = 13
  · obtain ⟨s2, g2⟩ := em_yes x q 12 q (EFB q 11) 2 true q s1 rfl (by decide) hq h13
    by_cases h2 : q + 1 < x.size ∧ x.getD (q + 1) 0 = 10
    · obtain ⟨s3, g3⟩ := em_yes x q 14 (q + 1) (EFB q 11) 2 true q s2 rfl (by decide) h2.1 h2.2
      obtain ⟨s4, g4⟩ := em_jump1 x q (q + 1 + 1) (EFB q 11) 2 true q s3
      obtain ⟨k, m', hk, g5, r⟩ := em_end x q (q + 1 + 1) q s4 11
      have e : eolLen x q = 2 := by
        unfold eolLen
        rw [h13, h2.2, decide_eq_true h2.1]; rfl
      exact ⟨1 + (1 + (1 + (1 + k))), m', by omega, g1.then (g2.then (g3.then (g4.then g5))), r.1, r.2.1, by rw [r.2.2, e]⟩
    · obtain ⟨s3, g3⟩ := em_no x q 14 (q + 1) (EFB q 11) 2 true q s2 rfl (by decide) (fun a b => h2 ⟨a, b⟩)
      obtain ⟨s4, g4⟩ := em_next1 x q 14 (q + 1) true q s3
      obtain ⟨s5, g5⟩ := em_no x q 19 q (EFB q 18) 2 true q s4 rfl (by decide) (fun _ b => by have := h13.symm.trans b; exact absurd (show (13 : Nat) = 10 from this) (by decide))
      obtain ⟨s6, g6⟩ := em_next2 x q 19 q true q s5
      obtain ⟨s7, g7⟩ := em_yes x q 24 q (EFB q 23) 2 true q s6 rfl (by decide) hq h13
      obtain ⟨s8, g8⟩ := em_not x q (q + 1) q s7
      obtain ⟨s9, g9⟩ := em_no x q 29 (q + 1) (EFN q (q + 1)) 3 false (q + 1) s8 rfl (by decide) (fun a b => h2 ⟨a, b⟩)
      obtain ⟨s10, g10⟩ := em_notNo x q (q + 1) false (q + 1) s9 (q + 1)
      obtain ⟨s11, g11⟩ := em_jump3 x q (q + 1) (EFB q 23) 2 true (q + 1) s10
      obtain ⟨k, m', hk, g12, r⟩ := em_end x q (q + 1) (q + 1) s11 23
      have e : eolLen x q = 1 := by
        unfold eolLen
        rw [if_neg]
        intro k
        simp only [Bool.and_eq_true, decide_eq_true_eq, beq_iff_eq] at k
        exact h2 k.2
      exact ⟨1 + (1 + (1 + (1 + (1 + (1 + (1 + (1 + (1 + (1 + (1 + k)))))))))), m', by omega, g1.then (g2.then (g3.then (g4.then (g5.then (g6.then (g7.then (g8.then (g9.then (g10.then (g11.then g12)))))))))), r.1, r.2.1, by rw [r.2.2, e]⟩
  · have h10 : x.getD q 0 = 10 := by
      unfold isEol at h
      simp only [Bool.or_eq_true, beq_iff_eq] at h
      exact h.elim id fun k => absurd k h13
    obtain ⟨s2, g2⟩ := em_no x q 12 q (EFB q 11) 2 true q s1 rfl (by decide) (fun _ b => h13 b)
    obtain ⟨s3, g3⟩ := em_next1 x q 12 q true q s2
    obtain ⟨s4, g4⟩ := em_yes x q 19 q (EFB q 18) 2 true q s3 rfl (by decide) hq h10
    obtain ⟨s5, g5⟩ := em_jump2 x q (q + 1) (EFB q 18) 2 true q s4
    obtain ⟨k, m', hk, g6, r⟩ := em_end x q (q + 1) q s5 18
    have e : eolLen x q = 1 := by
      unfold eolLen
      rw [h10]; rfl
    exact ⟨1 + (1 + (1 + (1 + (1 + k)))), m', by omega, g1.then (g2.then (g3.then (g4.then (g5.then g6)))), r.1, r.2.1, by rw [r.2.2, e]⟩
theorem eolFind_some (x : Array Nat) : ∀ (f p q : Nat), eolFind x f p = some q → q < x.size ∧ isEol (x.getD q 0) = true
  | 0, _, _, h => nomatch h
  | f + 1, p, q, h => by
    unfold eolFind at h
    by_cases hp : p ≥ x.size
    · rw [if_pos hp] at h; cases h
    · rw [if_neg hp] at h
      by_cases hx : isEol (x.getD p 0) = true
      · rw [if_pos hx] at h; cases h; exact ⟨Nat.lt_of_not_le hp, hx⟩
      · rw [if_neg hx] at h; exact eolFind_some x f (p + 1) q h
/-- no answer is left to seek -/
theorem go_failed (m : Sre.M) (ho : m.outcome = none) (ha : m.answer = some false) (hf : m.frames = []) : ∃ m', Go 1 m m' ∧ m'.outcome = some .failed := by
  refine ⟨{ m with outcome := some .failed }, Go.one (by rw [ho]; rfl) ?_, rfl⟩
  unfold Sre.M.step
  rw [ho, ha, hf]
  rfl
theorem eol_search (x : Array Nat) (p : Nat) : ∃ k m', k ≤ 20 ∧ Go k (Sre.forSearch eolCode x 0 p x.size false) m' ∧
    match eolFind x (x.size + 1 - p) p with
    | some q => m'.outcome = some .matched ∧ m'.start = q ∧ m'.handed = q + eolLen x q
    | none => m'.outcome = some .failed := by
  by_cases hp : p < x.size
  · have e : ∃ m : Sre.M, Sre.forSearch eolCode x 0 p x.size false = m.attemptFrom p true ∧ m = { code := eolCode, text := x, lim := x.size, start := p, lastStart := x.size, pc := 10, pos := p, handed := p, marks := #[], seen := ({} : Sre.Seen).add 14 } := by
      refine ⟨_, ?_, rfl⟩
      show (if (decide (p > x.size) || decide (x.size - p < 1)) = true then _ else _) = _
      rw [if_neg (by simp only [Bool.or_eq_true, decide_eq_true_eq]; omega)]
      rfl
    obtain ⟨m, e, em⟩ := e
    rw [e]
    have hm : m.attemptFrom p true = match Sre.M.admitted m (m.lim + 1 - p) p m.seen with
        | .ok (some s, seen) => { m with mustAdvance := false, seen }.attemptAt s true
        | .ok (none, seen) => { m with seen }.say false
        | .error why => m.stick why := by rw [em]; rfl
    rw [hm]
    have hl : m.lim = m.text.size := by rw [em]
    have ht : m.text = x := by rw [em]
    obtain ⟨sn', ea⟩ := admitted_eol m (by rw [em]) hl (m.lim + 1 - p) p m.seen
    have ef : eolFind m.text (m.lim + 1 - p) p = eolFind x (x.size + 1 - p) p := by rw [hl, ht]
    rw [ea, ef]
    rcases hf : eolFind x (x.size + 1 - p) p with _ | q
    · obtain ⟨m', g, r⟩ := go_failed ({ m with seen := sn' }.say false) (by rw [em]; rfl) rfl (by rw [em]; rfl)
      exact ⟨1, m', by omega, g, r⟩
    · obtain ⟨a, b⟩ := eolFind_some x _ _ _ hf
      obtain ⟨k, m', hk, g, r⟩ := eol_go x q sn' a b
      refine ⟨k, m', hk, ?_, r⟩
      rw [em]
      exact g
  · have e : ∃ m : Sre.M, Sre.forSearch eolCode x 0 p x.size false = m ∧ m.outcome = none ∧ m.answer = some false ∧ m.frames = [] := by
      refine ⟨_, rfl, ?_⟩
      show Sre.M.outcome (if (decide (p > x.size) || decide (x.size - p < 1)) = true then _ else _) = none ∧ Sre.M.answer (if (decide (p > x.size) || decide (x.size - p < 1)) = true then _ else _) = some false ∧ Sre.M.frames (if (decide (p > x.size) || decide (x.size - p < 1)) = true then _ else _) = []
      rw [if_pos (by simp only [Bool.or_eq_true, decide_eq_true_eq]; omega)]
      exact ⟨rfl, rfl, rfl⟩
    obtain ⟨m, e, ho, ha, hf⟩ := e
    rw [e]
    obtain ⟨m', g, r⟩ := go_failed m ho ha hf
    refine ⟨1, m', by omega, g, ?_⟩
    have : eolFind x (x.size + 1 - p) p = none := by
      rcases h : x.size + 1 - p with _ | f
      · rfl
      · unfold eolFind; rw [if_pos (by omega)]
    rw [this]
    exact r
theorem dot_search (x : Array Nat) (p : Nat) : ∃ k m', k ≤ 3 * (x.size + 1) + 6 ∧ Go k (Sre.forSearch dotCode x 0 p x.size false) m' ∧
    match dotFind x (x.size + 1 - p) p with
    | some q => m'.outcome = some .matched ∧ m'.start = q ∧ m'.handed = q + 1
    | none => m'.outcome = some .failed := by
  by_cases hp : p < x.size
  · obtain ⟨sn, hd, e⟩ := dot_start x p hp
    obtain ⟨k, m', hk, g, r⟩ := dot_go x (x.size + 1 - p) p true sn hd (by omega) (by omega)
    rw [e]
    exact ⟨k, m', by omega, g, r⟩
  · obtain ⟨m', g, r⟩ := dot_none x p hp
    refine ⟨1, m', by omega, g, ?_⟩
    have : dotFind x (x.size + 1 - p) p = none := by
      rcases h : x.size + 1 - p with _ | f
      · rfl
      · have : f = 0 := by omega
        subst this
        unfold dotFind
        rw [if_neg]
        · rfl
        · intro k
          simp only [Bool.and_eq_true, decide_eq_true_eq] at k
          exact hp k.1.2
    rw [this]
    exact r
end

section
open PySem PySem.W PyProof.Rows
set_option Elab.async false
set_option maxRecDepth 100000
set_option maxHeartbeats 0
open PySem.Builtin.Re
theorem plainAttrs_rePattern : PlainAttrs "re.Pattern" :=
  ⟨⟨"object.__getattribute__", by rw [typeLookup_type, builtinLookup_eq_fast]; kernel_rfl, by decide +kernel⟩, by rw [typeLookup_type, builtinLookup_eq_fast]; kernel_rfl⟩
theorem owner_rePattern : Manifest.owners.lookup (String.ofList ['n', 'r', 'e', 't', 't', 'a', 'P', '.', 'e', 'r'].reverse) = some Manifest.sig_re_Pattern := by kernel_rfl
theorem slot_re_sub : Slot "re.Pattern" "sub" "re.Pattern.sub" :=
  .of (owner := "re.Pattern") (n := "sub") (by rw [typeLookup_type, builtinLookup_eq_fast]; kernel_rfl) (by decide +kernel) (by decide +kernel) (by decide +kernel)
    (by first | exact .inl (by decide +kernel) | exact .inr (by decide +kernel)) (by rw [isSubtype_type]; kernel_rfl)
theorem type_re_sub : typeOf (.builtin "re.Pattern.sub") = pure (.type "method_descriptor") := by show builtinType _ = _; rw [builtinType_eq_fast]; kernel_rfl
theorem entry_re_sub : entryFor table "re.Pattern.sub" = some Builtin.«re.Pattern.sub» := entryFor_of_tree (by kernel_rfl)
theorem entry_re_sub_loop : entryFor table "re.Pattern.sub.loop" = some Builtin.«re.Pattern.sub.loop» := entryFor_of_tree (by kernel_rfl)
theorem args_re_sub (a b c : Value) : argsOk "re.Pattern.sub" ⟨[a, b, c], []⟩ := by
  unfold argsOk; rw [signature?_of (id := "re.Pattern.sub") (n := ['b', 'u', 's']) (o := ['n', 'r', 'e', 't', 't', 'a', 'P', '.', 'e', 'r']) (by kernel_rfl) owner_rePattern]; kernel_rfl
theorem plain_re_loop : plainId "re.Pattern.sub.loop" = true := by decide +kernel
/-- a pattern of the module re, its code, no group -/
noncomputable def PatAt (h : Heap) (a : Addr) (code : Array Nat) : Prop :=
  ∃ fs T o xs n, h.get? a = some ({ cls := .type "re.Pattern", data := .fields fs } : Obj) ∧ fs.getD 5 .none = .ref T ∧ fs.getD 6 .none = .int 0 0 ∧ fs.getD 2 .none = .int 0 0 ∧ h.get? T = some o ∧ o.data = .seq xs n ∧ (xs.map reRawOf).map (·.toNat) = code
theorem PatAt.mono {h h' : Heap} {a : Addr} {code : Array Nat} (P : PatAt h a code) (k : ∀ b o, h.get? b = some o → h'.get? b = some o) : PatAt h' a code := by
  obtain ⟨fs, T, o, xs, n, h1, h2, h3, h4, h5, h6, h7⟩ := P
  exact ⟨fs, T, o, xs, n, k _ _ h1, h2, h3, h4, k _ _ h5, h6, h7⟩
section
variable {prog : Program} {w : World} {A : Around} {E : Value → Shared → Prop} {s : Shared}
theorem wpAny_reWholeTarget {a : Addr} {code : Array Nat} {x : Str} {t : Tok} {Q : ReTarget → Shared → Prop} (P : PatAt s.heap a code)
    (h : Q { pattern := .ref a, string := .str x t, code := code, text := x.cps, kind := 0, groups := 0, pos := 0, lim := x.cps.size } s) : wpAny (model prog w) A (reWholeTarget (.ref a) (.str x t)) Q E s := by
  obtain ⟨fs, T, o, xs, n, h1, h2, h3, h4, h5, h6, h7⟩ := P
  unfold reWholeTarget
  refine wpAny_bind ?_
  unfold fieldsOf
  refine wpAny_bind (wpAny_load h1 (wpAny_pure ?_))
  refine wpAny_bind ?_
  unfold reTextOf
  refine wpAny_bind (wpAny_pure ?_)
  refine wpAny_pure ?_
  rw [h3, h4, h2]
  refine wpAny_bind ?_
  unfold reNoCollectionInside
  refine wpAny_pure ?_
  refine wpAny_bind ?_
  unfold reRawItems
  refine wpAny_bind ?_
  unfold seqItems?
  refine wpAny_bind (wpAny_load h5 ?_)
  rw [h6]
  refine wpAny_pure ?_
  refine wpAny_pure ?_
  refine wpAny_pure ?_
  subst h7
  exact h
/-- the searches of a pattern over a text -/
structure Finds (code x : Array Nat) (F : Nat → Option (Nat × Nat)) : Prop where
  go : ∀ p, ∃ k m', k ≤ 4 * 2 ^ 64 ∧ Go k (Sre.forSearch code x 0 p x.size false) m' ∧
    match F p with
    | some r => m'.outcome = some .matched ∧ m'.start = r.1 ∧ m'.handed = r.2
    | none => m'.outcome = some .failed
  le : ∀ p b e, F p = some (b, e) → p ≤ b ∧ b < e ∧ e ≤ x.size
theorem wpAny_next {code x : Array Nat} {F : Nat → Option (Nat × Nat)} (H : Finds code x F) {pat str : Value} {p : Nat} {Q : Option Sre.M → Shared → Prop}
    (h : match F p with
      | some r => ∀ m : Sre.M, m.start = r.1 → m.handed = r.2 → Q (some m) s
      | none => Q none s) :
    wpAny (model prog w) A (reNextFound { pattern := pat, string := str, code := code, text := x, kind := 0, groups := 0, pos := 0, lim := x.size } p false) Q E s := by
  obtain ⟨k, m', hk, g, r⟩ := H.go p
  unfold reNextFound
  rcases hF : F p with _ | b
  · rw [hF] at h r
    exact wpAny_reRunToEnd _ m' k hk g none (.inr ⟨r, rfl⟩) h
  · rw [hF] at h r
    exact wpAny_reRunToEnd _ m' k hk g (some m') (.inl ⟨r.1, rfl⟩) (h m' r.2.1 r.2.2)
/-- the pieces that the substitution lays together -/
noncomputable def subGo (F : Nat → Option (Nat × Nat)) (x : Array Nat) (y : Str) : Nat → Nat → List Str
  | 0, _ => []
  | f + 1, d => match F d with
    | some (b, e) => (if d < b then [⟨x.extract d b⟩] else []) ++ y :: subGo F x y f e
    | none => if d < x.size then [⟨x.extract d x.size⟩] else []
noncomputable def subText (x : Array Nat) (ys : List Str) : Str := if ys.isEmpty then ⟨x.extract 0 0⟩ else Txt.join ⟨x.extract 0 0⟩ ys
theorem wpAny_pushItem {l : Addr} {xs : Array Value} {n : Nat} {v : Value} {Q : Unit → Shared → Prop} (ho : s.heap.get? l = some ({ cls := .type "list", data := .seq xs n } : Obj)) (hz : xs.size ≤ 1000000)
    (h : ∀ h' n', h'.get? l = some ({ cls := .type "list", data := .seq (xs.push v) n' } : Obj) → Heap.SameBut l s.heap h' → Q () { s with heap := h' }) : wpAny (model prog w) A (updateSeq l (·.push v)) Q E s :=
  wpAny_updateSeq ho rfl (h _ _ (Heap.get?_update_self _ ho rfl) (Heap.SameBut.update ..)) (Nat.le_trans hz (by decide)) (by
    rw [Array.size_push]; exact Nat.succ_le_succ (Nat.le_trans hz (by decide)))
/-- base holds on in h but for what is new -/
theorem keeps_sameBut {hb h h' : Heap} {l : Addr} (k : ∀ b o, hb.get? b = some o → h.get? b = some o) (hn : hb.get? l = none) (hs : Heap.SameBut l h h') : ∀ b o, hb.get? b = some o → h'.get? b = some o := fun b o e =>
  (hs.2 b (fun q => by rw [q, hn] at e; cases e)).trans (k b o e)
theorem sub_loop {a l : Addr} {code : Array Nat} {x y : Str} {t u : Tok} {F : Nat → Option (Nat × Nat)} {hb : Heap} {R : Result → Shared → Prop} (P : PatAt hb a code) (H : Finds code x.cps F) (hn : hb.get? l = none) (hx : x.cps.size ≤ 10000) (hy : y.length ≤ 2) :
    ∀ (f d : Nat) (n : Int) (vs : List Value) (ys : List Str) (ep : Nat) (h : Heap) (tk : Nat), d ≤ x.cps.size → x.cps.size + 1 - d ≤ f → (∀ b o, hb.get? b = some o → h.get? b = some o) →
      h.get? l = some ({ cls := .type "list", data := .seq vs.toArray ep } : Obj) → StrsAre vs ys → vs.length ≤ 2 * d → (ys.map (·.length)).sum ≤ 2 * d →
      (∀ h' tk' z, (∀ b o, hb.get? b = some o → h'.get? b = some o) → R (.ok (.ret (.str (subText x.cps (ys ++ subGo F x.cps y f d)) z))) { s with heap := h', toks := tk' }) →
      codeAny (model prog w) A (.builtin "re.Pattern.sub.loop" ⟨[.ref a, .str x t, .str y u, rawInt 0, rawInt 0, rawInt n, rawInt d, rawInt d, .bool false, .ref l, .bool false], []⟩) R { s with heap := h, toks := tk }
  | 0, d, _, _, _, _, _, _, hd, hf, _, _, _, _, _, _ => by omega
  | f + 1, d, n, vs, ys, ep, h, tk, hd, hf, hk, ho, hi, hs1, hs2, hR => by
    refine codeAny_builtin entry_re_sub_loop ?_
    rw [Around.under_plainId plain_re_loop]
    unfold Builtin.«re.Pattern.sub.loop»
    refine wpAny_bind (wpAny_reWholeTarget (P.mono hk) ?_)
    refine wpAny_bind ?_
    refine wpAny_pure ?_
    refine wpAny_bind ?_
    refine wpAny_next (p := d) H ?_
    have ex : x.cps.extract d x.cps.size = x.cps.extract d x.cps.size := rfl
    rcases hF : F d with _ | ⟨b, e⟩
    · -- no more: the rest, and the pieces laid together
      have eg : subGo F x.cps y (f + 1) d = if d < x.cps.size then [⟨x.cps.extract d x.cps.size⟩] else [] := by
        unfold subGo; rw [hF]
      have ends : ∀ (vs' : List Value) (ys' : List Str) (ep' : Nat) (h' : Heap) (tk' : Nat), (∀ b o, hb.get? b = some o → h'.get? b = some o) → h'.get? l = some ({ cls := .type "list", data := .seq vs'.toArray ep' } : Obj) → StrsAre vs' ys' →
          vs'.length ≤ 100000 → (ys'.map (·.length)).sum ≤ 100000 → ys' = ys ++ subGo F x.cps y (f + 1) d →
          wpAny (model prog w) A.in1 (do
            let joiner ← reSlice x.cps 0 0 0
            let text ← if ((← seqItems? (.ref l)).getD #[]).isEmpty = true then pure joiner else call (.builtin "str.join") [joiner, .ref l]
            ret text) (fun fin s' => match fin with | .done f => R (.ok f) s' | .again c' => c'.quiet = true ∧ codeAny (model prog w) A c' R s') (fun e s' => R (.error e) s') { s with heap := h', toks := tk' } := by
        intro vs' ys' ep' h' tk' k1 k2 k3 k4 k5 k6
        refine wpAny_bind ?_
        unfold reSlice
        refine wpAny_mkStr ?_ (by show (x.cps.extract 0 0).size ≤ sizeLine; rw [Array.size_extract]; exact Nat.le_trans (Nat.le_trans (Nat.sub_le _ _) (Nat.min_le_left _ _)) (by decide))
        refine wpAny_bind ?_
        refine wpAny_bind ?_
        refine wpAny_load k2 (wpAny_pure ?_)
        by_cases he : ys'.isEmpty = true
        · have : vs' = [] := by cases k3 with | nil => rfl | cons => cases he
          subst this
          refine wpAny_pure ?_
          have := hR h' (tk' + 1) tk' k1
          rw [← k6] at this
          unfold subText at this
          rw [if_pos he] at this
          exact this
        · have hne : (((some vs'.toArray : Option (Array Value)).getD #[]).isEmpty) = false := by cases k3 with | nil => exact absurd rfl he | cons => rfl
          rw [if_neg (by rw [hne]; decide)]
          refine wpAny_bind ?_
          refine join_list (s := { s with heap := h', toks := tk' + 1 }) (ys := ys') ⟨_, k2, rfl, _, rfl⟩ k3 ?_ fun z kk => ?_
          · have : (⟨x.cps.extract 0 0⟩ : Str).length = 0 := by show (x.cps.extract 0 0).size = 0; rw [Array.size_extract]; omega
            rw [this]
            omega
          · refine wpAny_pure ?_
            have := hR h' kk z k1
            rw [← k6] at this
            unfold subText at this
            rw [if_neg he] at this
            exact this
      show wpAny _ _ _ _ _ _
      refine wpAny_ite ?_
      split
      · rename_i hlt
        have hlt' : d < x.cps.size := hlt
        rw [if_pos hlt'] at eg
        refine wpAny_bind ?_
        unfold reSlice
        refine wpAny_mkStr ?_ (by show (x.cps.extract d x.cps.size).size ≤ sizeLine; rw [Array.size_extract]; exact Nat.le_trans (Nat.le_trans (Nat.sub_le _ _) (Nat.min_le_left _ _)) (Nat.le_trans hx (by decide)))
        refine wpAny_bind (wpAny_pushItem ho (by rw [List.size_toArray]; omega) fun h2 n2 hg hs => ?_)
        rw [List.push_toArray] at hg
        refine ends (vs ++ [_]) (ys ++ [⟨x.cps.extract d x.cps.size⟩]) n2 h2 _ (keeps_sameBut hk hn hs) hg (hi.append' (.cons _ _ .nil)) (by rw [List.length_append]; simp only [List.length_singleton]; omega) ?_ (by rw [eg])
        have : (x.cps.extract d x.cps.size).size ≤ x.cps.size := by rw [Array.size_extract]; omega
        rw [List.map_append, List.sum_append]
        show _ + ((x.cps.extract d x.cps.size).size + 0) ≤ _
        omega
      · rename_i hlt
        have hlt' : ¬ d < x.cps.size := hlt
        rw [if_neg hlt'] at eg
        exact ends vs ys ep h _ hk ho hi (by omega) (by omega) (by rw [eg, List.append_nil])
    · obtain ⟨hb1, hb2, hb3⟩ := H.le _ _ _ hF
      have eg : subGo F x.cps y (f + 1) d = (if d < b then [⟨x.cps.extract d b⟩] else []) ++ y :: subGo F x.cps y f e := by
        conv => lhs; unfold subGo
        rw [hF]
      have next : ∀ (m : Sre.M) (vs' : List Value) (ys' : List Str) (ep' : Nat) (h' : Heap) (tk' : Nat), m.start = b → m.handed = e → (∀ b o, hb.get? b = some o → h'.get? b = some o) → h'.get? l = some ({ cls := .type "list", data := .seq vs'.toArray ep' } : Obj) → StrsAre vs' ys' →
          vs'.length ≤ 2 * d + 1 → (ys'.map (·.length)).sum ≤ 2 * d + (b - d) → ys' ++ [y] ++ subGo F x.cps y f e = ys ++ subGo F x.cps y (f + 1) d →
          wpAny (model prog w) A.in1 (do
            updateSeq l (·.push (.str y u))
            again (.builtin "re.Pattern.sub.loop" ⟨[.ref a, .str x t, .str y u, rawInt 0, rawInt 0, rawInt (n + 1), rawInt m.handed, rawInt m.handed, .bool (m.handed == m.start), .ref l, .bool false], []⟩)) (fun fin s' => match fin with | .done f => R (.ok f) s' | .again c' => c'.quiet = true ∧ codeAny (model prog w) A c' R s') (fun e s' => R (.error e) s') { s with heap := h', toks := tk' } := by
        intro m vs' ys' ep' h' tk' k1 k2 k3 k4 k5 k6 k7 k8
        refine wpAny_bind (wpAny_pushItem k4 (by rw [List.size_toArray]; omega) fun h2 n2 hg hs => ?_)
        rw [List.push_toArray] at hg
        have ne : (m.handed == m.start) = false := by rw [k1, k2]; simp only [beq_eq_false_iff_ne, ne_eq]; omega
        rw [ne, k2]
        refine wpAny_pure ⟨plainId_quiet plain_re_loop _, ?_⟩
        refine sub_loop P H hn hx hy f e (n + 1) (vs' ++ [.str y u]) (ys' ++ [y]) n2 h2 tk' (by omega) (by omega) (keeps_sameBut k3 hn hs) hg (k5.append' (.cons _ _ .nil)) (by rw [List.length_append]; simp only [List.length_singleton]; omega) ?_ ?_
        · rw [List.map_append, List.sum_append]
          show _ + (y.length + 0) ≤ _
          omega
        · rw [k8]
          exact hR
      intro m hm1 hm2
      have hm1 : m.start = b := hm1
      have hm2 : m.handed = e := hm2
      refine wpAny_ite ?_
      split
      · rename_i hlt
        have hlt' : d < b := by rw [← hm1]; exact hlt
        rw [if_pos hlt'] at eg
        refine wpAny_bind ?_
        unfold reSlice
        have hsz : (x.cps.extract d b).size ≤ b - d := by rw [Array.size_extract]; omega
        refine wpAny_mkStr ?_ (by show (x.cps.extract d m.start).size ≤ sizeLine; rw [hm1]; exact Nat.le_trans hsz (by unfold sizeLine; omega))
        refine wpAny_bind (wpAny_pushItem ho (by rw [List.size_toArray]; omega) fun h2 n2 hg hs => ?_)
        rw [List.push_toArray] at hg
        refine next m (vs ++ [_]) (ys ++ [⟨x.cps.extract d m.start⟩]) n2 h2 _ hm1 hm2 (keeps_sameBut hk hn hs) hg (hi.append' (.cons _ _ .nil)) (by rw [List.length_append]; simp only [List.length_singleton]; omega) ?_ (by rw [eg, hm1]; simp)
        rw [List.map_append, List.sum_append]
        show _ + ((x.cps.extract d m.start).size + 0) ≤ _
        rw [hm1]
        omega
      · rename_i hlt
        have hlt' : ¬ d < b := by rw [← hm1]; exact hlt
        rw [if_neg hlt'] at eg
        exact next m vs ys ep h _ hm1 hm2 hk ho hi (by omega) (by omega) (by rw [eg]; simp)
theorem call_re_sub {a : Addr} {code : Array Nat} {x y : Str} {t u : Tok} {F : Nat → Option (Nat × Nat)} {Q : Value → Shared → Prop} (P : PatAt s.heap a code) (H : Finds code x.cps F) (hx : x.cps.size ≤ 10000) (hy : y.length ≤ 2) (hy9 : y.cps.contains 92 = false)
    (h : ∀ h' tk' z, (∀ b o, s.heap.get? b = some o → h'.get? b = some o) → Q (.str (subText x.cps (subGo F x.cps y (x.cps.size + 1) 0)) z) { s with heap := h', toks := tk' }) :
    wpAny (model prog w) A (call (.builtin "re.Pattern.sub") [.ref a, .str y u, .str x t]) Q E s := by
  have hT : s.TypeIs (.ref a) "re.Pattern" := by obtain ⟨fs, T, o, xs, n, h1, _⟩ := P; exact ⟨_, h1, rfl⟩
  refine wpAny_call (codeAny_call_builtin slot_re_sub.plain entry_re_sub (slot_re_sub.check _ _ _ _ _ _ _ _ hT (args_re_sub _ _ _) ?_))
  unfold Builtin.«re.Pattern.sub»
  unfold reSubstitute
  refine wpAny_bind (m := reNamed _ _ _ _ _ _) (wpAny_of_eq (by with_unfolding_all rfl) ?_)
  refine wpAny_bind (wpAny_pure ?_)
  refine wpAny_bind (m := specialOf _ _) (wpAny_specialOf_val (T := "str") (r := none) rfl (by rw [typeLookup_type, builtinLookup_eq_fast]; kernel_rfl) ?_)
  refine wpAny_bind ?_
  refine wpAny_bind (wpAny_pure ?_)
  refine wpAny_pure ?_
  refine wpAny_bind (wpAny_pure ?_)
  rw [hy9]
  refine wpAny_bind (wpAny_pure ?_)
  refine wpAny_bind ?_
  refine wpAny_holding (wpAny_reWholeTarget P ?_)
  refine wpAny_bind ?_
  refine wpAny_newList ?_
  refine wpAny_pure ⟨plainId_quiet plain_re_loop _, ?_⟩
  have hk : ∀ b o, s.heap.get? b = some o → (s.heap.push { cls := .type "list", data := .seq #[] }).get? b = some o := fun b o e => Heap.get?_push_of_some _ e
  refine sub_loop (hb := s.heap) P H ?_ hx hy (x.cps.size + 1) 0 0 [] [] 0 _ s.toks (Nat.zero_le _) (by omega) hk (Heap.get?_push_size _ rfl) .nil (Nat.zero_le _) (Nat.zero_le _) ?_
  · rcases hq : s.heap.get? s.heap.objs.size with _ | o'
    · rfl
    · exact absurd (Heap.lt_size hq) (Nat.lt_irrefl _)
  · intro h' tk' z k
    exact h h' tk' z k
end
/-! what the two patterns find -/
noncomputable def dotF (x : Array Nat) (p : Nat) : Option (Nat × Nat) := (dotFind x (x.size + 1 - p) p).map fun q => (q, q + 1)
noncomputable def eolF (x : Array Nat) (p : Nat) : Option (Nat × Nat) := (eolFind x (x.size + 1 - p) p).map fun q => (q, q + eolLen x q)
theorem dotFind_some (x : Array Nat) : ∀ (f p q : Nat), dotFind x f p = some q → p ≤ q ∧ q < x.size
  | 0, _, _, h => nomatch h
  | f + 1, p, q, h => by
    unfold dotFind at h
    split at h
    · rename_i hh
      cases h
      simp only [Bool.and_eq_true, decide_eq_true_eq] at hh
      exact ⟨Nat.le_refl _, hh.1.2⟩
    · have := dotFind_some x f (p + 1) q h
      omega
theorem eolFind_le (x : Array Nat) : ∀ (f p q : Nat), eolFind x f p = some q → p ≤ q
  | 0, _, _, h => nomatch h
  | f + 1, p, q, h => by
    unfold eolFind at h
    split at h
    · cases h
    · split at h
      · cases h; exact Nat.le_refl _
      · have := eolFind_le x f (p + 1) q h
        omega
theorem finds_dot (x : Array Nat) (hx : x.size ≤ 10000) : Finds dotCode x (dotF x) where
  go p := by
    obtain ⟨k, m', hk, g, r⟩ := dot_search x p
    refine ⟨k, m', by omega, g, ?_⟩
    unfold dotF
    rcases hF : dotFind x (x.size + 1 - p) p with _ | q
    · rw [hF] at r; exact r
    · rw [hF] at r; exact r
  le p b e h := by
    unfold dotF at h
    rcases hF : dotFind x (x.size + 1 - p) p with _ | q
    · rw [hF] at h; cases h
    · rw [hF] at h
      cases h
      have := dotFind_some x _ _ _ hF
      omega
theorem finds_eol (x : Array Nat) : Finds eolCode x (eolF x) where
  go p := by
    obtain ⟨k, m', hk, g, r⟩ := eol_search x p
    refine ⟨k, m', Nat.le_trans hk (by decide), g, ?_⟩
    unfold eolF
    rcases hF : eolFind x (x.size + 1 - p) p with _ | q
    · rw [hF] at r; exact r
    · rw [hF] at r; exact r
  le p b e h := by
    unfold eolF at h
    rcases hF : eolFind x (x.size + 1 - p) p with _ | q
    · rw [hF] at h; cases h
    · rw [hF] at h
      have hq : q = b ∧ q + eolLen x q = e := by have := Option.some.inj h; exact ⟨congrArg Prod.fst this, congrArg Prod.snd this⟩
      have h1 := eolFind_le x _ _ _ hF
      have h2 := eolFind_some x _ _ _ hF
      have h3 : 0 < eolLen x q ∧ q + eolLen x q ≤ x.size := by
        unfold eolLen
        split
        · rename_i hh
          simp only [Bool.and_eq_true, decide_eq_true_eq] at hh
          omega
        · omega
      omega
end

section
open PySem PySem.W PyProof.Rows
set_option Elab.async false
set_option maxRecDepth 100000
set_option maxHeartbeats 0
open PySem.Calls
local macro_rules | `(tactic| omega) => `(tactic| first
  | with_reducible assumption
  | (with_reducible refine Nat.ne_of_gt ?_; simp only [*]; done)
  | (with_reducible refine Nat.ne_of_lt ?_; simp only [*]; done)
  | (with_reducible refine Ne.symm ?_; simp only [*, ne_eq, not_false_eq_true]; done)
  | with_reducible exact Nat.le_refl _
  | with_reducible exact room_0 (by assumption)
  | with_reducible exact units_64 (by assumption) (by decide))
local macro_rules | `(tactic| k_room) => `(tactic| first | with_reducible exact room_in (by assumption) (by decide) | ktr_room)
local macro_rules | `(tactic| k_units) => `(tactic| first | with_reducible exact units_in (by assumption) (by decide) | ktr_units)
local macro_rules | `(tactic| k_all) => `(tactic| first
  | assumption
  | (refine ne_of_lt (by assumption) ?_; (try dsimp only); omega)
  | (refine ne_of_allLt (by assumption) ?_; (try dsimp only); omega)
  | (refine ne_of_allLt (And.right (by assumption)) ?_; (try dsimp only); omega)
  | (refine ne_of_allLt (And.right (And.right (by assumption))) ?_; (try dsimp only); omega)
  | (refine ne_of_allLt (And.right (And.right (And.right (by assumption)))) ?_; (try dsimp only); omega)
  | (refine ne_of_allLt (And.right (And.right (And.right (And.right (by assumption))))) ?_; (try dsimp only); omega)
  | (refine ne_of_allLt (And.right (And.right (And.right (And.right (And.right (by assumption)))))) ?_; (try dsimp only); omega)
  | (refine ne_of_allLt (And.right (And.right (And.right (And.right (And.right (And.right (by assumption))))))) ?_; (try dsimp only); omega)
  | (refine ne_of_allLt (And.right (And.right (And.right (And.right (And.right (And.right (And.right (by assumption)))))))) ?_; (try dsimp only); omega)
  | (refine ne_of_allLt (And.right (And.right (And.right (And.right (And.right (And.right (And.right (And.right (by assumption))))))))) ?_; (try dsimp only); omega)
  | (refine ne_of_allLt (And.right (And.right (And.right (And.right (And.right (And.right (And.right (And.right (And.right (by assumption)))))))))) ?_; (try dsimp only); omega)
  | (refine ne_of_allLt (And.right (And.right (And.right (And.right (And.right (And.right (And.right (And.right (And.right (And.right (by assumption))))))))))) ?_; (try dsimp only); omega)
  | (refine ne_of_allLt (And.right (And.right (And.right (And.right (And.right (And.right (And.right (And.right (And.right (And.right (And.right (by assumption)))))))))))) ?_; (try dsimp only); omega)
  | (refine ne_of_allLt (And.right (And.right (And.right (And.right (And.right (And.right (And.right (And.right (And.right (And.right (And.right (And.right (by assumption))))))))))))) ?_; (try dsimp only); omega)
  | (refine ne_of_allLt (And.right (And.right (And.right (And.right (And.right (And.right (And.right (And.right (And.right (And.right (And.right (And.right (And.right (by assumption)))))))))))))) ?_; (try dsimp only); omega)
  | (refine ne_of_allLt (And.right (And.right (And.right (And.right (And.right (And.right (And.right (And.right (And.right (And.right (And.right (And.right (And.right (And.right (by assumption))))))))))))))) ?_; (try dsimp only); omega)
  | (refine ne_of_allLt (And.right (And.right (And.right (And.right (And.right (And.right (And.right (And.right (And.right (And.right (And.right (And.right (And.right (And.right (And.right (by assumption)))))))))))))))) ?_; (try dsimp only); omega)
  | fail "no order at hand")
theorem pat_eol {P : Params} {h : Heap} (X : (K P).In h) : PatAt h 41 eolCode :=
  ⟨#[.str (Str.ofString "(?:\\r\\n|\\n|\\r(?!\\n))") 301, .int 32 340, .int 0 0, .none, .none, .ref 40, .int 0 0], 40, { cls := .type "tuple", data := .seq #[.int 14 0, .int 9 0, .int 4 0, .int 1 0, .int 2 0, .int 16 0, .int 10 0, .int 16 0, .int 13 0, .int 0 0, .int 7 0, .int 7 0, .int 16 0, .int 13 0, .int 16 0, .int 10 0, .int 15 0, .int 18 0, .int 5 0, .int 16 0, .int 10 0, .int 15 0, .int 13 0, .int 11 0, .int 16 0, .int 13 0, .int 5 0, .int 5 0, .int 0 0, .int 16 0, .int 10 0, .int 1 0, .int 15 0, .int 2 0, .int 0 0, .int 1 0] }, _, _, X 41 _ (by rfl), rfl, rfl, rfl, X 40 _ (by rfl), rfl, by decide +kernel⟩
theorem pat_dot {P : Params} {h : Heap} (X : (K P).In h) : PatAt h 36 dotCode :=
  ⟨#[.str (Str.ofString "(?m)^\\.") 285, .int 40 298, .int 0 0, .none, .none, .ref 35, .int 0 0], 35, { cls := .type "tuple", data := .seq #[.int 14 0, .int 4 0, .int 0 0, .int 1 0, .int 1 0, .int 6 0, .int 1 0, .int 16 0, .int 46 0, .int 1 0] }, _, _, X 36 _ (by rfl), rfl, rfl, rfl, X 35 _ (by rfl), rfl, by decide +kernel⟩
theorem PatAt.isPat {h : Heap} {a : Addr} {code : Array Nat} (P : PatAt h a code) {s : Shared} (e : s.heap = h) : s.TypeIs (.ref a) "re.Pattern" ∧ ∀ b, Value.ref a = .ref b → ∃ o, s.heap.get? b = some o ∧ o.dict = none := by
  obtain ⟨fs, T, o, xs, n, h1, _⟩ := P
  subst e
  exact ⟨⟨_, h1, rfl⟩, fun b q => by cases q; exact ⟨_, h1, rfl⟩⟩
noncomputable def crlf (x : Array Nat) : Str := subText x (subGo (eolF x) x ⟨#[13, 10]⟩ (x.size + 1) 0)
noncomputable def dots (x : Array Nat) : Str := subText x (subGo (dotF x) x ⟨#[46, 46]⟩ (x.size + 1) 0)
section
variable {w : World} {A : Around} {E : Value → Shared → Prop} {s : Shared} {h₀ g : Heap} {L L' : Addr} {m m' : Str → Option Value} {news : List (Addr × Obj)}
theorem sub_method {a : Addr} {code : Array Nat} {pl : Sem Bool} {Q : Value × List Value → Shared → Prop} (P : PatAt s.heap a code) (h : Q (.builtin "re.Pattern.sub", [.ref a]) s) :
    wpAny (model PySem.Challenge.rw_sn0081_01.row.prog w) A (getMethod (.ref a) (Str.ofString "sub") pl) Q E s :=
  getMethod_builtin (P.isPat rfl).1 plainAttrs_rePattern slot_re_sub type_re_sub (P.isPat rfl).2 h
theorem method41 {pl : Sem Bool} {Q : Value × List Value → Shared → Prop} (F' : Fr g L' s.heap m') (F : Fr h₀ L g m) (X : (K w.params).In h₀) (h : Q (.builtin "re.Pattern.sub", [.ref 41]) s) :
    wpAny (model PySem.Challenge.rw_sn0081_01.row.prog w) A (getMethod (.ref 41) (Str.ofString "sub") pl) Q E s := sub_method ((pat_eol X).mono fun b o e => F'.keep _ _ (F.keep _ _ e)) h
theorem method36 {pl : Sem Bool} {Q : Value × List Value → Shared → Prop} (F' : Fr g L' s.heap m') (F : Fr h₀ L g m) (X : (K w.params).In h₀) (h : Q (.builtin "re.Pattern.sub", [.ref 36]) s) :
    wpAny (model PySem.Challenge.rw_sn0081_01.row.prog w) A (getMethod (.ref 36) (Str.ofString "sub") pl) Q E s := sub_method ((pat_dot X).mono fun b o e => F'.keep _ _ (F.keep _ _ e)) h
theorem keeps_Fr {h h' : Heap} (F : Fr g L' h m') (k : ∀ b o, h.get? b = some o → h'.get? b = some o) : Fr g L' h' m' := by
  obtain ⟨⟨oL, a1, a2, hoL, a3⟩, hk, ha⟩ := F
  exact ⟨⟨oL, a1, a2, k _ _ hoL, a3⟩, fun b o e => k _ _ (hk b o e), ha⟩
theorem keeps_News {h h' : Heap} (N : News g L' h news) (k : ∀ b o, h.get? b = some o → h'.get? b = some o) : News g L' h' news :=
  fun p hp => ⟨k _ _ (N p hp).1, (N p hp).2⟩
theorem sub_eol {x y : Str} {t u : Tok} {Q : Value → Shared → Prop} (F' : Fr g L' s.heap m') (F : Fr h₀ L g m) (X : (K w.params).In h₀) (N : News g L' s.heap news) (hx : x.cps.size ≤ 10000) (hy : y = ⟨#[13, 10]⟩)
    (h : ∀ h' tk' z, Fr g L' h' m' → News g L' h' news → Q (.str (crlf x.cps) z) { s with heap := h', toks := tk' }) :
    wpAny (model PySem.Challenge.rw_sn0081_01.row.prog w) A (call (.builtin "re.Pattern.sub") [.ref 41, .str y u, .str x t]) Q E s := by
  subst hy
  exact call_re_sub ((pat_eol X).mono fun b o e => F'.keep _ _ (F.keep _ _ e)) (finds_eol x.cps) hx (by decide) (by decide +kernel) fun h' tk' z k => h h' tk' z (keeps_Fr F' k) (keeps_News N k)
theorem sub_dot {x y : Str} {t u : Tok} {Q : Value → Shared → Prop} (F' : Fr g L' s.heap m') (F : Fr h₀ L g m) (X : (K w.params).In h₀) (N : News g L' s.heap news) (hx : x.cps.size ≤ 10000) (hy : y = ⟨#[46, 46]⟩)
    (h : ∀ h' tk' z, Fr g L' h' m' → News g L' h' news → Q (.str (dots x.cps) z) { s with heap := h', toks := tk' }) :
    wpAny (model PySem.Challenge.rw_sn0081_01.row.prog w) A (call (.builtin "re.Pattern.sub") [.ref 36, .str y u, .str x t]) Q E s := by
  subst hy
  exact call_re_sub ((pat_dot X).mono fun b o e => F'.keep _ _ (F.keep _ _ e)) (finds_dot x.cps hx) hx (by decide) (by decide +kernel) fun h' tk' z k => h h' tk' z (keeps_Fr F' k) (keeps_News N k)
end
local macro_rules | `(tactic| walk_at "getMethod ref") => `(tactic| (k_here; refine stuck_of ?_))
local macro_rules | `(tactic| walk_at "call builtin:re.Pattern.sub") => `(tactic| (k_here; refine stuck_of ?_))
theorem c_fix {w : World} {p : Program} {loose : List Str} {mean : ExcName → Option Value} {mg mb : Str → Option Value} {rest : List (Addr × Obj)} (x : Str) (t : Tok) (hx : x.cps.size ≤ 10000) :
    ConN w p loose mean mg mb 20 55 rest [.str x t] fun h₀ L m s Q =>
      ∀ (u : Tok) (h' : Heap) (tk' : Nat), Fr h₀ L h' m → News h₀ L h' rest → Q (.str (crlf x.cps) u) { s with heap := h', toks := tk' } := by
  unfold ConN
  k_fill
  intro dp un gd cn names g1 g2 more a ccd cl outer A₀ base h₀ L m s Q E a1 a2 a3 a4 a5 a6 a7 hret
  refine wpAny_call ?_
  k_dflt k_enter
  k_steps
  repeat' ((with_reducible refine of_stuck ?_); (first
    | ((with_reducible show wpAny _ _ (call (Value.builtin "re.Pattern.sub") _) _ _ _); k_dflt ((first | refine sub_eol (by assumption) (by assumption) (by assumption) (by assumption) (by assumption) (by rfl) ?_ | refine sub_dot (by assumption) (by assumption) (by assumption) (by assumption) (by assumption) (by rfl) ?_); intro h' tk' z' F' N'))
    | ((with_reducible show wpAny _ _ (getMethod (Value.ref _) _ _) _ _ _); k_dflt (first | refine method41 (by assumption) (by assumption) (by assumption) ?_ | refine method36 (by assumption) (by assumption) (by assumption) ?_))); k_steps)
  rename News _ _ _ _ => kN
  rename Fr _ _ _ _ => kF
  exact hret _ _ _ kF kN
theorem c_quote {w : World} {p : Program} {loose : List Str} {mean : ExcName → Option Value} {mg mb : Str → Option Value} {rest : List (Addr × Obj)} (x : Str) (t : Tok) (hx : x.cps.size ≤ 10000) (hx' : (crlf x.cps).cps.size ≤ 10000) :
    ConN w p loose mean mg mb 20 48 rest [.str x t] fun h₀ L m s Q =>
      ∀ (u : Tok) (h' : Heap) (tk' : Nat), Fr h₀ L h' m → News h₀ L h' rest → Q (.str (dots (crlf x.cps).cps) u) { s with heap := h', toks := tk' } := by
  unfold ConN
  k_fill
  intro dp un gd cn names g1 g2 more a ccd cl outer A₀ base h₀ L m s Q E a1 a2 a3 a4 a5 a6 a7 hret
  refine wpAny_call ?_
  k_dflt k_enter
  k_steps
  repeat' ((with_reducible refine of_stuck ?_); (first
    | ((with_reducible show wpAny _ _ (call (Value.builtin "re.Pattern.sub") _) _ _ _); k_dflt ((first | refine sub_eol (by assumption) (by assumption) (by assumption) (by assumption) (by assumption) (by rfl) ?_ | refine sub_dot (by assumption) (by assumption) (by assumption) (by assumption) (by assumption) (by rfl) ?_); intro h' tk' z' F' N'))
    | ((with_reducible show wpAny _ _ (getMethod (Value.ref _) _ _) _ _ _); k_dflt (first | refine method41 (by assumption) (by assumption) (by assumption) ?_ | refine method36 (by assumption) (by assumption) (by assumption) ?_))); k_steps)
  rename News _ _ _ _ => kN
  rename Fr _ _ _ _ => kF
  exact hret _ _ _ kF kN
end

section
open PySem PySem.W PyProof.Rows
set_option Elab.async false
set_option maxRecDepth 100000
set_option maxHeartbeats 0
open PySem.Calls
/-! a list made of a text's signs, under a test -/
noncomputable def CompSrcS (prog : Program) (w : World) (A : Around) (h₀ : Heap) (L : Addr) (m : Str → Option Value) (env : Env) (ct elt : Expr) (x : Str) (scope : Scope) (cl : List (Str × Addr)) (Fin : Shared → List Value → List (Addr × Obj) → Prop) (xv : Value) (s₁ : Shared) : Prop :=
  ∃ z t news, xv = .str z t ∧ A.handled = none ∧ Fr h₀ L s₁.heap m ∧ News h₀ L s₁.heap news ∧ z.cps.size ≤ sizeLine ∧
    ∀ g, LCt.CompRestT prog w A h₀ L m env ct elt x scope cl { s₁ with heap := g } (fun _ => True) (SignAt z) (Fin { s₁ with heap := g }) z.cps.size 0 [] news
section
variable {prog : Program} {w : World} {A : Around} {E : Value → Shared → Prop} {s : Shared} {h₀ : Heap} {L : Addr} {m : Str → Option Value} {env : Env} {ct elt iter : Expr} {x y : Str} {px py : Pos} {scope : Scope} {cl : List (Str × Addr)} {pos spos : Pos}
theorem CompSrcS.of {Fin : Shared → List Value → List (Addr × Obj) → Prop} {z : Str} {t : Tok} {news : List (Addr × Obj)} {s₁ : Shared} (hh : A.handled = none) (F : Fr h₀ L s₁.heap m) (N : News h₀ L s₁.heap news) (hz : z.cps.size ≤ sizeLine)
    (h : ∀ g, LCt.CompRestT prog w A h₀ L m env ct elt x scope cl { s₁ with heap := g } (fun _ => True) (SignAt z) (Fin { s₁ with heap := g }) z.cps.size 0 [] news) : CompSrcS prog w A h₀ L m env ct elt x scope cl Fin (.str z t) s₁ := ⟨z, t, news, rfl, hh, F, N, hz, h⟩
theorem striter_st {I : Addr} {T : String} {z : Str} {t : Tok} : ∀ i (h h' : Heap) (o : Obj) (nw : List (Addr × Obj)), h.IsStrIter I T z t i → h.get? I = some o → h'.get? I = some o → (∀ b o, h₀.get? b = some o → h'.get? b = some o) → News h₀ L h' nw → True → h'.IsStrIter I T z t i :=
  fun _ _ _ o _ st e e' _ _ _ => by
    obtain ⟨o', q, r⟩ := st
    rw [e] at q
    cases q
    exact ⟨o, e', r⟩
theorem Assign_ListComp_S {Q : Flow → Shared → Prop} (_F₀ : Fr h₀ L s.heap m) (hLe : env.locals = L)
    (hsw : swapsWith (.ListComp elt [⟨.Name x px, iter, [ct], 0⟩] scope pos) (some (.Name y py)) spos.line env = pure true)
    (hclos : closureFor scope env = pure cl) (hcell : ∀ z ∈ scope.names, z.2 ≠ .cell) (hkind : scope.kind = .function)
    (hnames : ∀ z ∈ scope.names, z.2 = .local → scope.names.lookup z.1 = some .local) (hx : scope.names.lookup x = some .local)
    (hy : env.kindOf y = some .local) (hp : (env.scope.kind == .class || (env.scope.kind == .module && env.locals != env.globals)) = false)
    (h : wpAny (model prog w) A (eval iter env) (CompSrcS prog w A h₀ L m env ct elt x scope cl (fun s₂ => LCg.FinA h₀ L m s₂ y Q)) E s)
    (hs : ∀ x, foldedSetIterable iter env x = pure x := by intro _; rfl) :
    wpAny (model prog w) A (exec (.Assign [.Name y py] (.ListComp elt [⟨.Name x px, iter, [ct], 0⟩] scope pos) spos) env) Q E s := by
  subst hLe
  rw [exec_Assign_Name_used _ _ _ _ hsw]
  refine wpAny_bind (wpAny_standAt (wpAny_bind ?_))
  show wpAny _ A (do let _ ← comprehension (.ListComp elt [⟨.Name x px, iter, [ct], 0⟩] scope pos) scope env _ (newList []) false (eval iter env) (some (assign (.Name y py) env))) _ _ s
  refine wpAny_bind (wpAny_mono (wpAny_comprehension_free (use := some (assign (.Name y py) env)) (Q := fun _ s' => Q .next s') rfl hs hclos hkind hnames
    (wpAny_mono h (fun xv s₁ h₁ => ?_) fun _ _ e => e)) (fun _ s' hq => wpAny_pure (wpAny_pure hq)) fun _ _ e => e)
  obtain ⟨z, t, news, rfl, hh, F, N, hsz, R⟩ := h₁
  have go : ∀ (T : String) (o : Obj), o = { cls := .type T, data := .fields #[.str z t, .int 0 0] } → Walks prog w A s₁.heap.objs.size [s₁.heap.objs.size] [s₁.heap.objs.size] z.cps.size (SignAt z) (fun i h => h.IsStrIter s₁.heap.objs.size T z t i) →
      wpAny (model prog w) A (newList []) (fun acc s₃ => wpAny (model prog w) A (newFunctionEnv scope env.globals cl [] env.qual none .none (some env)) (fun cenv s₄ =>
        codeAny (model prog w) A (.compStart (.ListComp elt [⟨.Name x px, iter, [ct], 0⟩] scope pos) 0 (.ref s₁.heap.objs.size) acc { cenv with scope := relabel scope env }) (compPost (model prog w) A E (some (assign (.Name y py) env)) (fun _ s' => Q .next s') acc cenv.locals) s₄) E s₃) E { s₁ with heap := s₁.heap.push o } := by
    intro T o ho W
    have up : ∀ b o', s₁.heap.get? b = some o' → (s₁.heap.push o).get? b = some o' := fun b o e => Heap.get?_push_of_some _ e
    refine LCt.block_T W hsz (fun i h st => by obtain ⟨o, e, _⟩ := st; exact ⟨o, e⟩) striter_st hcell hkind hx ⟨o, Heap.get?_push_size _ (by rw [ho]; rfl), by rw [ho], by rw [ho]; rfl⟩ (fun b hb => ?_)
      (F.keeps up) (N.grown up) (Nat.ne_of_lt F.ns.lt) (next_is_new F) (fun p hp => Nat.ne_of_lt (Heap.lt_size (N p hp).1)) trivial (R _) ?_
    · rw [List.mem_singleton.mp hb]
      show s₁.heap.objs.size < (s₁.heap.push o).objs.size
      rw [Heap.size_push]; exact Nat.lt_succ_self _
    · intro D C h' tk m' ys news' F' N' o1 hn hC₀ hD₀ hCL hDL hCD offC fin
      show wpAny _ A (assign (.Name y py) env (.ref D)) _ _ _
      refine wpAny_assign_Name (wpAny_storeName_local hy F'.ns (fun h₂ hn₂ hs₂ => ?_) hp)
      have hL₀ : h₀.get? env.locals = none := Heap.get?_none_of_le F'.above
      have F₂ : Fr h₀ env.locals h₂ (fun z => if z = y then some (.ref D) else m z) := ⟨hn₂, fun b o e => hs₂.extBut b o (fun q => by rw [q, hL₀] at e; cases e) (F'.keep b o e), F'.above⟩
      refine ⟨m', hn.sameBut hs₂ hCL, fun h'' hs'' => fin D h'' _ (F₂.change hs'' hCL hC₀) (fun p hp => ?_) o1⟩
      have z : h₂.get? p.1 = some p.2 := hs₂.extBut _ _ (N' p hp).2.1 (N' p hp).1
      refine ⟨hs''.extBut _ _ ?_ z, (N' p hp).2⟩
      rcases List.mem_cons.mp hp with rfl | hp
      · exact Ne.symm hCD
      · exact offC p hp
  cases ha : z.cps.all (· < 128)
  · exact wpAny_pyIter_wide ha (go _ _ rfl (Walks.strWide hh _ z t))
  · exact wpAny_pyIter_ascii ha (go _ _ rfl (Walks.strAscii hh _ z t))
noncomputable abbrev sign (c : Nat) : Str := ⟨#[c]⟩
theorem strs_snoc {y : Str} {t : Tok} : ∀ {vs : List Value} {ys : List Str}, StrsAre vs ys → StrsAre (vs ++ [.str y t]) (ys ++ [y])
  | _, _, .nil => .cons y t .nil
  | _, _, .cons z u r => .cons z u (strs_snoc r)
theorem sign_rest {z : Str} {Fin : List Value → List (Addr × Obj) → Prop} {news : List (Addr × Obj)} (keep : Nat → Bool)
    (turn : ∀ (c : Nat) (t : Tok) I oI C oC D m₂ ys h tk (E' : Value → Shared → Prop), c ∈ z.cps.toList → LCg.NsObj oC m₂ → m₂ x = some (.str (sign c) t) → Fr h₀ L h m → News h₀ L h ((I, oI) :: (C, oC) :: (D, LCg.lst ys) :: news) → LCg.Off3 I C D news → ((@Ne Nat I C) ∧ (@Ne Nat I D) ∧ (@Ne Nat C D)) →
      wpAny (model prog w) A (isTrue ct (compEnvC scope cl C env) (eval ct (compEnvC scope cl C env))) (fun ok s' => if ok = true then
        wpAny (model prog w) A (eval elt (compEnvC scope cl C env)) (LCg.CompEnd h₀ L m { s with heap := h, toks := tk } I oI C oC D (LCg.lst ys) (fun _ => True) (fun y news' => news' = news ∧ keep c = true ∧ ∃ t', y = .str (sign c) t')) E' s'
        else LCg.CompEnd h₀ L m { s with heap := h, toks := tk } I oI C oC D (LCg.lst ys) (fun _ => True) (fun _ news' => news' = news ∧ keep c = false) Value.none s') E' { s with heap := h, toks := tk })
    (fin : ∀ ys, StrsAre ys ((z.cps.toList.filter keep).map sign) → Fin ys news) : LCt.CompRestT prog w A h₀ L m env ct elt x scope cl s (fun _ => True) (SignAt z) Fin z.cps.size 0 [] news := by
  have key : ∀ (j i : Nat) (ys : List Value), i + j = z.cps.size → StrsAre ys (((z.cps.toList.take i).filter keep).map sign) → LCt.CompRestT prog w A h₀ L m env ct elt x scope cl s (fun _ => True) (SignAt z) Fin j i ys news := by
    intro j
    induction j with
    | zero =>
      intro i ys hi hy
      have e : i = z.cps.toList.length := by rw [Array.length_toList]; omega
      subst e
      rw [List.take_length] at hy
      exact LCt.CompRestT.zero (fin ys hy)
    | succ j ih =>
      intro i ys hi hy
      refine LCt.CompRestT.succ ?_
      intro v I oI C oC D m₂ h tk E' hv hC hx F N off ne
      obtain ⟨c, t, hk, hv'⟩ := hv
      rw [hv'] at hx
      have hk' : z.cps.toList[i]? = some c := by rw [Array.getElem?_toList]; exact hk
      refine wpAny_mono (turn c t I oI C oC D m₂ ys h tk E' (List.mem_of_getElem? hk') hC hx F N off ne) (fun ok s₂ hq => ?_) fun _ _ e => e
      cases ok with
      | true =>
        rw [if_pos rfl] at hq ⊢
        refine wpAny_mono hq (fun y s₃ hq => ?_) fun _ _ e => e
        obtain ⟨h', tk', nw, e, F', N', off', hS, hn, hkp, t', hy'⟩ := hq
        rw [hn] at N' off'
        refine ⟨h', tk', news, e, F', N', off', trivial, ?_⟩
        rw [hy']
        refine ih (i + 1) _ (by omega) ?_
        rw [List.take_add_one, hk', List.filter_append, List.map_append]
        show StrsAre _ (_ ++ ([c].filter keep).map sign)
        rw [List.filter_cons, if_pos hkp, List.filter_nil]
        exact strs_snoc hy
      | false =>
        rw [if_neg Bool.false_ne_true] at hq ⊢
        obtain ⟨h', tk', nw, e, F', N', off', hS, hn, hkp⟩ := hq
        rw [hn] at N' off'
        refine ⟨h', tk', news, e, F', N', off', trivial, ?_⟩
        refine ih (i + 1) _ (by omega) ?_
        rw [List.take_add_one, hk', List.filter_append, List.map_append]
        show StrsAre _ (_ ++ ([c].filter keep).map sign)
        rw [List.filter_cons, if_neg (by rw [hkp]; decide), List.filter_nil, List.map_nil, List.append_nil]
        exact hy
  exact key _ 0 [] (by omega) (by simp only [List.take_zero, List.filter_nil, List.map_nil]; exact .nil)
theorem strs_len : ∀ {vs : List Value} {ys : List Str}, StrsAre vs ys → vs.length = ys.length
  | _, _, .nil => rfl
  | _, _, .cons _ _ r => congrArg (· + 1) (strs_len r)
theorem strs_at : ∀ {vs : List Value} {ys : List Str}, StrsAre vs ys → ∀ (i : Nat) (v : Value), vs[i]? = some v → ∃ y t, ys[i]? = some y ∧ v = .str y t
  | _, _, .nil, i, v, h => by simp at h
  | _, _, .cons y t r, 0, v, h => by simp at h; exact ⟨y, t, by simp, h.symm⟩
  | _, _, .cons _ _ r, i + 1, v, h => by
    obtain ⟨y, t, a, b⟩ := strs_at r i v (by simpa using h)
    exact ⟨y, t, by simpa using a, b⟩
theorem str_rest {S : List (Addr × Obj) → Prop} {Fin : List Value → List (Addr × Obj) → Prop} {news : List (Addr × Obj)} {vs : List Value} {zs : List Str} (g : Str → Str) (hi : StrsAre vs zs)
    (turn : ∀ (z : Str) (t : Tok) I oI C oC D m₂ ys h tk (E' : Value → Shared → Prop), z ∈ zs → LCg.NsObj oC m₂ → m₂ x = some (.str z t) → Fr h₀ L h m → News h₀ L h ((I, oI) :: (C, oC) :: (D, LCg.lst ys) :: news) → LCg.Off3 I C D news → ((@Ne Nat I C) ∧ (@Ne Nat I D) ∧ (@Ne Nat C D)) →
      wpAny (model prog w) A (eval elt (compEnvC scope cl C env)) (LCg.CompEnd h₀ L m { s with heap := h, toks := tk } I oI C oC D (LCg.lst ys) S (fun y news' => news' = news ∧ ∃ t', y = .str (g z) t')) E' { s with heap := h, toks := tk })
    (fin : ∀ ys, StrsAre ys (zs.map g) → Fin ys news) : LCg.CompRest prog w A h₀ L m env elt x scope cl s S (fun i v => vs.toArray[i]? = some v) Fin vs.toArray.size 0 [] news := by
  have key : ∀ (j i : Nat) (ys : List Value), i + j = vs.toArray.size → StrsAre ys ((zs.take i).map g) → LCg.CompRest prog w A h₀ L m env elt x scope cl s S (fun i v => vs.toArray[i]? = some v) Fin j i ys news := by
    intro j
    induction j with
    | zero =>
      intro i ys hj hy
      have e : i = zs.length := by rw [← strs_len hi]; simpa using hj
      subst e
      rw [List.take_length] at hy
      exact LCg.CompRest.zero (fin ys hy)
    | succ j ih =>
      intro i ys hj hy
      refine LCg.CompRest.succ ?_
      intro v I oI C oC D m₂ h tk E' hv hC hx F N off ne
      obtain ⟨c, t, hk, hv'⟩ := strs_at hi i v (by simpa using hv)
      rw [hv'] at hx
      refine wpAny_mono (turn c t I oI C oC D m₂ ys h tk E' (List.mem_of_getElem? hk) hC hx F N off ne) (fun y s₂ hq => ?_) fun _ _ e => e
      obtain ⟨h', tk', nw, e, F', N', off', hS, hn, t', hy'⟩ := hq
      rw [hn] at N' off' hS
      refine ⟨h', tk', news, e, F', N', off', hS, ?_⟩
      rw [hy']
      refine ih (i + 1) _ (by omega) ?_
      rw [List.take_add_one, hk, List.map_append]
      exact strs_snoc hy
  exact key _ 0 [] (by omega) (by simp only [List.take_zero, List.map_nil]; exact .nil)
end
end

section
open PySem PySem.W PyProof.Rows
set_option Elab.async false
set_option maxRecDepth 100000
set_option maxHeartbeats 0
open PySem.Calls
/-- ConN, with the law's heap -/
noncomputable def ConL (w : World) (p : Program) (loose : List Str) (mean : ExcName → Option Value) (mg mb : Str → Option Value) (dep : Nat) (f : Addr) (news : List (Addr × Obj)) (vs : List Value) (Ret : Heap → Addr → (Str → Option Value) → Shared → (Value → Shared → Prop) → Prop) : Prop :=
  ∀ (dp un : Nat) (gd : Option (List Code)) (cn : Str) (names : List (Str × NameKind)) (g1 g2 : Bool) (more : List (Str × Const)) (a : Addr) (ccd : Value) (cl : List (Str × Addr)) (outer : List Env) (A₀ : Around) (base h₀ : Heap) (L : Addr) (m : Str → Option Value) (s : Shared) (Q E : Value → Shared → Prop),
    Below A₀ base outer h₀ → Fr h₀ L s.heap m → LawHeap w h₀ → (K w.params).In h₀ → News h₀ L s.heap news → Top p loose mean mg mb h₀ → dp + dep + 1 < recursionLimit → un + 8 * (dep + 1) < cLine → Ret h₀ L m s Q →
      wpAny (model PySem.Challenge.rw_sn0081_01.row.prog w) (ktrTop dp un gd cn ⟨.function, names, g1, g2, more⟩ L a ccd cl outer) (call (.ref f) vs) Q E s
noncomputable def keepSign (c : Nat) : Bool := !decide ((c : Int) ∈ ns1) && !decide ((c : Int) ∈ ns2)
noncomputable def foldSign (z : Str) : Str := if z = sign 46 then sign 46 else ("co." : Str)
noncomputable def readLine (l : Str) : Str := Txt.join ("" : Str) (((l.cps.toList.filter keepSign).map sign).map foldSign)
theorem strs_take : ∀ (l : List (Str × Tok)) (k : Nat), StrsAre ((strValues l).take k) ((l.map (·.1)).take k)
  | [], k => by simp [strValues]; exact .nil
  | p :: l, 0 => .nil
  | p :: l, k + 1 => .cons p.1 p.2 (strs_take l k)
theorem split_size {l : List (Str × Tok)} {zs ls : List Str} {z : Str} (e : l.map (·.1) = zs) (e' : zs = ls ++ [z]) (h : ls.length ≤ 1000) : (strValues l).toArray.size ≤ sizeLine := by
  have h3 : l.length = ls.length + 1 := by rw [← List.length_map (f := (·.1)), e, e']; simp
  have h4 : (strValues l).toArray.size = l.length := by simp [strValues]
  have h5 : (1001 : Nat) ≤ sizeLine := by decide
  omega
theorem strs_dropLast {l : List (Str × Tok)} {zs ls : List Str} {z : Str} (e : l.map (·.1) = zs) (e' : zs = ls ++ [z]) : StrsAre (kms_pick (strValues l).toArray.toList none (some (-1))) ls := by
  have h2 := strs_take l (l.length - 1)
  have h3 : l.length = ls.length + 1 := by rw [← List.length_map (f := (·.1)), e, e']; simp
  have h4 : (strValues l).length = l.length := by simp [strValues]
  rw [e, e', h3] at h2
  unfold kms_pick kms_lo kms_hi
  have h5 : (-(-1 : Int)).toNat = 1 := by decide
  simp only [show ((-1 : Int) < 0) from by decide, if_true, h5, List.drop_zero, Nat.sub_zero, h4, h3]
  simpa using h2
section
variable {w : World} {p : Program} {loose : List Str} {mean : ExcName → Option Value} {mg mb : Str → Option Value} {all : List (Addr × Obj)} {c : Nat} {t : Tok}
    {dp un : Nat} {gd : Option (List Code)} {cn : Str} {names : List (Str × NameKind)} {g1 g2 : Bool} {more : List (Str × Const)} {a : Addr} {ccd : Value} {cl : List (Str × Addr)} {outer : List Env} {A₀ : Around} {base h₀ : Heap} {L : Addr} {m : Str → Option Value} {s : Shared} {Q E : Value → Shared → Prop}
theorem use133 (B : Below A₀ base outer h₀) (F : Fr h₀ L s.heap m) (H : LawHeap w h₀) (N : News h₀ L s.heap all) (T : Top p loose mean mg mb h₀) (hd : dp + 1 < recursionLimit) (hu : un + 8 < cLine)
    (hret : ∀ (t : Tok) (h' : Heap) (tk' : Nat), Fr h₀ L h' m → News h₀ L h' all → Q (.bool (decide ((c : Int) ∈ ns1))) { s with heap := h', toks := tk' }) :
    wpAny (model PySem.Challenge.rw_sn0081_01.row.prog w) (ktrTop dp un gd cn ⟨.function, names, g1, g2, more⟩ L a ccd cl outer) (call (.ref 133) [.str (sign c) t]) Q E s :=
  c_b1 c t dp un gd cn names g1 g2 more a ccd cl outer A₀ base h₀ L m s Q E B F H H.kin N T hd hu hret
theorem use197 (B : Below A₀ base outer h₀) (F : Fr h₀ L s.heap m) (H : LawHeap w h₀) (N : News h₀ L s.heap all) (T : Top p loose mean mg mb h₀) (hd : dp + 1 < recursionLimit) (hu : un + 8 < cLine)
    (hret : ∀ (t : Tok) (h' : Heap) (tk' : Nat), Fr h₀ L h' m → News h₀ L h' all → Q (.bool (decide ((c : Int) ∈ ns2))) { s with heap := h', toks := tk' }) :
    wpAny (model PySem.Challenge.rw_sn0081_01.row.prog w) (ktrTop dp un gd cn ⟨.function, names, g1, g2, more⟩ L a ccd cl outer) (call (.ref 197) [.str (sign c) t]) Q E s :=
  c_c9 c t dp un gd cn names g1 g2 more a ccd cl outer A₀ base h₀ L m s Q E B F H H.kin N T hd hu hret
theorem use179 {z : Str} (B : Below A₀ base outer h₀) (F : Fr h₀ L s.heap m) (H : LawHeap w h₀) (N : News h₀ L s.heap all) (T : Top p loose mean mg mb h₀) (hz : z = sign 46 ∨ z = sign 13255) (hd : dp + 1 < recursionLimit) (hu : un + 8 < cLine)
    (hret : ∀ (t : Tok) (h' : Heap) (tk' : Nat), Fr h₀ L h' m → News h₀ L h' all → Q (.str (foldSign z) t) { s with heap := h', toks := tk' }) :
    wpAny (model PySem.Challenge.rw_sn0081_01.row.prog w) (ktrTop dp un gd cn ⟨.function, names, g1, g2, more⟩ L a ccd cl outer) (call (.ref 179) [.str z t]) Q E s := by
  rcases hz with rfl | rfl
  · exact c_b3dot t dp un gd cn names g1 g2 more a ccd cl outer A₀ base h₀ L m s Q E B F H H.kin N T hd hu hret
  · exact c_b3co t dp un gd cn names g1 g2 more a ccd cl outer A₀ base h₀ L m s Q E B F H H.kin N T hd hu hret
end
theorem pushS {h₀ h : Heap} {L D : Addr} {a1 a2 y : Addr × Obj} {v1 : List Value} {a : Value} {e : Nat} {r : List (Addr × Obj)} (N : News h₀ L h (a1 :: a2 :: y :: (D, listOf (v1.toArray.push a) e) :: r)) :
    News h₀ L h (y :: (D, listOf (v1 ++ [a]).toArray e) :: r) := by
  rw [show v1.toArray.push a = (v1 ++ [a]).toArray by simp] at N
  exact cb_drop N fun p hp => .tail _ (.tail _ hp)
theorem parts3_of {h₀ h : Heap} {L D0 D1 D2 : Addr} {o0 o1 o2 : Obj} {r : List (Addr × Obj)} (_N : News h₀ L h ((D2, o2) :: (D1, o1) :: (D0, o0) :: r)) : ∃ D2' D1' D0', D2' = D2 ∧ D1' = D1 ∧ D0' = D0 := ⟨D2, D1, D0, rfl, rfl, rfl⟩
theorem strs_cons {v : Value} {r : List Value} {ns : List Str} (h : StrsAre (v :: r) ns) : ∃ x t rs, v = .str x t ∧ ns = x :: rs ∧ StrsAre r rs := by
  cases h with
  | cons x t h => exact ⟨x, t, _, rfl, rfl, h⟩
theorem vals_of {v : List Value} {ls : List Str} (_h : StrsAre v ls) : ∃ v', v' = v := ⟨v, rfl⟩
theorem strs_nil {ns : List Str} (h : StrsAre [] ns) : ns = [] := by cases h; rfl
theorem fold_sum : ∀ (l : List Str), ((l.map foldSign).map (·.length)).sum ≤ 3 * l.length
  | [] => Nat.le_refl _
  | z :: l => by
    have h1 := fold_sum l
    have h2 : (foldSign z).length ≤ 3 := by
      unfold foldSign
      split <;> decide
    simp only [List.map_cons, List.sum_cons, List.length_cons]
    omega
theorem fold_fits {l : List Str} (h : l.length ≤ 10000) : ((l.map foldSign).map (·.length)).sum + (l.map foldSign).length * (Str.ofString "").length ≤ 16777216 := by
  have h1 := fold_sum l
  have h2 : (Str.ofString "").length = 0 := by decide
  rw [h2]
  omega
inductive ReadInv (D0 D2 : Addr) (v9 : List Value) (rest : List (Addr × Obj)) (ls : List Str) (r : List Value) (m : Str → Option Value) (nx : List (Addr × Obj)) : Prop
  | mk (rs fs : List Str) (v1 : List Value) (e1 : Nat)
    (_ : (∀ q ∈ (D0, listOf v1.toArray e1) :: (D2, listOf v9.toArray 0) :: rest, q ∈ nx))
    (_ : m (Str.ofString "lines") = some (.ref D0))
    (_ : StrsAre r rs)
    (_ : StrsAre v1 fs)
    (_ : fs.length + rs.length ≤ 1000)
    (_ : (∀ l ∈ rs, l.cps.size ≤ 10000 ∧ ∀ c ∈ l.cps.toList, keepSign c = true → c = 46 ∨ c = 13255))
    (_ : fs ++ rs.map readLine = ls.map readLine) : ReadInv D0 D2 v9 rest ls r m nx
local macro_rules | `(tactic| walk_at "call builtin:str.join") => `(tactic| (k_here; refine stuck_of ?_))
local macro_rules | `(tactic| walk_at "CompEnd") => `(tactic| (k_here; refine stop_of ?_))
local macro_rules | `(tactic| walk_at "call ref") => `(tactic| (k_here; refine stuck_of ?_))
local macro_rules | `(tactic| walk_at "UnrEnd") => `(tactic| (k_here; refine stop_of ?_))
local macro_rules | `(tactic| walk_at "CompSrcS") => `(tactic| (k_here; refine stop_of ?_))
local macro_rules | `(tactic| walk_at "CompSrc") => `(tactic| (k_here; refine stop_of ?_))
local macro_rules | `(tactic| walk_at "call builtin:str.split") => `(tactic| (k_here; refine stuck_of ?_))
local macro_rules | `(tactic| walk_at "subscriptTail Name Slice ref ref") => `(tactic| (k_here; (with_reducible show wpAny _ _ (subscriptTail _ (PySem.Expr.Slice _ _ none _) (Value.ref _) (Value.ref _)) _ _ _); refine stuck_of ?_))
local macro_rules | `(tactic| walk_at "exec For") => `(tactic| (k_here; (rename Fr _ _ _ _ => lF'); k_dflt (with_unfolding_all refine For_invVF lF' (by rfl) (by rfl) ?_)))
local macro_rules | `(tactic| walk_at "pyIter ref") => `(tactic| (k_here; ((with_reducible show wpAny _ _ (pyIter (Value.ref _)) (fun it s₂ => LoopAtV _ _ _ _ _ _ _ _ _ it s₂) _ _)); l_hasStore; with_unfolding_all refine iter_listUnr (by rfl) (by k_asm) (by k_asm) (by k_mem) (by rfl) (by rfl) ?_; intro i' l1; (try k_lt l1); refine stop_of ?_))
local macro_rules | `(tactic| walk_at "exec Assign cons ListComp") => `(tactic| (k_here; refine stuck_of ?_))
local macro_rules | `(tactic| walk_at "eval ListComp") => `(tactic| (k_here; refine stuck_of ?_))
theorem c_read {w : World} {p : Program} {loose : List Str} {mean : ExcName → Option Value} {mg mb : Str → Option Value} {rest : List (Addr × Obj)} (x : Str) (t : Tok) (ls : List Str) (lz : Str) (hx : x.cps.size ≤ 10000) (hsp : Txt.split x (Str.ofString "\r\n") = ls ++ [lz])
    (hls : ∀ l ∈ ls, l.cps.size ≤ 10000 ∧ ∀ c ∈ l.cps.toList, keepSign c = true → c = 46 ∨ c = 13255) (hlen : ls.length ≤ 1000) :
    ConL w p loose mean mg mb 2 209 rest [.str x t] fun h₀ L m s Q =>
      ∀ (u : Addr) (vs : List Value) (c : Nat) (h' : Heap) (tk' : Nat), StrsAre vs (ls.map readLine) → Fr h₀ L h' m → News h₀ L h' ((u, listOf vs.toArray c) :: rest) → (∀ q ∈ rest, q.1 < u) → Q (.ref u) { s with heap := h', toks := tk' } := by
  unfold ConL
  k_fill
  intro dp un gd cn names g1 g2 more a ccd cl outer A₀ base h₀ L m s Q E a1 a2 HL a3 a4 a5 a6 a7 hret
  refine wpAny_call ?_
  k_dflt k_enter
  rename Fr h₀ L _ m => FG
  have HLg := HL.keeps _ _ _ FG.keep
  k_steps
  repeat' ((with_reducible refine of_stuck ?_); (first
    | ((with_reducible show wpAny _ _ (eval (PySem.Expr.ListComp _ _ _ _) _) _ _ _); k_dflt (refine LCg.ListComp_U (F₀ := by k_asm) (by with_unfolding_all rfl) (by decide) (by rfl) (by decide) (by rfl) ?_))
    | ((with_reducible show wpAny _ _ (exec (PySem.Stmt.Assign _ _ _) _) _ _ _); k_dflt (refine Assign_ListComp_S (by k_asm) (by rfl) (by with_unfolding_all rfl) (by with_unfolding_all rfl) (by decide) (by rfl) (by decide) (by rfl) (by rfl) (by rfl) ?_))
    | ((with_reducible show wpAny _ _ (subscriptTail _ (PySem.Expr.Slice _ _ none _) (Value.ref _) (Value.ref _)) _ _ _); k_dflt (refine kms_slice_lit (by k_asm) (by k_asm) (by kmk_list) (by kmk_part) (by kmk_part) rfl ?_ (by with_unfolding_all rfl) (by kmk_pure) (by exact split_size (by assumption) (by assumption) (by assumption))); intro D' h' F' N' l1; (try k_lt l1); (have hq' := strs_dropLast (by assumption) (by assumption)); generalize kms_pick _ _ _ = v9' at N' hq')
    | ((with_reducible show wpAny _ _ (call (Value.builtin "str.split") _) _ _ _); k_dflt (refine KSpl.split1 (by k_asm) (by k_asm) (by decide) ?_ (by show _ + 2 ≤ sizeLine; exact Nat.le_trans (Nat.add_le_add_right (by assumption) 2) (by decide)); intro D' l' h' k' e' a' F' N' l1; (try k_lt l1)))
    | ((with_reducible show wpAny _ _ (call (Value.ref _) _) _ _ _); k_dflt (first
    | refine use133 (by k_asm) (by k_asm) (by assumption) (by k_asm) (by k_asm) (by k_room) (by k_units) ?_
    | refine use197 (by k_asm) (by k_asm) (by assumption) (by k_asm) (by k_asm) (by k_room) (by k_units) ?_
    | refine use179 (by k_asm) (by k_asm) (by assumption) (by k_asm) (by k_asm) (by assumption) (by k_room) (by k_units) ?_); intro t' h' tk' F' N')
    | ((with_reducible show wpAny _ _ (call (Value.builtin "str.join") _) _ _ _); k_dflt (refine join_list (ys := List.map foldSign _) ⟨_, News.get (by k_asm) (by k_mem), rfl, _, rfl⟩ (by assumption) (fold_fits (by assumption)) ?_); intro t' k')); k_steps)
  unfold Stop
  rename (∀ p ∈ rest, _ < _) => l1r
  rename_i I lI
  rename News _ _ _ _ => N2
  rename StrsAre _ ls => hq
  obtain ⟨D2, D1, D0, hD2, hD1, hD0⟩ := parts3_of N2
  subst hD2
  subst hD1
  subst hD0
  obtain ⟨v9, hv9⟩ := vals_of hq
  subst hv9
  refine listRest_ind (fun r m nx => ReadInv D0 D2 v9 rest ls r m nx) ?h0 ?hs _ _ _ ?st
  case st => exact ⟨ls, [], [], 0, fun q hq => by simp at hq ⊢; rcases hq with h | h | h <;> simp [h], rfl, hq, .nil, by simpa using hlen, hls, rfl⟩
  case h0 =>
    rintro m nx ⟨rs, fs, v1, e1, hnx, hm1, iv, i1, hl1, hok, ev⟩ h9 tk9 F9 N9
    obtain rfl := strs_nil iv
    obtain ⟨u9, hu9⟩ : ∃ u : Str → Option Value, m = fun y => if y = Str.ofString "lines" then some (.ref D0) else u y := ⟨m, shape1 hm1⟩
    clear hm1
    subst hu9
    replace N9 := cb_drop N9 hnx
    rw [← ev] at hret
    rw [List.map_nil, List.append_nil] at hret
    k_steps
    repeat' ((with_reducible refine of_stuck ?_); (first
      | ((with_reducible show wpAny _ _ (eval (PySem.Expr.ListComp _ _ _ _) _) _ _ _); k_dflt (refine LCg.ListComp_U (F₀ := by k_asm) (by with_unfolding_all rfl) (by decide) (by rfl) (by decide) (by rfl) ?_))
      | ((with_reducible show wpAny _ _ (exec (PySem.Stmt.Assign _ _ _) _) _ _ _); k_dflt (refine Assign_ListComp_S (by k_asm) (by rfl) (by with_unfolding_all rfl) (by with_unfolding_all rfl) (by decide) (by rfl) (by decide) (by rfl) (by rfl) (by rfl) ?_))
      | ((with_reducible show wpAny _ _ (subscriptTail _ (PySem.Expr.Slice _ _ none _) (Value.ref _) (Value.ref _)) _ _ _); k_dflt (refine kms_slice_lit (by k_asm) (by k_asm) (by kmk_list) (by kmk_part) (by kmk_part) rfl ?_ (by with_unfolding_all rfl) (by kmk_pure) (by exact split_size (by assumption) (by assumption) (by assumption))); intro D' h' F' N' l1; (try k_lt l1); (have hq' := strs_dropLast (by assumption) (by assumption)); generalize kms_pick _ _ _ = v9' at N' hq')
      | ((with_reducible show wpAny _ _ (call (Value.builtin "str.split") _) _ _ _); k_dflt (refine KSpl.split1 (by k_asm) (by k_asm) (by decide) ?_ (by show _ + 2 ≤ sizeLine; exact Nat.le_trans (Nat.add_le_add_right (by assumption) 2) (by decide)); intro D' l' h' k' e' a' F' N' l1; (try k_lt l1)))
      | ((with_reducible show wpAny _ _ (call (Value.ref _) _) _ _ _); k_dflt (first
      | refine use133 (by k_asm) (by k_asm) (by assumption) (by k_asm) (by k_asm) (by k_room) (by k_units) ?_
      | refine use197 (by k_asm) (by k_asm) (by assumption) (by k_asm) (by k_asm) (by k_room) (by k_units) ?_
      | refine use179 (by k_asm) (by k_asm) (by assumption) (by k_asm) (by k_asm) (by assumption) (by k_room) (by k_units) ?_); intro t' h' tk' F' N')
      | ((with_reducible show wpAny _ _ (call (Value.builtin "str.join") _) _ _ _); k_dflt (refine join_list (ys := List.map foldSign _) ⟨_, News.get (by k_asm) (by k_mem), rfl, _, rfl⟩ (by assumption) (fold_fits (by assumption)) ?_); intro t' k')); k_steps)
    exact hret _ _ _ _ _ i1 (by k_asm) (cb_drop (by k_asm) fun q hq => by rcases List.mem_cons.mp hq with rfl | hq; exact .head _; exact .tail _ (.tail _ hq)) l1r
  case hs =>
    rintro v r m nx ⟨rs, fs, v1, e1, hnx, hm1, iv, i1, hl1, hok, ev⟩ it9 h9 tk9 c9 F9 N9
    obtain ⟨x9, t9, rs9, rfl, rfl, iv9⟩ := strs_cons iv
    obtain ⟨u9, hu9⟩ : ∃ u : Str → Option Value, m = fun y => if y = Str.ofString "lines" then some (.ref D0) else u y := ⟨m, shape1 hm1⟩
    clear hm1 iv
    subst hu9
    replace N9 := drop_under N9 hnx
    obtain ⟨x0, x1⟩ := hok x9 (.head _)
    k_steps
    repeat' ((with_reducible refine of_stuck ?_); (first
      | ((with_reducible show wpAny _ _ (eval (PySem.Expr.ListComp _ _ _ _) _) _ _ _); k_dflt (refine LCg.ListComp_U (F₀ := by k_asm) (by with_unfolding_all rfl) (by decide) (by rfl) (by decide) (by rfl) ?_))
      | ((with_reducible show wpAny _ _ (exec (PySem.Stmt.Assign _ _ _) _) _ _ _); k_dflt (refine Assign_ListComp_S (by k_asm) (by rfl) (by with_unfolding_all rfl) (by with_unfolding_all rfl) (by decide) (by rfl) (by decide) (by rfl) (by rfl) (by rfl) ?_))
      | ((with_reducible show wpAny _ _ (subscriptTail _ (PySem.Expr.Slice _ _ none _) (Value.ref _) (Value.ref _)) _ _ _); k_dflt (refine kms_slice_lit (by k_asm) (by k_asm) (by kmk_list) (by kmk_part) (by kmk_part) rfl ?_ (by with_unfolding_all rfl) (by kmk_pure) (by exact split_size (by assumption) (by assumption) (by assumption))); intro D' h' F' N' l1; (try k_lt l1); (have hq' := strs_dropLast (by assumption) (by assumption)); generalize kms_pick _ _ _ = v9' at N' hq')
      | ((with_reducible show wpAny _ _ (call (Value.builtin "str.split") _) _ _ _); k_dflt (refine KSpl.split1 (by k_asm) (by k_asm) (by decide) ?_ (by show _ + 2 ≤ sizeLine; exact Nat.le_trans (Nat.add_le_add_right (by assumption) 2) (by decide)); intro D' l' h' k' e' a' F' N' l1; (try k_lt l1)))
      | ((with_reducible show wpAny _ _ (call (Value.ref _) _) _ _ _); k_dflt (first
      | refine use133 (by k_asm) (by k_asm) (by assumption) (by k_asm) (by k_asm) (by k_room) (by k_units) ?_
      | refine use197 (by k_asm) (by k_asm) (by assumption) (by k_asm) (by k_asm) (by k_room) (by k_units) ?_
      | refine use179 (by k_asm) (by k_asm) (by assumption) (by k_asm) (by k_asm) (by assumption) (by k_room) (by k_units) ?_); intro t' h' tk' F' N')
      | ((with_reducible show wpAny _ _ (call (Value.builtin "str.join") _) _ _ _); k_dflt (refine join_list (ys := List.map foldSign _) ⟨_, News.get (by k_asm) (by k_mem), rfl, _, rfl⟩ (by assumption) (fold_fits (by assumption)) ?_); intro t' k')); k_steps)
    unfold Stop
    refine CompSrcS.of (by rfl) (by k_asm) (by k_asm) (Nat.le_trans x0 (by decide)) fun g9 => ?_
    refine sign_rest keepSign (fun c t I oI C oC D m₂ ys h tk E' hc hC hx F N off ne => ?_) (fun ys7 hys => ?_)
    · have off0 := off
      simp only [LCg.Off3, and_true] at off
      k_steps
      repeat' ((with_reducible refine of_stuck ?_); (first
        | ((with_reducible show wpAny _ _ (eval (PySem.Expr.ListComp _ _ _ _) _) _ _ _); k_dflt (refine LCg.ListComp_U (F₀ := by k_asm) (by with_unfolding_all rfl) (by decide) (by rfl) (by decide) (by rfl) ?_))
        | ((with_reducible show wpAny _ _ (exec (PySem.Stmt.Assign _ _ _) _) _ _ _); k_dflt (refine Assign_ListComp_S (by k_asm) (by rfl) (by with_unfolding_all rfl) (by with_unfolding_all rfl) (by decide) (by rfl) (by decide) (by rfl) (by rfl) (by rfl) ?_))
        | ((with_reducible show wpAny _ _ (subscriptTail _ (PySem.Expr.Slice _ _ none _) (Value.ref _) (Value.ref _)) _ _ _); k_dflt (refine kms_slice_lit (by k_asm) (by k_asm) (by kmk_list) (by kmk_part) (by kmk_part) rfl ?_ (by with_unfolding_all rfl) (by kmk_pure) (by exact split_size (by assumption) (by assumption) (by assumption))); intro D' h' F' N' l1; (try k_lt l1); (have hq' := strs_dropLast (by assumption) (by assumption)); generalize kms_pick _ _ _ = v9' at N' hq')
        | ((with_reducible show wpAny _ _ (call (Value.builtin "str.split") _) _ _ _); k_dflt (refine KSpl.split1 (by k_asm) (by k_asm) (by decide) ?_ (by show _ + 2 ≤ sizeLine; exact Nat.le_trans (Nat.add_le_add_right (by assumption) 2) (by decide)); intro D' l' h' k' e' a' F' N' l1; (try k_lt l1)))
        | ((with_reducible show wpAny _ _ (call (Value.ref _) _) _ _ _); k_dflt (first
        | refine use133 (by k_asm) (by k_asm) (by assumption) (by k_asm) (by k_asm) (by k_room) (by k_units) ?_
        | refine use197 (by k_asm) (by k_asm) (by assumption) (by k_asm) (by k_asm) (by k_room) (by k_units) ?_
        | refine use179 (by k_asm) (by k_asm) (by assumption) (by k_asm) (by k_asm) (by assumption) (by k_room) (by k_units) ?_); intro t' h' tk' F' N')
        | ((with_reducible show wpAny _ _ (call (Value.builtin "str.join") _) _ _ _); k_dflt (refine join_list (ys := List.map foldSign _) ⟨_, News.get (by k_asm) (by k_mem), rfl, _, rfl⟩ (by assumption) (fold_fits (by assumption)) ?_); intro t' k')); k_steps)
      · unfold Stop
        rename _ ∈ ns1 => q1
        exact LCg.CompEnd.intro (by k_asm) (by k_asm) _ (fun p hp => hp) off0 trivial ⟨rfl, by unfold keepSign; rw [decide_eq_true q1]; rfl⟩
      · unfold Stop
        rename _ ∈ ns2 => q2
        exact LCg.CompEnd.intro (by k_asm) (by k_asm) _ (fun p hp => hp) off0 trivial ⟨rfl, by unfold keepSign; rw [decide_eq_true q2, Bool.not_true, Bool.and_false]⟩
      · unfold Stop
        rename ¬ _ ∈ ns1 => q1
        rename ¬ _ ∈ ns2 => q2
        exact LCg.CompEnd.intro (by k_asm) (by k_asm) _ (fun p hp => hp) off0 trivial ⟨rfl, by unfold keepSign; rw [decide_eq_false q1, decide_eq_false q2]; rfl, _, rfl⟩
    · have hn9 : (((x9.cps.toList.filter keepSign).map sign)).length ≤ 10000 := by
        rw [List.length_map]
        exact Nat.le_trans (List.length_filter_le _ _) (by rw [Array.length_toList]; exact x0)
      k_steps
      repeat' ((with_reducible refine of_stuck ?_); (first
        | ((with_reducible show wpAny _ _ (eval (PySem.Expr.ListComp _ _ _ _) _) _ _ _); k_dflt (refine LCg.ListComp_U (F₀ := by k_asm) (by with_unfolding_all rfl) (by decide) (by rfl) (by decide) (by rfl) ?_))
        | ((with_reducible show wpAny _ _ (exec (PySem.Stmt.Assign _ _ _) _) _ _ _); k_dflt (refine Assign_ListComp_S (by k_asm) (by rfl) (by with_unfolding_all rfl) (by with_unfolding_all rfl) (by decide) (by rfl) (by decide) (by rfl) (by rfl) (by rfl) ?_))
        | ((with_reducible show wpAny _ _ (subscriptTail _ (PySem.Expr.Slice _ _ none _) (Value.ref _) (Value.ref _)) _ _ _); k_dflt (refine kms_slice_lit (by k_asm) (by k_asm) (by kmk_list) (by kmk_part) (by kmk_part) rfl ?_ (by with_unfolding_all rfl) (by kmk_pure) (by exact split_size (by assumption) (by assumption) (by assumption))); intro D' h' F' N' l1; (try k_lt l1); (have hq' := strs_dropLast (by assumption) (by assumption)); generalize kms_pick _ _ _ = v9' at N' hq')
        | ((with_reducible show wpAny _ _ (call (Value.builtin "str.split") _) _ _ _); k_dflt (refine KSpl.split1 (by k_asm) (by k_asm) (by decide) ?_ (by show _ + 2 ≤ sizeLine; exact Nat.le_trans (Nat.add_le_add_right (by assumption) 2) (by decide)); intro D' l' h' k' e' a' F' N' l1; (try k_lt l1)))
        | ((with_reducible show wpAny _ _ (call (Value.ref _) _) _ _ _); k_dflt (first
        | refine use133 (by k_asm) (by k_asm) (by assumption) (by k_asm) (by k_asm) (by k_room) (by k_units) ?_
        | refine use197 (by k_asm) (by k_asm) (by assumption) (by k_asm) (by k_asm) (by k_room) (by k_units) ?_
        | refine use179 (by k_asm) (by k_asm) (by assumption) (by k_asm) (by k_asm) (by assumption) (by k_room) (by k_units) ?_); intro t' h' tk' F' N')
        | ((with_reducible show wpAny _ _ (call (Value.builtin "str.join") _) _ _ _); k_dflt (refine join_list (ys := List.map foldSign _) ⟨_, News.get (by k_asm) (by k_mem), rfl, _, rfl⟩ (by assumption) (fold_fits (by assumption)) ?_); intro t' k')); k_steps)
      unfold Stop
      refine LCg.CompSrc.ledger (by rfl) (by k_asm) (by k_asm) (by k_mem) (by rw [List.size_toArray, strs_len hys]; exact Nat.le_trans hn9 (by decide)) fun g8 => ?_
      refine str_rest foldSign hys (fun z t I oI C oC D m₂ ys h tk E' hz hC hx F N off ne => ?_) (fun ys8 hys8 => ?_)
      · have off0 := off
        simp only [LCg.Off3, and_true] at off
        have hz9 : z = sign 46 ∨ z = sign 13255 := by
          obtain ⟨c, hc, rfl⟩ := List.mem_map.mp hz
          rw [List.mem_filter] at hc
          rcases x1 c hc.1 hc.2 with rfl | rfl
          · exact .inl rfl
          · exact .inr rfl
        k_steps
        repeat' ((with_reducible refine of_stuck ?_); (first
          | ((with_reducible show wpAny _ _ (eval (PySem.Expr.ListComp _ _ _ _) _) _ _ _); k_dflt (refine LCg.ListComp_U (F₀ := by k_asm) (by with_unfolding_all rfl) (by decide) (by rfl) (by decide) (by rfl) ?_))
          | ((with_reducible show wpAny _ _ (exec (PySem.Stmt.Assign _ _ _) _) _ _ _); k_dflt (refine Assign_ListComp_S (by k_asm) (by rfl) (by with_unfolding_all rfl) (by with_unfolding_all rfl) (by decide) (by rfl) (by decide) (by rfl) (by rfl) (by rfl) ?_))
          | ((with_reducible show wpAny _ _ (subscriptTail _ (PySem.Expr.Slice _ _ none _) (Value.ref _) (Value.ref _)) _ _ _); k_dflt (refine kms_slice_lit (by k_asm) (by k_asm) (by kmk_list) (by kmk_part) (by kmk_part) rfl ?_ (by with_unfolding_all rfl) (by kmk_pure) (by exact split_size (by assumption) (by assumption) (by assumption))); intro D' h' F' N' l1; (try k_lt l1); (have hq' := strs_dropLast (by assumption) (by assumption)); generalize kms_pick _ _ _ = v9' at N' hq')
          | ((with_reducible show wpAny _ _ (call (Value.builtin "str.split") _) _ _ _); k_dflt (refine KSpl.split1 (by k_asm) (by k_asm) (by decide) ?_ (by show _ + 2 ≤ sizeLine; exact Nat.le_trans (Nat.add_le_add_right (by assumption) 2) (by decide)); intro D' l' h' k' e' a' F' N' l1; (try k_lt l1)))
          | ((with_reducible show wpAny _ _ (call (Value.ref _) _) _ _ _); k_dflt (first
          | refine use133 (by k_asm) (by k_asm) (by assumption) (by k_asm) (by k_asm) (by k_room) (by k_units) ?_
          | refine use197 (by k_asm) (by k_asm) (by assumption) (by k_asm) (by k_asm) (by k_room) (by k_units) ?_
          | refine use179 (by k_asm) (by k_asm) (by assumption) (by k_asm) (by k_asm) (by assumption) (by k_room) (by k_units) ?_); intro t' h' tk' F' N')
          | ((with_reducible show wpAny _ _ (call (Value.builtin "str.join") _) _ _ _); k_dflt (refine join_list (ys := List.map foldSign _) ⟨_, News.get (by k_asm) (by k_mem), rfl, _, rfl⟩ (by assumption) (fold_fits (by assumption)) ?_); intro t' k')); k_steps)
        unfold Stop
        exact LCg.CompEnd.intro (by k_asm) (by k_asm) _ (fun p hp => hp) off0 (.inr ⟨LCg.lst ys7, by simp, rfl, _, rfl⟩) ⟨rfl, _, rfl⟩
      · k_steps
        repeat' ((with_reducible refine of_stuck ?_); (first
          | ((with_reducible show wpAny _ _ (eval (PySem.Expr.ListComp _ _ _ _) _) _ _ _); k_dflt (refine LCg.ListComp_U (F₀ := by k_asm) (by with_unfolding_all rfl) (by decide) (by rfl) (by decide) (by rfl) ?_))
          | ((with_reducible show wpAny _ _ (exec (PySem.Stmt.Assign _ _ _) _) _ _ _); k_dflt (refine Assign_ListComp_S (by k_asm) (by rfl) (by with_unfolding_all rfl) (by with_unfolding_all rfl) (by decide) (by rfl) (by decide) (by rfl) (by rfl) (by rfl) ?_))
          | ((with_reducible show wpAny _ _ (subscriptTail _ (PySem.Expr.Slice _ _ none _) (Value.ref _) (Value.ref _)) _ _ _); k_dflt (refine kms_slice_lit (by k_asm) (by k_asm) (by kmk_list) (by kmk_part) (by kmk_part) rfl ?_ (by with_unfolding_all rfl) (by kmk_pure) (by exact split_size (by assumption) (by assumption) (by assumption))); intro D' h' F' N' l1; (try k_lt l1); (have hq' := strs_dropLast (by assumption) (by assumption)); generalize kms_pick _ _ _ = v9' at N' hq')
          | ((with_reducible show wpAny _ _ (call (Value.builtin "str.split") _) _ _ _); k_dflt (refine KSpl.split1 (by k_asm) (by k_asm) (by decide) ?_ (by show _ + 2 ≤ sizeLine; exact Nat.le_trans (Nat.add_le_add_right (by assumption) 2) (by decide)); intro D' l' h' k' e' a' F' N' l1; (try k_lt l1)))
          | ((with_reducible show wpAny _ _ (call (Value.ref _) _) _ _ _); k_dflt (first
          | refine use133 (by k_asm) (by k_asm) (by assumption) (by k_asm) (by k_asm) (by k_room) (by k_units) ?_
          | refine use197 (by k_asm) (by k_asm) (by assumption) (by k_asm) (by k_asm) (by k_room) (by k_units) ?_
          | refine use179 (by k_asm) (by k_asm) (by assumption) (by k_asm) (by k_asm) (by assumption) (by k_room) (by k_units) ?_); intro t' h' tk' F' N')
          | ((with_reducible show wpAny _ _ (call (Value.builtin "str.join") _) _ _ _); k_dflt (refine join_list (ys := List.map foldSign _) ⟨_, News.get (by k_asm) (by k_mem), rfl, _, rfl⟩ (by assumption) (fold_fits (by assumption)) ?_); intro t' k')); k_steps)
        unfold Stop
        exact UnrEnd.intro (by k_asm) (pushS (by k_asm)) ((D0, listOf (v1 ++ [Value.str (readLine x9) _]).toArray (e1 + 1)) :: (D2, listOf v9.toArray 0) :: rest) (fun p hp => hp) (allLt_ne (r := (D0, listOf (v1 ++ [Value.str (readLine x9) _]).toArray (e1 + 1)) :: (D2, listOf v9.toArray 0) :: rest) ⟨lI.2.2.1, lI.1, lI.2.2.2⟩)
          ⟨by k_mem, rs9, fs ++ [readLine x9], _, _, fun q hq => hq, rfl, iv9, strs_snoc i1, by simp at hl1 ⊢; omega, fun l hl => hok l (.tail _ hl), by rw [← ev]; simp⟩
end

section
open PySem PySem.W PyProof.Rows
set_option Elab.async false
set_option maxRecDepth 100000
set_option maxHeartbeats 0
/-! the mail's rows as plain functions -/
noncomputable def marksL : List Str := [Str.ofString "\u00ad", Str.ofString "\u200b", ⟨#[917505]⟩, ⟨#[917536]⟩, ⟨#[917631]⟩]
noncomputable def endsL : List Str := [Str.ofString "\n", Str.ofString "\r", Str.ofString "\r\n"]
noncomputable def cntOf (v : Int) : Int := 1 + (v.fdiv 3).fmod 3
noncomputable def markOf (v : Int) : Str := marksL.getD ((v.fdiv 27).fmod 5).toNat Str.empty
noncomputable def endOf (v : Int) : Str := endsL.getD ((v.fdiv 9).fmod 3).toNat Str.empty
noncomputable def dotsOf (n : Int) : Str := Txt.mul (Str.ofString ".") n
noncomputable def lineOf (v : Int) : Str := if v.fmod 3 = 0 then dotsOf (cntOf v) ++ markOf v else if v.fmod 3 = 1 then markOf v ++ dotsOf (cntOf v) else Str.ofString "\u33c7" ++ dotsOf (cntOf v - 1) ++ markOf v
noncomputable def loudOf (v : Int) : Str := if v.fmod 3 = 0 then Str.ofString "." ++ (dotsOf (cntOf v) ++ markOf v) else lineOf v
noncomputable def quietOf (v : Int) : Str := if v.fmod 3 = 0 then dotsOf (cntOf v) else if v.fmod 3 = 1 then dotsOf (cntOf v) else Str.ofString "co" ++ dotsOf (cntOf v)
noncomputable def heardOf (v : Int) : Str := if v.fmod 3 = 0 then dotsOf (cntOf v + 1) else if v.fmod 3 = 1 then dotsOf (cntOf v) else Str.ofString "co" ++ dotsOf (cntOf v)
noncomputable abbrev Mail := Str × Str × Str × List Str × List Str
noncomputable def mailStep (c : Mail) (v : Int) : Mail := (c.1 ++ lineOf v ++ endOf v, c.2.1 ++ lineOf v ++ Str.ofString "\r\n", c.2.2.1 ++ loudOf v ++ Str.ofString "\r\n", c.2.2.2.1 ++ [quietOf v], c.2.2.2.2 ++ [heardOf v])
noncomputable def mailGo (ns : List Int) : Mail := ns.foldl mailStep (Str.ofString "", Str.ofString "", Str.ofString "", [], [])
end

section
open PySem PySem.W PyProof.Rows
set_option Elab.async false
set_option maxRecDepth 100000
set_option maxHeartbeats 0
open PySem.Calls
section
variable {prog : Program} {w : World} {A : Around} {E : Value → Shared → Prop} {s : Shared} {x y : Str} {t u : Tok} {n : Int} {Q : Value → Shared → Prop} {K L : Nat}
theorem add9 (hx : x.length ≤ K) (hy : y.length ≤ L) (hs : K + L ≤ 16777216) (h : ∀ t' k, (x ++ y).length ≤ K + L → Q (.str (x ++ y) t') { s with toks := k }) : wpAny (model prog w) A (binaryOp .Add (.str x t) (.str y u)) Q E s :=
  KXadd.add hx hy hs fun t' k e => h t' k (Nat.le_trans e.2 (Nat.add_le_add hx hy))
theorem mul9 (h0 : 0 ≤ n) (h1 : n ≤ 4) (h : ∀ t' k, (Txt.mul (Str.ofString ".") n).length ≤ 4 → Q (.str (Txt.mul (Str.ofString ".") n) t') { s with toks := k }) : wpAny (model prog w) A (binaryOp .Mult (.str (Str.ofString ".") t) (.int n u)) Q E s :=
  SB.mul (mulOk_of 1 4 (by decide) h1 (by omega) (by decide) (by decide)) fun t' k => h t' k (by
    have e := len_mul (Str.ofString ".") n
    have e1 : (Str.ofString ".").length = 1 := by decide
    rw [e1] at e
    split at e <;> omega)
end
theorem len3m {W a b : Str} {n A B : Nat} (h : W.length + 10 * (n + 1) ≤ 1000) (ha : a.length ≤ A) (hb : b.length ≤ B) (hs : A + B ≤ 10) : (W ++ a ++ b).length + 10 * n ≤ 1000 := by
  rw [Str.length_append, Str.length_append]; omega
theorem len0 {n : Nat} (h : n ≤ 10) : (Str.ofString "").length + 10 * n ≤ 1000 := by
  have : (Str.ofString "").length = 0 := by decide
  omega
theorem len0' {n : Nat} (h : n ≤ 10) : ([] : List Str).length + n ≤ 1000 := by rw [List.length_nil]; omega
theorem getD_len {l : List Str} {k : Nat} (h : ∀ x ∈ l, x.length ≤ k) (i : Nat) : (l.getD i Str.empty).length ≤ k := by
  rw [List.getD_eq_getElem?_getD]
  rcases hi : l[i]? with _ | y
  · exact Nat.zero_le _
  · exact h y (List.mem_of_getElem? hi)
theorem markOf_len (i : Nat) : (marksL.getD i Str.empty).length ≤ 1 := getD_len (by decide) i
theorem endOf_len (i : Nat) : (endsL.getD i Str.empty).length ≤ 2 := getD_len (by decide) i
theorem crlf_len : (Str.ofString "\r\n").length ≤ 2 := by decide
theorem tr6 {h₀ h : Heap} {L : Addr} {a1 a2 a3 a4 a5 : Addr × Obj} {r : List (Addr × Obj)} (N : News h₀ L h (a1 :: a2 :: a3 :: a4 :: a5 :: r)) : News h₀ L h (a1 :: a2 :: a3 :: r) := cb_drop N (by simp +contextual)
theorem ev0 {x : Int} {rs : List Int} {W P S : Str} {fq fh : List Str} {G : Mail} (hc : x.fmod 3 = 0) (ev : (x :: rs).foldl mailStep (W, P, S, fq, fh) = G) :
    rs.foldl mailStep (W ++ (Txt.mul (Str.ofString ".") (1 + (x.fdiv 3).fmod 3) ++ marksL.getD ((x.fdiv 27).fmod 5).toNat Str.empty) ++ endsL.getD ((x.fdiv 9).fmod 3).toNat Str.empty, P ++ (Txt.mul (Str.ofString ".") (1 + (x.fdiv 3).fmod 3) ++ marksL.getD ((x.fdiv 27).fmod 5).toNat Str.empty) ++ Str.ofString "\r\n", S ++ (Str.ofString "." ++ (Txt.mul (Str.ofString ".") (1 + (x.fdiv 3).fmod 3) ++ marksL.getD ((x.fdiv 27).fmod 5).toNat Str.empty)) ++ Str.ofString "\r\n", fq ++ [Txt.mul (Str.ofString ".") (1 + (x.fdiv 3).fmod 3)], fh ++ [Txt.mul (Str.ofString ".") (1 + (x.fdiv 3).fmod 3 + 1)]) = G := by
  have e : mailStep (W, P, S, fq, fh) x = (W ++ (Txt.mul (Str.ofString ".") (1 + (x.fdiv 3).fmod 3) ++ marksL.getD ((x.fdiv 27).fmod 5).toNat Str.empty) ++ endsL.getD ((x.fdiv 9).fmod 3).toNat Str.empty, P ++ (Txt.mul (Str.ofString ".") (1 + (x.fdiv 3).fmod 3) ++ marksL.getD ((x.fdiv 27).fmod 5).toNat Str.empty) ++ Str.ofString "\r\n", S ++ (Str.ofString "." ++ (Txt.mul (Str.ofString ".") (1 + (x.fdiv 3).fmod 3) ++ marksL.getD ((x.fdiv 27).fmod 5).toNat Str.empty)) ++ Str.ofString "\r\n", fq ++ [Txt.mul (Str.ofString ".") (1 + (x.fdiv 3).fmod 3)], fh ++ [Txt.mul (Str.ofString ".") (1 + (x.fdiv 3).fmod 3 + 1)]) := by
    unfold mailStep lineOf loudOf quietOf heardOf
    simp only [hc, if_true]
    rfl
  rw [List.foldl_cons, e] at ev
  exact ev
theorem ev1 {x : Int} {rs : List Int} {W P S : Str} {fq fh : List Str} {G : Mail} (hc : x.fmod 3 = 1) (ev : (x :: rs).foldl mailStep (W, P, S, fq, fh) = G) :
    rs.foldl mailStep (W ++ (marksL.getD ((x.fdiv 27).fmod 5).toNat Str.empty ++ Txt.mul (Str.ofString ".") (1 + (x.fdiv 3).fmod 3)) ++ endsL.getD ((x.fdiv 9).fmod 3).toNat Str.empty, P ++ (marksL.getD ((x.fdiv 27).fmod 5).toNat Str.empty ++ Txt.mul (Str.ofString ".") (1 + (x.fdiv 3).fmod 3)) ++ Str.ofString "\r\n", S ++ (marksL.getD ((x.fdiv 27).fmod 5).toNat Str.empty ++ Txt.mul (Str.ofString ".") (1 + (x.fdiv 3).fmod 3)) ++ Str.ofString "\r\n", fq ++ [Txt.mul (Str.ofString ".") (1 + (x.fdiv 3).fmod 3)], fh ++ [Txt.mul (Str.ofString ".") (1 + (x.fdiv 3).fmod 3)]) = G := by
  have e : mailStep (W, P, S, fq, fh) x = (W ++ (marksL.getD ((x.fdiv 27).fmod 5).toNat Str.empty ++ Txt.mul (Str.ofString ".") (1 + (x.fdiv 3).fmod 3)) ++ endsL.getD ((x.fdiv 9).fmod 3).toNat Str.empty, P ++ (marksL.getD ((x.fdiv 27).fmod 5).toNat Str.empty ++ Txt.mul (Str.ofString ".") (1 + (x.fdiv 3).fmod 3)) ++ Str.ofString "\r\n", S ++ (marksL.getD ((x.fdiv 27).fmod 5).toNat Str.empty ++ Txt.mul (Str.ofString ".") (1 + (x.fdiv 3).fmod 3)) ++ Str.ofString "\r\n", fq ++ [Txt.mul (Str.ofString ".") (1 + (x.fdiv 3).fmod 3)], fh ++ [Txt.mul (Str.ofString ".") (1 + (x.fdiv 3).fmod 3)]) := by
    unfold mailStep lineOf loudOf quietOf heardOf
    simp only [hc, show ¬ ((1 : Int) = 0) from by decide, if_false, if_true, lineOf]
    rfl
  rw [List.foldl_cons, e] at ev
  exact ev
theorem ev2 {x : Int} {rs : List Int} {W P S : Str} {fq fh : List Str} {G : Mail} (hc : ¬ x.fmod 3 = 0) (hc' : ¬ x.fmod 3 = 1) (ev : (x :: rs).foldl mailStep (W, P, S, fq, fh) = G) :
    rs.foldl mailStep (W ++ (Str.ofString "\u33c7" ++ Txt.mul (Str.ofString ".") (1 + (x.fdiv 3).fmod 3 - 1) ++ marksL.getD ((x.fdiv 27).fmod 5).toNat Str.empty) ++ endsL.getD ((x.fdiv 9).fmod 3).toNat Str.empty, P ++ (Str.ofString "\u33c7" ++ Txt.mul (Str.ofString ".") (1 + (x.fdiv 3).fmod 3 - 1) ++ marksL.getD ((x.fdiv 27).fmod 5).toNat Str.empty) ++ Str.ofString "\r\n", S ++ (Str.ofString "\u33c7" ++ Txt.mul (Str.ofString ".") (1 + (x.fdiv 3).fmod 3 - 1) ++ marksL.getD ((x.fdiv 27).fmod 5).toNat Str.empty) ++ Str.ofString "\r\n", fq ++ [Str.ofString "co" ++ Txt.mul (Str.ofString ".") (1 + (x.fdiv 3).fmod 3)], fh ++ [Str.ofString "co" ++ Txt.mul (Str.ofString ".") (1 + (x.fdiv 3).fmod 3)]) = G := by
  have e : mailStep (W, P, S, fq, fh) x = (W ++ (Str.ofString "\u33c7" ++ Txt.mul (Str.ofString ".") (1 + (x.fdiv 3).fmod 3 - 1) ++ marksL.getD ((x.fdiv 27).fmod 5).toNat Str.empty) ++ endsL.getD ((x.fdiv 9).fmod 3).toNat Str.empty, P ++ (Str.ofString "\u33c7" ++ Txt.mul (Str.ofString ".") (1 + (x.fdiv 3).fmod 3 - 1) ++ marksL.getD ((x.fdiv 27).fmod 5).toNat Str.empty) ++ Str.ofString "\r\n", S ++ (Str.ofString "\u33c7" ++ Txt.mul (Str.ofString ".") (1 + (x.fdiv 3).fmod 3 - 1) ++ marksL.getD ((x.fdiv 27).fmod 5).toNat Str.empty) ++ Str.ofString "\r\n", fq ++ [Str.ofString "co" ++ Txt.mul (Str.ofString ".") (1 + (x.fdiv 3).fmod 3)], fh ++ [Str.ofString "co" ++ Txt.mul (Str.ofString ".") (1 + (x.fdiv 3).fmod 3)]) := by
    unfold mailStep lineOf loudOf quietOf heardOf
    simp only [hc, hc', if_false, lineOf]
    rfl
  rw [List.foldl_cons, e] at ev
  exact ev
theorem lenq {fq : List Str} {q : Str} {x : Int} {rs : List Int} (h : fq.length + (x :: rs).length ≤ 1000) : (fq ++ [q]).length + rs.length ≤ 1000 := by
  rw [List.length_cons] at h
  rw [List.length_append, List.length_singleton]
  omega
theorem look_of {h₀ h : Heap} {L : Addr} {a1 a2 a3 a4 a5 a6 a7 a8 b1 b2 b3 b4 b5 b6 b7 : Value} {u : Str → Option Value} (F : Fr h₀ L h (fun y => if y = Str.ofString "sent" then some a1 else if y = Str.ofString "plain" then some a2 else if y = Str.ofString "written" then some a3 else if y = Str.ofString "loud" then some a4 else if y = Str.ofString "line" then some a5 else if y = Str.ofString "mark" then some a6 else if y = Str.ofString "count" then some a7 else if y = Str.ofString "v" then some a8 else if y = Str.ofString "written" then some b1 else if y = Str.ofString "plain" then some b2 else if y = Str.ofString "sent" then some b3 else if y = Str.ofString "marks" then some b4 else if y = Str.ofString "ends" then some b5 else if y = Str.ofString "quiet" then some b6 else if y = Str.ofString "heard" then some b7 else u y)) :
    ∃ m', Fr h₀ L h m' ∧ m' (Str.ofString "written") = some a3 ∧ m' (Str.ofString "plain") = some a2 ∧ m' (Str.ofString "sent") = some a1 ∧ m' (Str.ofString "marks") = some b4 ∧ m' (Str.ofString "ends") = some b5 ∧ m' (Str.ofString "quiet") = some b6 ∧ m' (Str.ofString "heard") = some b7 :=
  ⟨_, F, rfl, rfl, rfl, rfl, rfl, rfl, rfl⟩
theorem tabs_of {h₀ h : Heap} {L Hd Qd En M : Addr} {oh oq : Obj} {e1 e2 e3 m1 m2 m3 m4 m5 : Str} {t1 t2 t3 u1 u2 u3 u4 u5 : Tok} {r : List (Addr × Obj)}
    (_N : News h₀ L h ((Hd, oh) :: (Qd, oq) :: (En, listOf (List.toArray [.str e1 t1, .str e2 t2, .str e3 t3]) 0) :: (M, listOf (List.toArray [.str m1 u1, .str m2 u2, .str m3 u3, .str m4 u4, .str m5 u5]) 0) :: r)) :
    ∃ Hd' Qd' En' M' evs mvs, Hd' = Hd ∧ Qd' = Qd ∧ En' = En ∧ M' = M ∧ evs = [.str e1 t1, .str e2 t2, .str e3 t3] ∧ mvs = [.str m1 u1, .str m2 u2, .str m3 u3, .str m4 u4, .str m5 u5] ∧ StrsAre evs [e1, e2, e3] ∧ StrsAre mvs [m1, m2, m3, m4, m5] :=
  ⟨Hd, Qd, En, M, _, _, rfl, rfl, rfl, rfl, rfl, rfl, .cons _ _ (.cons _ _ (.cons _ _ .nil)), .cons _ _ (.cons _ _ (.cons _ _ (.cons _ _ (.cons _ _ .nil))))⟩
theorem b1 {C : Int} (h : 0 ≤ C) : 0 ≤ 1 + C := by omega
theorem b2 {C : Int} (h : C < 3) : 1 + C ≤ 4 := by omega
theorem b3 {C : Int} (h : 0 ≤ C) : 0 ≤ 1 + C - 1 := by omega
theorem b4 {C : Int} (h : C < 3) : 1 + C - 1 ≤ 4 := by omega
theorem b5 {C : Int} (h : 0 ≤ C) : 0 ≤ 1 + C + 1 := by omega
theorem b6 {C : Int} (h : C < 3) : 1 + C + 1 ≤ 4 := by omega
theorem b7 {C : Int} (h : C < 3) : C < 2 ^ 63 := by omega
theorem b8 {C : Int} (h : C < 5) : C < 2 ^ 63 := by omega
inductive MailInv (Hd Qd En M l : Addr) (evs mvs vs : List Value) (ep : Nat) (rest : List (Addr × Obj)) (ns : List Int) (r : List Value) (m : Str → Option Value) (nx : List (Addr × Obj)) : Prop
  | mk (W P S : Str) (tW tP tS : Tok) (rs : List Int) (fq fh : List Str) (vq vh : List Value) (eq eh : Nat)
    (_ : (∀ q ∈ (Hd, listOf vh.toArray eh) :: (Qd, listOf vq.toArray eq) :: (En, listOf evs.toArray 0) :: (M, listOf mvs.toArray 0) :: (l, listOf vs.toArray ep) :: rest, q ∈ nx))
    (_ : m (Str.ofString "written") = some (.str W tW))
    (_ : m (Str.ofString "plain") = some (.str P tP))
    (_ : m (Str.ofString "sent") = some (.str S tS))
    (_ : m (Str.ofString "marks") = some (.ref M))
    (_ : m (Str.ofString "ends") = some (.ref En))
    (_ : m (Str.ofString "quiet") = some (.ref Qd))
    (_ : m (Str.ofString "heard") = some (.ref Hd))
    (_ : IntsAre r rs)
    (_ : StrsAre vq fq)
    (_ : StrsAre vh fh)
    (_ : W.length + 10 * rs.length ≤ 1000)
    (_ : P.length + 10 * rs.length ≤ 1000)
    (_ : S.length + 10 * rs.length ≤ 1000)
    (_ : fq.length + rs.length ≤ 1000)
    (_ : fh.length + rs.length ≤ 1000)
    (_ : rs.foldl mailStep (W, P, S, fq, fh) = mailGo ns) : MailInv Hd Qd En M l evs mvs vs ep rest ns r m nx
local macro_rules | `(tactic| walk_at "UnrEnd") => `(tactic| (k_here; refine stop_of ?_))
local macro_rules | `(tactic| walk_at "exec For") => `(tactic| (k_here; (rename Fr _ _ _ _ => lF'); k_dflt (with_unfolding_all refine For_invVF lF' (by rfl) (by rfl) ?_)))
local macro_rules | `(tactic| walk_at "pyIter ref") => `(tactic| (k_here; ((with_reducible show wpAny _ _ (pyIter (Value.ref _)) (fun it s₂ => LoopAtV _ _ _ _ _ _ _ _ _ it s₂) _ _)); l_hasStore; with_unfolding_all refine iter_listUnr (by rfl) (by k_asm) (by k_asm) (by k_mem) (by rfl) (by rfl) ?_; intro i' l1; (try k_lt l1); refine stop_of ?_))
local macro_rules | `(tactic| walk_at "binaryOp Add str str") => `(tactic| (k_here; refine stuck_of ?_))
local macro_rules | `(tactic| walk_at "binaryOp Mult str int") => `(tactic| (k_here; refine stuck_of ?_))
local macro_rules | `(tactic| walk_at "subscriptTail") => `(tactic| (k_here; (with_reducible show wpAny _ _ (subscriptTail _ _ (Value.ref _) (Value.int _ _)) _ _ _); refine stuck_of ?_))
theorem c_mail {w : World} {p : Program} {loose : List Str} {mean : ExcName → Option Value} {mg mb : Str → Option Value} {rest : List (Addr × Obj)} (l : Addr) (vs : List Value) (ns : List Int) (ep : Nat) (hv : IntsAre vs ns) (hlen : ns.length ≤ 10) :
    ConN w p loose mean mg mb 2 204 ((l, listOf vs.toArray ep) :: rest) [.ref l] fun h₀ L m s Q =>
      ∀ (u Hd Qd : Addr) (t1 t2 t3 : Tok) (c : Nat) (vq vh : List Value) (eq eh : Nat) (h' : Heap) (tk' : Nat), StrsAre vq (mailGo ns).2.2.2.1 → StrsAre vh (mailGo ns).2.2.2.2 → Fr h₀ L h' m →
        News h₀ L h' ((u, ({ cls := .type "tuple", data := .seq #[.str (mailGo ns).1 t1, .str (mailGo ns).2.1 t2, .str (mailGo ns).2.2.1 t3, .ref Qd, .ref Hd] c } : Obj)) :: (Hd, listOf vh.toArray eh) :: (Qd, listOf vq.toArray eq) :: (l, listOf vs.toArray ep) :: rest) →
        (l < Qd ∧ AllLt Qd rest) → Qd < Hd → Q (.ref u) { s with heap := h', toks := tk' } := by
  unfold ConN
  k_fill
  intro dp un gd cn names g1 g2 more a ccd cl outer A₀ base h₀ L m s Q E a1 a2 a3 a4 a5 a6 a7 hret
  refine wpAny_call ?_
  k_dflt k_enter
  k_steps
  repeat' ((with_reducible refine of_stuck ?_); (first
    | ((with_reducible show wpAny _ _ (subscriptTail _ _ (Value.ref _) (Value.int _ _)) _ _ _); k_dflt (refine KTb.item_list ⟨_, News.get (by k_asm) (by k_mem), rfl, _, rfl⟩ (by assumption) (by assumption) (by assumption) (by first | exact b7 (by assumption) | exact b8 (by assumption)) ?_ (by with_unfolding_all rfl)); intro t' hlt')
    | ((with_reducible show wpAny _ _ (binaryOp .Mult _ _) _ _ _); k_dflt (refine mul9 (by first | exact b1 (by with_reducible assumption) | exact b3 (by with_reducible assumption) | exact b5 (by with_reducible assumption)) (by first | exact b2 (by with_reducible assumption) | exact b4 (by with_reducible assumption) | exact b6 (by with_reducible assumption)) ?_); intro t' k' hL')
    | ((with_reducible show wpAny _ _ (binaryOp .Add _ _) _ _ _); k_dflt (refine add9 (by first | with_reducible assumption | exact Nat.le_refl _) (by first | with_reducible assumption | exact Nat.le_refl _) (by decide +kernel) ?_); intro t' k' hL')); k_steps)
  unfold Stop
  rename_i I lI
  rename News _ _ _ _ => N2
  obtain ⟨Hd, Qd, En, M, evs, mvs, hHd, hQd, hEn, hM, hevs, hmvs, ie, im⟩ := tabs_of N2
  subst hHd
  subst hQd
  subst hEn
  subst hM
  have im : StrsAre mvs marksL := im
  have ie : StrsAre evs endsL := ie
  refine listRest_ind (fun r m nx => MailInv Hd Qd En M l evs mvs vs ep rest ns r m nx) ?h0 ?hs vs _ _ ?st
  case st => exact ⟨Str.ofString "", Str.ofString "", Str.ofString "", _, _, _, ns, [], [], [], [], 0, 0, fun q hq => by rw [hevs, hmvs] at hq; exact hq, rfl, rfl, rfl, rfl, rfl, rfl, rfl, hv, .nil, .nil, len0 hlen, len0 hlen, len0 hlen, len0' hlen, len0' hlen, rfl⟩
  case h0 =>
    rintro m nx ⟨W, P, S, tW, tP, tS, rs, fq, fh, vq, vh, eq, eh, hnx, hm1, hm2, hm3, hm4, hm5, hm6, hm7, iv, iq, ih, hWl, hPl, hSl, hlq, hlh, ev⟩ h9 tk9 F9 N9
    obtain rfl := ints_nil iv
    obtain ⟨u9, hu9⟩ : ∃ u : Str → Option Value, m = over (Str.ofString "written") (.str W tW) (over (Str.ofString "plain") (.str P tP) (over (Str.ofString "sent") (.str S tS) (over (Str.ofString "quiet") (.ref Qd) (over (Str.ofString "heard") (.ref Hd) u)))) :=
      ⟨m, over_of hm1 (over_of hm2 (over_of hm3 (over_of hm6 (over_of hm7 rfl))))⟩
    clear hm1 hm2 hm3 hm4 hm5 hm6 hm7 iv
    subst hu9
    delta over at F9
    (try dsimp only at F9)
    replace N9 := cb_drop N9 hnx
    rw [← ev] at hret

    rename _ ∧ _ ∧ _ ∧ AllLt Qd rest => hQ
    rename _ ∧ _ ∧ _ ∧ _ ∧ AllLt Hd rest => hH
    k_steps
    repeat' ((with_reducible refine of_stuck ?_); (first
      | ((with_reducible show wpAny _ _ (subscriptTail _ _ (Value.ref _) (Value.int _ _)) _ _ _); k_dflt (refine KTb.item_list ⟨_, News.get (by k_asm) (by k_mem), rfl, _, rfl⟩ (by assumption) (by assumption) (by assumption) (by first | exact b7 (by assumption) | exact b8 (by assumption)) ?_ (by with_unfolding_all rfl)); intro t' hlt')
      | ((with_reducible show wpAny _ _ (binaryOp .Mult _ _) _ _ _); k_dflt (refine mul9 (by first | exact b1 (by with_reducible assumption) | exact b3 (by with_reducible assumption) | exact b5 (by with_reducible assumption)) (by first | exact b2 (by with_reducible assumption) | exact b4 (by with_reducible assumption) | exact b6 (by with_reducible assumption)) ?_); intro t' k' hL')
      | ((with_reducible show wpAny _ _ (binaryOp .Add _ _) _ _ _); k_dflt (refine add9 (by first | with_reducible assumption | exact Nat.le_refl _) (by first | with_reducible assumption | exact Nat.le_refl _) (by decide +kernel) ?_); intro t' k' hL')); k_steps)
    exact hret _ Hd Qd tW tP tS _ vq vh eq eh _ _ iq ih (by k_asm) (tr6 (by k_asm)) hQ.2.2 hH.1
  case hs =>
    rintro v r m nx ⟨W, P, S, tW, tP, tS, rs, fq, fh, vq, vh, eq, eh, hnx, hm1, hm2, hm3, hm4, hm5, hm6, hm7, iv, iq, ih, hWl, hPl, hSl, hlq, hlh, ev⟩ it9 h9 tk9 c9 F9 N9
    obtain ⟨x9, t9, rs9, rfl, rfl, iv9⟩ := ints_cons iv
    obtain ⟨u9, hu9⟩ : ∃ u : Str → Option Value, m = over (Str.ofString "written") (.str W tW) (over (Str.ofString "plain") (.str P tP) (over (Str.ofString "sent") (.str S tS) (over (Str.ofString "marks") (.ref M) (over (Str.ofString "ends") (.ref En) (over (Str.ofString "quiet") (.ref Qd) (over (Str.ofString "heard") (.ref Hd) u)))))) :=
      ⟨m, over_of hm1 (over_of hm2 (over_of hm3 (over_of hm4 (over_of hm5 (over_of hm6 (over_of hm7 rfl))))))⟩
    clear hm1 hm2 hm3 hm4 hm5 hm6 hm7 iv
    subst hu9
    delta over at F9
    (try dsimp only at F9)
    replace N9 := drop_under N9 hnx
    have q1 : 0 ≤ (x9.fdiv 3).fmod 3 := Int.fmod_nonneg_of_pos _ (by decide)
    have q2 : (x9.fdiv 3).fmod 3 < 3 := Int.fmod_lt_of_pos _ (by decide)
    have q3 : 0 ≤ (x9.fdiv 9).fmod 3 := Int.fmod_nonneg_of_pos _ (by decide)
    have q4 : (x9.fdiv 9).fmod 3 < ((endsL.length : Nat) : Int) := Int.fmod_lt_of_pos _ (by decide)
    have q5 : 0 ≤ (x9.fdiv 27).fmod 5 := Int.fmod_nonneg_of_pos _ (by decide)
    have q6 : (x9.fdiv 27).fmod 5 < ((marksL.length : Nat) : Int) := Int.fmod_lt_of_pos _ (by decide)
    have q7 : (x9.fdiv 9).fmod 3 < 3 := q4
    have q8 : (x9.fdiv 27).fmod 5 < 5 := q6
    have hpk := And.intro iq ih
    have q9 := markOf_len ((x9.fdiv 27).fmod 5).toNat
    have q10 := endOf_len ((x9.fdiv 9).fmod 3).toNat
    have q11 := crlf_len
    have hW : W.length ≤ 990 := by rw [List.length_cons] at hWl; omega
    have hP : P.length ≤ 990 := by rw [List.length_cons] at hPl; omega
    have hS : S.length ≤ 990 := by rw [List.length_cons] at hSl; omega
    k_steps
    repeat' ((with_reducible refine of_stuck ?_); (first
      | ((with_reducible show wpAny _ _ (subscriptTail _ _ (Value.ref _) (Value.int _ _)) _ _ _); k_dflt (refine KTb.item_list ⟨_, News.get (by k_asm) (by k_mem), rfl, _, rfl⟩ (by assumption) (by assumption) (by assumption) (by first | exact b7 (by assumption) | exact b8 (by assumption)) ?_ (by with_unfolding_all rfl)); intro t' hlt')
      | ((with_reducible show wpAny _ _ (binaryOp .Mult _ _) _ _ _); k_dflt (refine mul9 (by first | exact b1 (by with_reducible assumption) | exact b3 (by with_reducible assumption) | exact b5 (by with_reducible assumption)) (by first | exact b2 (by with_reducible assumption) | exact b4 (by with_reducible assumption) | exact b6 (by with_reducible assumption)) ?_); intro t' k' hL')
      | ((with_reducible show wpAny _ _ (binaryOp .Add _ _) _ _ _); k_dflt (refine add9 (by first | with_reducible assumption | exact Nat.le_refl _) (by first | with_reducible assumption | exact Nat.le_refl _) (by decide +kernel) ?_); intro t' k' hL')); k_steps)
    · unfold Stop
      rename x9.fmod 3 = 0 => hc
      rename Fr _ _ _ _ => FF
      obtain ⟨m7, F7, w1, w2, w3, w4, w5, w6, w7⟩ := look_of FF
      exact UnrEnd.intro F7 (push2 (by k_asm)) _ (fun p hp => hp) (by exact allLt_ne lI)
        ⟨by k_mem, _, _, _, _, _, _, rs9, _, _, _, _, _, _, fun q hq => hq, w1, w2, w3, w4, w5, w6, w7, iv9, strs_snoc hpk.1, strs_snoc hpk.2, len3m hWl (by with_reducible assumption) (by with_reducible assumption) (by decide), len3m hPl (by with_reducible assumption) (by with_reducible assumption) (by decide), len3m hSl (by with_reducible assumption) (by with_reducible assumption) (by decide), lenq hlq, lenq hlh, ev0 hc ev⟩
    · unfold Stop
      rename x9.fmod 3 = 1 => hc'
      rename Fr _ _ _ _ => FF
      obtain ⟨m7, F7, w1, w2, w3, w4, w5, w6, w7⟩ := look_of FF
      exact UnrEnd.intro F7 (push2 (by k_asm)) _ (fun p hp => hp) (by exact allLt_ne lI)
        ⟨by k_mem, _, _, _, _, _, _, rs9, _, _, _, _, _, _, fun q hq => hq, w1, w2, w3, w4, w5, w6, w7, iv9, strs_snoc hpk.1, strs_snoc hpk.2, len3m hWl (by with_reducible assumption) (by with_reducible assumption) (by decide), len3m hPl (by with_reducible assumption) (by with_reducible assumption) (by decide), len3m hSl (by with_reducible assumption) (by with_reducible assumption) (by decide), lenq hlq, lenq hlh, ev1 hc' ev⟩
    · unfold Stop
      rename ¬ x9.fmod 3 = 0 => hc
      rename ¬ x9.fmod 3 = 1 => hc'
      rename Fr _ _ _ _ => FF
      obtain ⟨m7, F7, w1, w2, w3, w4, w5, w6, w7⟩ := look_of FF
      exact UnrEnd.intro F7 (push2 (by k_asm)) _ (fun p hp => hp) (by exact allLt_ne lI)
        ⟨by k_mem, _, _, _, _, _, _, rs9, _, _, _, _, _, _, fun q hq => hq, w1, w2, w3, w4, w5, w6, w7, iv9, strs_snoc hpk.1, strs_snoc hpk.2, len3m hWl (by with_reducible assumption) (by with_reducible assumption) (by decide), len3m hPl (by with_reducible assumption) (by with_reducible assumption) (by decide), len3m hSl (by with_reducible assumption) (by with_reducible assumption) (by decide), lenq hlq, lenq hlh, ev2 hc hc' ev⟩
end

section
open PySem PySem.W PyProof.Rows
set_option Elab.async false
set_option maxRecDepth 100000
set_option maxHeartbeats 0
/-! the plain law of the texts: what the two substitutions make -/
theorem glue_list : ∀ (l : List Str) (acc : Array Nat), (l.foldl (fun acc p => acc ++ (#[] : Array Nat) ++ p.cps) acc).toList = acc.toList ++ (l.map (·.cps.toList)).flatten
  | [], acc => by simp
  | p :: l, acc => by
    rw [List.foldl_cons, glue_list l]
    simp
theorem join_list0 {sep : Str} (hs : sep.cps = #[]) (ys : List Str) : (Txt.join sep ys).cps.toList = (ys.map (·.cps.toList)).flatten := by
  unfold Txt.join
  cases ys with
  | nil => rfl
  | cons y ys =>
    show ((ys.foldl (fun acc p => acc ++ sep.cps ++ p.cps) y.cps)).toList = _
    rw [hs, glue_list]
    rfl
theorem subText_list (x : Array Nat) (ys : List Str) : (subText x ys).cps.toList = (ys.map (·.cps.toList)).flatten := by
  have e : (x.extract 0 0) = #[] := by apply Array.eq_empty_of_size_eq_zero; rw [Array.size_extract]; omega
  unfold subText
  split
  · rename_i h
    have : ys = [] := by simpa using h
    subst this
    show (x.extract 0 0).toList = _
    rw [e]; rfl
  · exact join_list0 e ys
/-- the text from d to e, and the rest -/
theorem drop_cut (x : Array Nat) (d e : Nat) (h : d ≤ e) (he : e ≤ x.size) : x.toList.drop d = (x.extract d e).toList ++ x.toList.drop e := by
  rw [Array.toList_extract, List.extract_eq_take_drop]
  have h1 : x.toList.drop e = (x.toList.drop d).drop (e - d) := by rw [List.drop_drop]; congr 1; omega
  rw [h1, List.take_append_drop]
theorem drop_one (x : Array Nat) (q : Nat) (h : q < x.size) : x.toList.drop q = x.getD q 0 :: x.toList.drop (q + 1) := by
  have h' : q < x.toList.length := by simpa using h
  rw [List.drop_eq_getElem_cons h']
  congr 1
  simp [h]
theorem mem_extract {x : Array Nat} {d e c : Nat} (he : e ≤ x.size) (h : c ∈ (x.extract d e).toList) : ∃ i, d ≤ i ∧ i < e ∧ x.getD i 0 = c := by
  rw [Array.mem_toList_iff, Array.mem_iff_getElem] at h
  obtain ⟨j, hj, hc⟩ := h
  rw [Array.size_extract] at hj
  refine ⟨d + j, by omega, by omega, ?_⟩
  rw [Array.getElem_extract] at hc
  have : d + j < x.size := by omega
  simp [this, hc]
noncomputable def crlfL : List Nat → List Nat
  | [] => []
  | [c] => if isEol c then [13, 10] else [c]
  | c :: c' :: r => if c == 13 && c' == 10 then 13 :: 10 :: crlfL r else if isEol c then 13 :: 10 :: crlfL (c' :: r) else c :: crlfL (c' :: r)
theorem crlfL_plain (c : Nat) (r : List Nat) (h : isEol c = false) : crlfL (c :: r) = c :: crlfL r := by
  have h13 : (c == 13) = false := by unfold isEol at h; simp only [Bool.or_eq_false_iff] at h; exact h.2
  cases r with
  | nil => unfold crlfL; rw [h]; rfl
  | cons c' r => rw [crlfL, h13, h]; rfl
theorem crlfL_skip : ∀ (l r : List Nat), (∀ c ∈ l, isEol c = false) → crlfL (l ++ r) = l ++ crlfL r
  | [], _, _ => rfl
  | c :: l, r, h => by
    rw [List.cons_append, crlfL_plain c _ (h c (.head _)), crlfL_skip l r fun c hc => h c (.tail _ hc)]
    rfl
theorem crlfL_eol (x : Array Nat) (q : Nat) (hq : q < x.size) (h : isEol (x.getD q 0) = true) : crlfL (x.toList.drop q) = 13 :: 10 :: crlfL (x.toList.drop (q + eolLen x q)) := by
  rw [drop_one x q hq]
  by_cases h2 : q + 1 < x.size
  · rw [drop_one x (q + 1) h2, crlfL]
    by_cases hb : (x.getD q 0 == 13 && x.getD (q + 1) 0 == 10) = true
    · have e : eolLen x q = 2 := by
        unfold eolLen
        rw [decide_eq_true h2, Bool.true_and, if_pos hb]
      rw [if_pos hb, e]
    · have e : eolLen x q = 1 := by
        unfold eolLen
        rw [decide_eq_true h2, Bool.true_and, if_neg hb]
      rw [if_neg hb, if_pos h, e, drop_one x (q + 1) h2]
  · have e : eolLen x q = 1 := by
      unfold eolLen
      rw [decide_eq_false h2, Bool.false_and, Bool.and_false]; rfl
    have e2 : x.toList.drop (q + 1) = [] := List.drop_eq_nil_of_le (by simp; omega)
    rw [e, e2]
    show (if isEol (x.getD q 0) = true then [13, 10] else [x.getD q 0]) = _
    rw [if_pos h]
    rfl
theorem eolFind_spec (x : Array Nat) : ∀ (f p : Nat), x.size ≤ p + f → match eolFind x f p with
    | some q => p ≤ q ∧ ∀ i, p ≤ i → i < q → isEol (x.getD i 0) = false
    | none => ∀ i, p ≤ i → i < x.size → isEol (x.getD i 0) = false
  | 0, p, h => fun i h1 h2 => by omega
  | f + 1, p, h => by
    unfold eolFind
    by_cases hp : p ≥ x.size
    · rw [if_pos hp]
      exact fun i h1 h2 => by omega
    · rw [if_neg hp]
      by_cases hx : isEol (x.getD p 0) = true
      · rw [if_pos hx]
        exact ⟨Nat.le_refl _, fun i h1 h2 => by omega⟩
      · rw [if_neg hx]
        have ih := eolFind_spec x f (p + 1) (by omega)
        rw [Bool.not_eq_true] at hx
        rcases hf : eolFind x f (p + 1) with _ | q
        · rw [hf] at ih
          exact fun i h1 h2 => (Nat.eq_or_lt_of_le h1).elim (fun e => e ▸ hx) fun h3 => ih i h3 h2
        · rw [hf] at ih
          exact ⟨by omega, fun i h1 h2 => (Nat.eq_or_lt_of_le h1).elim (fun e => e ▸ hx) fun h3 => ih.2 i h3 h2⟩
theorem pieces_cons (y : Str) (l : List Str) : ((y :: l).map (·.cps.toList)).flatten = y.cps.toList ++ (l.map (·.cps.toList)).flatten := rfl
theorem pieces_first (x : Array Nat) (d b : Nat) (h : d ≤ b) (l : List Str) : (((if d < b then [(⟨x.extract d b⟩ : Str)] else []) ++ l).map (·.cps.toList)).flatten = (x.extract d b).toList ++ (l.map (·.cps.toList)).flatten := by
  by_cases hb : d < b
  · rw [if_pos hb]; rfl
  · have : d = b := by omega
    subst this
    have e : (x.extract d d) = #[] := by apply Array.eq_empty_of_size_eq_zero; rw [Array.size_extract]; omega
    rw [if_neg hb, e]; rfl
theorem subGo_crlf (x : Array Nat) : ∀ (f d : Nat), d ≤ x.size → x.size + 1 - d ≤ f → ((subGo (eolF x) x ⟨#[13, 10]⟩ f d).map (·.cps.toList)).flatten = crlfL (x.toList.drop d)
  | 0, d, h1, h2 => by omega
  | f + 1, d, h1, h2 => by
    have sp := eolFind_spec x (x.size + 1 - d) d (by omega)
    unfold subGo
    rcases hF : eolFind x (x.size + 1 - d) d with _ | q
    · have e : eolF x d = none := by unfold eolF; rw [hF]; rfl
      rw [hF] at sp
      rw [e]
      have hn : ∀ c ∈ (x.extract d x.size).toList, isEol c = false := fun c hc => by
        obtain ⟨i, i1, i2, rfl⟩ := mem_extract (Nat.le_refl _) hc
        exact sp i i1 i2
      have hd := drop_cut x d x.size h1 (Nat.le_refl _)
      have hz : x.toList.drop x.size = [] := List.drop_eq_nil_of_le (by simp)
      have := pieces_first x d x.size h1 []
      rw [List.append_nil] at this
      dsimp only
      rw [this, hd, crlfL_skip _ _ hn, hz]
      rfl
    · have e : eolF x d = some (q, q + eolLen x q) := by unfold eolF; rw [hF]; rfl
      rw [hF] at sp
      obtain ⟨hq, hx⟩ := eolFind_some x _ _ _ hF
      have hle := (finds_eol x).le d q _ e
      rw [e]
      dsimp only
      have hn : ∀ c ∈ (x.extract d q).toList, isEol c = false := fun c hc => by
        obtain ⟨i, i1, i2, rfl⟩ := mem_extract (by omega) hc
        exact sp.2 i i1 i2
      rw [pieces_first x d q sp.1, pieces_cons, subGo_crlf x f (q + eolLen x q) hle.2.2 (by omega), drop_cut x d q sp.1 (by omega), crlfL_skip _ _ hn, crlfL_eol x q hq hx]
      rfl
theorem crlf_list (x : Array Nat) : (crlf x).cps.toList = crlfL x.toList := by
  unfold crlf
  rw [subText_list, subGo_crlf x (x.size + 1) 0 (Nat.zero_le _) (by omega)]
  rfl
noncomputable def dotsL : Bool → List Nat → List Nat
  | _, [] => []
  | b, c :: r => if b && c == 46 then 46 :: 46 :: dotsL false r else c :: dotsL (c == 10) r
theorem dotAt_next (x : Array Nat) (i : Nat) : dotAt x (i + 1) = (x.getD i 0 == 10) := by
  unfold dotAt
  have : (i + 1 == 0) = false := by simp
  rw [this, Bool.false_or, Nat.add_sub_cancel]
theorem dotsL_run (x : Array Nat) : ∀ (n d : Nat), d + n ≤ x.size → (∀ i, d ≤ i → i < d + n → (dotAt x i && x.getD i 0 == 46) = false) → dotsL (dotAt x d) (x.toList.drop d) = (x.extract d (d + n)).toList ++ dotsL (dotAt x (d + n)) (x.toList.drop (d + n))
  | 0, d, _, _ => by
    have e : (x.extract d (d + 0)) = #[] := by apply Array.eq_empty_of_size_eq_zero; rw [Array.size_extract]; omega
    rw [e]; rfl
  | n + 1, d, h1, h2 => by
    have ih := dotsL_run x n (d + 1) (by omega) fun i a b => h2 i (by omega) (by omega)
    have h3 := h2 d (Nat.le_refl _) (by omega)
    have e1 : d + (n + 1) = d + 1 + n := by omega
    have e2 : (x.extract d (d + 1 + n)).toList = x.getD d 0 :: (x.extract (d + 1) (d + 1 + n)).toList := by
      have a := drop_cut x d (d + 1 + n) (by omega) (by omega)
      have b := drop_cut x (d + 1) (d + 1 + n) (by omega) (by omega)
      rw [drop_one x d (by omega), b] at a
      exact (List.append_cancel_right (as := (x.extract d (d + 1 + n)).toList) (by rw [← a]; rfl))
    rw [drop_one x d (by omega), dotsL, h3, if_neg Bool.false_ne_true, ← dotAt_next, ih, e1, e2]
    rfl
theorem dotFind_spec (x : Array Nat) : ∀ (f p : Nat), x.size ≤ p + f → match dotFind x f p with
    | some q => p ≤ q ∧ q < x.size ∧ (dotAt x q && x.getD q 0 == 46) = true ∧ ∀ i, p ≤ i → i < q → (dotAt x i && x.getD i 0 == 46) = false
    | none => ∀ i, p ≤ i → i < x.size → (dotAt x i && x.getD i 0 == 46) = false
  | 0, p, h => fun i h1 h2 => by omega
  | f + 1, p, h => by
    unfold dotFind
    by_cases hx : (dotAt x p && decide (p < x.size) && x.getD p 0 == 46) = true
    · rw [if_pos hx]
      simp only [Bool.and_eq_true, decide_eq_true_eq] at hx
      exact ⟨Nat.le_refl _, hx.1.2, by rw [hx.1.1, hx.2]; rfl, fun i h1 h2 => by omega⟩
    · rw [if_neg hx]
      have ih := dotFind_spec x f (p + 1) (by omega)
      have hx' : p < x.size → (dotAt x p && x.getD p 0 == 46) = false := fun hp => by
        rw [decide_eq_true hp, Bool.and_true, Bool.not_eq_true] at hx
        exact hx
      rcases hf : dotFind x f (p + 1) with _ | q
      · rw [hf] at ih
        exact fun i h1 h2 => (Nat.eq_or_lt_of_le h1).elim (fun e => by subst e; exact hx' h2) fun h3 => ih i h3 h2
      · rw [hf] at ih
        exact ⟨by omega, ih.2.1, ih.2.2.1, fun i h1 h2 => (Nat.eq_or_lt_of_le h1).elim (fun e => by subst e; exact hx' (by omega)) fun h3 => ih.2.2.2 i h3 h2⟩
theorem subGo_dots (x : Array Nat) : ∀ (f d : Nat), d ≤ x.size → x.size + 1 - d ≤ f → ((subGo (dotF x) x ⟨#[46, 46]⟩ f d).map (·.cps.toList)).flatten = dotsL (dotAt x d) (x.toList.drop d)
  | 0, d, h1, h2 => by omega
  | f + 1, d, h1, h2 => by
    have sp := dotFind_spec x (x.size + 1 - d) d (by omega)
    unfold subGo
    rcases hF : dotFind x (x.size + 1 - d) d with _ | q
    · have e : dotF x d = none := by unfold dotF; rw [hF]; rfl
      rw [hF] at sp
      rw [e]
      have hz : x.toList.drop x.size = [] := List.drop_eq_nil_of_le (by simp)
      have hr := dotsL_run x (x.size - d) d (by omega) fun i a b => sp i a (by omega)
      have hs : d + (x.size - d) = x.size := by omega
      have := pieces_first x d x.size h1 []
      rw [List.append_nil] at this
      dsimp only
      rw [this, hr, hs, hz]
      rfl
    · have e : dotF x d = some (q, q + 1) := by unfold dotF; rw [hF]; rfl
      rw [hF] at sp
      obtain ⟨s1, s2, s3, s4⟩ := sp
      rw [e]
      dsimp only
      have hr := dotsL_run x (q - d) d (by omega) fun i a b => s4 i a (by omega)
      have hs : d + (q - d) = q := by omega
      rw [hs] at hr
      have h46 : (x.getD q 0 == 10) = false := by
        simp only [Bool.and_eq_true, beq_iff_eq] at s3
        rw [s3.2]; rfl
      rw [pieces_first x d q s1, pieces_cons, subGo_dots x f (q + 1) (by omega) (by omega), hr, drop_one x q s2, dotsL, s3, if_pos rfl, dotAt_next, h46]
      rfl
theorem dots_list (x : Array Nat) : (dots x).cps.toList = dotsL true x.toList := by
  unfold dots
  rw [subText_list, subGo_dots x (x.size + 1) 0 (Nat.zero_le _) (by omega)]
  rfl
end

section
open PySem PySem.W PyProof.Rows PySem.StrLaws PySem.Builtin.Str
set_option Elab.async false
set_option maxRecDepth 100000
set_option maxHeartbeats 0
/-! the plain law of the texts: the split at the rows' ends -/
noncomputable def crPos (x : Array Nat) (i : Nat) : Bool := decide (i + 2 ≤ x.size) && (x.getD i 0 == 13 && x.getD (i + 1) 0 == 10)
noncomputable abbrev nl : Str := ⟨#[13, 10]⟩
theorem two_list (x : Array Nat) (i : Nat) (h : i + 2 ≤ x.size) : (x.extract i (i + 2)).toList = [x.getD i 0, x.getD (i + 1) 0] := by
  have a := drop_cut x i (i + 2) (by omega) h
  rw [drop_one x i (by omega), drop_one x (i + 1) (by omega)] at a
  exact (List.append_cancel_right (as := (x.extract i (i + 2)).toList) (bs := x.toList.drop (i + 2)) (by rw [← a]; rfl))
theorem at_iff (x : Str) (i : Nat) : (i + nl.length ≤ x.length ∧ subAt x nl i = true) ↔ crPos x.cps i = true := by
  have hl : nl.length = 2 := rfl
  unfold crPos subAt
  rw [hl]
  show (i + 2 ≤ x.cps.size ∧ (x.cps.extract i (i + 2) == #[13, 10]) = true) ↔ _
  by_cases h : i + 2 ≤ x.cps.size
  · rw [decide_eq_true h, Bool.true_and]
    have e : (x.cps.extract i (i + 2) == #[13, 10]) = (x.cps.getD i 0 == 13 && x.cps.getD (i + 1) 0 == 10) := by
      rw [Bool.eq_iff_iff]
      rw [beq_iff_eq, ← Array.toList_inj, two_list _ _ h]
      simp
    rw [e]
    simp [h]
  · rw [decide_eq_false h]
    simp [h]
theorem crPos_next (x : Array Nat) (i : Nat) (h : crPos x i = true) : crPos x (i + 1) = false := by
  unfold crPos at h ⊢
  simp only [Bool.and_eq_true, beq_iff_eq] at h
  have : (x.getD (i + 1) 0 == 13) = false := by rw [h.2.2]; rfl
  rw [this, Bool.false_and, Bool.and_false]
theorem occ_filter (x : Str) : ∀ (n a : Nat) (acc : Array Nat) (free : Nat), a + n = x.length + 1 → acc.size ≤ a → (∀ i, a ≤ i → crPos x.cps i = true → free ≤ i) →
    (forIn (List.range' a n) (acc, free) (occBody x nl x.length (x.length + 1))).run.fst.toList = acc.toList ++ (List.range' a n).filter (crPos x.cps)
  | 0, a, acc, free, _, _, _ => by simp
  | n + 1, a, acc, free, h1, h2, h3 => by
    rw [List.range'_succ, List.forIn_cons, List.filter_cons]
    unfold occBody
    by_cases hc : crPos x.cps a = true
    · have hat := (at_iff x a).mpr hc
      rw [if_pos hc, if_pos ⟨⟨⟨by show acc.size < _; omega, h3 a (Nat.le_refl _) hc⟩, hat.1⟩, hat.2⟩]
      have ih := occ_filter x n (a + 1) (acc.push a) (a + nl.length) (by omega) (by rw [Array.size_push]; omega) (fun i hi hci => by
        have hl : nl.length = 2 := rfl
        rw [hl]
        rcases Nat.eq_or_lt_of_le hi with e | e
        · subst e; rw [crPos_next _ _ hc] at hci; cases hci
        · omega)
      refine Eq.trans ih ?_
      simp
    · rw [if_neg hc, if_neg (fun h => hc ((at_iff x a).mp ⟨h.1.2, h.2⟩))]
      exact occ_filter x n (a + 1) acc free (by omega) (by omega) (fun i hi hci => h3 i (by omega) hci)
theorem occ_cr (x : Str) : occurrences x nl 0 x.length (x.length + 1) = (List.range' 0 (x.length + 1)).filter (crPos x.cps) := by
  rw [occ_eq, Nat.sub_zero, occ_filter x (x.length + 1) 0 #[] 0 (by omega) (Nat.zero_le _) (fun _ _ _ => Nat.zero_le _)]
  rfl
noncomputable def pushL (c : Nat) : List (List Nat) → List (List Nat)
  | [] => [[c]]
  | h :: t => (c :: h) :: t
noncomputable def splitL : List Nat → List (List Nat)
  | [] => [[]]
  | [c] => [[c]]
  | c :: c' :: r => if c == 13 && c' == 10 then [] :: splitL r else pushL c (splitL (c' :: r))
theorem splitL_ne : ∀ l, splitL l ≠ []
  | [] => by simp [splitL]
  | [c] => by simp [splitL]
  | c :: c' :: r => by
    rw [splitL]
    split
    · simp
    · cases splitL (c' :: r) <;> simp [pushL]
noncomputable def partsFrom (x : Str) (a : Nat) (cuts : List Nat) : List Str := ((a :: cuts.map (· + 2)).zip (cuts ++ [x.length])).map fun (i, j) => strSub x i j
theorem partsFrom_cons (x : Str) (a i : Nat) (cuts : List Nat) : partsFrom x a (i :: cuts) = strSub x a i :: partsFrom x (i + 2) cuts := rfl
theorem splitL_skip (x : Array Nat) (i : Nat) (h : i < x.size) (hc : crPos x i = false) : splitL (x.toList.drop i) = pushL (x.getD i 0) (splitL (x.toList.drop (i + 1))) := by
  rw [drop_one x i h]
  by_cases h2 : i + 1 < x.size
  · rw [drop_one x (i + 1) h2, splitL, if_neg]
    unfold crPos at hc
    rw [decide_eq_true (by omega), Bool.true_and] at hc
    rw [hc]; decide
  · have e : x.toList.drop (i + 1) = [] := List.drop_eq_nil_of_le (by simp; omega)
    rw [e]; rfl
theorem parts_split (x : Str) : ∀ (k i a : Nat), k = x.cps.size - i → i ≤ x.cps.size → a ≤ i →
    ∃ h t, splitL (x.cps.toList.drop i) = h :: t ∧ (partsFrom x a ((List.range' i (x.length + 1 - i)).filter (crPos x.cps))).map (·.cps.toList) = ((x.cps.extract a i).toList ++ h) :: t := by
  intro k
  induction k using Nat.strongRecOn with
  | ind k ih =>
    intro i a hk hi ha
    have hlen : x.length = x.cps.size := rfl
    rcases Nat.eq_or_lt_of_le hi with e | hlt
    · have e0 : x.cps.toList.drop i = [] := List.drop_eq_nil_of_le (by simp; omega)
      refine ⟨[], [], by rw [e0]; rfl, ?_⟩
      have e1 : x.length + 1 - i = 1 := by omega
      have e2 : crPos x.cps i = false := by unfold crPos; rw [decide_eq_false (by omega)]; rfl
      rw [e1]
      show (partsFrom x a ([i].filter (crPos x.cps))).map _ = _
      rw [List.filter_cons, if_neg (by rw [e2]; decide), List.filter_nil]
      show [(x.cps.extract a x.length).toList] = _
      rw [hlen, e, List.append_nil]
    · have e1 : x.length + 1 - i = (x.length + 1 - (i + 1)) + 1 := by omega
      by_cases hc : crPos x.cps i = true
      · have hc2 : i + 2 ≤ x.cps.size := by unfold crPos at hc; simp only [Bool.and_eq_true, decide_eq_true_eq] at hc; exact hc.1
        have e2 : x.length + 1 - (i + 1) = (x.length + 1 - (i + 2)) + 1 := by omega
        obtain ⟨h, t, hs, hp⟩ := ih (x.cps.size - (i + 2)) (by omega) (i + 2) (i + 2) rfl hc2 (Nat.le_refl _)
        refine ⟨[], h :: t, ?_, ?_⟩
        · rw [drop_one _ i hlt, drop_one _ (i + 1) (by omega), splitL, if_pos, hs]
          unfold crPos at hc
          rw [decide_eq_true hc2, Bool.true_and] at hc
          exact hc
        · rw [e1, List.range'_succ, List.filter_cons, if_pos hc, e2, List.range'_succ, List.filter_cons, if_neg (by rw [crPos_next _ _ hc]; decide), partsFrom_cons, List.map_cons, hp]
          have e3 : (x.cps.extract (i + 2) (i + 2)) = #[] := by apply Array.eq_empty_of_size_eq_zero; rw [Array.size_extract]; omega
          rw [e3, List.append_nil]
          rfl
      · rw [Bool.not_eq_true] at hc
        obtain ⟨h, t, hs, hp⟩ := ih (x.cps.size - (i + 1)) (by omega) (i + 1) a rfl (by omega) (by omega)
        refine ⟨x.cps.getD i 0 :: h, t, by rw [splitL_skip _ i hlt hc, hs]; rfl, ?_⟩
        rw [e1, List.range'_succ, List.filter_cons, if_neg (by rw [hc]; decide), hp]
        have e4 : (x.cps.extract a (i + 1)).toList = (x.cps.extract a i).toList ++ [x.cps.getD i 0] := by
          have p := drop_cut x.cps a (i + 1) (by omega) (by omega)
          have q := drop_cut x.cps a i ha (by omega)
          rw [drop_one _ i hlt, p] at q
          exact List.append_cancel_right (bs := x.cps.toList.drop (i + 1)) (by rw [q]; simp)
        rw [e4, List.append_assoc]
        rfl
theorem split_list (x : Str) : (Txt.split x nl).map (·.cps.toList) = splitL x.cps.toList := by
  have hk : (decide (Builtin.Str.strKind x < Builtin.Str.strKind nl)) = false := by
    have h1 : Builtin.Str.strKind nl = 1 := by decide +kernel
    rw [h1]
    unfold Builtin.Str.strKind
    split
    · decide
    · split <;> decide
  unfold Txt.split
  rw [hk, Bool.or_false, occ_cr]
  obtain ⟨h, t, hs, hp⟩ := parts_split x x.cps.size 0 0 rfl (Nat.zero_le _) (Nat.le_refl _)
  rw [List.drop_zero] at hs
  have e0 : (x.cps.extract 0 0) = #[] := by apply Array.eq_empty_of_size_eq_zero; rw [Array.size_extract]; omega
  rw [e0] at hp
  rw [Nat.sub_zero] at hp
  have hn : (List.range' 0 (x.length + 1)).filter (crPos x.cps) = [] → [x].map (·.cps.toList) = splitL x.cps.toList := by
    intro he
    rw [he] at hp
    rw [hs]
    show [x.cps.toList] = _
    have : (partsFrom x 0 []).map (·.cps.toList) = [(x.cps.extract 0 x.length).toList] := rfl
    rw [this] at hp
    have hx : x.cps.extract 0 x.length = x.cps := Array.extract_size
    rw [hx] at hp
    exact hp
  by_cases hsz : x.length < nl.length
  · rw [if_pos (decide_eq_true hsz)]
    refine hn ?_
    rw [List.filter_eq_nil_iff]
    intro i _ hc
    unfold crPos at hc
    simp only [Bool.and_eq_true, decide_eq_true_eq] at hc
    have : nl.length = 2 := rfl
    have hlen : x.length = x.cps.size := rfl
    omega
  · rw [if_neg (by rw [decide_eq_false hsz]; decide)]
    by_cases he : ((List.range' 0 (x.length + 1)).filter (crPos x.cps)).isEmpty = true
    · rw [if_pos he]
      exact hn (by simpa using he)
    · rw [if_neg he, hs]
      exact hp
theorem splitL_row : ∀ (l r : List Nat), (∀ c ∈ l, c ≠ 13) → splitL (l ++ 13 :: 10 :: r) = l :: splitL r
  | [], r, _ => by rw [List.nil_append, splitL]; rfl
  | [c], r, h => by
    have hc : (c == 13 && (13 : Nat) == 10) = false := by simp
    rw [List.cons_append, List.nil_append, splitL, hc, if_neg Bool.false_ne_true, splitL]
    rfl
  | c :: c' :: l, r, h => by
    have hc : (c == 13 && c' == 10) = false := by
      have := h c (.head _)
      simp [this]
    have ih := splitL_row (c' :: l) r fun c hc => h c (.tail _ hc)
    rw [List.cons_append] at ih
    rw [List.cons_append, List.cons_append, splitL, hc, if_neg Bool.false_ne_true, ih]
    rfl
end

section
open PySem PySem.W PyProof.Rows
set_option Elab.async false
set_option maxRecDepth 100000
set_option maxHeartbeats 0
/-! the plain law of the texts: the rows -/
noncomputable def lineR (a c : Int) (k : Nat) : Str := if a = 0 then dotsOf (1 + c) ++ marksL.getD k Str.empty else if a = 1 then marksL.getD k Str.empty ++ dotsOf (1 + c) else Str.ofString "\u33c7" ++ dotsOf (1 + c - 1) ++ marksL.getD k Str.empty
noncomputable def loudR (a c : Int) (k : Nat) : Str := if a = 0 then Str.ofString "." ++ (dotsOf (1 + c) ++ marksL.getD k Str.empty) else lineR a c k
noncomputable def quietR (a c : Int) : Str := if a = 0 then dotsOf (1 + c) else if a = 1 then dotsOf (1 + c) else Str.ofString "co" ++ dotsOf (1 + c)
noncomputable def heardR (a c : Int) : Str := if a = 0 then dotsOf (1 + c + 1) else if a = 1 then dotsOf (1 + c) else Str.ofString "co" ++ dotsOf (1 + c)
noncomputable def plainOK (l : List Nat) : Bool := l.all fun c => !isEol c && (!keepSign c || (c == 46 || c == 13255))
noncomputable def rowOK (a c : Int) (k : Nat) : Bool :=
  let l := (lineR a c k).cps.toList
  let d := (loudR a c k).cps.toList
  plainOK l && plainOK d && !l.isEmpty && decide (l.length ≤ 10) && decide (d.length ≤ 10) && decide (dotsL true l = d) &&
    decide (readLine (lineR a c k) = quietR a c) && decide (readLine (loudR a c k) = heardR a c) &&
    decide (Txt.count (quietR a c) (Str.ofString ".") ∈ ([1, 2, 3, 4] : List Int)) && decide (Txt.count (heardR a c) (Str.ofString ".") ∈ ([1, 2, 3, 4] : List Int)) && PyData.strOk (quietR a c) && PyData.strOk (heardR a c)
theorem rows_ok : ([0, 1, 2] : List Int).all (fun a => ([0, 1, 2] : List Int).all fun c => (List.range 5).all fun k => rowOK a c k) = true := by decide +kernel
theorem row_ok (v : Int) : rowOK (v.fmod 3) ((v.fdiv 3).fmod 3) ((v.fdiv 27).fmod 5).toNat = true := by
  have h := rows_ok
  rw [List.all_eq_true] at h
  have r3 : ∀ x : Int, x.fmod 3 ∈ ([0, 1, 2] : List Int) := fun x => by
    have a := Int.fmod_nonneg_of_pos x (show (0 : Int) < 3 by decide)
    have b := Int.fmod_lt_of_pos x (show (0 : Int) < 3 by decide)
    have : x.fmod 3 = 0 ∨ x.fmod 3 = 1 ∨ x.fmod 3 = 2 := by omega
    rcases this with e | e | e <;> rw [e] <;> decide
  have h1 := h _ (r3 v)
  rw [List.all_eq_true] at h1
  have h2 := h1 _ (r3 (v.fdiv 3))
  rw [List.all_eq_true] at h2
  refine h2 _ ?_
  have a := Int.fmod_nonneg_of_pos (v.fdiv 27) (show (0 : Int) < 5 by decide)
  have b := Int.fmod_lt_of_pos (v.fdiv 27) (show (0 : Int) < 5 by decide)
  rw [List.mem_range]
  omega
structure RowIs (v : Int) : Prop where
  line : plainOK (lineOf v).cps.toList = true
  loud : plainOK (loudOf v).cps.toList = true
  some : (lineOf v).cps.toList ≠ []
  len : (lineOf v).cps.toList.length ≤ 10
  len' : (loudOf v).cps.toList.length ≤ 10
  dots : dotsL true (lineOf v).cps.toList = (loudOf v).cps.toList
  quiet : readLine (lineOf v) = quietOf v
  heard : readLine (loudOf v) = heardOf v
  count : Txt.count (quietOf v) (Str.ofString ".") ∈ ([1, 2, 3, 4] : List Int)
  count' : Txt.count (heardOf v) (Str.ofString ".") ∈ ([1, 2, 3, 4] : List Int)
  ok : PyData.strOk (quietOf v) = true
  ok' : PyData.strOk (heardOf v) = true
theorem row_is (v : Int) : RowIs v := by
  have h := row_ok v
  unfold rowOK at h
  simp only [Bool.and_eq_true, decide_eq_true_eq, Bool.not_eq_true', List.isEmpty_eq_false_iff] at h
  obtain ⟨⟨⟨⟨⟨⟨⟨⟨⟨⟨⟨a, b⟩, c⟩, d⟩, e⟩, f⟩, g⟩, i⟩, j⟩, k⟩, l⟩, m⟩ := h
  exact ⟨a, b, c, d, e, f, g, i, j, k, l, m⟩
theorem ends_ok : endsL.map (·.cps.toList) = [[10], [13], [13, 10]] := by decide
theorem end_is (v : Int) : (endOf v).cps.toList = [10] ∨ (endOf v).cps.toList = [13] ∨ (endOf v).cps.toList = [13, 10] := by
  have a := Int.fmod_nonneg_of_pos (v.fdiv 9) (show (0 : Int) < 3 by decide)
  have b := Int.fmod_lt_of_pos (v.fdiv 9) (show (0 : Int) < 3 by decide)
  unfold endOf
  have : ((v.fdiv 9).fmod 3).toNat = 0 ∨ ((v.fdiv 9).fmod 3).toNat = 1 ∨ ((v.fdiv 9).fmod 3).toNat = 2 := by omega
  rcases this with e | e | e <;> rw [e]
  · exact .inl (by decide)
  · exact .inr (.inl (by decide))
  · exact .inr (.inr (by decide))
theorem plainOK_eol {l : List Nat} (h : plainOK l = true) : ∀ c ∈ l, isEol c = false := fun c hc => by
  have := List.all_eq_true.mp h c hc
  simp only [Bool.and_eq_true, Bool.not_eq_true'] at this
  exact this.1
theorem plainOK_sign {l : List Nat} (h : plainOK l = true) : ∀ c ∈ l, keepSign c = true → c = 46 ∨ c = 13255 := fun c hc hk => by
  have := List.all_eq_true.mp h c hc
  simp only [Bool.and_eq_true, Bool.or_eq_true, Bool.not_eq_true', beq_iff_eq] at this
  rcases this.2 with e | e
  · rw [hk] at e; cases e
  · exact e
noncomputable abbrev Ls (v : Int) : List Nat := (lineOf v).cps.toList
noncomputable abbrev Ds (v : Int) : List Nat := (loudOf v).cps.toList
noncomputable abbrev Es (v : Int) : List Nat := (endOf v).cps.toList
theorem str_app (a b : Str) : (a ++ b).cps.toList = a.cps.toList ++ b.cps.toList := by rw [Str.cps_append]; simp
theorem mail_lists : ∀ (ns : List Int) (c : Mail), (ns.foldl mailStep c).1.cps.toList = c.1.cps.toList ++ (ns.map fun v => Ls v ++ Es v).flatten ∧
    (ns.foldl mailStep c).2.1.cps.toList = c.2.1.cps.toList ++ (ns.map fun v => Ls v ++ [13, 10]).flatten ∧ (ns.foldl mailStep c).2.2.1.cps.toList = c.2.2.1.cps.toList ++ (ns.map fun v => Ds v ++ [13, 10]).flatten ∧
    (ns.foldl mailStep c).2.2.2.1 = c.2.2.2.1 ++ ns.map quietOf ∧ (ns.foldl mailStep c).2.2.2.2 = c.2.2.2.2 ++ ns.map heardOf
  | [], c => by simp
  | v :: ns, c => by
    have hnl : (Str.ofString "\r\n").cps.toList = [13, 10] := by decide
    obtain ⟨a, b, d, e, f⟩ := mail_lists ns (mailStep c v)
    rw [List.foldl_cons, a, b, d, e, f]
    unfold mailStep
    simp only [str_app, hnl, List.map_cons, List.flatten_cons, List.append_assoc, List.singleton_append, and_self]
/-- what stands behind a row's end is no line feed -/
noncomputable def noLf : List Nat → Prop
  | [] => True
  | c :: _ => c ≠ 10
theorem crlf_end (v : Int) (r : List Nat) (h : noLf r) : crlfL (Es v ++ r) = 13 :: 10 :: crlfL r := by
  rcases end_is v with e | e | e <;> rw [Es, e]
  · cases r with
    | nil => rfl
    | cons c r => rfl
  · cases r with
    | nil => rfl
    | cons c r =>
      have hc : (c == 10) = false := by simpa [noLf] using h
      show (if (13 : Nat) == 13 && c == 10 then _ else _) = _
      rw [hc]
      rfl
  · rfl
theorem noLf_rows : ∀ ns : List Int, noLf (ns.map fun v => Ls v ++ Es v).flatten
  | [] => trivial
  | v :: ns => by
    have R := row_is v
    rcases hl : Ls v with _ | ⟨c, l⟩
    · exact absurd hl R.some
    · have : isEol c = false := plainOK_eol R.line c (by rw [show (lineOf v).cps.toList = c :: l from hl]; exact .head _)
      rw [List.map_cons, List.flatten_cons, hl]
      show c ≠ 10
      rintro rfl
      cases this
theorem crlf_rows : ∀ ns : List Int, crlfL (ns.map fun v => Ls v ++ Es v).flatten = (ns.map fun v => Ls v ++ [13, 10]).flatten
  | [] => rfl
  | v :: ns => by
    have R := row_is v
    rw [List.map_cons, List.flatten_cons, List.append_assoc, crlfL_skip _ _ (plainOK_eol R.line), crlf_end v _ (noLf_rows ns), crlf_rows ns, List.map_cons, List.flatten_cons, List.append_assoc]
    rfl
theorem dotsL_run2 : ∀ (l r : List Nat) (b : Bool), (∀ c ∈ l, c ≠ 10) → l ≠ [] → dotsL b (l ++ r) = dotsL b l ++ dotsL false r
  | [], _, _, _, h => absurd rfl h
  | [c], r, b, h, _ => by
    have hc : (c == 10) = false := by simpa using h c (.head _)
    show (if (b && c == 46) = true then _ else _) = (if (b && c == 46) = true then _ else _) ++ _
    split
    · rfl
    · rw [hc]; rfl
  | c :: c' :: l, r, b, h, _ => by
    have hc : (c == 10) = false := by simpa using h c (.head _)
    have ih := dotsL_run2 (c' :: l) r false (fun c hc => h c (.tail _ hc)) (by simp)
    show (if (b && c == 46) = true then 46 :: 46 :: dotsL false ((c' :: l) ++ r) else c :: dotsL (c == 10) ((c' :: l) ++ r)) = (if (b && c == 46) = true then 46 :: 46 :: dotsL false (c' :: l) else c :: dotsL (c == 10) (c' :: l)) ++ _
    rw [hc, ih]
    split <;> rfl
theorem dots_rows : ∀ ns : List Int, dotsL true (ns.map fun v => Ls v ++ [13, 10]).flatten = (ns.map fun v => Ds v ++ [13, 10]).flatten
  | [] => rfl
  | v :: ns => by
    have R := row_is v
    have h10 : ∀ c ∈ Ls v, c ≠ 10 := fun c hc => by
      have := plainOK_eol R.line c hc
      rintro rfl
      cases this
    rw [List.map_cons, List.flatten_cons, List.append_assoc, dotsL_run2 _ _ _ h10 R.some, R.dots, List.map_cons, List.flatten_cons, List.append_assoc, ← dots_rows ns]
    rfl
theorem split_rows (f : Int → List Nat) (hf : ∀ v, ∀ c ∈ f v, isEol c = false) : ∀ ns : List Int, splitL (ns.map fun v => f v ++ [13, 10]).flatten = ns.map f ++ [[]]
  | [] => rfl
  | v :: ns => by
    have h13 : ∀ c ∈ f v, c ≠ 13 := fun c hc => by
      have := hf v c hc
      rintro rfl
      cases this
    rw [List.map_cons, List.flatten_cons, List.append_assoc]
    show splitL (f v ++ 13 :: 10 :: _) = _
    rw [splitL_row _ _ h13]
    show f v :: splitL (ns.map fun v => f v ++ [13, 10]).flatten = _
    rw [split_rows f hf ns]
    rfl
theorem map_inj : ∀ {l l' : List Str}, l.map (·.cps.toList) = l'.map (·.cps.toList) → l = l'
  | [], [], _ => rfl
  | [], _ :: _, h => by cases h
  | _ :: _, [], h => by cases h
  | a :: l, b :: l', h => by
    rw [List.map_cons, List.map_cons] at h
    injection h with h1 h2
    obtain ⟨x⟩ := a
    obtain ⟨y⟩ := b
    have : x = y := Array.toList_inj.mp h1
    rw [this, map_inj h2]
theorem str_inj {a b : Str} (h : a.cps.toList = b.cps.toList) : a = b := by
  obtain ⟨x⟩ := a
  obtain ⟨y⟩ := b
  have : x = y := Array.toList_inj.mp h
  rw [this]
structure MailIs (ns : List Int) : Prop where
  fix : crlf (mailGo ns).1.cps = (mailGo ns).2.1
  quote : dots (mailGo ns).2.1.cps = (mailGo ns).2.2.1
  split : Txt.split (mailGo ns).2.1 (Str.ofString "\r\n") = ns.map lineOf ++ [⟨#[]⟩]
  split' : Txt.split (mailGo ns).2.2.1 (Str.ofString "\r\n") = ns.map loudOf ++ [⟨#[]⟩]
  quiet : (mailGo ns).2.2.2.1 = ns.map quietOf
  heard : (mailGo ns).2.2.2.2 = ns.map heardOf
theorem nl_eq : Str.ofString "\r\n" = nl := by decide
theorem empty_list : (Str.ofString "").cps.toList = [] := by decide
theorem mail_is (ns : List Int) : MailIs ns := by
  obtain ⟨a, b, c, d, e⟩ := mail_lists ns (Str.ofString "", Str.ofString "", Str.ofString "", [], [])
  simp only [empty_list, List.nil_append] at a b c d e
  have a : (mailGo ns).1.cps.toList = _ := a
  have b : (mailGo ns).2.1.cps.toList = _ := b
  have c : (mailGo ns).2.2.1.cps.toList = _ := c
  refine ⟨?_, ?_, ?_, ?_, d, e⟩
  · apply str_inj
    rw [crlf_list, a, crlf_rows, b]
  · apply str_inj
    rw [dots_list, b, dots_rows, c]
  · apply map_inj
    rw [nl_eq, split_list, b, split_rows _ fun v => plainOK_eol (row_is v).line]
    simp
  · apply map_inj
    rw [nl_eq, split_list, c, split_rows _ fun v => plainOK_eol (row_is v).loud]
    simp
end

section
open PySem PySem.W PyProof.Rows PySem.Calls PyProof.V PySem.Spec
set_option Elab.async false
set_option maxRecDepth 100000
set_option maxHeartbeats 0
theorem sh_canLay : ∀ ns : List Str, (∀ z ∈ ns, (PyData.str z).canLay0 = true) → PyData.canLayAll0 (ns.map PyData.str) = true
  | [], _ => rfl
  | z :: r, h => by
    simp only [List.map_cons, PyData.canLayAll0, Bool.and_eq_true]
    exact ⟨h z (.head _), sh_canLay r fun y hy => h y (.tail _ hy)⟩
theorem sh_depth : ∀ ns : List Str, PyData.depthAll (ns.map PyData.str) = 0
  | [] => rfl
  | _ :: r => by simp [PyData.depthAll, PyData.depth, sh_depth r]
theorem sh_shaped (ns : List Str) (h : ∀ z ∈ ns, PyData.strOk z = true) : SeqAt.shaped (.list (ns.map PyData.str)) = true := by
  simp [SeqAt.shaped, PyData.canLay0, PyData.depth, sh_depth, sh_canLay ns fun z hz => by simp only [PyData.canLay0]; exact h z hz]
theorem ne_strs {prog : Program} {w : World} {A : Around} {E : Value → Shared → Prop} {s : Shared} {a b : Addr} {xs ys : List Value} {qs : List Str} {Q : Value → Shared → Prop} (ha : s.heap.IsList a xs.toArray) (hb : s.heap.IsList b ys.toArray) (hi : StrsAre xs qs) (hj : StrsAre ys qs) (hok : ∀ z ∈ qs, PyData.strOk z = true) (hu : A.units + 64 < cLine) (h : Q (.bool false) s) :
    wpAny (model prog w) A (compareOp .NotEq (.ref a) (.ref b)) Q E s :=
  ne_dataH_same (reads_newData ha hi.carried) (reads_newData hb hj.carried) (sh_shaped _ hok) (sh_shaped _ hok) hu (SeqAt.noMix_of_shape (.list .str) rfl _ _ (list_map_has fun _ => rfl) (list_map_has fun _ => rfl)) (by rw [Spec.same_self]; exact h)
section
variable {prog : Program} {w : World} {A : Around} {E : Value → Shared → Prop} {s : Shared} {h₀ : Heap} {L : Addr} {m : Str → Option Value} {env : Env} {ct elt iter : Expr} {x y : Str} {px py : Pos} {scope : Scope} {cl : List (Str × Addr)} {pos spos : Pos}
theorem strint_rest {S : List (Addr × Obj) → Prop} {Fin : List Value → List (Addr × Obj) → Prop} {news : List (Addr × Obj)} {vs : List Value} {zs : List Str} (g : Str → Int) (hi : StrsAre vs zs)
    (turn : ∀ (z : Str) (t : Tok) I oI C oC D m₂ ys h tk (E' : Value → Shared → Prop), z ∈ zs → LCg.NsObj oC m₂ → m₂ x = some (.str z t) → Fr h₀ L h m → News h₀ L h ((I, oI) :: (C, oC) :: (D, LCg.lst ys) :: news) → LCg.Off3 I C D news → ((@Ne Nat I C) ∧ (@Ne Nat I D) ∧ (@Ne Nat C D)) →
      wpAny (model prog w) A (eval elt (compEnvC scope cl C env)) (LCg.CompEnd h₀ L m { s with heap := h, toks := tk } I oI C oC D (LCg.lst ys) S (fun y news' => news' = news ∧ ∃ t', y = .int (g z) t')) E' { s with heap := h, toks := tk })
    (fin : ∀ ys, IntsAre ys (zs.map g) → Fin ys news) : LCg.CompRest prog w A h₀ L m env elt x scope cl s S (fun i v => vs.toArray[i]? = some v) Fin vs.toArray.size 0 [] news := by
  have key : ∀ (j i : Nat) (ys : List Value), i + j = vs.toArray.size → IntsAre ys ((zs.take i).map g) → LCg.CompRest prog w A h₀ L m env elt x scope cl s S (fun i v => vs.toArray[i]? = some v) Fin j i ys news := by
    intro j
    induction j with
    | zero =>
      intro i ys hj hy
      have e : i = zs.length := by rw [← strs_len hi]; simpa using hj
      subst e
      rw [List.take_length] at hy
      exact LCg.CompRest.zero (fin ys hy)
    | succ j ih =>
      intro i ys hj hy
      refine LCg.CompRest.succ ?_
      intro v I oI C oC D m₂ h tk E' hv hC hx F N off ne
      obtain ⟨c, t, hk, hv'⟩ := strs_at hi i v (by simpa using hv)
      rw [hv'] at hx
      refine wpAny_mono (turn c t I oI C oC D m₂ ys h tk E' (List.mem_of_getElem? hk) hC hx F N off ne) (fun y s₂ hq => ?_) fun _ _ e => e
      obtain ⟨h', tk', nw, e, F', N', off', hS, hn, t', hy'⟩ := hq
      rw [hn] at N' off' hS
      refine ⟨h', tk', news, e, F', N', off', hS, ?_⟩
      rw [hy']
      refine ih (i + 1) _ (by omega) ?_
      rw [List.take_add_one, hk, List.map_append]
      exact hy.append (.cons _ _ .nil)
  exact key _ 0 [] (by omega) (by simp only [List.take_zero, List.map_nil]; exact .nil)
end
end

section
local macro_rules | `(tactic| cb_eq) => `(tactic| first
  | assumption
  | exact Ne.symm (by assumption)
  | decide
  | (simp only [*, ne_eq, not_false_eq_true]; done)
  | (refine Ne.symm ?_; simp only [*, ne_eq, not_false_eq_true]; done)
  | (refine Nat.ne_of_gt ?_; simp only [*]; done)
  | (refine Nat.ne_of_lt ?_; simp only [*]; done)
  | fail "no order between the two")
local macro_rules | `(tactic| k_all) => `(tactic| first
  | exact off1_mem (by assumption)
  | exact off1_mem (And.right (by assumption))
  | exact off1_mem (And.right (And.right (by assumption)))
  | exact off1_mem (And.right (And.right (And.right (by assumption))))
  | exact off1_mem (And.right (And.right (And.right (And.right (by assumption)))))
  | exact off1_mem (And.right (And.right (And.right (And.right (And.right (by assumption))))))
  | exact off1_mem (And.right (And.right (And.right (And.right (And.right (And.right (by assumption)))))))
  | exact off1_mem (And.right (And.right (And.right (And.right (And.right (And.right (And.right (by assumption))))))))
  | exact off1_mem (And.right (And.right (And.right (And.right (And.right (And.right (And.right (And.right (by assumption)))))))))
  | exact off1_mem (And.right (And.right (And.right (And.right (And.right (And.right (And.right (And.right (And.right (by assumption))))))))))
  | exact off1_mem (And.right (And.right (And.right (And.right (And.right (And.right (And.right (And.right (And.right (And.right (by assumption)))))))))))
  | exact off1_mem (And.right (And.right (And.right (And.right (And.right (And.right (And.right (And.right (And.right (And.right (And.right (by assumption))))))))))))
  | exact off1_mem (And.right (And.right (And.right (And.right (And.right (And.right (And.right (And.right (And.right (And.right (And.right (And.right (by assumption)))))))))))))
  | exact off1_mem (And.right (And.right (And.right (And.right (And.right (And.right (And.right (And.right (And.right (And.right (And.right (And.right (And.right (by assumption))))))))))))))
  | fail "no order at hand")
local macro_rules | `(tactic| ktr_enter) => `(tactic| first | (refine And.intro (by (try dsimp only); cb_eq) ?_; ktr_enter) | exact off1_of (by k_all))
section
open PySem PySem.W PyProof.Rows
set_option Elab.async false
set_option maxRecDepth 100000
set_option maxHeartbeats 0
open PySem.Calls
local macro_rules | `(tactic| omega) => `(tactic| first
  | with_reducible assumption
  | (with_reducible refine Nat.ne_of_gt ?_; simp only [*]; done)
  | (with_reducible refine Nat.ne_of_lt ?_; simp only [*]; done)
  | (with_reducible refine Ne.symm ?_; simp only [*, ne_eq, not_false_eq_true]; done)
  | with_reducible exact Nat.le_refl _
  | with_reducible exact room_0 (by assumption)
  | with_reducible exact units_64 (by assumption) (by decide))
local macro_rules | `(tactic| k_room) => `(tactic| first | with_reducible exact room_in (by assumption) (by decide) | ktr_room)
local macro_rules | `(tactic| k_units) => `(tactic| first | with_reducible exact units_in (by assumption) (by decide) | ktr_units)
local macro_rules | `(tactic| k_all) => `(tactic| first
  | assumption
  | (refine ne_of_lt (by assumption) ?_; (try dsimp only); omega)
  | (refine ne_of_allLt (by assumption) ?_; (try dsimp only); omega)
  | (refine ne_of_allLt (And.right (by assumption)) ?_; (try dsimp only); omega)
  | (refine ne_of_allLt (And.right (And.right (by assumption))) ?_; (try dsimp only); omega)
  | (refine ne_of_allLt (And.right (And.right (And.right (by assumption)))) ?_; (try dsimp only); omega)
  | (refine ne_of_allLt (And.right (And.right (And.right (And.right (by assumption))))) ?_; (try dsimp only); omega)
  | (refine ne_of_allLt (And.right (And.right (And.right (And.right (And.right (by assumption)))))) ?_; (try dsimp only); omega)
  | (refine ne_of_allLt (And.right (And.right (And.right (And.right (And.right (And.right (by assumption))))))) ?_; (try dsimp only); omega)
  | (refine ne_of_allLt (And.right (And.right (And.right (And.right (And.right (And.right (And.right (by assumption)))))))) ?_; (try dsimp only); omega)
  | (refine ne_of_allLt (And.right (And.right (And.right (And.right (And.right (And.right (And.right (And.right (by assumption))))))))) ?_; (try dsimp only); omega)
  | (refine ne_of_allLt (And.right (And.right (And.right (And.right (And.right (And.right (And.right (And.right (And.right (by assumption)))))))))) ?_; (try dsimp only); omega)
  | (refine ne_of_allLt (And.right (And.right (And.right (And.right (And.right (And.right (And.right (And.right (And.right (And.right (by assumption))))))))))) ?_; (try dsimp only); omega)
  | (refine ne_of_allLt (And.right (And.right (And.right (And.right (And.right (And.right (And.right (And.right (And.right (And.right (And.right (by assumption)))))))))))) ?_; (try dsimp only); omega)
  | (refine ne_of_allLt (And.right (And.right (And.right (And.right (And.right (And.right (And.right (And.right (And.right (And.right (And.right (And.right (by assumption))))))))))))) ?_; (try dsimp only); omega)
  | (refine ne_of_allLt (And.right (And.right (And.right (And.right (And.right (And.right (And.right (And.right (And.right (And.right (And.right (And.right (And.right (by assumption)))))))))))))) ?_; (try dsimp only); omega)
  | (refine ne_of_allLt (And.right (And.right (And.right (And.right (And.right (And.right (And.right (And.right (And.right (And.right (And.right (And.right (And.right (And.right (by assumption))))))))))))))) ?_; (try dsimp only); omega)
  | (refine ne_of_allLt (And.right (And.right (And.right (And.right (And.right (And.right (And.right (And.right (And.right (And.right (And.right (And.right (And.right (And.right (And.right (by assumption)))))))))))))))) ?_; (try dsimp only); omega)
  | fail "no order at hand")
local macro_rules | `(tactic| walk_at "CompSrc") => `(tactic| (k_here; (try kcf_lens); k_dflt (refine LCg.CompSrc.ledger (by rfl) (by k_asm) (by k_asm) (by k_mem) (by kcf_size) ?_; intro g'; (refine' kcf_list _ (by first | assumption | l_ints) (fun k' t' I' oI' C' oC' D' m' ys' h' tk' E' hk' hC' hx' F' N' off' ne' hMark' => ?_) ?_); (all_goals (try (simp only [LCg.Off3, and_true] at off'))); kcf_last)))
local macro_rules | `(tactic| walk_at "eval ListComp") => `(tactic| (k_here; refine stuck_of ?_))
local macro_rules | `(tactic| walk_at "exec Assign cons ListComp") => `(tactic| (k_here; refine stuck_of ?_))
local macro_rules | `(tactic| units_room) => `(tactic| ktr_units)
local macro_rules | `(tactic| walk_at "call ref") => `(tactic| (k_here; refine stuck_of ?_))
theorem c_dual {w : World} {p : Program} {loose : List Str} {mean : ExcName → Option Value} {mg mb : Str → Option Value} {rest : List (Addr × Obj)} (l : Addr) (vs : List Value) (ws : List Int) (ep : Nat) (t1 : Array Value) (d1 : Addr) (o1 : Obj) (t2 : Array Value) (d2 : Addr) (o2 : Obj) (hv : IntsAre vs ws) (hT : Tabs2 t1 d1 o1 t2 d2 o2 rest) (hl : @Ne Nat l 71 ∧ @Ne Nat l 78 ∧ @Ne Nat l d1 ∧ @Ne Nat l d2)
    (hz : ws.length < 1000) (hzc : (turned ws).length < 1000) (hp1 : 0 ≤ (turnGo ws).2.2 ∧ (turnGo ws).2.2 < 1000) (hp2 : 0 ≤ (turnGo (turned ws)).2.2 ∧ (turnGo (turned ws)).2.2 < 1000) (hback : turned (turned ws) = ws)
    (hb1 : ∀ x ∈ (ws.map fun k => k + 1), 0 ≤ x ∧ x < 1000) (hr1 : okRun 40 (fracOf (ws.map fun k => k + 1)).1 (fracOf (ws.map fun k => k + 1)).2 = true) (hr2 : okRun 40 (fracOf (ws.map fun k => k + 1)).1 ((fracOf (ws.map fun k => k + 1)).1 - (fracOf (ws.map fun k => k + 1)).2) = true)
    (he1 : (runGo 40 (fracOf (ws.map fun k => k + 1)).1 (fracOf (ws.map fun k => k + 1)).2 []) = (ws.map fun k => k + 1)) (he2 : (runGo 40 (fracOf (ws.map fun k => k + 1)).1 ((fracOf (ws.map fun k => k + 1)).1 - (fracOf (ws.map fun k => k + 1)).2) []) = (turned ws).map fun k => k + 1)
    (hb2 : ∀ x ∈ (ws.map fun k => k + 1).reverse, 0 ≤ x ∧ x < 1000) (hb3 : ∀ x ∈ (((ws.map fun k => k + 1).drop 1).take ((ws.map fun k => k + 1).length - 1 - 1)), 0 ≤ x ∧ x < 1000)
    (hq0 : 0 ≤ (fracOf (ws.map fun k => k + 1)).2) (hq1 : (fracOf (ws.map fun k => k + 1)).2 < 100000)
    (he3 : (fracOf (ws.map fun k => k + 1).reverse).1 = (fracOf (ws.map fun k => k + 1)).1) (hok : okI ((fracOf (ws.map fun k => k + 1)).2 * (fracOf (ws.map fun k => k + 1).reverse).2) (fracOf (ws.map fun k => k + 1)).1 = true) (he4 : (intDiv ((fracOf (ws.map fun k => k + 1)).2 * (fracOf (ws.map fun k => k + 1).reverse).2) (fracOf (ws.map fun k => k + 1)).1).1 = (fracOf (((ws.map fun k => k + 1).drop 1).take ((ws.map fun k => k + 1).length - 1 - 1))).1) (he5 : (intDiv ((fracOf (ws.map fun k => k + 1)).2 * (fracOf (ws.map fun k => k + 1).reverse).2) (fracOf (ws.map fun k => k + 1)).1).2 = 1)
    (hl1 : (runGo 40 (fracOf (ws.map fun k => k + 1)).1 (fracOf (ws.map fun k => k + 1)).2 []).length < 1000) (hl2 : (runGo 40 (fracOf (ws.map fun k => k + 1)).1 ((fracOf (ws.map fun k => k + 1)).1 - (fracOf (ws.map fun k => k + 1)).2) []).length < 1000) (hfall : fallGo ((runGo 40 (fracOf (ws.map fun k => k + 1)).1 (fracOf (ws.map fun k => k + 1)).2 []).length + (runGo 40 (fracOf (ws.map fun k => k + 1)).1 ((fracOf (ws.map fun k => k + 1)).1 - (fracOf (ws.map fun k => k + 1)).2) []).length + 1) (runGo 40 (fracOf (ws.map fun k => k + 1)).1 (fracOf (ws.map fun k => k + 1)).2 []) (runGo 40 (fracOf (ws.map fun k => k + 1)).1 ((fracOf (ws.map fun k => k + 1)).1 - (fracOf (ws.map fun k => k + 1)).2) []) = true) :
    ConN w p loose mean mg mb 20 240 ((l, listOf vs.toArray ep) :: (71, tabObj t1) :: (d1, o1) :: (78, tabObj t2) :: (d2, o2) :: rest) [.ref l] fun h₀ L m s Q =>
      ∀ (t1' : Array Value) (d1' : Addr) (o1' : Obj) (t2' : Array Value) (d2' : Addr) (o2' : Obj) (h' : Heap) (tk' : Nat), Fr h₀ L h' m → News h₀ L h' ((71, tabObj t1') :: (d1', o1') :: (78, tabObj t2') :: (d2', o2') :: (l, listOf vs.toArray ep) :: rest) → Tabs2 t1' d1' o1' t2' d2' o2' rest → Q (.bool true) { s with heap := h', toks := tk' } := by
  unfold ConN
  k_fill
  intros; rename_i hret
  refine wpAny_call ?_
  k_dflt k_enter
  k_steps
  repeat' ((with_reducible refine of_stuck ?_); (first
    | ((with_reducible show wpAny _ _ (call (Value.ref 235) _) _ _ _); k_dflt (refine use235 (by k_asm) (by k_asm) (by k_asm) (by k_asm) (by k_asm) (by k_mem) (by k_mem) (by rfl) (by rfl) (by assumption) (by assumption) (by assumption) (by assumption) (by assumption) (by k_room) (by k_units) ?_); intro h' tk' F' N')
    | ((with_reducible show wpAny _ _ (call (Value.ref 97) _) _ _ _); k_dflt (refine use97' (by k_asm) (by k_asm) (by k_asm) (by k_asm) (by k_asm) (by assumption) (Pull.of (by repeat (first | exact Rm.head | apply Rm.tail)) (by repeat (first | exact Rm.head | apply Rm.tail)) (by repeat (first | exact Rm.head | apply Rm.tail)) (by repeat (first | exact Rm.head | apply Rm.tail))) (by repeat (first | assumption | exact OffTo.base | refine OffTo.cons ⟨by cb_eq, by cb_eq, by cb_eq, by cb_eq⟩ ?_)) (by assumption) (by k_room) (by k_units) ?_); intro r' q1' q2' c' t1' d1' o1' t2' d2' o2' h' tk' F' N' T' O' lt'; (try simp only [AllLt, and_true] at lt'))
    | ((with_reducible show wpAny _ _ (call (Value.ref 228) _) _ _ _); k_dflt (refine use228 (by k_asm) (by k_asm) (by k_asm) (by k_asm) (by k_asm) (by assumption) (Pull.of (by repeat (first | exact Rm.head | apply Rm.tail)) (by repeat (first | exact Rm.head | apply Rm.tail)) (by repeat (first | exact Rm.head | apply Rm.tail)) (by repeat (first | exact Rm.head | apply Rm.tail))) (by repeat (first | assumption | exact OffTo.base | refine OffTo.cons ⟨by cb_eq, by cb_eq, by cb_eq, by cb_eq⟩ ?_)) (by assumption) (by k_room) (by k_units) ?_); intro r' vs' c' t1' d1' o1' t2' d2' o2' h' tk' i' F' N' T' O' ne' lt'; (try simp only [AllLt, and_true] at lt'))
    | ((with_reducible show wpAny _ _ (call (Value.ref 221) _) _ _ _); k_dflt (refine use221 (by k_asm) (by k_asm) (by k_asm) (by k_asm) (by k_asm) (by repeat (first | exact Rm.head | apply Rm.tail)) (by ktr_enter) (by assumption) (by assumption) (by k_room) (by k_units) ?_); intro p' t1' t2' c' h' tk' F' N' lt'; (try simp only [AllLt, and_true] at lt'))
    | ((with_reducible show wpAny _ _ (call (Value.ref 214) _) _ _ _); k_dflt (refine use214 (by k_asm) (by k_asm) (by k_asm) (by k_asm) (by k_asm) (by k_mem) (by rfl) (by assumption) (by assumption) (by assumption) (by k_room) (by k_units) ?_); intro p' vs' c' h' tk' i' F' N' ne'; (try simp only [LCg.Off1, and_true] at ne'))
    | ((with_reducible show wpAny _ _ (exec (PySem.Stmt.Assign _ _ _) _) _ _ _); k_dflt (refine LCg.Assign_ListComp_U (F₀ := by k_asm) (by rfl) (by with_unfolding_all rfl) (by with_unfolding_all rfl) (by decide) (by rfl) (by decide) (by rfl) (by rfl) (by rfl) ?_))
    | ((with_reducible show wpAny _ _ (eval (PySem.Expr.ListComp _ _ _ _) _) _ _ _); k_dflt (refine LCg.ListComp_U (F₀ := by k_asm) (by with_unfolding_all rfl) (by decide) (by rfl) (by decide) (by rfl) ?_))); k_steps)
  · exact absurd he3 (by assumption)
  · refine hret _ _ _ _ _ _ _ _ (by k_asm) ?_ (by assumption)
    exact cb_drop (by k_asm) (by kcj_all)
  · exfalso
    rename ((_ && _) = false) => hx
    rw [he4, he5] at hx
    simp at hx
end

section
open PySem PySem.W PyProof.Rows
set_option Elab.async false
set_option maxRecDepth 100000
set_option maxHeartbeats 0
open PySem.Calls
/-! the law's use of _law_dual -/
theorem small_of {ns : List Int} (h : small ns = true) : ∀ x ∈ ns, 0 ≤ x ∧ x < 1000 := fun x hx => by
  have := List.all_eq_true.mp h x hx
  simpa using this
theorem small_mid {ps : List Int} (h : ∀ x ∈ ps, 0 ≤ x ∧ x < 1000) : ∀ x ∈ (ps.drop 1).take (ps.length - 1 - 1), 0 ≤ x ∧ x < 1000 := fun x hx => h x (List.mem_of_mem_drop (List.mem_of_mem_take hx))
section
variable {w : World} {p : Program} {loose : List Str} {mean : ExcName → Option Value} {mg mb : Str → Option Value} {all mid rest : List (Addr × Obj)} {l : Addr} {vs : List Value} {ws : List Int} {ep : Nat}
    {t1 : Array Value} {d1 : Addr} {o1 : Obj} {t2 : Array Value} {d2 : Addr} {o2 : Obj}
    {dp un : Nat} {gd : Option (List Code)} {cn : Str} {names : List (Str × NameKind)} {g1 g2 : Bool} {more : List (Str × Const)} {a : Addr} {ccd : Value} {cl : List (Str × Addr)} {outer : List Env} {A₀ : Around} {base h₀ : Heap} {L : Addr} {m : Str → Option Value} {s : Shared} {Q E : Value → Shared → Prop}
theorem use240 (B : Below A₀ base outer h₀) (F : Fr h₀ L s.heap m) (X : (K w.params).In h₀) (N : News h₀ L s.heap all) (T : Top p loose mean mg mb h₀) (TT : Tabs2 t1 d1 o1 t2 d2 o2 []) (P : Pull all t1 d1 o1 t2 d2 o2 mid) (Rl : Rm (l, listOf vs.toArray ep) mid rest) (O : OffTo d1 d2 [] rest)
    (hl : @Ne Nat l 71 ∧ @Ne Nat l 78 ∧ @Ne Nat l d1 ∧ @Ne Nat l d2) (hv : IntsAre vs ws) (hok : dualOK ws = true) (hd : dp + 20 + 1 < recursionLimit) (hu : un + 8 * (20 + 1) < cLine)
    (hret : ∀ (t1' : Array Value) (d1' : Addr) (o1' : Obj) (t2' : Array Value) (d2' : Addr) (o2' : Obj) (h' : Heap) (tk' : Nat), Fr h₀ L h' m →
      News h₀ L h' ((71, tabObj t1') :: (d1', o1') :: (78, tabObj t2') :: (d2', o2') :: rest) → Tabs2 t1' d1' o1' t2' d2' o2' [] → OffL d1' d2' rest → Q (.bool true) { s with heap := h', toks := tk' }) :
    wpAny (model PySem.Challenge.rw_sn0081_01.row.prog w) (ktrTop dp un gd cn ⟨.function, names, g1, g2, more⟩ L a ccd cl outer) (call (.ref 240) [.ref l]) Q E s := by
  unfold dualOK at hok
  simp only [Bool.and_eq_true, decide_eq_true_eq] at hok
  obtain ⟨⟨⟨⟨⟨⟨⟨⟨⟨⟨⟨⟨⟨⟨⟨⟨⟨⟨⟨⟨z1, z2⟩, z3⟩, z4⟩, z5⟩, z6⟩, z7⟩, z8⟩, z9⟩, z10⟩, z11⟩, z12⟩, z13⟩, z14⟩, z15⟩, z16⟩, z17⟩, z18⟩, z19⟩, z20⟩, z21⟩ := hok
  have hb := small_of z7
  have TT' : Tabs2 t1 d1 o1 t2 d2 o2 rest := TT.to O
  refine (c_dual l vs ws ep t1 d1 o1 t2 d2 o2 hv TT' hl z1 z2 ⟨z3, z4⟩ ⟨z5, z6⟩ z9 hb z10 z11 z12 z13 (fun x hx => hb x (List.mem_reverse.mp hx)) (small_mid hb) z18 z19 z14 z15 (by rw [z16]; rfl) (by rw [z16])
    (by rw [z12, List.length_map]; exact z1) (by rw [z13, List.length_map]; exact z2) (by rw [z12, z13]; simp only [List.length_map] at z17 ⊢; exact z17)).use B F X (fun q hq => ?_) T hd hu fun t1' d1' o1' t2' d2' o2' h' tk' F' N' T' => ?_
  · rcases List.mem_cons.mp hq with rfl | hq
    · exact N _ (P.sub _ (.tail _ (.tail _ (.tail _ (.tail _ Rl.mem.1)))))
    · refine N _ (P.sub q ?_)
      rcases List.mem_cons.mp hq with rfl | hq
      · exact .head _
      · rcases List.mem_cons.mp hq with rfl | hq
        · exact .tail _ (.head _)
        · rcases List.mem_cons.mp hq with rfl | hq
          · exact .tail _ (.tail _ (.head _))
          · rcases List.mem_cons.mp hq with rfl | hq
            · exact .tail _ (.tail _ (.tail _ (.head _)))
            · exact .tail _ (.tail _ (.tail _ (.tail _ (Rl.mem.2 q hq))))
  · refine hret t1' d1' o1' t2' d2' o2' h' tk' F' (cb_drop N' fun q hq => ?_) (Tabs2.cut (rest := []) (more := rest) (by rw [List.append_nil]; exact T')) (offL_of (Tabs2.off (rest := []) (more := rest) (by rw [List.append_nil]; exact T')))
    rcases List.mem_cons.mp hq with rfl | hq
    · exact .head _
    · rcases List.mem_cons.mp hq with rfl | hq
      · exact .tail _ (.head _)
      · rcases List.mem_cons.mp hq with rfl | hq
        · exact .tail _ (.tail _ (.head _))
        · rcases List.mem_cons.mp hq with rfl | hq
          · exact .tail _ (.tail _ (.tail _ (.head _)))
          · exact .tail _ (.tail _ (.tail _ (.tail _ (.tail _ hq))))
end
theorem tabs2_bare {d1 d2 : Addr} {o1 o2 : Obj} (h1 : d1 ≠ 71 ∧ d1 ≠ 78 ∧ d2 ≠ 71 ∧ d2 ≠ 78) (h2 : d1 ≠ d2) : Tabs2 #[] d1 o1 #[] d2 o2 [] := by
  refine ⟨⟨fun q hq => ?_, .inl rfl⟩, ⟨fun q hq => ?_, .inl rfl⟩, h1, fun _ h => nomatch h⟩
  · rcases List.mem_cons.mp hq with rfl | hq
    · exact Ne.symm h1.2.1
    · rcases List.mem_cons.mp hq with rfl | hq
      · exact Ne.symm h2
      · cases hq
  · rcases List.mem_cons.mp hq with rfl | hq
    · exact Ne.symm h1.2.2.1
    · rcases List.mem_cons.mp hq with rfl | hq
      · exact h2
      · cases hq
end

section
open PySem PySem.W PyProof.Rows
set_option Elab.async false
set_option maxRecDepth 100000
set_option maxHeartbeats 0
open PySem.Calls
/-! the law's use of the mail, of the two substitutions and of the reading -/
noncomputable abbrev cnt (z : Str) : Int := Txt.count z (Str.ofString ".")
noncomputable def Reads9 (x : Str) (qs : List Str) : Prop := ∃ ls lz, Txt.split x (Str.ofString "\r\n") = ls ++ [lz] ∧ (∀ l ∈ ls, l.cps.size ≤ 10000 ∧ ∀ c ∈ l.cps.toList, keepSign c = true → c = 46 ∨ c = 13255) ∧ ls.length ≤ 1000 ∧ ls.map readLine = qs
structure MailFacts (W P S : Str) (qs hs : List Str) : Prop where
  fix : crlf W.cps = P
  quote : dots P.cps = S
  sizeW : W.cps.size ≤ 10000
  sizeP : P.cps.size ≤ 10000
  sizeS : S.cps.size ≤ 10000
  readP : Reads9 P qs
  readS : Reads9 S hs
  dualP : dualOK (qs.map cnt) = true
  dualS : dualOK (hs.map cnt) = true
  okP : ∀ z ∈ qs, PyData.strOk z = true
  okS : ∀ z ∈ hs, PyData.strOk z = true
  lenP : qs.length ≤ 1000
  lenS : hs.length ≤ 1000
theorem mrows_len {f : Int → List Nat} (hf : ∀ v, (f v).length ≤ 12) : ∀ ns : List Int, (ns.map f).flatten.length ≤ 12 * ns.length
  | [] => Nat.zero_le _
  | v :: ns => by
    have := mrows_len hf ns
    have := hf v
    simp only [List.map_cons, List.flatten_cons, List.length_append, List.length_cons]
    omega
theorem in4 {z : Int} (h : z ∈ ([1, 2, 3, 4] : List Int)) {f : Int → List (List Int)} {x : List Int} (hx : x ∈ f z) : x ∈ [1, 2, 3, 4].flatMap f := List.mem_flatMap.mpr ⟨z, h, hx⟩
theorem mem_widths4 {a b c d : Int} (ha : a ∈ ([1, 2, 3, 4] : List Int)) (hb : b ∈ ([1, 2, 3, 4] : List Int)) (hc : c ∈ ([1, 2, 3, 4] : List Int)) (hd : d ∈ ([1, 2, 3, 4] : List Int)) : [a, b, c, d] ∈ widths4 :=
  in4 ha (in4 hb (in4 hc (List.mem_map.mpr ⟨d, hd, rfl⟩)))
theorem dual_rows (f : Int → Str) (hf : ∀ v, cnt (f v) ∈ ([1, 2, 3, 4] : List Int)) {ns : List Int} (h : ns.length = 4) : dualOK ((ns.map f).map cnt) = true := by
  obtain ⟨a, b, c, d, rfl⟩ : ∃ a b c d, ns = [a, b, c, d] := by
    match ns, h with
    | [a, b, c, d], _ => exact ⟨a, b, c, d, rfl⟩
  exact List.all_eq_true.mp all_dual _ (mem_widths4 (hf a) (hf b) (hf c) (hf d))
theorem mail_facts {ns : List Int} (h : ns.length = 4) : MailFacts (mailGo ns).1 (mailGo ns).2.1 (mailGo ns).2.2.1 (ns.map quietOf) (ns.map heardOf) := by
  have M := mail_is ns
  obtain ⟨a, b, c, _, _⟩ := mail_lists ns (Str.ofString "", Str.ofString "", Str.ofString "", [], [])
  simp only [empty_list, List.nil_append] at a b c
  have a : (mailGo ns).1.cps.toList = _ := a
  have b : (mailGo ns).2.1.cps.toList = _ := b
  have c : (mailGo ns).2.2.1.cps.toList = _ := c
  have e2 : ∀ v, (Es v).length ≤ 2 := fun v => by rcases end_is v with e | e | e <;> rw [Es, e] <;> decide
  have sW : (mailGo ns).1.cps.size ≤ 10000 := by
    rw [← Array.length_toList, a]
    have := mrows_len (f := fun v => Ls v ++ Es v) (fun v => by have := (row_is v).len; have := e2 v; show (Ls v ++ Es v).length ≤ 12; rw [List.length_append]; show (lineOf v).cps.toList.length + _ ≤ 12; omega) ns
    omega
  have sP : (mailGo ns).2.1.cps.size ≤ 10000 := by
    rw [← Array.length_toList, b]
    have := mrows_len (f := fun v => Ls v ++ [13, 10]) (fun v => by have := (row_is v).len; show (Ls v ++ [13, 10]).length ≤ 12; rw [List.length_append]; show (lineOf v).cps.toList.length + 2 ≤ 12; omega) ns
    omega
  have sS : (mailGo ns).2.2.1.cps.size ≤ 10000 := by
    rw [← Array.length_toList, c]
    have := mrows_len (f := fun v => Ds v ++ [13, 10]) (fun v => by have := (row_is v).len'; show (Ds v ++ [13, 10]).length ≤ 12; rw [List.length_append]; show (loudOf v).cps.toList.length + 2 ≤ 12; omega) ns
    omega
  refine ⟨M.fix, M.quote, sW, sP, sS, ⟨_, _, M.split, fun l hl => ?_, by rw [List.length_map]; omega, ?_⟩, ⟨_, _, M.split', fun l hl => ?_, by rw [List.length_map]; omega, ?_⟩, dual_rows _ (fun v => (row_is v).count) h, dual_rows _ (fun v => (row_is v).count') h, fun z hz => (by obtain ⟨v, _, rfl⟩ := List.mem_map.mp hz; exact (row_is v).ok), fun z hz => (by obtain ⟨v, _, rfl⟩ := List.mem_map.mp hz; exact (row_is v).ok'), by rw [List.length_map]; omega, by rw [List.length_map]; omega⟩
  · obtain ⟨v, _, rfl⟩ := List.mem_map.mp hl
    refine ⟨?_, plainOK_sign (row_is v).line⟩
    have := (row_is v).len
    rw [Array.length_toList] at this
    omega
  · rw [List.map_map]
    exact List.map_congr_left fun v _ => (row_is v).quiet
  · obtain ⟨v, _, rfl⟩ := List.mem_map.mp hl
    refine ⟨?_, plainOK_sign (row_is v).loud⟩
    have := (row_is v).len'
    rw [Array.length_toList] at this
    omega
  · rw [List.map_map]
    exact List.map_congr_left fun v _ => (row_is v).heard
section
variable {w : World} {p : Program} {loose : List Str} {mean : ExcName → Option Value} {mg mb : Str → Option Value} {all rest : List (Addr × Obj)} {l : Addr} {vs : List Value} {ns : List Int} {ep : Nat} {t : Tok} {W P S : Str} {qs hs : List Str}
    {dp un : Nat} {gd : Option (List Code)} {cn : Str} {names : List (Str × NameKind)} {g1 g2 : Bool} {more : List (Str × Const)} {a : Addr} {ccd : Value} {cl : List (Str × Addr)} {outer : List Env} {A₀ : Around} {base h₀ : Heap} {L : Addr} {m : Str → Option Value} {s : Shared} {Q E : Value → Shared → Prop}
theorem use204 (B : Below A₀ base outer h₀) (F : Fr h₀ L s.heap m) (X : (K w.params).In h₀) (N : News h₀ L s.heap all) (T : Top p loose mean mg mb h₀) (R : Rm (l, listOf vs.toArray ep) all rest) (hv : IntsAre vs ns) (h4 : ns.length = 4) (hd : dp + 2 + 1 < recursionLimit) (hu : un + 8 * (2 + 1) < cLine)
    (hret : ∀ (W P S : Str) (qs hs : List Str) (u Hd Qd : Addr) (t1 t2 t3 : Tok) (c : Nat) (vq vh : List Value) (eq eh : Nat) (h' : Heap) (tk' : Nat), MailFacts W P S qs hs → StrsAre vq qs → StrsAre vh hs → Fr h₀ L h' m →
      News h₀ L h' ((u, ({ cls := .type "tuple", data := .seq #[.str W t1, .str P t2, .str S t3, .ref Qd, .ref Hd] c } : Obj)) :: (Hd, listOf vh.toArray eh) :: (Qd, listOf vq.toArray eq) :: rest) → AllLt Hd rest → Q (.ref u) { s with heap := h', toks := tk' }) :
    wpAny (model PySem.Challenge.rw_sn0081_01.row.prog w) (ktrTop dp un gd cn ⟨.function, names, g1, g2, more⟩ L a ccd cl outer) (call (.ref 204) [.ref l]) Q E s := by
  have M := mail_is ns
  refine (c_mail l vs ns ep hv (by omega) (rest := rest)).use B F X (fun q hq => ?_) T hd hu fun u Hd Qd t1 t2 t3 c vq vh eq eh h' tk' iq ih F' N' ltQ ltH => ?_
  · rcases List.mem_cons.mp hq with rfl | hq
    · exact N _ R.mem.1
    · exact N _ (R.mem.2 q hq)
  · rw [M.quiet] at iq
    rw [M.heard] at ih
    exact hret _ _ _ _ _ u Hd Qd t1 t2 t3 c vq vh eq eh h' tk' (mail_facts h4) iq ih F' (cb_drop N' (by simp +contextual)) (allLt_of fun q hq => Nat.lt_trans (allLt_mem ltQ.2 q hq) ltH)
theorem use55 (B : Below A₀ base outer h₀) (F : Fr h₀ L s.heap m) (X : (K w.params).In h₀) (N : News h₀ L s.heap all) (T : Top p loose mean mg mb h₀) (M : MailFacts W P S qs hs) (hd : dp + 20 + 1 < recursionLimit) (hu : un + 8 * (20 + 1) < cLine)
    (hret : ∀ (u : Tok) (h' : Heap) (tk' : Nat), Fr h₀ L h' m → News h₀ L h' all → Q (.str P u) { s with heap := h', toks := tk' }) :
    wpAny (model PySem.Challenge.rw_sn0081_01.row.prog w) (ktrTop dp un gd cn ⟨.function, names, g1, g2, more⟩ L a ccd cl outer) (call (.ref 55) [.str W t]) Q E s := by
  refine (c_fix W t M.sizeW).use B F X N T hd hu fun u h' tk' F' N' => ?_
  rw [M.fix]
  exact hret u h' tk' F' N'
theorem use48 (B : Below A₀ base outer h₀) (F : Fr h₀ L s.heap m) (X : (K w.params).In h₀) (N : News h₀ L s.heap all) (T : Top p loose mean mg mb h₀) (M : MailFacts W P S qs hs) (hd : dp + 20 + 1 < recursionLimit) (hu : un + 8 * (20 + 1) < cLine)
    (hret : ∀ (u : Tok) (h' : Heap) (tk' : Nat), Fr h₀ L h' m → News h₀ L h' all → Q (.str S u) { s with heap := h', toks := tk' }) :
    wpAny (model PySem.Challenge.rw_sn0081_01.row.prog w) (ktrTop dp un gd cn ⟨.function, names, g1, g2, more⟩ L a ccd cl outer) (call (.ref 48) [.str W t]) Q E s := by
  refine (c_quote W t M.sizeW (by rw [M.fix]; exact M.sizeP)).use B F X N T hd hu fun u h' tk' F' N' => ?_
  rw [M.fix, M.quote]
  exact hret u h' tk' F' N'
theorem use209 {x : Str} (B : Below A₀ base outer h₀) (F : Fr h₀ L s.heap m) (H : LawHeap w h₀) (N : News h₀ L s.heap all) (T : Top p loose mean mg mb h₀) (R : Reads9 x qs) (hx : x.cps.size ≤ 10000) (hd : dp + 2 + 1 < recursionLimit) (hu : un + 8 * (2 + 1) < cLine)
    (hret : ∀ (u : Addr) (vs : List Value) (c : Nat) (h' : Heap) (tk' : Nat), StrsAre vs qs → Fr h₀ L h' m → News h₀ L h' ((u, listOf vs.toArray c) :: all) → AllLt u all → Q (.ref u) { s with heap := h', toks := tk' }) :
    wpAny (model PySem.Challenge.rw_sn0081_01.row.prog w) (ktrTop dp un gd cn ⟨.function, names, g1, g2, more⟩ L a ccd cl outer) (call (.ref 209) [.str x t]) Q E s := by
  obtain ⟨ls, lz, h1, h2, h3, rfl⟩ := R
  exact c_read x t ls lz hx h1 h2 h3 dp un gd cn names g1 g2 more a ccd cl outer A₀ base h₀ L m s Q E B F H H.kin N T hd hu fun u vs c h' tk' i F' N' lt => hret u vs c h' tk' i F' N' (allLt_of lt)
end
end

section
open PySem PySem.W PyProof.Rows
set_option Elab.async false
set_option maxRecDepth 100000
theorem post_true (as ds : List WData) : row.claim.post as (.bool true) ds = true := by
  show (WShape.has row.records (.bool true) row.returns && row.post.holds row.records { args := as, res := some (.bool true), after := ds }) = true
  have e1 : row.returns = .bool := by rfl
  have e2 : row.post = .eq .res (.lit (.bool true)) := by rfl
  rw [e1, e2]
  simp [WShape.has, WTm.holds, WTm.value, WShape.arms, same]
end

section
open PySem PySem.W PyProof.Rows
set_option Elab.async false
set_option maxRecDepth 100000
set_option maxHeartbeats 0
open PySem.Calls
local macro_rules | `(tactic| walk_at "CompSrc") => `(tactic| (k_here; refine stop_of ?_))
local macro_rules | `(tactic| walk_at "subscriptTail Name Slice ref ref") => `(tactic| (k_here; (with_reducible show wpAny _ _ (subscriptTail _ (PySem.Expr.Slice (some _) none none _) (Value.ref _) (Value.ref _)) _ _ _); k_dflt (refine kms_slice_lit (by k_asm) (by k_asm) (by kmk_list) (by kmk_part) (by kmk_part) rfl ?_ (by with_unfolding_all rfl) (by kmk_pure) (by kmk_size)); intro D' h' F' N' l1; (try k_lt l1); refine stop_of ?_))
local macro_rules | `(tactic| walk_at "compareOp NotEq str str") => `(tactic| (k_here; k_dflt (refine ne_same ?_)))
local macro_rules | `(tactic| walk_at "compareOp NotEq str") => `(tactic| (k_here; k_dflt (refine ne_same ?_)))
local macro_rules | `(tactic| walk_at "compareOp NotEq") => `(tactic| (k_here; k_dflt (refine ne_same ?_)))
local macro_rules | `(tactic| walk_at "compareOp NotEq ref ref") => `(tactic| (k_here; k_dflt (refine stuck_of ?_)))
local macro_rules | `(tactic| walk_at "CompEnd") => `(tactic| (k_here; refine stop_of ?_))
local macro_rules | `(tactic| walk_at "eval ListComp") => `(tactic| (k_here; refine stuck_of ?_))
local macro_rules | `(tactic| walk_at "exec Assign cons ListComp") => `(tactic| (k_here; refine stuck_of ?_))
local macro_rules | `(tactic| walk_at "call ref") => `(tactic| (k_here; refine stuck_of ?_))
theorem intsv_of {v : List Value} {ls : List Int} (_h : IntsAre v ls) : ∃ v', v' = v := ⟨v, rfl⟩
theorem take4_size {v : List Value} {ls : List Int} (h : IntsAre v (ls.take 4)) : v.toArray.size ≤ sizeLine := by
  have h1 := h.length
  have h2 : (ls.take 4).length ≤ 4 := List.length_take_le 4 ls
  have h3 : 4 ≤ sizeLine := by decide
  rw [List.size_toArray]
  omega
theorem ghost_law {w : World} {h : Heap} {tabs : List (Addr × Addr)} (Y : LawHeap w h) (X : (K w.params).In (ghostOf h tabs)) (h1 : (123 : Addr) ∉ tabs.map (·.2)) (h2 : (134 : Addr) ∉ tabs.map (·.2)) (h3 : (187 : Addr) ∉ tabs.map (·.2)) : LawHeap w (ghostOf h tabs) :=
  ⟨X, let ⟨o, a, b⟩ := Y.b1; ⟨o, ghost_ne a h1, b⟩, let ⟨o, a, b⟩ := Y.b3; ⟨o, ghost_ne a h2, b⟩, let ⟨o, a, b⟩ := Y.c9; ⟨o, ghost_ne a h3, b⟩⟩
theorem top_gen {p : Program} {lo : List Str} {me : ExcName → Option Value} {mg mb : Str → Option Value} {h : Heap} (T : Top p lo me mg mb h) : ∃ p' lo' me', Top p' lo' me' mg mb h := ⟨_, _, _, T⟩
theorem told_pick {t0 t1 t2 t3 : Tok} {k : Nat} (hk : k ≤ 4) : IntsAre (kms_pick (#[.int 0 t0, .int 67 t1, .int 20 t2, .int 84 t3] : Array Value).toList (some (k : Int)) none) (([0, 67, 20, 84] : List Int).drop k) := by
  have : k = 0 ∨ k = 1 ∨ k = 2 ∨ k = 3 ∨ k = 4 := by omega
  rcases this with rfl | rfl | rfl | rfl | rfl
  · exact .cons _ _ (.cons _ _ (.cons _ _ (.cons _ _ .nil)))
  · exact .cons _ _ (.cons _ _ (.cons _ _ .nil))
  · exact .cons _ _ (.cons _ _ .nil)
  · exact .cons _ _ .nil
  · exact .nil
theorem told_of {h₀ h : Heap} {L D : Addr} {t0 t1 t2 t3 : Tok} {k : Nat} {r : List (Addr × Obj)} (N : News h₀ L h ((D, listOf (kms_pick (#[.int 0 t0, .int 67 t1, .int 20 t2, .int 84 t3] : Array Value).toList (some (k : Int)) none).toArray 0) :: r)) (hk : k ≤ 4) :
    ∃ vs, IntsAre vs (([0, 67, 20, 84] : List Int).drop k) ∧ News h₀ L h ((D, listOf vs.toArray 0) :: r) := ⟨_, told_pick hk, N⟩
theorem told_names {h₀ h : Heap} {L Dw Dt : Addr} {a1 a2 : Addr × Obj} {ow ot : Obj} {r : List (Addr × Obj)} (_N : News h₀ L h (a1 :: a2 :: (Dw, ow) :: (Dt, ot) :: r)) : ∃ Dw' Dt', Dw' = Dw ∧ Dt' = Dt := ⟨Dw, Dt, rfl, rfl⟩
theorem keepA {h₀ h : Heap} {L : Addr} {a1 a2 a3 a4 a5 a6 a7 a8 a9 a10 a11 a12 a13 a14 a15 : Addr × Obj} (N : News h₀ L h [a1, a2, a3, a4, a5, a6, a7, a8, a9, a10, a11, a12, a13, a14, a15]) : News h₀ L h [a1, a3, a4, a5, a8, a12, a13, a14, a15] := cb_drop N (by simp +contextual)
theorem endW8 {h₀ h' : Heap} {L : Addr} {a1 a2 a3 a4 a5 a6 a7 a8 : Addr × Obj} {rest : (Str → Option Value) → List (Addr × Obj) → Prop} {s₁ : Shared} {tk : Nat} {m' : Str → Option Value} (F : Fr h₀ L h' m') (N : News h₀ L h' [a1, a2, a3, a4, a5, a6, a7, a8])
    (off : @Ne Nat a1.1 a5.1 ∧ @Ne Nat a2.1 a5.1 ∧ @Ne Nat a3.1 a5.1 ∧ @Ne Nat a4.1 a5.1 ∧ @Ne Nat a6.1 a5.1 ∧ @Ne Nat a7.1 a5.1 ∧ @Ne Nat a8.1 a5.1) (r : rest m' [a1, a2, a3, a4, a6, a7, a8]) : UnrEndW h₀ L s₁ [a5] rest { s₁ with heap := h', toks := tk } := by
  refine ⟨h', tk, m', [a1, a2, a3, a4, a6, a7, a8], rfl, F, cb_drop N (by simp +contextual), fun p hp q hq => ?_, r⟩
  rw [List.mem_singleton.mp hq]
  obtain ⟨h1, h2, h3, h4, h5, h6, h7⟩ := off
  simp only [List.mem_cons, List.not_mem_nil, or_false] at hp
  rcases hp with rfl | rfl | rfl | rfl | rfl | rfl | rfl <;> assumption
theorem endW9 {h₀ h' : Heap} {L : Addr} {a1 a2 a3 a4 a9 a5 a6 a7 a8 : Addr × Obj} {rest : (Str → Option Value) → List (Addr × Obj) → Prop} {s₁ : Shared} {tk : Nat} {m' : Str → Option Value} (F : Fr h₀ L h' m') (N : News h₀ L h' [a1, a2, a3, a4, a9, a5, a6, a7, a8])
    (off : @Ne Nat a1.1 a5.1 ∧ @Ne Nat a2.1 a5.1 ∧ @Ne Nat a3.1 a5.1 ∧ @Ne Nat a4.1 a5.1 ∧ @Ne Nat a9.1 a5.1 ∧ @Ne Nat a6.1 a5.1 ∧ @Ne Nat a7.1 a5.1 ∧ @Ne Nat a8.1 a5.1) (r : rest m' [a1, a2, a3, a4, a9, a6, a7, a8]) : UnrEndW h₀ L s₁ [a5] rest { s₁ with heap := h', toks := tk } := by
  refine ⟨h', tk, m', [a1, a2, a3, a4, a9, a6, a7, a8], rfl, F, cb_drop N (by simp +contextual), fun p hp q hq => ?_, r⟩
  rw [List.mem_singleton.mp hq]
  obtain ⟨h1, h2, h3, h4, h5, h6, h7, h8⟩ := off
  simp only [List.mem_cons, List.not_mem_nil, or_false] at hp
  rcases hp with rfl | rfl | rfl | rfl | rfl | rfl | rfl | rfl <;> assumption
theorem four_le (f : Int → Int) (l : List Int) : (List.map f (l.take 4)).length ≤ 4 := by rw [List.length_map]; exact List.length_take_le 4 l
theorem drawn4 (f : Int → Int) (l : List Int) : (List.map f (l.take 4) ++ List.drop (List.map f (l.take 4)).length ([0, 67, 20, 84] : List Int)).length = 4 := by
  have h := four_le f l
  rw [List.length_append, List.length_drop]
  show _ + (4 - _) = 4
  omega
theorem ne_same {prog : Program} {w : World} {A : Around} {E : Value → Shared → Prop} {s : Shared} {x : Str} {t u : Tok} {Q : Value → Shared → Prop} (h : Q (.bool false) s) : wpAny (model prog w) A (compareOp .NotEq (.str x t) (.str x u)) Q E s :=
  PyProof.Rows.ne_str (by
    have e : (x != x) = false := by simp
    rw [e]; exact h)
theorem hideQ {M : Model} {A : Around} {α : Type} {t : Sem α} {Q : α → Shared → Prop} {E : Value → Shared → Prop} {s : Shared} (h : ∀ (Q' : α → Shared → Prop), (∀ e s, Q e s → Q' e s) → wpAny M A t Q' E s) : wpAny M A t Q E s := h Q (fun _ _ x => x)
theorem law_holds : PySem.Challenge.rw_sn0081_01.Holds := by
  w_on
  refine holds_law Mine.lsaid fun said => ?_
  refine Mine.holds_of_walk said ?_
  have hfill : ∀ (P : Params) (h : Heap), (K P).In h → PySem.Challenge.rw_sn0081_01.row.prog = PySem.Challenge.rw_sn0081_01.row.prog := by
    k_fill
    intros
    rfl
  clear hfill
  delta Mine.dLaw
  intro w s₀ s₁ mg mb G Y fa o pm cd doc dV kV ho hd hcd hD hmg hg args vals as hpre hlay hrd hwl hlo
  have KX := Y.kin
  have X := (Ground.X G).1
  have V := (Ground.X G).2
  refine Ground.open G ?_
  intro T B D TE TW
  try (refine guard_noD D (by decide +kernel) ?_; clear D)
  have hT9 : TabsAt ([(75, 71), (82, 78)] : List (Addr × Addr)) _ := List.forall_mem_cons.mpr ⟨tab_of (x := PySem.Str.ofString "_int2digits") (c := 75) (P := 71) T KX rfl (by kernel_rfl), List.forall_mem_cons.mpr ⟨tab_of (x := PySem.Str.ofString "_digits2int") (c := 82) (P := 78) T KX rfl (by kernel_rfl), fun _ h => nomatch h⟩⟩
  clear hmg
  wrow_args hpre hlay hrd hwl hlo
  all_goals (
    first | refine callC_kw (enter_call ?_) | refine enter_call ?_
    w_top on
    kn_posts
    w_call any ho hd hcd hD T F
    clear hd)
  kn_ghosts F T
  k_drop
  have HL : LawHeap w (ghostOf s₁.heap [(75, 71), (82, 78)]) := ghost_law Y (by assumption) (by decide) (by decide) (by decide)
  clear Y T B TE TW X V G hT9 ho hcd hD
  rename Top _ _ _ _ _ _ => T8
  obtain ⟨p9, lo9, me9, T9⟩ := top_gen T8
  clear T8
  rename CodeHd _ _ _ => C8
  clear C8
  rename CodeHd _ _ _ => C8
  clear C8
  refine hideQ fun Q9 hQ9 => ?_
  k_steps
  repeat' ((with_reducible refine of_stuck ?_); (first
    | ((with_reducible show wpAny _ _ (exec (PySem.Stmt.Assign _ _ _) _) _ _ _); k_dflt (refine LCg.Assign_ListComp_U (F₀ := by k_asm) (by rfl) (by with_unfolding_all rfl) (by with_unfolding_all rfl) (by decide) (by rfl) (by decide) (by rfl) (by rfl) (by rfl) ?_))
    | ((with_reducible show wpAny _ _ (eval (PySem.Expr.ListComp _ _ _ _) _) _ _ _); k_dflt (refine LCg.ListComp_U (F₀ := by k_asm) (by with_unfolding_all rfl) (by decide) (by rfl) (by decide) (by rfl) ?_))); k_steps)
  unfold Stop
  rename IntsAre _ (List.take 4 _) => hI4
  obtain ⟨ws4, hws4⟩ := intsv_of hI4
  subst hws4
  refine LCg.CompSrc.ledger (by rfl) (by k_asm) (by k_asm) (by k_mem) (take4_size hI4) fun g8 => ?_
  refine kcf_list (fun k => k.fmod 1000000) hI4 (fun k t I oI C oC D m₂ ys h tk E' hk hC hx F N off ne mk => ?_) ?_
  · have off0 := off
    simp only [LCg.Off3, and_true] at off
    k_steps
    repeat' ((with_reducible refine of_stuck ?_); (first
      | ((with_reducible show wpAny _ _ (exec (PySem.Stmt.Assign _ _ _) _) _ _ _); k_dflt (refine LCg.Assign_ListComp_U (F₀ := by k_asm) (by rfl) (by with_unfolding_all rfl) (by with_unfolding_all rfl) (by decide) (by rfl) (by decide) (by rfl) (by rfl) (by rfl) ?_))
      | ((with_reducible show wpAny _ _ (eval (PySem.Expr.ListComp _ _ _ _) _) _ _ _); k_dflt (refine LCg.ListComp_U (F₀ := by k_asm) (by with_unfolding_all rfl) (by decide) (by rfl) (by decide) (by rfl) ?_))); k_steps)
    unfold Stop
    exact LCg.CompEnd.intro (by k_asm) (by k_asm) _ (fun p hp => hp) off0 (.inr ⟨listOf ws4.toArray 0, by simp, rfl, _, rfl⟩) ⟨rfl, _, rfl⟩
  · unfold KPfDone
    intro ys8 hys8
    k_steps
    repeat' ((with_reducible refine of_stuck ?_); (first
      | ((with_reducible show wpAny _ _ (exec (PySem.Stmt.Assign _ _ _) _) _ _ _); k_dflt (refine LCg.Assign_ListComp_U (F₀ := by k_asm) (by rfl) (by with_unfolding_all rfl) (by with_unfolding_all rfl) (by decide) (by rfl) (by decide) (by rfl) (by rfl) (by rfl) ?_))
      | ((with_reducible show wpAny _ _ (eval (PySem.Expr.ListComp _ _ _ _) _) _ _ _); k_dflt (refine LCg.ListComp_U (F₀ := by k_asm) (by with_unfolding_all rfl) (by decide) (by rfl) (by decide) (by rfl) ?_))); k_steps)
    unfold Stop
    rename News _ _ _ _ => N2
    obtain ⟨v9, hv9, N3⟩ := told_of N2 (four_le _ _)
    clear N2
    obtain ⟨Dw, Dt, hDw, hDt⟩ := told_names N3
    subst hDw
    subst hDt
    k_steps
    repeat' ((with_reducible refine of_stuck ?_); (first
      | ((with_reducible show wpAny _ _ (exec (PySem.Stmt.Assign _ _ _) _) _ _ _); k_dflt (refine LCg.Assign_ListComp_U (F₀ := by k_asm) (by rfl) (by with_unfolding_all rfl) (by with_unfolding_all rfl) (by decide) (by rfl) (by decide) (by rfl) (by rfl) (by rfl) ?_))
      | ((with_reducible show wpAny _ _ (eval (PySem.Expr.ListComp _ _ _ _) _) _ _ _); k_dflt (refine LCg.ListComp_U (F₀ := by k_asm) (by with_unfolding_all rfl) (by decide) (by rfl) (by decide) (by rfl) ?_))); k_steps)
    refine of_stuck ?_
    rename Fr _ _ _ _ => F9
    rename Below _ _ _ _ => B9
    rename News _ _ _ _ => N9
    rename Frag.In _ _ => X9
    refine use204 B9 F9 X9 N9 T9 (by repeat (first | exact Rm.head | apply Rm.tail)) (by assumption) (drawn4 _ _) (by k_room) (by k_units) ?_
    intro W P S qs hs u1 Hd Qd t1 t2 t3 c1 vq vh eq eh h1 tk1 MF iq ih F1 N1 ltH
    simp only [AllLt, and_true] at ltH
    clear F9 N9
    k_steps
    repeat' ((with_reducible refine of_stuck ?_); (first
      | ((with_reducible show wpAny _ _ (exec (PySem.Stmt.Assign _ _ _) _) _ _ _); k_dflt (refine LCg.Assign_ListComp_U (F₀ := by k_asm) (by rfl) (by with_unfolding_all rfl) (by with_unfolding_all rfl) (by decide) (by rfl) (by decide) (by rfl) (by rfl) (by rfl) ?_))
      | ((with_reducible show wpAny _ _ (eval (PySem.Expr.ListComp _ _ _ _) _) _ _ _); k_dflt (refine LCg.ListComp_U (F₀ := by k_asm) (by with_unfolding_all rfl) (by decide) (by rfl) (by decide) (by rfl) ?_))); k_steps)
    refine of_stuck ?_
    rename Fr _ _ _ _ => F9
    rename News _ _ _ _ => N9
    refine use55 B9 F9 X9 N9 T9 MF (by k_room) (by k_units) ?_
    intro u2 h2 tk2 F2 N2
    clear F9 N9
    k_steps
    repeat' ((with_reducible refine of_stuck ?_); (first
      | ((with_reducible show wpAny _ _ (exec (PySem.Stmt.Assign _ _ _) _) _ _ _); k_dflt (refine LCg.Assign_ListComp_U (F₀ := by k_asm) (by rfl) (by with_unfolding_all rfl) (by with_unfolding_all rfl) (by decide) (by rfl) (by decide) (by rfl) (by rfl) (by rfl) ?_))
      | ((with_reducible show wpAny _ _ (eval (PySem.Expr.ListComp _ _ _ _) _) _ _ _); k_dflt (refine LCg.ListComp_U (F₀ := by k_asm) (by with_unfolding_all rfl) (by decide) (by rfl) (by decide) (by rfl) ?_))); k_steps)
    refine of_stuck ?_
    rename Fr _ _ _ _ => F9
    rename News _ _ _ _ => N9
    refine use48 B9 F9 X9 N9 T9 MF (by k_room) (by k_units) ?_
    intro u3 h3 tk3 F3 N3
    clear F9 N9
    iterate 8 walk1
    refine ne_same ?_
    iterate 6 walk1
    refine ne_same ?_
    iterate 6 walk1
    k_steps
    repeat' ((with_reducible refine of_stuck ?_); (first
      | ((with_reducible show wpAny _ _ (exec (PySem.Stmt.Assign _ _ _) _) _ _ _); k_dflt (refine LCg.Assign_ListComp_U (F₀ := by k_asm) (by rfl) (by with_unfolding_all rfl) (by with_unfolding_all rfl) (by decide) (by rfl) (by decide) (by rfl) (by rfl) (by rfl) ?_))
      | ((with_reducible show wpAny _ _ (eval (PySem.Expr.ListComp _ _ _ _) _) _ _ _); k_dflt (refine LCg.ListComp_U (F₀ := by k_asm) (by with_unfolding_all rfl) (by decide) (by rfl) (by decide) (by rfl) ?_))); k_steps)
    refine of_stuck ?_
    rename Fr _ _ _ _ => F9
    rename News _ _ _ _ => N9
    refine use209 B9 F9 HL N9 T9 MF.readP MF.sizeP (by k_room) (by k_units) ?_
    intro u4 vs4 c4 h4 tk4 i4 F4 N4 lt4
    simp only [AllLt, and_true] at lt4
    clear F9 N9
    k_steps
    repeat' ((with_reducible refine of_stuck ?_); (first
      | ((with_reducible show wpAny _ _ (exec (PySem.Stmt.Assign _ _ _) _) _ _ _); k_dflt (refine LCg.Assign_ListComp_U (F₀ := by k_asm) (by rfl) (by with_unfolding_all rfl) (by with_unfolding_all rfl) (by decide) (by rfl) (by decide) (by rfl) (by rfl) (by rfl) ?_))
      | ((with_reducible show wpAny _ _ (eval (PySem.Expr.ListComp _ _ _ _) _) _ _ _); k_dflt (refine LCg.ListComp_U (F₀ := by k_asm) (by with_unfolding_all rfl) (by decide) (by rfl) (by decide) (by rfl) ?_))); k_steps)
    refine of_stuck ?_
    refine ne_strs ⟨_, News.get (by k_asm) (by k_mem), rfl, _, rfl⟩ ⟨_, News.get (by k_asm) (by k_mem), rfl, _, rfl⟩ i4 iq MF.okP (by units_room) ?_
    k_steps
    repeat' ((with_reducible refine of_stuck ?_); (first
      | ((with_reducible show wpAny _ _ (exec (PySem.Stmt.Assign _ _ _) _) _ _ _); k_dflt (refine LCg.Assign_ListComp_U (F₀ := by k_asm) (by rfl) (by with_unfolding_all rfl) (by with_unfolding_all rfl) (by decide) (by rfl) (by decide) (by rfl) (by rfl) (by rfl) ?_))
      | ((with_reducible show wpAny _ _ (eval (PySem.Expr.ListComp _ _ _ _) _) _ _ _); k_dflt (refine LCg.ListComp_U (F₀ := by k_asm) (by with_unfolding_all rfl) (by decide) (by rfl) (by decide) (by rfl) ?_))); k_steps)
    unfold Stop
    refine LCg.CompSrc.ledger (by rfl) (by k_asm) (by k_asm) (by k_mem) (by rw [List.size_toArray, strs_len i4]; exact Nat.le_trans MF.lenP (by decide)) fun g4 => ?_
    refine strint_rest cnt i4 (fun z t I oI C oC D m₂ ys h tk E' hz hC hx F N off ne => ?_) (fun ys4 hys4 => ?_)
    · have off0 := off
      simp only [LCg.Off3, and_true] at off
      k_steps
      repeat' ((with_reducible refine of_stuck ?_); (first
        | ((with_reducible show wpAny _ _ (exec (PySem.Stmt.Assign _ _ _) _) _ _ _); k_dflt (refine LCg.Assign_ListComp_U (F₀ := by k_asm) (by rfl) (by with_unfolding_all rfl) (by with_unfolding_all rfl) (by decide) (by rfl) (by decide) (by rfl) (by rfl) (by rfl) ?_))
        | ((with_reducible show wpAny _ _ (eval (PySem.Expr.ListComp _ _ _ _) _) _ _ _); k_dflt (refine LCg.ListComp_U (F₀ := by k_asm) (by with_unfolding_all rfl) (by decide) (by rfl) (by decide) (by rfl) ?_))); k_steps)
      unfold Stop
      exact LCg.CompEnd.intro (by k_asm) (by k_asm) _ (fun p hp => hp) off0 (.inr ⟨listOf vs4.toArray c4, by simp, rfl, _, rfl⟩) ⟨rfl, _, rfl⟩
    k_steps
    repeat' ((with_reducible refine of_stuck ?_); (first
      | ((with_reducible show wpAny _ _ (exec (PySem.Stmt.Assign _ _ _) _) _ _ _); k_dflt (refine LCg.Assign_ListComp_U (F₀ := by k_asm) (by rfl) (by with_unfolding_all rfl) (by with_unfolding_all rfl) (by decide) (by rfl) (by decide) (by rfl) (by rfl) (by rfl) ?_))
      | ((with_reducible show wpAny _ _ (eval (PySem.Expr.ListComp _ _ _ _) _) _ _ _); k_dflt (refine LCg.ListComp_U (F₀ := by k_asm) (by with_unfolding_all rfl) (by decide) (by rfl) (by decide) (by rfl) ?_))); k_steps)
    refine of_stuck ?_
    rename Fr _ _ _ _ => F9
    rename News _ _ _ _ => N9
    replace N9 := keepA N9
    refine use240 (d1 := Dt) (d2 := Dw) B9 F9 X9 N9 T9 (tabs2_bare ⟨by cb_eq, by cb_eq, by cb_eq, by cb_eq⟩ (by cb_eq)) (Pull.of (by repeat (first | exact Rm.head | apply Rm.tail)) (by repeat (first | exact Rm.head | apply Rm.tail)) (by repeat (first | exact Rm.head | apply Rm.tail)) (by repeat (first | exact Rm.head | apply Rm.tail))) (by repeat (first | exact Rm.head | apply Rm.tail)) (by repeat (first | exact OffTo.base | refine OffTo.cons ⟨by cb_eq, by cb_eq, by cb_eq, by cb_eq⟩ ?_)) ⟨by cb_eq, by cb_eq, by cb_eq, by cb_eq⟩ hys4 MF.dualP (by k_room) (by k_units) ?_
    intro ta1 da1 oa1 ta2 da2 oa2 h6 tk6 F6 N6 TA of6
    simp only [OffL, and_true, and_assoc] at of6
    clear F9 N9
    iterate 6 walk1
    dsimp only [UnrPostW]
    refine endW8 F6 N6 ⟨by cb_eq, by cb_eq, by cb_eq, by cb_eq, by cb_eq, by cb_eq, by cb_eq⟩ ⟨by k_subL, ?_⟩
    k_steps
    repeat' ((with_reducible refine of_stuck ?_); (first
      | ((with_reducible show wpAny _ _ (exec (PySem.Stmt.Assign _ _ _) _) _ _ _); k_dflt (refine LCg.Assign_ListComp_U (F₀ := by k_asm) (by rfl) (by with_unfolding_all rfl) (by with_unfolding_all rfl) (by decide) (by rfl) (by decide) (by rfl) (by rfl) (by rfl) ?_))
      | ((with_reducible show wpAny _ _ (eval (PySem.Expr.ListComp _ _ _ _) _) _ _ _); k_dflt (refine LCg.ListComp_U (F₀ := by k_asm) (by with_unfolding_all rfl) (by decide) (by rfl) (by decide) (by rfl) ?_))); k_steps)
    refine of_stuck ?_
    rename Fr _ _ _ _ => F9
    rename News _ _ _ _ => N9
    refine use209 B9 F9 HL N9 T9 MF.readS MF.sizeS (by k_room) (by k_units) ?_
    intro u5 vs5 c5 h5 tk5 i5 F5 N5 lt5
    simp only [AllLt, and_true] at lt5
    clear F9 N9
    k_steps
    repeat' ((with_reducible refine of_stuck ?_); (first
      | ((with_reducible show wpAny _ _ (exec (PySem.Stmt.Assign _ _ _) _) _ _ _); k_dflt (refine LCg.Assign_ListComp_U (F₀ := by k_asm) (by rfl) (by with_unfolding_all rfl) (by with_unfolding_all rfl) (by decide) (by rfl) (by decide) (by rfl) (by rfl) (by rfl) ?_))
      | ((with_reducible show wpAny _ _ (eval (PySem.Expr.ListComp _ _ _ _) _) _ _ _); k_dflt (refine LCg.ListComp_U (F₀ := by k_asm) (by with_unfolding_all rfl) (by decide) (by rfl) (by decide) (by rfl) ?_))); k_steps)
    refine of_stuck ?_
    refine ne_strs ⟨_, News.get (by k_asm) (by k_mem), rfl, _, rfl⟩ ⟨_, News.get (by k_asm) (by k_mem), rfl, _, rfl⟩ i5 ih MF.okS (by units_room) ?_
    k_steps
    repeat' ((with_reducible refine of_stuck ?_); (first
      | ((with_reducible show wpAny _ _ (exec (PySem.Stmt.Assign _ _ _) _) _ _ _); k_dflt (refine LCg.Assign_ListComp_U (F₀ := by k_asm) (by rfl) (by with_unfolding_all rfl) (by with_unfolding_all rfl) (by decide) (by rfl) (by decide) (by rfl) (by rfl) (by rfl) ?_))
      | ((with_reducible show wpAny _ _ (eval (PySem.Expr.ListComp _ _ _ _) _) _ _ _); k_dflt (refine LCg.ListComp_U (F₀ := by k_asm) (by with_unfolding_all rfl) (by decide) (by rfl) (by decide) (by rfl) ?_))); k_steps)
    unfold Stop
    refine LCg.CompSrc.ledger (by rfl) (by k_asm) (by k_asm) (by k_mem) (by rw [List.size_toArray, strs_len i5]; exact Nat.le_trans MF.lenS (by decide)) fun g5 => ?_
    refine strint_rest cnt i5 (fun z t I oI C oC D m₂ ys h tk E' hz hC hx F N off ne => ?_) (fun ys5 hys5 => ?_)
    · have off0 := off
      simp only [LCg.Off3, and_true] at off
      k_steps
      repeat' ((with_reducible refine of_stuck ?_); (first
        | ((with_reducible show wpAny _ _ (exec (PySem.Stmt.Assign _ _ _) _) _ _ _); k_dflt (refine LCg.Assign_ListComp_U (F₀ := by k_asm) (by rfl) (by with_unfolding_all rfl) (by with_unfolding_all rfl) (by decide) (by rfl) (by decide) (by rfl) (by rfl) (by rfl) ?_))
        | ((with_reducible show wpAny _ _ (eval (PySem.Expr.ListComp _ _ _ _) _) _ _ _); k_dflt (refine LCg.ListComp_U (F₀ := by k_asm) (by with_unfolding_all rfl) (by decide) (by rfl) (by decide) (by rfl) ?_))); k_steps)
      unfold Stop
      exact LCg.CompEnd.intro (by k_asm) (by k_asm) _ (fun p hp => hp) off0 (.inr ⟨listOf vs5.toArray c5, by simp, rfl, _, rfl⟩) ⟨rfl, _, rfl⟩
    k_steps
    repeat' ((with_reducible refine of_stuck ?_); (first
      | ((with_reducible show wpAny _ _ (exec (PySem.Stmt.Assign _ _ _) _) _ _ _); k_dflt (refine LCg.Assign_ListComp_U (F₀ := by k_asm) (by rfl) (by with_unfolding_all rfl) (by with_unfolding_all rfl) (by decide) (by rfl) (by decide) (by rfl) (by rfl) (by rfl) ?_))
      | ((with_reducible show wpAny _ _ (eval (PySem.Expr.ListComp _ _ _ _) _) _ _ _); k_dflt (refine LCg.ListComp_U (F₀ := by k_asm) (by with_unfolding_all rfl) (by decide) (by rfl) (by decide) (by rfl) ?_))); k_steps)
    refine of_stuck ?_
    rename Fr _ _ _ _ => F9
    rename News _ _ _ _ => N9
    refine use240 (d1 := da1) (d2 := da2) B9 F9 X9 N9 T9 TA (Pull.of (by repeat (first | exact Rm.head | apply Rm.tail)) (by repeat (first | exact Rm.head | apply Rm.tail)) (by repeat (first | exact Rm.head | apply Rm.tail)) (by repeat (first | exact Rm.head | apply Rm.tail))) (by repeat (first | exact Rm.head | apply Rm.tail)) (by repeat (first | exact OffTo.base | refine OffTo.cons ⟨by cb_eq, by cb_eq, by cb_eq, by cb_eq⟩ ?_)) ⟨by cb_eq, by cb_eq, by cb_eq, by cb_eq⟩ hys5 MF.dualS (by k_room) (by k_units) ?_
    intro tb1 db1 ob1 tb2 db2 ob2 h7 tk7 F7 N7 TB of7
    simp only [OffL, and_true, and_assoc] at of7
    clear F9 N9
    iterate 6 walk1
    dsimp only [UnrPostW]
    refine endW9 F7 N7 ⟨by cb_eq, by cb_eq, by cb_eq, by cb_eq, by cb_eq, by cb_eq, by cb_eq, by cb_eq⟩ ⟨by k_subL, ?_⟩
    refine ItemsRest.zero (fun h8 tk8 F8 N8 => ?_)
    iterate 3 walk1
    refine hQ9 _ _ ?_
    refine ⟨⟨.inl ⟨.bool true, .bool true, [], rfl, fun _ => rfl, ReadsW.bool _, post_true _ _, fun _ => ⟨List.nodup_nil, fun _ h => nomatch h⟩⟩, fun b o e => F8.keep b o e, rfl, hg⟩, ?_⟩
    walk_at "GrownAll"
end

end
end Mine
end
end
theorem PySem.Challenge.cw_sn0081_01_holds : PySem.Challenge.rw_sn0081_01.Holds :=
  Mine.law_holds
