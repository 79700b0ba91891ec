import PyProof.Rows.All
import Wide.All
import OpenK.AllK
import Wide.FinOn
import PySem.Challenge.RW_mj0182_01
open PySem PySem.W PyProof.Rows PySem.Calls
set_option Elab.async false
set_option maxRecDepth 100000
set_option linter.unusedVariables false
set_option linter.unusedSectionVars false
namespace Mine
set_option maxHeartbeats 8000000 in
open_top hd for PySem.Challenge.rw_mj0182_01
end Mine
/-! Lay1 -/
namespace Mine

/-! the heap never shrinks -/
theorem runs_size {M : Model} {Γ : Ctx} {p : Pos} {t : Sem Fin} {fs : List Frame} {s s' : Shared} {e : End} (h : Runs M Γ p t fs s e s') : s.heap.objs.size ≤ s'.heap.objs.size := by
  induction h <;> (try simp only [Shared.setGen, Heap.size_push, Heap.size_after_update] at *) <;> omega
theorem wakes_size {M : Model} {Γ : Ctx} {p : Pos} {g : Nat} {r : Resume} {s s' : Shared} {res : GenResult} (h : Wakes M Γ p g r s res s') : s.heap.objs.size ≤ s'.heap.objs.size := by
  unfold Wakes at h
  split at h
  · exact h.elim
  · split at h
    · obtain ⟨e₁, s₁, hr, _, _, rfl⟩ := h; exact (runs_size hr : (s.setGen g .running).heap.objs.size ≤ s₁.heap.objs.size)
    · rw [h.2]; exact Nat.le_refl _
    · rw [h.2]; exact Nat.le_refl _
  · obtain ⟨e₁, s₁, hr, _, _, rfl⟩ := h; exact (runs_size hr : (s.setGen g .running).heap.objs.size ≤ s₁.heap.objs.size)
  · rw [h.2]; exact Nat.le_refl _
  · rw [h.2]; exact Nat.le_refl _
theorem wp_size {α : Type} (M : Model) (Γ : Ctx) (n : Nat) (t : Sem α) : ∀ (Q : α → Pos → Shared → Prop) (E : Value → Pos → Shared → Prop) (p : Pos) (s : Shared), n ≤ s.heap.objs.size → Sem.wp M Γ t Q E p s →
    Sem.wp M Γ t (fun a p' s' => n ≤ s'.heap.objs.size ∧ Q a p' s') (fun e p' s' => n ≤ s'.heap.objs.size ∧ E e p' s') p s := by
  induction t with
  | pure a => intro Q E p s hn h; exact ⟨hn, h⟩
  | raise e => intro Q E p s hn h; exact ⟨hn, h⟩
  | unsupported _ => intro Q E p s _ h; exact h
  | finish _ => intro Q E p s _ h; exact h
  | rule _ k ih => intro Q E p s hn h; exact ih () Q E p s hn h
  | «at» p' k ih => intro Q E p s hn h; exact ih () Q E p' s hn h
  | load a _ k ih => intro Q E p s hn h; obtain ⟨o, ho, h⟩ := h; exact ⟨o, ho, ih o Q E p s hn h⟩
  | update a _ f k ih => intro Q E p s hn h; exact ⟨h.1, ih () Q E p _ (by rw [Heap.size_after_update]; exact hn) h.2⟩
  | loadIfAlive a k ih => intro Q E p s hn h; exact ih _ Q E p s hn h
  | point _ k ih => intro Q E p s hn h; exact ih () Q E p s hn h
  | register _ _ => intro Q E p s _ h; exact h
  | alloc o k ih => intro Q E p s hn h; exact ih _ Q E p _ (by rw [Heap.size_push]; omega) h
  | fresh k ih => intro Q E p s hn h; exact ih _ Q E p _ hn h
  | ask k ih => intro Q E p s hn h; exact ih _ Q E p s hn h
  | choose src m k ih => intro Q E p s hn h; exact ⟨h.1, ih _ Q E p _ hn h.2⟩
  | os q _ k ih => intro Q E p s hn h; exact ih _ Q E p _ hn h
  | call c hd _ _ k ih => intro Q E p s hn h; obtain ⟨r, s', hr, h⟩ := h; exact ⟨r, s', hr, ih r Q E p s' (Nat.le_trans hn (runs_size hr)) h⟩
  | handled own k ih => intro Q E p s hn h; exact ih _ Q E p s hn h
  | genState g k ih => intro Q E p s hn h; obtain ⟨st, hs, h⟩ := h; exact ⟨st, hs, ih _ Q E p s hn h⟩
  | newGen c k ih => intro Q E p s hn h; exact ih _ Q E p _ hn h
  | resume g r _ k ih => intro Q E p s hn h; obtain ⟨res, s', hw, h⟩ := h; exact ⟨res, s', hw, ih res Q E p s' (Nat.le_trans hn (wakes_size hw)) h⟩
  | yield _ _ _ _ => intro Q E p s _ h; exact h
  | stack k ih => intro Q E p s hn h; exact ih _ Q E p s hn h
  | fork _ _ => intro Q E p s _ h; exact h
  | thread k ih => intro Q E p s hn h; exact ih _ Q E p s hn h
  | await _ _ _ _ _ => intro Q E p s _ h; exact h

section
variable {α : Type} {M : Model} {A : Around} {s : Shared}
theorem any_size {t : Sem α} {Q : α → Shared → Prop} {E : Value → Shared → Prop}
    (h : wpAny M A t (fun a s' => s.heap.objs.size ≤ s'.heap.objs.size → Q a s') (fun e s' => s.heap.objs.size ≤ s'.heap.objs.size → E e s') s) : wpAny M A t Q E s :=
  fun Γ p hΓ => Sem.wp_mono M Γ t (fun _ _ _ x => x.2 x.1) (fun _ _ _ x => x.2 x.1) p s (wp_size M Γ _ t _ _ p s (Nat.le_refl _) (h Γ p hΓ))
theorem code_size {c : Code} {R : Result → Shared → Prop} (h : codeAny M A c (fun r s' => s.heap.objs.size ≤ s'.heap.objs.size → R r s') s) : codeAny M A c R s :=
  fun Γ p hc hΓ => by obtain ⟨r, s', hr, hR⟩ := h Γ p hc hΓ; exact ⟨r, s', hr, hR (runs_size hr)⟩
end
end Mine

/-! Lay2 -/
namespace Mine

abbrev NoE : Value → Shared → Prop := fun _ _ => False
section
variable {α : Type} {M : Model} {A : Around} {s : Shared} {E : Value → Shared → Prop}
theorem noE {t : Sem α} {Q : α → Shared → Prop} (h : wpAny M A t Q NoE s) : wpAny M A t Q E s := wpAny_mono h (fun _ _ x => x) fun _ _ x => x.elim
end

/-- nothing but heap and tokens turned; what X does not name stands as it stood -/
structure But (X : Addr → Prop) (s s' : Shared) : Prop where
  same : ∃ h' tk, s' = { s with heap := h', toks := tk }
  keep : ∀ b o, ¬ X b → s.heap.get? b = some o → s'.heap.get? b = some o
  size : s.heap.objs.size ≤ s'.heap.objs.size
abbrev Up (s s' : Shared) : Prop := But (fun _ => False) s s'
theorem But.refl {X : Addr → Prop} (s : Shared) : But X s s := ⟨⟨_, _, rfl⟩, fun _ _ _ e => e, Nat.le_refl _⟩
theorem But.trans {X : Addr → Prop} {a b c : Shared} (x : But X a b) (y : But X b c) : But X a c := by
  obtain ⟨⟨h1, t1, rfl⟩, k1, z1⟩ := x
  obtain ⟨⟨h2, t2, rfl⟩, k2, z2⟩ := y
  exact ⟨⟨h2, t2, rfl⟩, fun b o n e => k2 b o n (k1 b o n e), Nat.le_trans z1 z2⟩
theorem But.mono {X Y : Addr → Prop} {s s' : Shared} (x : But X s s') (h : ∀ b, X b → Y b) : But Y s s' := ⟨x.same, fun b o n e => x.keep b o (fun q => n (h b q)) e, x.size⟩
theorem But.up {X : Addr → Prop} {s s' : Shared} (x : Up s s') : But X s s' := x.mono fun _ q => q.elim
theorem But.le {s s' : Shared} (x : Up s s') : ∀ b o, s.heap.get? b = some o → s'.heap.get? b = some o := fun b o e => x.keep b o (fun q => q) e
/-- what is changed is new: nothing old is changed -/
theorem But.fresh {X : Addr → Prop} {s s' : Shared} (x : But X s s') (h : ∀ b, X b → s.heap.objs.size ≤ b) : Up s s' :=
  ⟨x.same, fun b o _ e => x.keep b o (fun q => absurd (Heap.lt_size e) (Nat.not_lt.mpr (h b q))) e, x.size⟩
theorem But.drop {X Y : Addr → Prop} {s s' : Shared} (x : But X s s') (h : ∀ b, X b → b < s.heap.objs.size → Y b) : But Y s s' :=
  ⟨x.same, fun b o n e => x.keep b o (fun q => n (h b q (Heap.lt_size e))) e, x.size⟩
theorem Up.toks (s : Shared) (t : Nat) : Up s { s with toks := t } := ⟨⟨_, _, rfl⟩, fun _ _ _ e => e, Nat.le_refl _⟩
theorem Up.push (s : Shared) (o : Obj) (t : Nat) : Up s { s with heap := s.heap.push o, toks := t } := ⟨⟨_, _, rfl⟩, fun _ _ _ e => Heap.get?_push_of_some _ e, by rw [Heap.size_push]; omega⟩
/-- P speaks of objects from n on alone -/
def Own (n : Nat) (P : Heap → Prop) (h : Heap) : Prop := ∀ h', (∀ b o, n ≤ b → h.get? b = some o → h'.get? b = some o) → P h'
theorem Own.out {n : Nat} {P : Heap → Prop} {h : Heap} (x : Own n P h) : P h := x h fun _ _ _ e => e
theorem Own.next {n n' : Nat} {P : Heap → Prop} {h h' : Heap} (x : Own n P h) (hn : n' ≤ n) (k : ∀ b o, n ≤ b → h.get? b = some o → h'.get? b = some o) : Own n' P h' :=
  fun h'' k' => x h'' fun b o q e => k' b o (Nat.le_trans hn q) (k b o q e)
/-- in env, x is a variable of the frame's or the block's that holds v -/
def Var (env : Env) (x : Str) (v : Value) (h : Heap) : Prop :=
  (env.kindOf x = some .local ∧ ∃ m, h.Ns env.locals m ∧ m x = some v) ∨
  (∃ c, (env.kindOf x = some .cell ∨ env.kindOf x = some .free) ∧ env.cells.lookup x = some c ∧ h.IsCell c (some v))
theorem Var.le {env : Env} {x : Str} {v : Value} {h h' : Heap} (V : Var env x v h) (k : ∀ b o, h.get? b = some o → h'.get? b = some o) : Var env x v h' := by
  rcases V with ⟨a, m, n, e⟩ | ⟨c, a, l, e⟩
  · exact .inl ⟨a, m, n.keeps k, e⟩
  · exact .inr ⟨c, a, l, e.keeps k⟩
section
variable {M : Model} {A : Around} {s : Shared} {E : Value → Shared → Prop} {env : Env} {x : Str} {v : Value} {pos : Pos}
theorem name_var {Q : Value → Shared → Prop} (V : Var env x v s.heap) (h : Q v s) (hk : env.scope.kind = .function := by rfl) (hd : (x == ("__debug__" : Str)) = false := by decide) (hn : (x == ("__classdict__" : Str)) = false := by decide) :
    wpAny M A (eval (.Name x pos) env) Q E s := by
  refine wpAny_Name ?_ hd
  rcases V with ⟨a, m, n, e⟩ | ⟨c, a, l, e⟩
  · exact wpAny_loadName_local hk a n e h
  · rcases a with a | a
    · exact wpAny_loadName_cell hk a l e h
    · exact wpAny_loadName_free hk a l e h hn
theorem load_var {Q : Value → Shared → Prop} (V : Var env x v s.heap) (h : Q v s) (hk : env.scope.kind = .function := by rfl) (hn : (x == ("__classdict__" : Str)) = false := by decide) :
    wpAny M A (loadName env x) Q E s := by
  rcases V with ⟨a, m, n, e⟩ | ⟨c, a, l, e⟩
  · exact wpAny_loadName_local hk a n e h
  · rcases a with a | a
    · exact wpAny_loadName_cell hk a l e h
    · exact wpAny_loadName_free hk a l e h hn
end

/-- a place for a block's variable: the block's dict C, or a cell z -/
def Ready (C z : Addr) (h : Heap) : Prop := (∃ m, h.Ns C m) ∧ (z ≠ C → ∃ v, h.IsCell z v)
theorem Ready.at {C z : Addr} {h h' : Heap} (R : Ready C z h) (k : ∀ b o, b = C ∨ b = z → h.get? b = some o → h'.get? b = some o) : Ready C z h' := by
  obtain ⟨⟨m, hm⟩, hz⟩ := R
  refine ⟨⟨m, hm.at' fun o e => k _ o (.inl rfl) e⟩, fun n => ?_⟩
  obtain ⟨v, o, e, d⟩ := hz n
  exact ⟨v, o, k _ _ (.inr rfl) e, d⟩
def SlotOf (cenv : Env) (x : Str) (C z : Addr) : Prop := cenv.locals = C ∧ cenv.scope.kind = .function ∧ ((z = C ∧ cenv.kindOf x = some .local) ∨ (z ≠ C ∧ cenv.kindOf x = some .cell ∧ cenv.cells.lookup x = some z))
section
variable {M : Model} {A : Around} {s : Shared} {E : Value → Shared → Prop} {cenv : Env} {x : Str} {C z : Addr} {v : Value}
theorem store_slot {Q : Unit → Shared → Prop} (S : SlotOf cenv x C z) (R : Ready C z s.heap)
    (k : ∀ h' tk, Ready C z h' → Var cenv x v h' → Heap.SameBut z s.heap h' → Q () { s with heap := h', toks := tk }) : wpAny M A (storeName cenv x v) Q E s := by
  obtain ⟨rfl, hk, ⟨rfl, hx⟩ | ⟨hne, hx, hl⟩⟩ := S
  · obtain ⟨⟨m, hm⟩, _⟩ := R
    refine wpAny_storeName_local hx hm (fun h' hn hs => ?_) (by rw [hk]; rfl)
    exact k h' _ ⟨⟨_, hn⟩, fun q => absurd rfl q⟩ (.inl ⟨hx, _, hn, by simp⟩) hs
  · obtain ⟨⟨m, hm⟩, hz⟩ := R
    obtain ⟨v₀, hc⟩ := hz hne
    refine wpAny_storeName_cell hk hx hl hc fun h' hc' hs => ?_
    exact k h' s.toks ⟨⟨m, hm.sameBut hs (Ne.symm hne)⟩, fun _ => ⟨_, hc'⟩⟩ (.inr ⟨_, .inl hx, hl, hc'⟩) hs
end

theorem Paired.imp {α β : Type} {F G : α → β → Prop} : ∀ {l₁ : List α} {l₂ : List β}, Paired F l₁ l₂ → (∀ a b, F a b → G a b) → Paired G l₁ l₂
  | _, _, .nil, _ => .nil
  | _, _, .cons h t, f => .cons (f _ _ h) (Paired.imp t f)

section
variable {prog : Program} {w : World} {A : Around} {R : Result → Shared → Prop} {s s₅ : Shared}
theorem comp_loop {elt iter : Expr} {x : Str} {px : Pos} {ifs : List Expr} {scope : Scope} {pos : Pos} {I D C z : Addr} {fp wr : List Addr} {n : Nat} {P : Nat → Value → Prop} {St : Nat → Heap → Prop} {cenv : Env}
    (W : Walks prog w A I fp wr n P St) (p : Nat → Bool) (G : Nat → Value → Heap → Prop) (hsz : n ≤ sizeLine)
    (S : SlotOf cenv x C z) (hDf : D ∉ fp) (hCf : C ∉ fp) (hzf : z ∉ fp) (hDC : D ≠ C) (hDz : D ≠ z)
    (hnew : ∀ b : Nat, b ∈ wr ∨ b = C ∨ b = z ∨ b = D → s.heap.objs.size ≤ b ∧ b < s₅.heap.objs.size)
    (u₅ : Up s s₅) (hst : St 0 s₅.heap) (hacc : s₅.heap.PlainList D #[]) (hr : Ready C z s₅.heap)
    (htests : ∀ i v s₃, i < n → P i v → Up s s₃ → Var cenv x v s₃.heap →
      wpAny (model prog w) A (forIn ifs true fun c r => if r = true then do let ok ← isTrue c cenv (eval c cenv); pure (ForInStep.yield ok) else pure (ForInStep.yield r)) (fun ok s₄ => ok = p i ∧ Up s₃ s₄) NoE s₃)
    (helt : ∀ i v s₃, i < n → P i v → p i = true → Up s s₃ → Var cenv x v s₃.heap → wpAny (model prog w) A (eval elt cenv) (fun y s₄ => Up s₃ s₄ ∧ Own s₃.heap.objs.size (G i y) s₄.heap) NoE s₃)
    (hR : ∀ s' ys, Up s s' → Ready C z s'.heap → s'.heap.PlainList D ys.toArray → s₅.heap.objs.size ≤ s'.heap.objs.size → Paired (fun i y => Own s₅.heap.objs.size (G i y) s'.heap) ((List.range n).filter p) ys → R (.ok .next) s') :
    codeAny (model prog w) A (.compLoop (.ListComp elt [⟨.Name x px, iter, ifs, 0⟩] scope pos) 0 (.ref I) (.ref D) cenv) R s₅ := by
  refine codeAny_compLoop_tests
    (fun k s' => ∃ idx ys, Up s s' ∧ St idx s'.heap ∧ s'.heap.PlainList D (List.toArray ys) ∧ Ready C z s'.heap ∧ s₅.heap.objs.size ≤ s'.heap.objs.size ∧ idx ≤ n ∧ k = n + 1 - idx ∧
      Paired (fun i y => Own s₅.heap.objs.size (G i y) s'.heap) ((List.range idx).filter p) ys) ?_ (n + 1)
    ⟨0, [], u₅, hst, hacc, hr, Nat.le_refl _, Nat.zero_le _, rfl, by simpa using Paired.nil⟩
  rintro k s' ⟨idx, ys, u, st, acc, rd, hz, hi, rfl, hP⟩
  have lo : ∀ b : Nat, b ∈ wr ∨ b = C ∨ b = z ∨ b = D → ∀ c : Nat, s₅.heap.objs.size ≤ c → c ≠ b := fun b hb c hc e => by have := (hnew b hb).2; omega
  have hCw : C ∉ wr := fun h => hCf (W.sub _ h)
  have hDw : D ∉ wr := fun h => hDf (W.sub _ h)
  have hzw : z ∉ wr := fun h => hzf (W.sub _ h)
  by_cases hlt : idx < n
  · refine any_size (W.item idx _ _ _ hlt st fun v h₁ tk₁ hPv st₁ k₁ z₁ => ?_)
    have u₁ : But (· ∈ wr) s' { s' with heap := h₁, toks := tk₁ } := ⟨⟨_, _, rfl⟩, k₁, z₁⟩
    have r₁ : Ready C z h₁ := rd.at fun b o hb e => k₁ b o (by rcases hb with rfl | rfl <;> assumption) e
    refine wpAny_assign_Name (store_slot S r₁ fun h₂ tk₂ r₂ V₂ hs₂ => ?_)
    have u₂ : But (fun b => b ∈ wr ∨ b = C ∨ b = z ∨ b = D) s' { s' with heap := h₂, toks := tk₂ } := ⟨⟨_, _, rfl⟩, fun b o nb e => hs₂.extBut b o (fun q => nb (.inr (.inr (.inl q)))) (k₁ b o (fun q => nb (.inl q)) e), Nat.le_trans z₁ (Nat.le_of_eq hs₂.1.symm)⟩
    have st₂ : St (idx + 1) h₂ := W.frame _ _ _ st₁ fun b hb o e => hs₂.extBut b o (fun q => hzf (q ▸ hb)) e
    have acc₂ : h₂.PlainList D ys.toArray := acc.at fun o e => hs₂.extBut _ _ hDz (k₁ _ _ hDw e)
    have us₂ : Up s { s' with heap := h₂, toks := tk₂ } := (((u.mono (fun _ q => q.elim)).trans u₂).drop (Y := fun _ => False) fun b hb hl => absurd (hnew b hb).1 (Nat.not_le.mpr hl))
    have zz₂ : s₅.heap.objs.size ≤ h₂.objs.size := Nat.le_trans hz u₂.size
    refine any_size (noE (wpAny_mono (htests idx v _ hlt hPv us₂ V₂) (fun ok s₃ h₃ => ?_) fun _ _ q => q.elim))
    obtain ⟨rfl, u₃⟩ := h₃
    intro _
    have st₃ : St (idx + 1) s₃.heap := W.frame _ _ _ st₂ fun b _ o e => u₃.le b o e
    have acc₃ : s₃.heap.PlainList D ys.toArray := acc₂.at fun o e => u₃.le _ _ e
    have r₃ : Ready C z s₃.heap := r₂.at fun b o _ e => u₃.le _ _ e
    have V₃ := V₂.le u₃.le
    have hP₃ : Paired (fun i y => Own s₅.heap.objs.size (G i y) s₃.heap) ((List.range idx).filter p) ys :=
      Paired.imp hP fun i y q => q.next (Nat.le_refl _) fun b o hb e => u₃.le b o (u₂.keep b o (fun q => lo b q b hb rfl) e)
    have zz₃ : s₅.heap.objs.size ≤ s₃.heap.objs.size := Nat.le_trans zz₂ u₃.size
    have us₃ : Up s s₃ := us₂.trans u₃
    cases hp : p idx with
    | false =>
      simp only [Bool.false_eq_true, if_false]
      refine ⟨n + 1 - (idx + 1), by omega, idx + 1, ys, us₃, st₃, acc₃, r₃, zz₃, hlt, rfl, ?_⟩
      rw [List.range_succ, List.filter_append]
      simpa [hp] using hP₃
    | true =>
      simp only [if_true]
      refine any_size (noE (wpAny_mono (helt idx v _ hlt hPv hp us₃ V₃) (fun y s₄ h₄ => ?_) fun _ _ q => q.elim))
      obtain ⟨u₄, g₄⟩ := h₄
      intro _
      have lys : ys.length ≤ sizeLine := by
        have e1 := hP₃.length
        have e2 : ((List.range idx).filter p).length ≤ (List.range idx).length := List.length_filter_le _ _
        rw [List.length_range] at e2
        omega
      refine any_size (wpAny_list_append_plain (hsz := by rw [List.size_toArray]; exact lys) (acc₃.at fun o e => u₄.le _ _ e) fun h₅ hl₅ hs₅ => ?_)
      intro z₅
      have k₅ : ∀ b o, b ≠ D → s₄.heap.get? b = some o → h₅.get? b = some o := fun b o q e => hs₅.extBut b o q e
      refine ⟨n + 1 - (idx + 1), by omega, idx + 1, ys ++ [y], ?_, ?_, ?_, ?_, ?_, hlt, rfl, ?_⟩
      · exact (((us₃.trans u₄).up (X := fun b => b = D)).trans ⟨⟨_, _, rfl⟩, fun b o q e => k₅ b o q e, z₅⟩).drop (Y := fun _ => False) fun b hb hl => absurd (hnew b (.inr (.inr (.inr hb)))).1 (Nat.not_le.mpr hl)
      · exact W.frame _ _ _ st₃ fun b hb o e => k₅ b o (fun q => hDf (q ▸ hb)) (u₄.le b o e)
      · simpa using hl₅
      · exact r₃.at fun b o hb e => k₅ b o (fun q => by rcases hb with h9 | h9; exact hDC (q.symm.trans h9); exact hDz (q.symm.trans h9)) (u₄.le b o e)
      · exact Nat.le_trans zz₃ (Nat.le_trans u₄.size z₅)
      · rw [List.range_succ, List.filter_append]
        have g₅ : Own s₅.heap.objs.size (G idx y) h₅ := (g₄.next zz₃ fun b o hb e => k₅ b o (fun q => lo D (.inr (.inr (.inr rfl))) b (Nat.le_trans zz₃ hb) q) e)
        have hP₅ : Paired (fun i y => Own s₅.heap.objs.size (G i y) h₅) ((List.range idx).filter p) ys :=
          Paired.imp hP₃ fun i y q => q.next (Nat.le_refl _) fun b o hb e => k₅ b o (fun q => lo D (.inr (.inr (.inr rfl))) b hb q) (u₄.le b o e)
        simpa [hp] using Paired.snoc hP₅ g₅
  · have e : idx = n := by omega
    subst e
    refine any_size (W.done _ _ _ st fun h₁ tk₁ k₁ z₁ => ?_)
    have u₁ : But (· ∈ wr) s' { s' with heap := h₁, toks := tk₁ } := ⟨⟨_, _, rfl⟩, k₁, z₁⟩
    refine hR _ ys (((u.mono (fun _ q => q.elim)).trans u₁).drop (Y := fun _ => False) fun b hb hl => absurd (hnew b (.inl hb)).1 (Nat.not_le.mpr hl)) (rd.at fun b o hb e => k₁ b o (by rcases hb with rfl | rfl <;> assumption) e)
      (acc.at fun o e => k₁ _ _ hDw e) (Nat.le_trans hz z₁) (Paired.imp hP fun i y q => q.next (Nat.le_refl _) fun b o hb e => k₁ b o (fun q => lo b (.inl q) b hb rfl) e)
end
end Mine

/-! Lay3 -/
namespace Mine

/-- what a for or a block goes over: n items, the i-th with P i; ro: the old objects that are read on the way -/
def Src (prog : Program) (w : World) (A : Around) (env : Env) (iter : Expr) (s : Shared) (ro : Addr → Prop) (n : Nat) (P : Nat → Value → Prop) : Prop :=
  ∀ (Q : Value → Shared → Prop) (E : Value → Shared → Prop),
    (∀ I fp wr St s₂, Walks prog w A I fp wr n P St → St 0 s₂.heap → Up s s₂ → (∀ b : Nat, b ∈ wr → s.heap.objs.size ≤ b) → (∀ b : Nat, b ∈ fp → b < s₂.heap.objs.size ∧ (s.heap.objs.size ≤ b ∨ ro b)) → Q (.ref I) s₂) →
    wpAny (model prog w) A (eval iter env) (fun xv s₁ => wpAny (model prog w) A (pyIter xv) Q E s₁) E s

/-- what a block's scope is like -/
structure Blk (scope : Scope) (cl : List (Str × Addr)) (x : Str) (cellx : Bool) : Prop where
  kind : scope.kind = .function
  names : ∀ y ∈ scope.names, y.2 = .local → scope.names.lookup y.1 = some .local
  pc : ∀ h, pushCells h scope.names = if cellx then h.push { cls := .type "cell", data := .cell none } else h
  cf : ∀ n, cellsFrom n scope.names cl = if cellx then (x, n) :: cl else cl
  look : scope.names.lookup x = some (if cellx then .cell else .local)

theorem lookup_relabel_cell {env : Env} : ∀ {names : List (Str × NameKind)} {x : Str}, names.lookup x = some .cell →
    (names.map fun (n, k) => if (k == NameKind.free && env.scope.kind == .function && env.kindOf n == some .cell) then (n, NameKind.cell) else (n, k)).lookup x = some .cell
  | [], _, h => by simp at h
  | (n, k) :: r, x, h => by
    have ih := @lookup_relabel_cell env r x
    show List.lookup x ((if (k == NameKind.free && env.scope.kind == .function && env.kindOf n == some .cell) = true then (n, NameKind.cell) else (n, k)) :: _) = _
    cases hx : x == n with
    | true =>
      simp only [List.lookup_cons, hx] at h
      cases h
      simp [List.lookup_cons, hx]
    | false =>
      simp only [List.lookup_cons, hx] at h
      split <;> simpa [List.lookup_cons, hx] using ih h

section
variable {M : Model} {A : Around} {E : Value → Shared → Prop} {s : Shared}
theorem newEnv_comp {scope : Scope} {globals : Addr} {cl : List (Str × Addr)} {qual : Str} {env : Env} {Q : Env → Shared → Prop}
    (h : Q (newEnv scope s.heap.objs.size globals (cellsFrom (s.heap.objs.size + 1) scope.names cl) qual none .none (some env) builtinsNs) { s with heap := pushCells (s.heap.push { cls := .type "dict", data := .dict #[] }) scope.names }) :
    wpAny M A (newFunctionEnv scope globals cl [] qual none .none (some env)) Q E s := by
  unfold newFunctionEnv
  refine wpAny_bind (wpAny_alloc ?_)
  refine wpAny_bind (wpAny_layCells _ (fun name kind cells => rfl) scope.names cl _ _ ?_)
  rw [show ({ s with heap := s.heap.push { cls := .type (if (some env).isSome = true then "dict" else "frame"), data := .dict #[] } } : Shared).heap.objs.size = s.heap.objs.size + 1 from Heap.size_push ..]
  refine wpAny_bind (wpAny_pure ?_)
  exact wpAny_pure h
end

section
variable {prog : Program} {w : World} {A : Around} {E : Value → Shared → Prop} {s s₂ : Shared} {env : Env}
theorem comp_core {elt iter : Expr} {x : Str} {px : Pos} {ifs : List Expr} {scope : Scope} {cl : List (Str × Addr)} {pos : Pos} {I : Addr} {fp wr : List Addr} {n : Nat} {P : Nat → Value → Prop} {St : Nat → Heap → Prop} {cellx : Bool} {RR : Value → Addr → Result → Shared → Prop}
    (B : Blk scope cl x cellx) (W : Walks prog w A I fp wr n P St) (hsz : n ≤ sizeLine) (p : Nat → Bool) (G : Nat → Value → Heap → Prop)
    (u : Up s s₂) (hst : St 0 s₂.heap) (hwr : ∀ b : Nat, b ∈ wr → s.heap.objs.size ≤ b) (hfp : ∀ b : Nat, b ∈ fp → b < s₂.heap.objs.size)
    (htests : ∀ C i v s₃, i < n → P i v → Up s s₃ → Var (compEnvC scope (cellsFrom (C + 1) scope.names cl) C env) x v s₃.heap →
      wpAny (model prog w) A (forIn ifs true fun c r => if r = true then do let ok ← isTrue c (compEnvC scope (cellsFrom (C + 1) scope.names cl) C env) (eval c (compEnvC scope (cellsFrom (C + 1) scope.names cl) C env)); pure (ForInStep.yield ok) else pure (ForInStep.yield r)) (fun ok s₄ => ok = p i ∧ Up s₃ s₄) NoE s₃)
    (helt : ∀ C i v s₃, i < n → P i v → p i = true → Up s s₃ → Var (compEnvC scope (cellsFrom (C + 1) scope.names cl) C env) x v s₃.heap →
      wpAny (model prog w) A (eval elt (compEnvC scope (cellsFrom (C + 1) scope.names cl) C env)) (fun y s₄ => Up s₃ s₄ ∧ Own s₃.heap.objs.size (G i y) s₄.heap) NoE s₃)
    (hR : ∀ D C k s' ys, Up s s' → s.heap.objs.size ≤ D → D ≠ C → s.heap.objs.size ≤ C → C < k → D < k → k ≤ s'.heap.objs.size → (∃ m, s'.heap.Ns C m) → s'.heap.PlainList D ys.toArray → Paired (fun i y => Own k (G i y) s'.heap) ((List.range n).filter p) ys → RR (.ref D) C (.ok .next) s') :
    wpAny (model prog w) A (newList []) (fun acc s₃ => wpAny (model prog w) A (newFunctionEnv scope env.globals cl [] env.qual none .none (some env)) (fun cenv s₄ =>
      codeAny (model prog w) A (.compStart (.ListComp elt [⟨.Name x px, iter, ifs, 0⟩] scope pos) 0 (.ref I) acc { cenv with scope := relabel scope env }) (RR acc cenv.locals) s₄) E s₃) E s₂ := by
  refine wpAny_newObj_type (newEnv_comp ?_)
  dsimp only
  generalize hH2 : s₂.heap.push { cls := .type "list", dict := none, data := .seq ([] : List Value).toArray } = H2
  have hC : H2.objs.size = s₂.heap.objs.size + 1 := by rw [← hH2, Heap.size_push]
  generalize hH3 : H2.push { cls := .type "dict", data := .dict #[] } = H3
  have hC3 : H3.objs.size = s₂.heap.objs.size + 2 := by rw [← hH3, Heap.size_push, hC]
  have old3 : ∀ b o, s₂.heap.get? b = some o → H3.get? b = some o := fun b o e => hH3 ▸ Heap.get?_push_of_some _ (hH2 ▸ Heap.get?_push_of_some _ e)
  have ns3 : H3.Ns H2.objs.size fun _ => none := hH3 ▸ Heap.Ns.new H2 _
  have d3 : H3.PlainList s₂.heap.objs.size #[] := ⟨_, hH3 ▸ Heap.get?_push_of_some _ (hH2 ▸ Heap.get?_push_size _ rfl)⟩
  have hus := u.size
  have key : ∀ (z : Nat) (H : Heap), (z = H2.objs.size ∨ z = H2.objs.size + 1) → H2.objs.size < H.objs.size → z < H.objs.size → (∀ b o, H3.get? b = some o → H.get? b = some o) → Ready H2.objs.size z H →
      SlotOf (compEnvC scope (cellsFrom (H2.objs.size + 1) scope.names cl) H2.objs.size env) x H2.objs.size z →
      codeAny (model prog w) A (.compStart (.ListComp elt [⟨.Name x px, iter, ifs, 0⟩] scope pos) 0 (.ref I) (.ref s₂.heap.objs.size) (compEnvC scope (cellsFrom (H2.objs.size + 1) scope.names cl) H2.objs.size env))
        (RR (.ref s₂.heap.objs.size) H2.objs.size) { s₂ with heap := H } := by
    intro z H hz hCH hzH hk hr S
    have u₅ : Up s { s₂ with heap := H } := u.trans ⟨⟨_, _, rfl⟩, fun b o _ e => hk b o (old3 b o e), by show s₂.heap.objs.size ≤ H.objs.size; omega⟩
    have hst₅ : St 0 H := W.frame _ _ _ hst fun b _ o e => hk b o (old3 b o e)
    have ne : ∀ b : Nat, s₂.heap.objs.size ≤ b → b ∉ fp := fun b hb hm => by have := hfp b hm; omega
    have loop : codeAny (model prog w) A (.compLoop (.ListComp elt [⟨.Name x px, iter, ifs, 0⟩] scope pos) 0 (.ref I) (.ref s₂.heap.objs.size) (compEnvC scope (cellsFrom (H2.objs.size + 1) scope.names cl) H2.objs.size env))
        (RR (.ref s₂.heap.objs.size) H2.objs.size) { s₂ with heap := H } := by
      refine comp_loop (s := s) (C := H2.objs.size) (z := z) W p G hsz S (ne _ (Nat.le_refl _)) (ne _ (by omega)) (ne _ (by omega)) (by show s₂.heap.objs.size ≠ H2.objs.size; omega) (by show s₂.heap.objs.size ≠ z; omega) ?_ u₅ hst₅ (d3.at fun o e => hk _ _ e) hr
        (fun i v s₃ => htests _ i v s₃) (fun i v s₃ => helt _ i v s₃) fun s' ys u' r' hl hz' hP => ?_
      · intro b hb
        show _ ∧ b < H.objs.size
        rcases hb with hb | hb | hb | hb
        · have h1 := hwr b hb
          have h2 := hfp b (W.sub b hb)
          omega
        · omega
        · omega
        · omega
      · refine hR _ _ H.objs.size s' ys u' hus (by show s₂.heap.objs.size ≠ H2.objs.size; omega) (by show s.heap.objs.size ≤ H2.objs.size; omega) (by show H2.objs.size < H.objs.size; omega) (by show s₂.heap.objs.size < H.objs.size; omega) hz' r'.1 hl hP
    exact codeAny_compStart_list loop (W.self 0 _ _ _ hst₅ loop)
  rw [B.pc]
  cases cellx with
  | false =>
    refine key H2.objs.size H3 (.inl rfl) (by omega) (by omega) (fun _ _ e => e) ⟨⟨_, ns3⟩, fun q => absurd rfl q⟩ ⟨rfl, B.kind, .inl ⟨rfl, lookup_relabel_local B.look⟩⟩
  | true =>
    have e4 : (H3.push { cls := .type "cell", data := .cell none }).objs.size = H2.objs.size + 2 := by rw [Heap.size_push, hC3, hC]
    have e5 : H3.objs.size = H2.objs.size + 1 := by omega
    refine key (H2.objs.size + 1) (H3.push { cls := .type "cell", data := .cell none }) (.inr rfl) (by omega) (by omega) (fun _ _ e => Heap.get?_push_of_some _ e) ⟨⟨_, ns3.push _⟩, fun _ => ⟨none, _, by rw [← e5]; exact Heap.get?_push_size _ rfl, rfl⟩⟩ ⟨rfl, B.kind, .inr ⟨Nat.succ_ne_self _, lookup_relabel_cell B.look, ?_⟩⟩
    show List.lookup x (cellsFrom (H2.objs.size + 1) scope.names cl) = _
    rw [B.cf]
    simp

/-- a list D of ys, the items by G -/
def LstG (D : Addr) (ys : List Value) (G : Nat → Value → Heap → Prop) (is : List Nat) (h : Heap) : Prop := h.PlainList D ys.toArray ∧ Paired (fun i y => G i y h) is ys

theorem comp_eval {elt iter : Expr} {x : Str} {px : Pos} {ifs : List Expr} {scope : Scope} {cl : List (Str × Addr)} {pos : Pos} {ro : Addr → Prop} {n : Nat} {P : Nat → Value → Prop} {cellx : Bool} {Q : Value → Shared → Prop}
    (hclos : closureFor scope env = pure cl) (B : Blk scope cl x cellx) (S : Src prog w A env iter s ro n P) (hsz : n ≤ sizeLine) (p : Nat → Bool) (G : Nat → Value → Heap → Prop)
    (htests : ∀ C i v s₃, i < n → P i v → Up s s₃ → Var (compEnvC scope (cellsFrom (C + 1) scope.names cl) C env) x v s₃.heap →
      wpAny (model prog w) A (forIn ifs true fun c r => if r = true then do let ok ← isTrue c (compEnvC scope (cellsFrom (C + 1) scope.names cl) C env) (eval c (compEnvC scope (cellsFrom (C + 1) scope.names cl) C env)); pure (ForInStep.yield ok) else pure (ForInStep.yield r)) (fun ok s₄ => ok = p i ∧ Up s₃ s₄) NoE s₃)
    (helt : ∀ C i v s₃, i < n → P i v → p i = true → Up s s₃ → Var (compEnvC scope (cellsFrom (C + 1) scope.names cl) C env) x v s₃.heap →
      wpAny (model prog w) A (eval elt (compEnvC scope (cellsFrom (C + 1) scope.names cl) C env)) (fun y s₄ => Up s₃ s₄ ∧ Own s₃.heap.objs.size (G i y) s₄.heap) NoE s₃)
    (k : ∀ D ys s', Up s s' → s.heap.objs.size ≤ D → Own s.heap.objs.size (LstG D ys G ((List.range n).filter p)) s'.heap → Q (.ref D) s')
    (hs : ∀ x, foldedSetIterable iter env x = pure x := by intro _; rfl) :
    wpAny (model prog w) A (eval (.ListComp elt [⟨.Name x px, iter, ifs, 0⟩] scope pos) env) Q E s := by
  rw [eval_ListComp]
  refine wpAny_comprehension_free (use := none) rfl hs hclos B.kind B.names (S _ _ fun I fp wr St s₂ W hst u hwr hfp => ?_)
  refine comp_core (RR := fun acc C => compPost (model prog w) A E none Q acc C) B W hsz p G u hst hwr (fun b hb => (hfp b hb).1) htests helt ?_
  intro D C j s' ys u' hD hDC hC hCj hDj hj hn hl hP
  obtain ⟨m, hn⟩ := hn
  refine ⟨m, hn, fun h'' hs'' => ?_⟩
  have u'' : Up s { s' with heap := h'' } := ((u'.up (X := fun b => b = C)).trans ⟨⟨_, _, rfl⟩, fun b o q e => hs''.extBut b o q e, Nat.le_of_eq hs''.1.symm⟩).drop (Y := fun _ => False) fun b hb hl => absurd (hb ▸ hC) (Nat.not_le.mpr hl)
  refine k D ys _ u'' hD ?_
  intro h3 k3
  have k4 : ∀ b o, j ≤ b → s'.heap.get? b = some o → h3.get? b = some o := fun b o hb e => k3 b o (by exact Nat.le_trans (Nat.le_trans hC (Nat.le_of_lt hCj)) hb) (hs''.extBut b o (fun q => absurd hCj (by rw [← q]; exact Nat.not_lt.mpr hb)) e)
  exact ⟨hl.at fun o e => k3 D o hD (hs''.extBut D o hDC e), Paired.imp hP fun i y q => q h3 k4⟩

theorem comp_assign {elt iter : Expr} {x y : Str} {px py : Pos} {ifs : List Expr} {scope : Scope} {cl : List (Str × Addr)} {pos spos : Pos} {ro : Addr → Prop} {n : Nat} {P : Nat → Value → Prop} {cellx : Bool} {Q : Flow → Shared → Prop} {m : Str → Option Value}
    (hsw : swapsWith (.ListComp elt [⟨.Name x px, iter, ifs, 0⟩] scope pos) (some (.Name y py)) spos.line env = pure true) (hy : env.kindOf y = some .local) (hk : env.scope.kind = .function) (hm : s.heap.Ns env.locals m)
    (hclos : closureFor scope env = pure cl) (B : Blk scope cl x cellx) (S : Src prog w A env iter s ro n P) (hsz : n ≤ sizeLine) (p : Nat → Bool) (G : Nat → Value → Heap → Prop)
    (htests : ∀ C i v s₃, i < n → P i v → Up s s₃ → Var (compEnvC scope (cellsFrom (C + 1) scope.names cl) C env) x v s₃.heap →
      wpAny (model prog w) A (forIn ifs true fun c r => if r = true then do let ok ← isTrue c (compEnvC scope (cellsFrom (C + 1) scope.names cl) C env) (eval c (compEnvC scope (cellsFrom (C + 1) scope.names cl) C env)); pure (ForInStep.yield ok) else pure (ForInStep.yield r)) (fun ok s₄ => ok = p i ∧ Up s₃ s₄) NoE s₃)
    (helt : ∀ C i v s₃, i < n → P i v → p i = true → Up s s₃ → Var (compEnvC scope (cellsFrom (C + 1) scope.names cl) C env) x v s₃.heap →
      wpAny (model prog w) A (eval elt (compEnvC scope (cellsFrom (C + 1) scope.names cl) C env)) (fun y s₄ => Up s₃ s₄ ∧ Own s₃.heap.objs.size (G i y) s₄.heap) NoE s₃)
    (k : ∀ D ys s', But (· = env.locals) s s' → s.heap.objs.size ≤ D → s'.heap.Ns env.locals (fun z => if z = y then some (.ref D) else m z) → Own s.heap.objs.size (LstG D ys G ((List.range n).filter p)) s'.heap → Q .next s')
    (hs : ∀ x, foldedSetIterable iter env x = pure x := by intro _; rfl) :
    wpAny (model prog w) A (exec (.Assign [.Name y py] (.ListComp elt [⟨.Name x px, iter, ifs, 0⟩] scope pos) spos) env) Q E s := by
  rw [exec_Assign_Name_used _ _ _ _ hsw]
  refine wpAny_bind (wpAny_standAt (wpAny_bind ?_))
  show wpAny _ A (do let _ ← comprehension (.ListComp elt [⟨.Name x px, iter, ifs, 0⟩] scope pos) scope env _ (newList []) false (eval iter env) (some (assign (.Name y py) env))) _ _ s
  refine wpAny_bind (wpAny_mono (wpAny_comprehension_free (use := some (assign (.Name y py) env)) (Q := fun _ s' => Q .next s') rfl hs hclos B.kind B.names
    (S _ _ fun I fp wr St s₂ W hst u hwr hfp => ?_)) (fun _ s' hq => wpAny_pure (wpAny_pure hq)) fun _ _ e => e)
  refine comp_core (RR := fun acc C => compPost (model prog w) A E (some (assign (.Name y py) env)) (fun _ s' => Q .next s') acc C) B W hsz p G u hst hwr (fun b hb => (hfp b hb).1) htests helt ?_
  intro D C j s' ys u' hD hDC hC hCj hDj hj hn hl hP
  obtain ⟨m', hn⟩ := hn
  have hL := hm.lt
  have hLC : env.locals ≠ C := fun e => absurd hC (Nat.not_le.mpr (e ▸ hL))
  have hLD : env.locals ≠ D := fun e => absurd hD (Nat.not_le.mpr (e ▸ hL))
  show wpAny _ A (assign (.Name y py) env (.ref D)) _ _ _
  refine wpAny_assign_Name (wpAny_storeName_local hy (hm.keeps u'.le) (fun h₂ hn₂ hs₂ => ?_) (by rw [hk]; rfl))
  refine ⟨m', hn.sameBut hs₂ (Ne.symm hLC), fun h₃ hs₃ => ?_⟩
  have kk : ∀ b o, b ≠ env.locals → b ≠ C → s'.heap.get? b = some o → h₃.get? b = some o := fun b o q1 q2 e => hs₃.extBut b o q2 (hs₂.extBut b o q1 e)
  refine k D ys _ ?_ hD (hn₂.sameBut hs₃ hLC) ?_
  · have b1 : But (fun b => b = env.locals ∨ b = C) s' { s' with heap := h₃, toks := s'.toks + 1 } := ⟨⟨_, _, rfl⟩, fun b o q e => kk b o (fun q' => q (.inl q')) (fun q' => q (.inr q')) e, by show s'.heap.objs.size ≤ h₃.objs.size; rw [hs₃.1, hs₂.1]; exact Nat.le_refl _⟩
    exact ((u'.up (X := fun b => b = env.locals ∨ b = C)).trans b1).drop fun b hb hl => by
      rcases hb with hb | hb
      · exact hb
      · exact absurd (hb ▸ hC) (Nat.not_le.mpr hl)
  · intro h3 k3
    have big : ∀ b : Nat, s.heap.objs.size ≤ b → b ≠ env.locals := fun b hb e => absurd hb (Nat.not_le.mpr (e ▸ hL))
    have k4 : ∀ b o, j ≤ b → s'.heap.get? b = some o → h3.get? b = some o := fun b o hb e => by
      have hb' : s.heap.objs.size ≤ b := Nat.le_trans (Nat.le_trans hC (Nat.le_of_lt hCj)) hb
      exact k3 b o hb' (kk b o (big b hb') (fun q => absurd hCj (by rw [← q]; exact Nat.not_lt.mpr hb)) e)
    exact ⟨hl.at fun o e => k3 D o hD (kk D o (Ne.symm hLD) hDC e), Paired.imp hP fun i y q => q h3 k4⟩
end
end Mine

/-! Lay4 -/
namespace Mine

noncomputable abbrev KK (w : World) : Frag := hd.heap_39 w.params
/-- what the top has laid -/
structure Gl (w : World) (h : Heap) : Prop where
  x : (KK w).In h
  g : ∃ mg, h.Ns mainGlobals mg
  b : ∃ mb, h.Ns builtinsNs mb ∧ ∀ x : Str, x ≠ "__name__" → mb x = bootBuiltins x
  lim : h.NoLimit
theorem Gl.le {w : World} {h h' : Heap} (G : Gl w h) (k : ∀ b o, h.get? b = some o → h'.get? b = some o) : Gl w h' :=
  ⟨G.x.keeps k, let ⟨m, e⟩ := G.g; ⟨m, e.keeps k⟩, let ⟨m, e, r⟩ := G.b; ⟨m, e.keeps k, r⟩, G.lim.keeps k⟩
theorem Gl.up {w : World} {s s' : Shared} (G : Gl w s.heap) (u : Up s s') : Gl w s'.heap := G.le u.le

section
variable {M : Model} {w : World} {A : Around} {s : Shared} {E : Value → Shared → Prop} {env : Env} {x : Str} {v : Value} {pos : Pos} {Q : Value → Shared → Prop}
theorem name_glob (G : Gl w s.heap) (e : nsIn (KK w) mainGlobals x = some (some v)) (h : Q v s) (hk : env.scope.kind = .function := by rfl) (hx : env.kindOf x = some .globalImplicit := by rfl) (hg : env.globals = mainGlobals := by rfl)
    (hd : (x == ("__debug__" : Str)) = false := by decide) : wpAny M A (eval (.Name x pos) env) Q E s := by
  obtain ⟨mg, hmg⟩ := G.g
  exact Name_function_global hk hx (loadGlobal_global (hg ▸ hmg) (mg_of G.x hmg e) h) hd
theorem name_boot (G : Gl w s.heap) (e : nsIn (KK w) mainGlobals x = some none) (hv : bootBuiltins x = some v) (h : Q v s) (hk : env.scope.kind = .function := by rfl) (hx : env.kindOf x = some .globalImplicit := by rfl) (hg : env.globals = mainGlobals := by rfl) (hb : env.builtins = builtinsNs := by rfl)
    (hn : x ≠ "__name__" := by decide) (hd : (x == ("__debug__" : Str)) = false := by decide) : wpAny M A (eval (.Name x pos) env) Q E s := by
  obtain ⟨mg, hmg⟩ := G.g
  obtain ⟨mb, hmb, hbt⟩ := G.b
  exact Name_function_global hk hx (loadGlobal_builtin (hg ▸ hmg) (mg_none_of G.x hmg e) (hb ▸ hmb) ((hbt x hn).trans hv) h) hd
end

section
variable {prog : Program} {w : World} {A : Around} {E : Value → Shared → Prop} {s : Shared} {env : Env} {iter : Expr}
theorem src_range {a b : Int} {n : Nat} (hh : A.handled = none) (hsmall : Builtin.Range.small a b 1 = true) (hn : Builtin.Range.rangeSize a b 1 = (n : Int))
    (hev : ∀ (Q : Value → Shared → Prop) (E : Value → Shared → Prop), (∀ s₁ r t u v, Up s s₁ → s.heap.objs.size ≤ r → IsRange s₁.heap r a b 1 t u v → Q (.ref r) s₁) → wpAny (model prog w) A (eval iter env) Q E s) :
    Src prog w A env iter s (fun _ => False) n (fun i v => ∃ t, v = .int (a + i) t) := by
  intro Q E k
  refine hev _ _ fun s₁ r t u' v' u hr hrg => wpAny_pyIter_range hrg hsmall ?_
  have W : Walks prog w A s₁.heap.objs.size [s₁.heap.objs.size] [s₁.heap.objs.size] n (fun i v => ∃ t, v = .int (a + i) t) (fun i h => IsRangeIter h s₁.heap.objs.size (a + (i : Nat)) ((n : Int) - (i : Nat)) 1) := by
    have := Walks.range (prog := prog) (w := w) hh s₁.heap.objs.size a 1 n
    simp only [Int.mul_one] at this
    exact this
  have z : (s₁.heap.push { cls := .type "range_iterator", data := .fields #[rawInt a, rawInt (Builtin.Range.rangeSize a b 1), rawInt 1] }).objs.size = s₁.heap.objs.size + 1 := Heap.size_push ..
  have us := u.size
  refine k s₁.heap.objs.size _ _ _ _ W ?_ (u.trans (Up.push s₁ _ _)) (fun b hb => ?_) fun b hb => ?_
  · have : ({ s₁ with heap := s₁.heap.push { cls := .type "range_iterator", data := .fields #[rawInt a, rawInt (Builtin.Range.rangeSize a b 1), rawInt 1] } } : Shared).heap.get? s₁.heap.objs.size = some { cls := .type "range_iterator", data := .fields #[rawInt a, rawInt (Builtin.Range.rangeSize a b 1), rawInt 1] } := Heap.get?_push_size _ rfl
    rw [hn] at this
    show IsRangeIter _ _ _ _ _
    simpa [hn] using this
  · rw [List.mem_singleton] at hb; omega
  · show b < (s₁.heap.push _).objs.size ∧ _
    rw [z]
    rw [List.mem_singleton] at hb
    exact ⟨by omega, .inl (by omega)⟩
theorem src_str {x : Str} {t : Tok} (hh : A.handled = none) (hev : ∀ (Q : Value → Shared → Prop) (E : Value → Shared → Prop), (∀ s₁, Up s s₁ → Q (.str x t) s₁) → wpAny (model prog w) A (eval iter env) Q E s) :
    Src prog w A env iter s (fun _ => False) x.cps.size (SignAt x) := by
  intro Q E k
  refine hev _ _ fun s₁ u => wpAny_pyIter_str fun o St W st => ?_
  have z : (s₁.heap.push o).objs.size = s₁.heap.objs.size + 1 := Heap.size_push ..
  have us := u.size
  refine k s₁.heap.objs.size _ _ _ _ (W A hh) st (u.trans (Up.push s₁ _ _)) (fun b hb => ?_) fun b hb => ?_
  · rw [List.mem_singleton] at hb; omega
  · show b < (s₁.heap.push _).objs.size ∧ _
    rw [z]
    rw [List.mem_singleton] at hb
    exact ⟨by omega, .inl (by omega)⟩

theorem for_rule {x : Str} {px pos : Pos} {body : List Stmt} {ro : Addr → Prop} {n : Nat} {P : Nat → Value → Prop} {Q : Flow → Shared → Prop} (S : Src prog w A env iter s ro n P) (X : Addr → Prop) (hX : ∀ b : Nat, X b → b < s.heap.objs.size) (hro : ∀ b, ro b → ¬ X b)
    (J : Nat → Heap → Prop) (h0 : ∀ h' : Heap, (∀ b o, s.heap.get? b = some o → h'.get? b = some o) → J 0 h')
    (turn : ∀ (k₀ : Nat) i v s₁, s.heap.objs.size ≤ k₀ → k₀ ≤ s₁.heap.objs.size → i < n → P i v → But X s s₁ → J i s₁.heap →
      wpAny (model prog w) A (storeName env x v) (fun _ s₂ => wpAny (model prog w) A (execs body env) (fun f s₃ => match f with
        | .ret v => Q (.ret v) s₃
        | .brk => Q .next s₃
        | _ => But (fun b => X b ∨ k₀ ≤ b) s₁ s₃ ∧ ∀ h' : Heap, (∀ (b : Nat) o, (b < s.heap.objs.size ∨ k₀ ≤ b) → s₃.heap.get? b = some o → h'.get? b = some o) → J (i + 1) h') NoE s₂) NoE s₁)
    (done : ∀ s', But X s s' → J n s'.heap → Q .next s')
    (hs : ∀ x, foldedSetIterable iter env x = pure x := by intro _; rfl) :
    wpAny (model prog w) A (exec (.For (.Name x px) iter body [] pos) env) Q E s := by
  refine wpAny_For (S _ _ fun I fp wr St s₂ W hst u hwr hfp => ?_) hs
  have us := u.size
  refine codeAny_forLoop (fun k s' => ∃ i, But X s s' ∧ St i s'.heap ∧ s₂.heap.objs.size ≤ s'.heap.objs.size ∧ i ≤ n ∧ k = n + 1 - i ∧
    ∀ h' : Heap, (∀ (b : Nat) o, (b < s.heap.objs.size ∨ s₂.heap.objs.size ≤ b) → s'.heap.get? b = some o → h'.get? b = some o) → J i h') ?_ (n + 1)
    ⟨0, u.up, hst, Nat.le_refl _, Nat.zero_le _, rfl, fun h' k => ?_⟩
  · rintro k s' ⟨i, b, st, hz, hi, rfl, hJ⟩
    have hwr2 : ∀ b : Nat, b ∈ wr → b < s₂.heap.objs.size := fun b hb => (hfp b (W.sub b hb)).1
    by_cases hlt : i < n
    · refine any_size (W.item i _ _ _ hlt st fun v h₁ tk₁ hPv st₁ k₁ z₁ => ?_)
      have b₁ : But X s { s' with heap := h₁, toks := tk₁ } := ((b.mono (Y := fun b => X b ∨ b ∈ wr) (fun _ q => .inl q)).trans ⟨⟨_, _, rfl⟩, fun b o q e => k₁ b o (fun q' => q (.inr q')) e, z₁⟩).drop fun b hb hl => by
        rcases hb with hb | hb
        · exact hb
        · exact absurd (hwr b hb) (Nat.not_le.mpr hl)
      have hJ₁ : J i h₁ := hJ h₁ fun b o hb e => k₁ b o (fun q => by have h1 := hwr b q; have h2 := hwr2 b q; omega) e
      refine wpAny_assign_Name (noE (wpAny_mono (turn s₂.heap.objs.size i v _ us (Nat.le_trans hz z₁) hlt hPv b₁ hJ₁) (fun _ s₃ h₃ => noE (wpAny_mono h₃ (fun f s₄ h₄ => ?_) fun _ _ q => q.elim)) fun _ _ q => q.elim))
      have nx : But (fun b => X b ∨ s₂.heap.objs.size ≤ b) { s' with heap := h₁, toks := tk₁ } s₄ → (∀ h' : Heap, (∀ (b : Nat) o, (b < s.heap.objs.size ∨ s₂.heap.objs.size ≤ b) → s₄.heap.get? b = some o → h'.get? b = some o) → J (i + 1) h') →
          ∃ m, m < n + 1 - i ∧ ∃ i, But X s s₄ ∧ St i s₄.heap ∧ s₂.heap.objs.size ≤ s₄.heap.objs.size ∧ i ≤ n ∧ m = n + 1 - i ∧
            ∀ h' : Heap, (∀ (b : Nat) o, (b < s.heap.objs.size ∨ s₂.heap.objs.size ≤ b) → s₄.heap.get? b = some o → h'.get? b = some o) → J i h' := fun b₄ hJ₄ => by
        refine ⟨n + 1 - (i + 1), by omega, i + 1, ?_, ?_, Nat.le_trans hz (Nat.le_trans z₁ b₄.size), hlt, rfl, hJ₄⟩
        · exact ((b₁.mono (Y := fun b => X b ∨ s₂.heap.objs.size ≤ b) fun _ q => .inl q).trans b₄).drop fun b hb hl => by
            rcases hb with hb | hb
            · exact hb
            · exact absurd (Nat.le_trans us hb) (Nat.not_le.mpr hl)
        · refine W.frame _ _ _ st₁ fun b hb o e => b₄.keep b o (fun q => ?_) e
          have h1 := hfp b hb
          rcases q with q | q
          · rcases h1.2 with h2 | h2
            · exact absurd (hX b q) (Nat.not_lt.mpr h2)
            · exact hro b h2 q
          · exact absurd h1.1 (Nat.not_lt.mpr q)
      cases f with
      | next => exact nx h₄.1 h₄.2
      | cont => exact nx h₄.1 h₄.2
      | brk => exact h₄
      | ret v => exact h₄
    · have e : i = n := by omega
      subst e
      refine any_size (W.done _ _ _ st fun h₁ tk₁ k₁ z₁ => wpAny_execs_nil ?_)
      refine done _ (((b.mono (Y := fun b => X b ∨ b ∈ wr) (fun _ q => .inl q)).trans ⟨⟨_, _, rfl⟩, fun b o q e => k₁ b o (fun q' => q (.inr q')) e, z₁⟩).drop fun b hb hl => by
        rcases hb with hb | hb
        · exact hb
        · exact absurd (hwr b hb) (Nat.not_le.mpr hl)) (hJ h₁ fun b o hb e => k₁ b o (fun q => by have h1 := hwr b q; have h2 := hwr2 b q; omega) e)
  · exact h0 h' fun b o e => k b o (.inl (Heap.lt_size e)) (u.le b o e)
end
end Mine

/-! Lay5 -/
namespace Mine

/-- in a frame: the locals are m, all of s₀ stands -/
structure In (s₀ : Shared) (L : Addr) (m : Str → Option Value) (s : Shared) : Prop where
  up : Up s₀ s
  ns : s.heap.Ns L m
  new : s₀.heap.objs.size ≤ L
theorem In.le {s₀ s s' : Shared} {L : Addr} {m : Str → Option Value} (I : In s₀ L m s) (u : Up s s') : In s₀ L m s' := ⟨I.up.trans u, I.ns.keeps u.le, I.new⟩
/-- a turn that changes the frame alone, or new things -/
theorem In.but {s₀ s s' : Shared} {L : Addr} {m m' : Str → Option Value} {X : Addr → Prop} (I : In s₀ L m s) (b : But X s s') (hX : ∀ b : Nat, X b → s₀.heap.objs.size ≤ b) (n : s'.heap.Ns L m') : In s₀ L m' s' :=
  ⟨(I.up.up (X := X) |>.trans b).drop (Y := fun _ => False) fun b hb hl => absurd (hX b hb) (Nat.not_le.mpr hl), n, I.new⟩

section
variable {M : Model} {A : Around} {s s₀ : Shared} {E : Value → Shared → Prop} {env : Env} {L : Addr} {m : Str → Option Value} {x : Str} {v : Value}
theorem In.name {pos : Pos} {Q : Value → Shared → Prop} (I : In s₀ L m s) (hv : m x = some v) (h : Q v s) (he : env.locals = L := by rfl) (hl : env.kindOf x = some .local := by rfl) (hk : env.scope.kind = .function := by rfl) (hd : (x == ("__debug__" : Str)) = false := by decide) : wpAny M A (eval (.Name x pos) env) Q E s :=
  wpAny_Name (wpAny_loadName_local hk hl (he ▸ I.ns) hv h) hd
theorem In.store {Q : Unit → Shared → Prop} (I : In s₀ L m s) (h : ∀ s', In s₀ L (fun y => if y = x then some v else m y) s' → But (· = L) s s' → Q () s') (he : env.locals = L := by rfl) (hl : env.kindOf x = some .local := by rfl) (hk : env.scope.kind = .function := by rfl) : wpAny M A (storeName env x v) Q E s := by
  subst he
  refine wpAny_storeName_local hl I.ns (fun h' hn' hs => ?_) (by rw [hk]; rfl)
  have b : But (· = env.locals) s { s with heap := h', toks := s.toks + 1 } := ⟨⟨_, _, rfl⟩, fun b o q e => hs.extBut b o q e, Nat.le_of_eq hs.1.symm⟩
  exact h _ (I.but b (fun b hb => hb ▸ I.new) hn') b
end

section
variable {M : Model} {A : Around} {s : Shared} {E : Value → Shared → Prop} {env : Env}
theorem const_str {x : Str} {k : Nat} {pos : Pos} {Q : Value → Shared → Prop} (h : Q (.str x s.toks) { s with toks := s.toks + 1 }) : wpAny M A (eval (.Constant (.str x) k pos) env) Q E s := wpAny_mkText h
theorem const_bool {b : Bool} {k : Nat} {pos : Pos} {Q : Value → Shared → Prop} (h : Q (.bool b) s) : wpAny M A (eval (.Constant (.bool b) k pos) env) Q E s := wpAny_pure h
end

/-- the parts of a def -/
def dBody : Stmt → List Stmt
  | .FunctionDef _ _ b .. => b
  | _ => []
def dScope : Stmt → Scope
  | .FunctionDef _ _ _ _ _ _ sc _ _ _ => sc
  | _ => default
def dParams : Stmt → Arguments
  | .FunctionDef _ a .. => a
  | _ => ⟨[], [], none, [], [], none, []⟩
def dName : Stmt → Str
  | .FunctionDef n .. => n
  | _ => ""
def cBody : Stmt → List Stmt
  | .ClassDef _ _ _ b .. => b
  | _ => []
def nth (l : List Stmt) (i : Nat) : Stmt := match l.drop i with
  | st :: _ => st
  | [] => .Pass ⟨0, 0, 0, 0⟩
def topS (i : Nat) : Stmt := nth PySem.Challenge.pw_mj0182_01.main.body i
def clsS (i : Nat) : Stmt := nth (cBody (topS 4)) i
/-- a def of the text's as it lies in the heap -/
def fdOf (st : Stmt) (qual : Str) (pm cd : Value) : FuncData := fnOf (dName st) qual (dParams st) (dBody st) (dScope st) .none .none .none pm none cd .none
section
variable {prog : Program} {w : World} {A : Around} {s : Shared} {E : Value → Shared → Prop}
/-- what is known of a def -/
structure DefAt (w : World) (f : Addr) (fd : FuncData) (body : List Stmt) : Prop where
  at_ : (KK w).lookup f = some { cls := .type "function", data := .func fd }
  code : codeIn (KK w) fd.code fd.qualname = true
  body : fd.body = .stmts body
  co : fd.scope.isCoroutine = false
  gen : fd.scope.isGenerator = false
  kind : fd.scope.kind = .function
/-- a call of a def of the text's, without cells -/
theorem enter {f : Addr} {fd : FuncData} {vals : List Value} {body : List Stmt} (binds : List (Str × Value)) {Q : Value → Shared → Prop} (D : DefAt w f fd body) (G : Gl w s.heap) (hroom : A.depth < recursionLimit)
    (hbind : bindArgs fd ⟨vals, []⟩ = pure binds) (hcell : (fd.scope.names.all fun x => !(x.2 == .cell)) = true) (hloc : (binds.all fun x => decide (fd.scope.names.lookup x.1 = some .local)) = true)
    (h : ∀ s₁, In s s.heap.objs.size (fun x => binds.reverse.lookup x) s₁ → wpAny (model prog w) (A.deeper (callEnv fd s.heap.objs.size f)) (execs body (callEnv fd s.heap.objs.size f))
      (fun fl s' => Q (match fl with | .ret v => v | _ => .none) s') NoE s₁) :
    wpAny (model prog w) A (call (.ref f) vals) Q E s := by
  refine wpAny_call (codeAny_call_straight hroom (G.x _ _ D.at_) rfl G.lim (codeRec_of G.x D.code) D.body hbind (fun x hx e => ?_) (locs hloc) (fun s₁ I => ?_) D.co D.gen D.kind)
  · have := List.all_eq_true.mp hcell x hx
    rw [e] at this
    exact absurd this (by decide)
  have u : Up s s₁ := by
    obtain ⟨h, tk, rfl⟩ := I.same
    refine ⟨⟨_, _, rfl⟩, fun b o _ e => I.keep b o e, ?_⟩
    have := I.ns.lt
    exact Nat.le_of_lt (Nat.lt_of_le_of_lt I.fresh this)
  exact wpAny_mono (h s₁ ⟨u, I.ns, I.fresh⟩) (fun fl s' q => q) fun _ _ q => q.elim
end

/-! _law_column -/
def colStep (size : Int) (c : Int) (x : Nat) : Int := if x = 32 then c + 1 else (c.fdiv size + 1) * size
def colF (xs : List Nat) (size : Int) : Int := xs.foldl (colStep size) 0

theorem col_bound (size : Int) (h1 : 1 ≤ size) (h6 : size ≤ 6) : ∀ (xs : List Nat) (c : Int), 0 ≤ c → 0 ≤ xs.foldl (colStep size) c ∧ xs.foldl (colStep size) c ≤ c + 6 * xs.length
  | [], c, h => by simp [h]
  | x :: xs, c, h => by
    have hd : c.fdiv size * size ≤ c ∧ c < c.fdiv size * size + size := by
      rw [Int.fdiv_eq_ediv_of_nonneg _ (by omega)]
      have e := Int.emod_add_ediv_mul c size
      have l := Int.emod_lt_of_pos c (show 0 < size by omega)
      have l0 := Int.emod_nonneg c (show size ≠ 0 by omega)
      omega
    have hs : 0 ≤ colStep size c x ∧ colStep size c x ≤ c + 6 := by
      unfold colStep
      split
      · omega
      · rw [Int.add_mul]; omega
    have ih := col_bound size h1 h6 xs (colStep size c x) hs.1
    simp only [List.foldl_cons, List.length_cons]
    push_cast
    omega

def fdCol : FuncData := fdOf (topS 7) "_law_column" (.str "law_mj0182_01" 312) (.ref 105)
theorem col_at (w : World) : DefAt w 106 fdCol (dBody (topS 7)) := ⟨by kernel_rfl, by kernel_rfl, rfl, rfl, rfl, rfl⟩
theorem col_bind (x y : Value) : bindArgs fdCol ⟨[x, y], []⟩ = pure [(("text" : Str), x), (("size" : Str), y)] := by kernel_rfl
section
variable {prog : Program} {w : World} {A : Around} {s : Shared} {E : Value → Shared → Prop}
set_option maxHeartbeats 1000000 in
theorem column_spec {x : Str} {t : Tok} {n : Int} {u : Tok} {Q : Value → Shared → Prop} (G : Gl w s.heap) (hh : A.handled = none) (hroom : A.depth < recursionLimit) (h1 : 1 ≤ n) (h6 : n ≤ 6) (hlen : x.cps.size ≤ 5)
    (k : ∀ s' tk, Up s s' → Q (.int (colF x.cps.toList n) tk) s') : wpAny (model prog w) A (call (.ref 106) [.str x t, .int n u]) Q E s := by
  refine enter _ (col_at w) G hroom (col_bind _ _) (by decide +kernel) (by kernel_rfl) fun s₁ I => ?_
  refine wpAny_execs_cons (wpAny_Assign_Name (wpAny_Constant_int ?_))
  refine In.store (I.le (Up.toks _ _)) fun s₂ I₂ b₂ => ?_
  refine wpAny_execs_cons ?_
  refine for_rule (src_str (x := x) (t := t) hh fun Q E k => In.name I₂ rfl (k _ (But.refl _))) (· = s.heap.objs.size) (fun b e => e ▸ I₂.ns.lt) (fun _ h => h.elim)
    (fun i h => ∃ m tk, h.Ns s.heap.objs.size m ∧ m "text" = some (.str x t) ∧ m "size" = some (.int n u) ∧ m "column" = some (.int (colF (x.cps.toList.take i) n) tk))
    (fun h' kk => ⟨_, _, I₂.ns.keeps kk, rfl, rfl, rfl⟩) ?_ ?_
  · rintro k₀ i v s₃ hk₀ hk₁ hi ⟨c, tk, hc, rfl⟩ b ⟨m, tk', hn, e1, e2, e3⟩
    have I₃ : In s s.heap.objs.size m s₃ := I₂.but b (fun b hb => hb ▸ Nat.le_refl _) hn
    refine In.store I₃ fun s₄ I₄ b₄ => ?_
    refine wpAny_execs_cons (wpAny_Assign_Name ?_)
    refine wpAny_IfExp (wpAny_isTrue_Compare1 (In.name I₄ rfl (const_str (eq_str (wpAny_truthy_bool ?_)))))
    have I₅ := I₄.le (Up.toks s₄ (s₄.toks + 1))
    have b₅ : But (· = s.heap.objs.size) s₃ { s₄ with toks := s₄.toks + 1 } := b₄.trans (Up.toks _ _).up
    have hct : x.cps.toList[i]? = some c := by simpa using hc
    have hcol : colF (x.cps.toList.take (i + 1)) n = colStep n (colF (x.cps.toList.take i) n) c := by
      unfold colF
      rw [List.take_add_one, hct, List.foldl_append]; rfl
    have hb := col_bound n h1 h6 (x.cps.toList.take i) 0 (by decide)
    have hl5 : (x.cps.toList.take i).length ≤ 5 := by rw [List.length_take]; simp; omega
    have hst : ∀ (s₇ : Shared) (m' : Str → Option Value), But (· = s.heap.objs.size) s₃ s₇ → In s s.heap.objs.size m' s₇ → m' "text" = some (.str x t) → m' "size" = some (.int n u) → (∃ tk, m' "column" = some (.int (colStep n (colF (x.cps.toList.take i) n) c) tk)) →
        But (fun b => b = s.heap.objs.size ∨ k₀ ≤ b) s₃ s₇ ∧ ∀ h' : Heap, (∀ (b : Nat) o, (b < s₂.heap.objs.size ∨ k₀ ≤ b) → s₇.heap.get? b = some o → h'.get? b = some o) →
          ∃ m tk, h'.Ns s.heap.objs.size m ∧ m "text" = some (.str x t) ∧ m "size" = some (.int n u) ∧ m "column" = some (.int (colF (x.cps.toList.take (i + 1)) n) tk) := by
      intro s₇ m' b₇ I₇ q1 q2 ⟨tk, q3⟩
      exact ⟨b₇.mono fun _ q => .inl q, fun h' hk => ⟨_, tk, I₇.ns.at' fun o e => hk _ o (.inl I₂.ns.lt) e, q1, q2, hcol ▸ q3⟩⟩
    refine split_bool (fun hq => ?_) (fun hq => ?_)
    · have hc32 : c = 32 := by
        have e : (⟨#[c]⟩ : Str) = Str.ofString " " := eq_of_beq hq
        have e' : (#[c] : Array Nat) = #[32] := congrArg Str.cps e
        simpa using e'
      refine wpAny_BinOp (In.name I₅ e3 (wpAny_Constant_int (add_int ?_)))
      refine In.store (I₅.le (Up.toks _ _)) fun s₇ I₇ b₇ => ?_
      refine wpAny_execs_nil (hst s₇ _ ((b₅.trans (Up.toks _ _).up).trans b₇) I₇ e1 e2 ?_)
      unfold colStep; rw [if_pos hc32]; exact ⟨_, rfl⟩
    · have hc32 : ¬ c = 32 := fun e => by subst e; exact absurd hq (by decide)
      refine wpAny_BinOp (wpAny_BinOp (wpAny_BinOp (In.name I₅ e3 (In.name I₅ e2 (floordiv_int (by omega) (wpAny_Constant_int (add_int (In.name (I₅.le (Up.toks _ _)) e2 (mul_int ?_ ?_)))) (.inl (PyProof.noPylong_small (by omega))))))))
      · refine In.store (I₅.le (Up.toks _ _)) fun s₇ I₇ b₇ => ?_
        refine wpAny_execs_nil (hst s₇ _ ((b₅.trans (Up.toks _ _).up).trans b₇) I₇ e1 e2 ?_)
        unfold colStep; rw [if_neg hc32]; exact ⟨_, rfl⟩
      · exact IntMulOk.of_right (intBits_le_64 (by omega) (by omega))
  · rintro s' b ⟨m, tk', hn, e1, e2, e3⟩
    have I₃ : In s s.heap.objs.size m s' := I₂.but b (fun b hb => hb ▸ Nat.le_refl _) hn
    refine wpAny_execs_cons (wpAny_Return_some (In.name I₃ e3 ?_))
    have e : x.cps.toList.take x.cps.size = x.cps.toList := List.take_of_length_le (by simp)
    have := k s' tk' I₃.up
    rw [← e] at this
    exact this
end
end Mine

/-! Lay6 -/
namespace Mine

/-- plain data -/
inductive Dt where
  | none
  | bool (b : Bool)
  | int (n : Int)
  | str (x : Str)
  | list (ds : List Dt)
  | tup (ds : List Dt)
  | ws (n nt : Int) (count : List Int) (trailing : Int)
  | ptr (a : Addr)

def Dt.imm : Dt → Bool
  | .none | .bool _ | .int _ | .str _ | .ptr _ => true
  | _ => false

mutual
/-- v shows d in h, no address of X is used -/
inductive Rep (X : Addr → Prop) (h : Heap) : Dt → Value → Prop
  | none : Rep X h .none .none
  | bool (b : Bool) : Rep X h (.bool b) (.bool b)
  | int (n : Int) (t : Tok) : Rep X h (.int n) (.int n t)
  | str (x : Str) (t : Tok) : Rep X h (.str x) (.str x t)
  | ptr (a : Addr) : Rep X h (.ptr a) (.ref a)
  | list {a : Addr} {ds : List Dt} {vs : List Value} : ¬ X a → h.IsList a vs.toArray → RepL X h ds vs → Rep X h (.list ds) (.ref a)
  | tup {a : Addr} {ds : List Dt} {vs : List Value} {k : Nat} : ¬ X a → h.get? a = some { cls := .type "tuple", data := .seq vs.toArray k } → RepL X h ds vs → Rep X h (.tup ds) (.ref a)
  | ws {x dx : Addr} {es : List DictEntry} {k : Nat} {n nt : Int} {count : List Int} {tr : Int} {tn tnt : Tok} {vn : Value} : ¬ X x → ¬ X dx → h.get? x = some (instObj 90 dx) → h.get? dx = some (dictOf es k) →
      getL "n" es = some (some (.int n tn)) → getL "nt" es = some (some (.int nt tnt)) → getL "is_simple" es = some (some (.bool (decide (count.length ≤ 1)))) → getL "norm" es = some (some vn) →
      (∀ nm : Str, nm = "less" ∨ nm = "longest_run_of_spaces" ∨ nm = "indent_level" → getL nm es = some none) →
      Rep X h (.tup [.tup (count.map .int), .int tr]) vn → Rep X h (.ws n nt count tr) (.ref x)
inductive RepL (X : Addr → Prop) (h : Heap) : List Dt → List Value → Prop
  | nil : RepL X h [] []
  | cons {d ds v vs} : Rep X h d v → RepL X h ds vs → RepL X h (d :: ds) (v :: vs)
end

mutual
theorem Rep.mono {X X' : Addr → Prop} {h h' : Heap} {d : Dt} {v : Value} (R : Rep X h d v) (k : ∀ b o, ¬ X b → h.get? b = some o → h'.get? b = some o ∧ ¬ X' b) : Rep X' h' d v :=
  match R with
  | .none => .none
  | .bool b => .bool b
  | .int n t => .int n t
  | .str x t => .str x t
  | .ptr a => .ptr a
  | .list nx pl r => let ⟨o, e, q⟩ := pl; .list (k _ _ nx e).2 ⟨o, (k _ _ nx e).1, q⟩ (r.mono k)
  | .tup nx e r => .tup (k _ _ nx e).2 (k _ _ nx e).1 (r.mono k)
  | .ws nx nd ex ed a b c d e r => .ws (k _ _ nx ex).2 (k _ _ nd ed).2 (k _ _ nx ex).1 (k _ _ nd ed).1 a b c d e (r.mono k)
theorem RepL.mono {X X' : Addr → Prop} {h h' : Heap} {ds : List Dt} {vs : List Value} (R : RepL X h ds vs) (k : ∀ b o, ¬ X b → h.get? b = some o → h'.get? b = some o ∧ ¬ X' b) : RepL X' h' ds vs :=
  match R with
  | .nil => .nil
  | .cons a r => .cons (a.mono k) (r.mono k)
end
theorem Rep.but {X : Addr → Prop} {s s' : Shared} {d : Dt} {v : Value} (R : Rep X s.heap d v) (b : But X s s') : Rep X s'.heap d v := R.mono fun _ _ n e => ⟨b.keep _ _ n e, n⟩
theorem Rep.up {X : Addr → Prop} {s s' : Shared} {d : Dt} {v : Value} (R : Rep X s.heap d v) (b : Up s s') : Rep X s'.heap d v := R.mono fun _ _ n e => ⟨b.le _ _ e, n⟩
theorem RepL.up {X : Addr → Prop} {s s' : Shared} {d : List Dt} {v : List Value} (R : RepL X s.heap d v) (b : Up s s') : RepL X s'.heap d v := R.mono fun _ _ n e => ⟨b.le _ _ e, n⟩
abbrev NoX : Addr → Prop := fun _ => False
theorem Rep.to0 {X : Addr → Prop} {h : Heap} {d : Dt} {v : Value} (R : Rep X h d v) : Rep NoX h d v := R.mono fun _ _ _ e => ⟨e, fun q => q⟩
theorem Rep.imm {X X' : Addr → Prop} {h h' : Heap} {d : Dt} {v : Value} (R : Rep X h d v) (i : d.imm = true) : Rep X' h' d v := by
  cases R <;> first | exact .none | exact .bool _ | exact .int _ _ | exact .str _ _ | exact .ptr _ | exact absurd i (by simp [Dt.imm])
theorem RepL.length {X : Addr → Prop} {h : Heap} : ∀ {ds : List Dt} {vs : List Value}, RepL X h ds vs → vs.length = ds.length
  | _, _, .nil => rfl
  | _, _, .cons _ r => by simp [RepL.length r]
theorem RepL.get {X : Addr → Prop} {h : Heap} : ∀ {ds : List Dt} {vs : List Value}, RepL X h ds vs → ∀ {i : Nat} {v : Value}, vs[i]? = some v → ∃ d, ds[i]? = some d ∧ Rep X h d v
  | _, _, .nil, i, v, e => by simp at e
  | _, _, .cons (d := d) a r, 0, v, e => by simp at e; subst e; exact ⟨d, rfl, a⟩
  | _, _, .cons a r, i + 1, v, e => by simpa using RepL.get r (by simpa using e)
theorem RepL.at {X : Addr → Prop} {h : Heap} : ∀ {ds : List Dt} {vs : List Value}, RepL X h ds vs → ∀ {i : Nat} {d : Dt}, ds[i]? = some d → ∃ v, vs[i]? = some v ∧ Rep X h d v
  | _, _, .nil, i, v, e => by simp at e
  | _, _, .cons (v := v) a r, 0, _, e => by simp at e; subst e; exact ⟨v, rfl, a⟩
  | _, _, .cons a r, i + 1, _, e => by simpa using RepL.at r (by simpa using e)
theorem RepL.append {X : Addr → Prop} {h : Heap} : ∀ {ds ds' : List Dt} {vs vs' : List Value}, RepL X h ds vs → RepL X h ds' vs' → RepL X h (ds ++ ds') (vs ++ vs')
  | _, _, _, _, .nil, r => r
  | _, _, _, _, .cons a q, r => .cons a (q.append r)
theorem RepL.paired {X : Addr → Prop} {h : Heap} {f : Nat → Dt} : ∀ {is : List Nat} {vs : List Value}, Paired (fun i y => Rep X h (f i) y) is vs → RepL X h (is.map f) vs
  | _, _, .nil => .nil
  | _, _, .cons a r => .cons a (RepL.paired r)
theorem Rep.int_inv {X : Addr → Prop} {h : Heap} {n : Int} {v : Value} (R : Rep X h (.int n) v) : ∃ t, v = .int n t := by cases R; exact ⟨_, rfl⟩
theorem Rep.bool_inv {X : Addr → Prop} {h : Heap} {b : Bool} {v : Value} (R : Rep X h (.bool b) v) : v = .bool b := by cases R; rfl
theorem Rep.str_inv {X : Addr → Prop} {h : Heap} {x : Str} {v : Value} (R : Rep X h (.str x) v) : ∃ t, v = .str x t := by cases R; exact ⟨_, rfl⟩
theorem Rep.ptr_inv {X : Addr → Prop} {h : Heap} {a : Addr} {v : Value} (R : Rep X h (.ptr a) v) : v = .ref a := by cases R; rfl
theorem Rep.none_inv {X : Addr → Prop} {h : Heap} {v : Value} (R : Rep X h .none v) : v = .none := by cases R; rfl
theorem Rep.list_inv {X : Addr → Prop} {h : Heap} {ds : List Dt} {v : Value} (R : Rep X h (.list ds) v) : ∃ a vs, v = .ref a ∧ ¬ X a ∧ h.IsList a vs.toArray ∧ RepL X h ds vs := by
  cases R with | list a b c => exact ⟨_, _, rfl, a, b, c⟩
theorem RepL.ints {X : Addr → Prop} {h : Heap} : ∀ {ns : List Int} {vs : List Value}, RepL X h (ns.map .int) vs → IntsAre vs ns := by
  intro ns
  induction ns with
  | nil => intro vs r; cases r; exact .nil
  | cons n ns ih => intro vs r; cases r with | cons a r => cases a; exact .cons _ _ (ih r)
theorem RepL.of_ints {X : Addr → Prop} {h : Heap} : ∀ {ns : List Int} {vs : List Value}, IntsAre vs ns → RepL X h (ns.map .int) vs
  | _, _, .nil => .nil
  | _, _, .cons n t r => .cons (.int n t) (RepL.of_ints r)

/-- x is a name that shows d -/
def Has (env : Env) (x : Str) (d : Dt) (h : Heap) : Prop := ∃ v, Var env x v h ∧ Rep NoX h d v
theorem Has.up {env : Env} {x : Str} {d : Dt} {s s' : Shared} (H : Has env x d s.heap) (u : Up s s') : Has env x d s'.heap := let ⟨v, a, b⟩ := H; ⟨v, a.le u.le, b.up u⟩

section
variable (prog : Program) (w : World) (A : Around)
/-- from any state above s, e gives a value that shows d; nothing old is changed -/
def Ev (X : Addr → Prop) (env : Env) (s : Shared) (e : Expr) (d : Dt) : Prop :=
  (∀ b : Nat, X b → b < s.heap.objs.size) → ∀ s₁, Up s s₁ → wpAny (model prog w) A (eval e env) (fun v s₂ => Up s₁ s₂ ∧ Rep X s₂.heap d v) NoE s₁
def Tst (env : Env) (s : Shared) (e : Expr) (b : Bool) : Prop :=
  ∀ s₁, Up s s₁ → wpAny (model prog w) A (isTrue e env (eval e env)) (fun r s₂ => r = b ∧ Up s₁ s₂) NoE s₁
/-- a list of arguments -/
def Evs (env : Env) (s : Shared) (pos : Pos) (es : List Expr) (ds : List Dt) : Prop :=
  ∀ s₁, Up s s₁ → wpAny (model prog w) A (spliced (backTo pos (starEach es env))) (fun vs s₂ => Up s₁ s₂ ∧ RepL NoX s₂.heap ds vs) NoE s₁
end

section
variable {prog : Program} {w : World} {A : Around} {X : Addr → Prop} {env : Env} {s : Shared} {E : Value → Shared → Prop}
abbrev Ev0 (prog : Program) (w : World) (A : Around) := Ev prog w A NoX
theorem Ev.use {e : Expr} {d : Dt} {s₁ : Shared} {Q : Value → Shared → Prop} (V : Ev prog w A X env s e d) (hX : ∀ b : Nat, X b → b < s.heap.objs.size) (u : Up s s₁) (k : ∀ v s₂, Up s₁ s₂ → Up s s₂ → Rep X s₂.heap d v → Q v s₂) : wpAny (model prog w) A (eval e env) Q E s₁ :=
  wpAny_mono (V hX s₁ u) (fun v s₂ h => k v s₂ h.1 (u.trans h.1) h.2) fun _ _ q => q.elim
theorem Ev.use0 {e : Expr} {d : Dt} {s₁ : Shared} {Q : Value → Shared → Prop} (V : Ev0 prog w A env s e d) (u : Up s s₁) (k : ∀ v s₂, Up s₁ s₂ → Up s s₂ → Rep NoX s₂.heap d v → Q v s₂) : wpAny (model prog w) A (eval e env) Q E s₁ :=
  V.use (fun _ q => q.elim) u k
theorem Tst.use {e : Expr} {b : Bool} {s₁ : Shared} {Q : Bool → Shared → Prop} (V : Tst prog w A env s e b) (u : Up s s₁) (k : ∀ s₂, Up s₁ s₂ → Up s s₂ → Q b s₂) : wpAny (model prog w) A (isTrue e env (eval e env)) Q E s₁ :=
  wpAny_mono (V s₁ u) (fun v s₂ h => h.1 ▸ k s₂ h.2 (u.trans h.2)) fun _ _ q => q.elim
theorem Evs.use {pos : Pos} {es : List Expr} {ds : List Dt} {s₁ : Shared} {Q : List Value → Shared → Prop} (V : Evs prog w A env s pos es ds) (u : Up s s₁) (k : ∀ vs s₂, Up s₁ s₂ → Up s s₂ → RepL NoX s₂.heap ds vs → Q vs s₂) : wpAny (model prog w) A (spliced (backTo pos (starEach es env))) Q E s₁ :=
  wpAny_mono (V s₁ u) (fun v s₂ h => k v s₂ h.1 (u.trans h.1) h.2) fun _ _ q => q.elim
theorem Ev.up {e : Expr} {d : Dt} {s' : Shared} (V : Ev prog w A X env s e d) (hX : ∀ b : Nat, X b → b < s.heap.objs.size) (u : Up s s') : Ev prog w A X env s' e d := fun _ s₁ u₁ => V hX s₁ (u.trans u₁)
theorem Ev.up0 {e : Expr} {d : Dt} {s' : Shared} (V : Ev0 prog w A env s e d) (u : Up s s') : Ev0 prog w A env s' e d := V.up (fun _ q => q.elim) u
theorem evs_nil {pos : Pos} : Evs prog w A env s pos [] [] := fun s₁ _ => spliced_nil ⟨But.refl _, .nil⟩
theorem evs_cons {pos : Pos} {e : Expr} {es : List Expr} {d : Dt} {ds : List Dt} (V : Ev0 prog w A env s e d) (W : Evs prog w A env s pos es ds) (he : starEach (e :: es) env = (false, eval e env) :: starEach es env := by rfl) : Evs prog w A env s pos (e :: es) (d :: ds) := by
  intro s₁ u
  rw [he]
  exact spliced_cons (V.use0 u fun v s₂ u₂ us₂ r => W.use us₂ fun vs s₃ u₃ _ rs => ⟨u₂.trans u₃, .cons (r.up u₃) rs⟩)
theorem ev_of_imm {e : Expr} {d : Dt} (i : d.imm = true) (V : Ev0 prog w A env s e d) : Ev prog w A X env s e d := fun _ s₁ u => V.use0 u fun _ _ u₂ _ r => ⟨u₂, r.imm i⟩

/-! leaves -/
theorem ev_int {i : Int} {k : Nat} {p : Pos} : Ev prog w A X env s (.Constant (.int i) k p) (.int i) := fun _ s₁ _ => wpAny_Constant_int ⟨Up.toks _ _, .int _ _⟩
theorem ev_str {x : Str} {k : Nat} {p : Pos} : Ev prog w A X env s (.Constant (.str x) k p) (.str x) := fun _ s₁ _ => wpAny_Constant_str ⟨Up.toks _ _, .str _ _⟩
theorem ev_bool {x : Bool} {k : Nat} {p : Pos} : Ev prog w A X env s (.Constant (.bool x) k p) (.bool x) := fun _ s₁ _ => wpAny_Constant_bool ⟨But.refl _, .bool _⟩
theorem ev_none {k : Nat} {p : Pos} : Ev prog w A X env s (.Constant .none k p) .none := fun _ s₁ _ => wpAny_Constant_none ⟨But.refl _, .none⟩
theorem ev_name0 {x : Str} {p : Pos} {d : Dt} (H : Has env x d s.heap) (hk : env.scope.kind = .function := by rfl) (hd : (x == ("__debug__" : Str)) = false := by decide) (hn : (x == ("__classdict__" : Str)) = false := by decide) : Ev0 prog w A env s (.Name x p) d := by
  intro _ s₁ u
  obtain ⟨v, V, R⟩ := H
  exact name_var (V.le u.le) ⟨But.refl _, R.up u⟩ hk hd hn
theorem ev_name {x : Str} {p : Pos} {d : Dt} (H : Has env x d s.heap) (i : d.imm = true := by rfl) (hk : env.scope.kind = .function := by rfl) (hd : (x == ("__debug__" : Str)) = false := by decide) (hn : (x == ("__classdict__" : Str)) = false := by decide) : Ev prog w A X env s (.Name x p) d :=
  ev_of_imm i (ev_name0 H hk hd hn)

/-! operators -/
theorem ev_bin {l r : Expr} {op : Operator} {p : Pos} {d₁ d₂ d : Dt} (V : Ev0 prog w A env s l d₁) (W : Ev0 prog w A env s r d₂)
    (k : ∀ v₁ v₂ s₁, (∀ b : Nat, X b → b < s₁.heap.objs.size) → Rep NoX s₁.heap d₁ v₁ → Rep NoX s₁.heap d₂ v₂ → wpAny (model prog w) A (binaryOp op v₁ v₂) (fun v s₂ => Up s₁ s₂ ∧ Rep X s₂.heap d v) NoE s₁) : Ev prog w A X env s (.BinOp l op r p) d := by
  intro hX s₁ u
  refine wpAny_BinOp (V.use0 u fun v₁ s₂ u₂ us₂ r₁ => W.use0 us₂ fun v₂ s₃ u₃ us₃ r₂ => wpAny_mono (k v₁ v₂ s₃ (fun b h => Nat.lt_of_lt_of_le (hX b h) us₃.size) (r₁.up u₃) r₂) (fun v s₄ h => ⟨(u₂.trans u₃).trans h.1, h.2⟩) fun _ _ q => q)
theorem ev_add {l r : Expr} {p : Pos} {a b : Int} (V : Ev0 prog w A env s l (.int a)) (W : Ev0 prog w A env s r (.int b)) : Ev prog w A X env s (.BinOp l .Add r p) (.int (a + b)) :=
  ev_bin V W fun v₁ v₂ s₁ _ r₁ r₂ => by obtain ⟨t, rfl⟩ := r₁.int_inv; obtain ⟨u, rfl⟩ := r₂.int_inv; exact add_int ⟨Up.toks _ _, .int _ _⟩
theorem ev_sub {l r : Expr} {p : Pos} {a b : Int} (V : Ev0 prog w A env s l (.int a)) (W : Ev0 prog w A env s r (.int b)) : Ev prog w A X env s (.BinOp l .Sub r p) (.int (a - b)) :=
  ev_bin V W fun v₁ v₂ s₁ _ r₁ r₂ => by obtain ⟨t, rfl⟩ := r₁.int_inv; obtain ⟨u, rfl⟩ := r₂.int_inv; exact PyProof.Rows.sub_int ⟨Up.toks _ _, .int _ _⟩
theorem ev_mul {l r : Expr} {p : Pos} {a b : Int} (V : Ev0 prog w A env s l (.int a)) (W : Ev0 prog w A env s r (.int b)) (hm : IntMulOk a b) : Ev prog w A X env s (.BinOp l .Mult r p) (.int (a * b)) :=
  ev_bin V W fun v₁ v₂ s₁ _ r₁ r₂ => by obtain ⟨t, rfl⟩ := r₁.int_inv; obtain ⟨u, rfl⟩ := r₂.int_inv; exact PyProof.Rows.mul_int ⟨Up.toks _ _, .int _ _⟩ hm
theorem ev_fdiv {l r : Expr} {p : Pos} {a b : Int} (V : Ev0 prog w A env s l (.int a)) (W : Ev0 prog w A env s r (.int b)) (hb : b ≠ 0) (hp : Builtin.divisionGoesByPylong a b = false) : Ev prog w A X env s (.BinOp l .FloorDiv r p) (.int (a.fdiv b)) :=
  ev_bin V W fun v₁ v₂ s₁ _ r₁ r₂ => by obtain ⟨t, rfl⟩ := r₁.int_inv; obtain ⟨u, rfl⟩ := r₂.int_inv; exact floordiv_int hb ⟨Up.toks _ _, .int _ _⟩ (.inl hp)
theorem ev_mod {l r : Expr} {p : Pos} {a b : Int} (V : Ev0 prog w A env s l (.int a)) (W : Ev0 prog w A env s r (.int b)) (hb : b ≠ 0) : Ev prog w A X env s (.BinOp l .Mod r p) (.int (a.fmod b)) :=
  ev_bin V W fun v₁ v₂ s₁ _ r₁ r₂ => by obtain ⟨t, rfl⟩ := r₁.int_inv; obtain ⟨u, rfl⟩ := r₂.int_inv; exact PyProof.Rows.mod_int hb ⟨Up.toks _ _, .int _ _⟩
theorem ev_band {l r : Expr} {p : Pos} {a b : Int} (V : Ev0 prog w A env s l (.int a)) (W : Ev0 prog w A env s r (.int b)) : Ev prog w A X env s (.BinOp l .BitAnd r p) (.int (Builtin.bitAnd a b)) :=
  ev_bin V W fun v₁ v₂ s₁ _ r₁ r₂ => by obtain ⟨t, rfl⟩ := r₁.int_inv; obtain ⟨u, rfl⟩ := r₂.int_inv; exact and_int ⟨Up.toks _ _, .int _ _⟩
theorem ev_pow {l r : Expr} {p : Pos} {a b : Int} (V : Ev0 prog w A env s l (.int a)) (W : Ev0 prog w A env s r (.int b)) (hb : 0 ≤ b) (hb2 : b ≤ 1000000) (ha : a.natAbs < 2 ^ 64) : Ev prog w A X env s (.BinOp l .Pow r p) (.int (a ^ b.toNat)) :=
  ev_bin V W fun v₁ v₂ s₁ _ r₁ r₂ => by obtain ⟨t, rfl⟩ := r₁.int_inv; obtain ⟨u, rfl⟩ := r₂.int_inv; exact pow_int_small hb hb2 ha ⟨Up.toks _ _, .int _ _⟩
theorem ev_cat {l r : Expr} {p : Pos} {a b : Str} (V : Ev0 prog w A env s l (.str a)) (W : Ev0 prog w A env s r (.str b)) (hsz : a.length + b.length ≤ sizeLine) : Ev prog w A X env s (.BinOp l .Add r p) (.str (a ++ b)) :=
  ev_bin V W fun v₁ v₂ s₁ _ r₁ r₂ => by obtain ⟨t, rfl⟩ := r₁.str_inv; obtain ⟨u, rfl⟩ := r₂.str_inv; exact add_str (hsz := hsz) (fun t' k => ⟨Up.toks _ _, .str _ _⟩)
end
end Mine

/-! Lay7 -/
namespace Mine

section
variable (prog : Program) (w : World) (A : Around)
def Cmp (op : CmpOp) (d₁ d₂ : Dt) (b : Bool) : Prop := ∀ v₁ v₂ s₁, Rep NoX s₁.heap d₁ v₁ → Rep NoX s₁.heap d₂ v₂ → wpAny (model prog w) A (compareOp op v₁ v₂) (fun v s₂ => Up s₁ s₂ ∧ v = .bool b) NoE s₁
end
section
variable {prog : Program} {w : World} {A : Around} {X : Addr → Prop} {env : Env} {s : Shared} {E : Value → Shared → Prop}
theorem ev_cmp {l r : Expr} {op : CmpOp} {p : Pos} {d₁ d₂ : Dt} {b : Bool} (V : Ev0 prog w A env s l d₁) (W : Ev0 prog w A env s r d₂) (K : Cmp prog w A op d₁ d₂ b) (hm : behindInMarks op r = false := by with_unfolding_all rfl) :
    Ev prog w A X env s (.Compare l [op] [r] p) (.bool b) := by
  intro hX s₁ u
  refine wpAny_Compare1 (V.use0 u fun v₁ s₂ u₂ us₂ r₁ => W.use0 us₂ fun v₂ s₃ u₃ us₃ r₂ => wpAny_mono (K v₁ v₂ s₃ (r₁.up u₃) r₂) (fun v s₄ h => ⟨(u₂.trans u₃).trans h.1, h.2 ▸ .bool _⟩) fun _ _ q => q) hm
theorem tst_cmp {l r : Expr} {op : CmpOp} {p : Pos} {d₁ d₂ : Dt} {b : Bool} (V : Ev0 prog w A env s l d₁) (W : Ev0 prog w A env s r d₂) (K : Cmp prog w A op d₁ d₂ b) (hm : behindInMarks op r = false := by with_unfolding_all rfl) :
    Tst prog w A env s (.Compare l [op] [r] p) b := by
  intro s₁ u
  refine wpAny_isTrue_Compare1 (V.use0 u fun v₁ s₂ u₂ us₂ r₁ => W.use0 us₂ fun v₂ s₃ u₃ us₃ r₂ => wpAny_mono (K v₁ v₂ s₃ (r₁.up u₃) r₂) (fun v s₄ h => ?_) fun _ _ q => q) hm
  obtain ⟨h1, rfl⟩ := h
  exact wpAny_truthy_bool ⟨rfl, (u₂.trans u₃).trans h1⟩
theorem cmp_eq {a b : Int} : Cmp prog w A .Eq (.int a) (.int b) (a == b) := fun v₁ v₂ s₁ r₁ r₂ => by obtain ⟨t, rfl⟩ := r₁.int_inv; obtain ⟨u, rfl⟩ := r₂.int_inv; exact PyProof.Rows.eq_int ⟨But.refl _, rfl⟩
theorem cmp_ne {a b : Int} : Cmp prog w A .NotEq (.int a) (.int b) (a != b) := fun v₁ v₂ s₁ r₁ r₂ => by obtain ⟨t, rfl⟩ := r₁.int_inv; obtain ⟨u, rfl⟩ := r₂.int_inv; exact PyProof.Rows.ne_int ⟨But.refl _, rfl⟩
theorem cmp_lt {a b : Int} : Cmp prog w A .Lt (.int a) (.int b) (decide (a < b)) := fun v₁ v₂ s₁ r₁ r₂ => by obtain ⟨t, rfl⟩ := r₁.int_inv; obtain ⟨u, rfl⟩ := r₂.int_inv; exact PyProof.Rows.lt_int ⟨But.refl _, rfl⟩
theorem cmp_le {a b : Int} : Cmp prog w A .LtE (.int a) (.int b) (decide (a ≤ b)) := fun v₁ v₂ s₁ r₁ r₂ => by obtain ⟨t, rfl⟩ := r₁.int_inv; obtain ⟨u, rfl⟩ := r₂.int_inv; exact PyProof.Rows.le_int ⟨But.refl _, rfl⟩
theorem cmp_ge {a b : Int} : Cmp prog w A .GtE (.int a) (.int b) (decide (b ≤ a)) := fun v₁ v₂ s₁ r₁ r₂ => by obtain ⟨t, rfl⟩ := r₁.int_inv; obtain ⟨u, rfl⟩ := r₂.int_inv; exact PyProof.Rows.ge_int ⟨But.refl _, rfl⟩
theorem cmp_eq_str {a b : Str} : Cmp prog w A .Eq (.str a) (.str b) (a == b) := fun v₁ v₂ s₁ r₁ r₂ => by obtain ⟨t, rfl⟩ := r₁.str_inv; obtain ⟨u, rfl⟩ := r₂.str_inv; exact eq_str ⟨But.refl _, rfl⟩
def isN : Dt → Bool
  | .none => true
  | _ => false
theorem rep_none {h : Heap} {d : Dt} {v : Value} (R : Rep NoX h d v) : (v == Value.none) = isN d := by cases R <;> rfl
theorem cmp_is_none {d : Dt} : Cmp prog w A .Is d .none (isN d) := fun v₁ v₂ s₁ r₁ r₂ => by rw [r₂.none_inv]; exact is_none ⟨But.refl _, by rw [rep_none r₁]⟩
theorem cmp_isnot_none {d : Dt} : Cmp prog w A .IsNot d .none (!isN d) := fun v₁ v₂ s₁ r₁ r₂ => by rw [r₂.none_inv]; exact isNot_none ⟨But.refl _, by rw [rep_none r₁]⟩

/-! lists compared -/
theorem eqAt_imm {d : Dt} {v₁ v₂ : Value} (r₁ : Rep NoX s.heap d v₁) (r₂ : Rep NoX s.heap d v₂) (i : d.imm = true) : SeqAt.EqAt A s v₁ v₂ true := by
  cases d with
  | none => rw [r₁.none_inv, r₂.none_inv]; exact SeqAt.EqAt.same _
  | bool b => rw [r₁.bool_inv, r₂.bool_inv]; exact SeqAt.EqAt.same _
  | int n =>
    obtain ⟨t, rfl⟩ := r₁.int_inv
    obtain ⟨u, rfl⟩ := r₂.int_inv
    have := SeqAt.EqAt.int_int (A := A) (s := s) n t n u
    rwa [beq_self_eq_true] at this
  | str n =>
    obtain ⟨t, rfl⟩ := r₁.str_inv
    obtain ⟨u, rfl⟩ := r₂.str_inv
    have := SeqAt.EqAt.str_str (A := A) (s := s) n t n u
    rwa [beq_self_eq_true] at this
  | ptr _ => rw [r₁.ptr_inv, r₂.ptr_inv]; exact SeqAt.EqAt.same _
  | list _ => exact absurd i (by simp [Dt.imm])
  | tup _ => exact absurd i (by simp [Dt.imm])
  | ws _ _ _ _ => exact absurd i (by simp [Dt.imm])
theorem all_true (l : List Nat) : (l.all fun _ => true) = true := by simp
def Dt.flat : Dt → Bool
  | .list ds => ds.all Dt.imm
  | d => d.imm
theorem get_arr {vs : List Value} {j : Nat} (h : j < vs.toArray.size) : vs[j]? = some vs.toArray[j] := by simp at h ⊢
theorem rcAt_list {ds : List Dt} {a₁ a₂ : Addr} {vs₁ vs₂ : List Value} (p₁ : s.heap.IsList a₁ vs₁.toArray) (p₂ : s.heap.IsList a₂ vs₂.toArray) (l₁ : RepL NoX s.heap ds vs₁) (l₂ : RepL NoX s.heap ds vs₂) (hu : A.units < cLine)
    (he : ∀ d ∈ ds, ∀ v₁ v₂, Rep NoX s.heap d v₁ → Rep NoX s.heap d v₂ → SeqAt.EqAt A.in1 s v₁ v₂ true) : SeqAt.RcAt A s (.ref a₁) (.ref a₂) true := by
  have e : vs₁.toArray.size = vs₂.toArray.size := by simp [l₁.length, l₂.length]
  have := SeqAt.RcAt.lists (A := A) (s := s) p₁ p₂ e hu (e := fun _ => true) fun j h1 h2 => by
    obtain ⟨d, hd, r⟩ := l₁.get (get_arr h1)
    obtain ⟨d', hd', r'⟩ := l₂.get (get_arr h2)
    rw [hd] at hd'
    cases hd'
    exact he d (List.mem_of_getElem? hd) _ _ r r'
  rwa [all_true] at this
theorem eqAt_list {ds : List Dt} {v₁ v₂ : Value} (r₁ : Rep NoX s.heap (.list ds) v₁) (r₂ : Rep NoX s.heap (.list ds) v₂) (hu : A.units < cLine)
    (he : ∀ d ∈ ds, ∀ v₁ v₂, Rep NoX s.heap d v₁ → Rep NoX s.heap d v₂ → SeqAt.EqAt A.in1 s v₁ v₂ true) : SeqAt.EqAt A s v₁ v₂ true := by
  obtain ⟨a₁, vs₁, rfl, _, p₁, l₁⟩ := r₁.list_inv
  obtain ⟨a₂, vs₂, rfl, _, p₂, l₂⟩ := r₂.list_inv
  by_cases h : a₁ = a₂
  · subst h; exact SeqAt.EqAt.same _
  · exact SeqAt.EqAt.of_refs h (rcAt_list p₁ p₂ l₁ l₂ hu he)
theorem eqAt_flat {d : Dt} {v₁ v₂ : Value} (r₁ : Rep NoX s.heap d v₁) (r₂ : Rep NoX s.heap d v₂) (hu : A.units < cLine) (i : d.flat = true) : SeqAt.EqAt A s v₁ v₂ true := by
  cases d with
  | list ds => exact eqAt_list r₁ r₂ hu fun d hd _ _ q₁ q₂ => eqAt_imm q₁ q₂ (List.all_eq_true.mp i d hd)
  | _ => exact eqAt_imm r₁ r₂ i
theorem cmp_ne_same {ds : List Dt} (hu : A.units + 1 < cLine) (i : ds.all Dt.flat = true) : Cmp prog w A .NotEq (.list ds) (.list ds) false := fun v₁ v₂ s₁ r₁ r₂ => by
  obtain ⟨a₁, vs₁, rfl, _, p₁, l₁⟩ := r₁.list_inv
  obtain ⟨a₂, vs₂, rfl, _, p₂, l₂⟩ := r₂.list_inv
  have e : vs₁.toArray.size = vs₂.toArray.size := by simp [l₁.length, l₂.length]
  refine EqBoolInt.of_rcne (SeqAt.RcNeAt.lists (A := A) (s := s₁) p₁ p₂ e (by omega) (e := fun _ => true) fun j h1 h2 => ?_) (by rw [all_true]; exact ⟨But.refl _, rfl⟩)
  obtain ⟨d, hd, r⟩ := l₁.get (get_arr h1)
  obtain ⟨d', hd', r'⟩ := l₂.get (get_arr h2)
  rw [hd] at hd'
  cases hd'
  exact eqAt_flat r r' hu (List.all_eq_true.mp i d (List.mem_of_getElem? hd))
theorem cmp_eq_nil {ds : List Dt} (hu : A.units < cLine) : Cmp prog w A .Eq (.list ds) (.list []) ds.isEmpty := fun v₁ v₂ s₁ r₁ r₂ => by
  obtain ⟨a₁, vs₁, rfl, _, p₁, l₁⟩ := r₁.list_inv
  obtain ⟨a₂, vs₂, rfl, _, p₂, l₂⟩ := r₂.list_inv
  have e2 := l₂.length
  have e1 := l₁.length
  cases ds with
  | nil => exact SeqAt.eq_listAt (e := fun _ => true) p₁ p₂ (by simp [e1, e2]) hu (fun j h1 h2 => by simp [e1] at h1) ⟨But.refl _, by simp⟩
  | cons d ds => exact SeqAt.eq_list_lengthsAt p₁ p₂ (by simp only [List.size_toArray, e1, e2]; simp) hu ⟨But.refl _, by simp⟩
theorem cmp_ne_nil {ds : List Dt} (hu : A.units < cLine) : Cmp prog w A .NotEq (.list ds) (.list []) (!ds.isEmpty) := fun v₁ v₂ s₁ r₁ r₂ => by
  obtain ⟨a₁, vs₁, rfl, _, p₁, l₁⟩ := r₁.list_inv
  obtain ⟨a₂, vs₂, rfl, _, p₂, l₂⟩ := r₂.list_inv
  have e2 := l₂.length
  have e1 := l₁.length
  cases ds with
  | nil => exact EqBoolInt.of_rcne (SeqAt.RcNeAt.lists (A := A) (s := s₁) p₁ p₂ (by simp [e1, e2]) hu (e := fun _ => true) fun j h1 h2 => by simp [e1] at h1) (by rw [all_true]; exact ⟨But.refl _, rfl⟩)
  | cons d ds => exact EqBoolInt.of_rcne (SeqAt.RcNeAt.lists_lengths p₁ p₂ (by simp only [List.size_toArray, e1, e2]; simp) hu) ⟨But.refl _, by simp⟩

/-! tests -/
theorem tst_val {e : Expr} {b : Bool} (V : Ev0 prog w A env s e (.bool b)) (he : isTrue e env (eval e env) = (do let v ← eval e env; standAt e.pos; holding [v] (truthy v)) := by rfl) : Tst prog w A env s e b := by
  intro s₁ u
  refine wpAny_isTrue_value (V.use0 u fun v s₂ u₂ _ r => ?_) he
  rw [r.bool_inv]
  exact wpAny_truthy_bool ⟨rfl, u₂⟩
theorem tst_not {e : Expr} {p : Pos} {b : Bool} (V : Tst prog w A env s e b) : Tst prog w A env s (.UnaryOp .Not e p) (!b) := fun s₁ u => isTrue_not (V.use u fun s₂ u₂ _ => ⟨rfl, u₂⟩)
theorem tst_or {x y : Expr} {p : Pos} {a b : Bool} (V : Tst prog w A env s x a) (W : a = false → Tst prog w A env s y b) : Tst prog w A env s (.BoolOp .Or [x, y] p) (a || b) := by
  intro s₁ u
  refine wpAny_isTrue_BoolOp (wpAny_allTrue_Or_cons (V.use u fun s₂ u₂ us₂ => ?_))
  cases a with
  | true => exact ⟨rfl, u₂⟩
  | false =>
    simp only [Bool.false_eq_true, if_false]
    refine wpAny_allTrue_Or_cons ((W rfl).use us₂ fun s₃ u₃ us₃ => ?_)
    cases b with
    | true => exact ⟨rfl, u₂.trans u₃⟩
    | false => exact wpAny_allTrue_Or_nil ⟨rfl, u₂.trans u₃⟩
theorem tst_and {x y : Expr} {p : Pos} {a b : Bool} (V : Tst prog w A env s x a) (W : a = true → Tst prog w A env s y b) : Tst prog w A env s (.BoolOp .And [x, y] p) (a && b) := by
  intro s₁ u
  refine wpAny_isTrue_BoolOp (wpAny_allTrue_And_cons (V.use u fun s₂ u₂ us₂ => ?_))
  cases a with
  | false => exact ⟨rfl, u₂⟩
  | true =>
    simp only [if_true]
    refine wpAny_allTrue_And_cons ((W rfl).use us₂ fun s₃ u₃ us₃ => ?_)
    cases b with
    | false => exact ⟨rfl, u₂.trans u₃⟩
    | true => exact wpAny_allTrue_And_nil ⟨rfl, u₂.trans u₃⟩
theorem ev_ifexp {t x y : Expr} {p : Pos} {b : Bool} {d₁ d₂ : Dt} (T : Tst prog w A env s t b) (V : b = true → Ev prog w A X env s x d₁) (W : b = false → Ev prog w A X env s y d₂) : Ev prog w A X env s (.IfExp t x y p) (if b then d₁ else d₂) := by
  intro hX s₁ u
  refine wpAny_IfExp (T.use u fun s₂ u₂ us₂ => ?_)
  cases b with
  | true => exact (V rfl).use hX us₂ fun v s₃ u₃ _ r => ⟨u₂.trans u₃, r⟩
  | false => exact (W rfl).use hX us₂ fun v s₃ u₃ _ r => ⟨u₂.trans u₃, r⟩

/-! items -/
theorem ev_item0 {l i : Expr} {p : Pos} {ds : List Dt} {k : Int} {d : Dt} (V : Ev0 prog w A env s l (.list ds)) (W : Ev0 prog w A env s i (.int k)) (h0 : 0 ≤ k) (h1 : k < 2 ^ 63) (hd : ds[k.toNat]? = some d)
    (hs : ∀ o x, subscripted i false o x = operate [o, x] (getItem o x) := by intro _ _; with_unfolding_all rfl) : Ev0 prog w A env s (.Subscript l i p) d := by
  intro _ s₁ u
  refine Subscript_ (V.use0 u fun v₁ s₂ u₂ us₂ r₁ => W.use0 us₂ fun v₂ s₃ u₃ us₃ r₂ => ?_)
  obtain ⟨a₁, vs₁, rfl, _, p₁, l₁⟩ := (r₁.up u₃).list_inv
  obtain ⟨t, rfl⟩ := r₂.int_inv
  obtain ⟨v, hv, r⟩ := l₁.at hd
  exact tail_any p₁.typeIs slot_list_getitem.lookup (wpAny_getItem_list p₁ h0 h1 (by simpa using hv) ⟨u₂.trans u₃, r⟩) (hs _ _)
theorem ev_item {l i : Expr} {p : Pos} {ds : List Dt} {k : Int} {d : Dt} (V : Ev0 prog w A env s l (.list ds)) (W : Ev0 prog w A env s i (.int k)) (h0 : 0 ≤ k) (h1 : k < 2 ^ 63) (hd : ds[k.toNat]? = some d) (im : d.imm = true := by rfl)
    (hs : ∀ o x, subscripted i false o x = operate [o, x] (getItem o x) := by intro _ _; with_unfolding_all rfl) : Ev prog w A X env s (.Subscript l i p) d :=
  ev_of_imm im (ev_item0 V W h0 h1 hd hs)
/-- an item of a list that is written as a map over a range -/
theorem ev_itemR0 {l i : Expr} {p : Pos} {n : Nat} {f : Nat → Dt} {k : Nat} (V : Ev0 prog w A env s l (.list ((List.range n).map f))) (W : Ev0 prog w A env s i (.int k)) (h1 : k < n) (hn : n ≤ 64 := by omega)
    (hs : ∀ o x, subscripted i false o x = operate [o, x] (getItem o x) := by intro _ _; with_unfolding_all rfl) : Ev0 prog w A env s (.Subscript l i p) (f k) :=
  ev_item0 V W (by omega) (by omega) (by simp [h1]) hs
theorem ev_itemR {l i : Expr} {p : Pos} {n : Nat} {f : Nat → Dt} {k : Nat} (V : Ev0 prog w A env s l (.list ((List.range n).map f))) (W : Ev0 prog w A env s i (.int k)) (h1 : k < n) (hn : n ≤ 64 := by omega) (im : (f k).imm = true := by rfl)
    (hs : ∀ o x, subscripted i false o x = operate [o, x] (getItem o x) := by intro _ _; with_unfolding_all rfl) : Ev prog w A X env s (.Subscript l i p) (f k) :=
  ev_of_imm im (ev_itemR0 V W h1 hn hs)

/-! displays -/
theorem ev_list {es : List Expr} {p : Pos} {ds : List Dt} (V : Evs prog w A env s p es ds) (hsz : ds.length ≤ sizeLine) (im : ds.all Dt.imm = true) : Ev prog w A X env s (.List es p) (.list ds) := by
  intro hX s₁ u
  refine wpAny_List (V.use u fun vs s₂ u₂ us₂ r => ⟨by rw [r.length]; exact hsz, u₂.trans (Up.push _ _ _), ?_⟩)
  refine .list (vs := vs) (fun q => absurd (hX _ q) (Nat.not_lt.mpr us₂.size)) ⟨_, Heap.get?_push_size _ rfl, rfl, _, rfl⟩ ?_
  have : ∀ {ds : List Dt} {vs : List Value}, ds.all Dt.imm = true → RepL NoX s₂.heap ds vs → RepL X (s₂.heap.push { cls := .type "list", data := .seq vs.toArray }) ds vs := by
    intro ds vs im r
    have key : ∀ {ds : List Dt} {vs : List Value} {h' : Heap}, ds.all Dt.imm = true → RepL NoX s₂.heap ds vs → RepL X h' ds vs := by
      intro ds
      induction ds with
      | nil => intro vs h' _ r; cases r; exact .nil
      | cons d ds ih =>
        intro vs h' i r
        cases r with
        | cons a r => simp only [List.all_cons, Bool.and_eq_true] at i; exact .cons (a.imm i.1) (ih i.2 r)
    exact key im r
  exact this im r
theorem ev_nil {p : Pos} : Ev prog w A X env s (.List [] p) (.list []) := ev_list evs_nil (by decide) rfl
end
end Mine

/-! Lay8 -/
namespace Mine

/-! sources -/
section
variable (prog : Program) (w : World) (A : Around)
def SrcD (N : Addr → Prop) (env : Env) (s : Shared) (iter : Expr) (ds : List Dt) : Prop :=
  ∀ s₁, Up s s₁ → Src prog w A env iter s₁ (fun b => ¬ N b) ds.length (fun i v => ∃ d, ds[i]? = some d ∧ Rep NoX s₁.heap d v)
def Tsts (env : Env) (s : Shared) (ifs : List Expr) (b : Bool) : Prop :=
  wpAny (model prog w) A (forIn ifs true fun c r => if r = true then do let ok ← isTrue c env (eval c env); pure (ForInStep.yield ok) else pure (ForInStep.yield r)) (fun ok s₄ => ok = b ∧ Up s s₄) NoE s
end
section
variable {prog : Program} {w : World} {A : Around} {X : Addr → Prop} {env : Env} {s : Shared} {E : Value → Shared → Prop}
theorem tsts_nil : Tsts prog w A env s [] true := wpAny_pure ⟨rfl, But.refl _⟩
theorem tsts_one {c : Expr} {b : Bool} (T : Tst prog w A env s c b) : Tsts prog w A env s [c] b := by
  unfold Tsts
  show wpAny _ _ ((do let ok ← isTrue c env (eval c env); pure (ForInStep.yield ok)) >>= _) _ _ _
  refine wpAny_bind (wpAny_bind (T.use (But.refl _) fun s₂ u₂ _ => wpAny_pure ?_))
  exact wpAny_pure ⟨rfl, u₂⟩

theorem iter_list {ax : Addr} {items : Array Value} {ro : Addr → Prop} {s₁ : Shared} {Q : Value → Shared → Prop} (hh : A.handled = none) (u : Up s s₁) (hl : s₁.heap.IsList ax items) (hro : s.heap.objs.size ≤ ax ∨ ro ax)
    (k : ∀ I fp wr St s₂, Walks prog w A I fp wr items.size (fun i v => items[i]? = some v) St → St 0 s₂.heap → Up s s₂ → (∀ b : Nat, b ∈ wr → s.heap.objs.size ≤ b) → (∀ b : Nat, b ∈ fp → b < s₂.heap.objs.size ∧ (s.heap.objs.size ≤ b ∨ ro b)) → Q (.ref I) s₂) :
    wpAny (model prog w) A (pyIter (.ref ax)) Q E s₁ := by
  refine wpAny_pyIter_list hl ?_
  have lx : ax < s₁.heap.objs.size := by obtain ⟨o, ho, _⟩ := hl; exact Heap.lt_size ho
  have z : (s₁.heap.push { cls := .type "list_iterator", data := .fields #[.ref ax, .int 0 0] }).objs.size = s₁.heap.objs.size + 1 := Heap.size_push ..
  have us := u.size
  refine k s₁.heap.objs.size _ _ _ _ (Walks.list hh _ ax (Nat.ne_of_lt lx) items) ⟨⟨_, Heap.get?_push_size _ rfl, rfl, rfl⟩, hl.push _⟩ (u.trans (Up.push s₁ _ _)) (fun b hb => ?_) fun b hb => ?_
  · rw [List.mem_singleton] at hb; omega
  · show b < (s₁.heap.push _).objs.size ∧ _
    rw [z]
    rcases List.mem_cons.mp hb with hb | hb
    · exact ⟨by omega, .inl (by omega)⟩
    · rw [List.mem_singleton] at hb
      subst hb
      exact ⟨Nat.lt_succ_of_lt lx, hro⟩
theorem walks_imp {I : Addr} {fp wr : List Addr} {n : Nat} {P P' : Nat → Value → Prop} {St : Nat → Heap → Prop} (W : Walks prog w A I fp wr n P St) (h : ∀ i v, i < n → P i v → P' i v) : Walks prog w A I fp wr n P' St where
  sub := W.sub
  frame := W.frame
  item := fun i s Q E hi st k => W.item i s Q E hi st fun v h' tk p => k v h' tk (h i v hi p)
  done := W.done
  self := W.self
theorem srcD_ev {N : Addr → Prop} {iter : Expr} {ds : List Dt} (hh : A.handled = none) (V : Ev prog w A X env s iter (.list ds)) (hX : ∀ b : Nat, X b → b < s.heap.objs.size) (hN : ∀ b, N b → X b) (im : ∀ d ∈ ds, d.imm = true) : SrcD prog w A N env s iter ds := by
  intro s₁ u Q E k
  refine V.use hX u fun v s₂ u₂ _ R => ?_
  obtain ⟨a, vs, rfl, na, pl, l⟩ := R.list_inv
  refine iter_list (s := s₁) (ro := fun b => ¬ N b) hh u₂ pl (.inr fun q => na (hN _ q)) fun I fp wr St s₂ W hst u' hwr hfp => ?_
  have e : vs.toArray.size = ds.length := by simp [l.length]
  rw [e] at W
  refine k I fp wr St s₂ (walks_imp W fun i v hi he => ?_) hst u' hwr hfp
  obtain ⟨d, hd, r⟩ := l.get (by simpa using he)
  exact ⟨d, hd, r.imm (im d (List.mem_of_getElem? hd))⟩
theorem srcD_name {x : Str} {p : Pos} {ds : List Dt} (hh : A.handled = none) (H : Has env x (.list ds) s.heap) (hk : env.scope.kind = .function := by rfl) (hd : (x == ("__debug__" : Str)) = false := by decide) (hn : (x == ("__classdict__" : Str)) = false := by decide) : SrcD prog w A NoX env s (.Name x p) ds := by
  intro s₁ u Q E k
  obtain ⟨v, V, R⟩ := H.up u
  obtain ⟨a, vs, rfl, _, pl, l⟩ := R.list_inv
  refine name_var V ?_ hk hd hn
  refine iter_list (s := s₁) (ro := fun b => ¬ NoX b) hh (But.refl s₁) pl (.inr fun q => q) fun I fp wr St s₂ W hst u' hwr hfp => ?_
  have e : vs.toArray.size = ds.length := by simp [l.length]
  rw [e] at W
  exact k I fp wr St s₂ (walks_imp W fun i v hi he => l.get (by simpa using he)) hst u' hwr hfp
theorem srcD_fresh {N : Addr → Prop} {iter : Expr} {ds : List Dt} (hh : A.handled = none) (V : ∀ s₁, Up s s₁ → Ev prog w A (fun b => b < s₁.heap.objs.size) env s₁ iter (.list ds)) (im : ∀ d ∈ ds, d.imm = true) : SrcD prog w A N env s iter ds := by
  intro s₁ u Q E k
  refine (V s₁ u).use (fun b h => h) (But.refl s₁) fun v s₂ u₂ _ R => ?_
  obtain ⟨a, vs, rfl, na, pl, l⟩ := R.list_inv
  refine iter_list (s := s₁) (ro := fun b => ¬ N b) hh u₂ pl (.inl (Nat.not_lt.mp na)) fun I fp wr St s₂ W hst u' hwr hfp => ?_
  have e : vs.toArray.size = ds.length := by simp [l.length]
  rw [e] at W
  refine k I fp wr St s₂ (walks_imp W fun i v hi he => ?_) hst u' hwr hfp
  obtain ⟨d, hd, r⟩ := l.get (by simpa using he)
  exact ⟨d, hd, r.imm (im d (List.mem_of_getElem? hd))⟩

/-! calls of what the interpreter brings -/
theorem ev_callB {x : Str} {id : String} {p pos : Pos} {e : Expr} {rest : List Expr} {ds : List Dt} {d : Dt} (G : Gl w s.heap) (hg : nsIn (KK w) mainGlobals x = some none) (hv : bootBuiltins x = some (.builtin id)) (V : Evs prog w A env s pos (e :: rest) ds)
    (k : ∀ vs s₁, (∀ b : Nat, X b → b < s₁.heap.objs.size) → RepL NoX s₁.heap ds vs → wpAny (model prog w) A (call (.builtin id) vs) (fun v s₂ => Up s₁ s₂ ∧ Rep X s₂.heap d v) NoE s₁)
    (hk : env.scope.kind = .function := by rfl) (hx : env.kindOf x = some .globalImplicit := by rfl) (hgl : env.globals = mainGlobals := by rfl) (hb : env.builtins = builtinsNs := by rfl) (hn : x ≠ "__name__" := by decide) (hd : (x == ("__debug__" : Str)) = false := by decide)
    (he : starEach (e :: rest) env = (false, eval e env) :: starEach rest env := by rfl) (hplain : (backTo pos (starEach rest env)).any (·.1) = false := by rfl) :
    Ev prog w A X env s (.Call (.Name x p) (e :: rest) [] pos) d := by
  intro hX s₁ u
  refine Call_Name rfl (name_boot (G.up u) hg hv (callWith_builtin1 (V.use u fun vs s₂ u₂ us₂ r => ?_) he hplain) hk hx hgl hb hn hd)
  exact wpAny_mono (k vs s₂ (fun b h => Nat.lt_of_lt_of_le (hX b h) us₂.size) r) (fun v s₃ h => ⟨u₂.trans h.1, h.2⟩) fun _ _ q => q
theorem useT {x : Str} {T : String} {p pos : Pos} {e : Expr} {rest : List Expr} {ds : List Dt} {Q : Value → Shared → Prop} (G : Gl w s.heap) (hg : nsIn (KK w) mainGlobals x = some none) (hv : bootBuiltins x = some (.type T)) (V : Evs prog w A env s pos (e :: rest) ds)
    (k : ∀ vs s₁, Up s s₁ → RepL NoX s₁.heap ds vs → wpAny (model prog w) A (call (.type T) vs) Q E s₁)
    (hk : env.scope.kind = .function := by rfl) (hx : env.kindOf x = some .globalImplicit := by rfl) (hgl : env.globals = mainGlobals := by rfl) (hb : env.builtins = builtinsNs := by rfl) (hn : x ≠ "__name__" := by decide) (hd : (x == ("__debug__" : Str)) = false := by decide)
    (he : starEach (e :: rest) env = (false, eval e env) :: starEach rest env := by rfl) (hplain : (backTo pos (starEach rest env)).any (·.1) = false := by rfl) :
    wpAny (model prog w) A (eval (.Call (.Name x p) (e :: rest) [] pos) env) Q E s :=
  Call_Name rfl (name_boot G hg hv (callWith_type1 (V.use (But.refl s) fun vs s₂ u₂ us₂ r => k vs s₂ us₂ r) he hplain) hk hx hgl hb hn hd)
theorem ev_callF {x : Str} {f : Addr} {p pos : Pos} {e : Expr} {rest : List Expr} {ds : List Dt} {d : Dt} (G : Gl w s.heap) (hg : nsIn (KK w) mainGlobals x = some (some (.ref f))) (hkp : keepIn (KK w) (.ref f) = true) (V : Evs prog w A env s pos (e :: rest) ds)
    (k : ∀ vs s₁, Up s s₁ → (∀ b : Nat, X b → b < s₁.heap.objs.size) → RepL NoX s₁.heap ds vs → wpAny (model prog w) A (call (.ref f) vs) (fun v s₂ => Up s₁ s₂ ∧ Rep X s₂.heap d v) NoE s₁)
    (hk : env.scope.kind = .function := by rfl) (hx : env.kindOf x = some .globalImplicit := by rfl) (hgl : env.globals = mainGlobals := by rfl) (hd : (x == ("__debug__" : Str)) = false := by decide)
    (he : starEach (e :: rest) env = (false, eval e env) :: starEach rest env := by rfl) (hplain : (backTo pos (starEach rest env)).any (·.1) = false := by rfl) :
    Ev prog w A X env s (.Call (.Name x p) (e :: rest) [] pos) d := by
  intro hX s₁ u
  refine Call_Name rfl (name_glob (G.up u) hg (callWith_K (K := KK w) (G.up u).x hkp (V.use u fun vs s₂ u₂ us₂ r => ⟨(G.up us₂).x, ?_⟩) he hplain) hk hx hgl hd)
  exact wpAny_mono (k vs s₂ us₂ (fun b h => Nat.lt_of_lt_of_le (hX b h) us₂.size) r) (fun v s₃ h => ⟨u₂.trans h.1, h.2⟩) fun _ _ q => q

theorem RepL.one {h : Heap} {d : Dt} {vs : List Value} (r : RepL X h [d] vs) : ∃ v, vs = [v] ∧ Rep X h d v := by cases r with | cons a r => cases r; exact ⟨_, rfl, a⟩
theorem RepL.two {h : Heap} {d₁ d₂ : Dt} {vs : List Value} (r : RepL X h [d₁, d₂] vs) : ∃ v₁ v₂, vs = [v₁, v₂] ∧ Rep X h d₁ v₁ ∧ Rep X h d₂ v₂ := by cases r with | cons a r => cases r with | cons b r => cases r; exact ⟨_, _, rfl, a, b⟩

theorem g_len (w : World) : nsIn (KK w) mainGlobals "len" = some none := by kernel_rfl
theorem g_range (w : World) : nsIn (KK w) mainGlobals "range" = some none := by kernel_rfl
theorem g_list (w : World) : nsIn (KK w) mainGlobals "list" = some none := by kernel_rfl
theorem g_max (w : World) : nsIn (KK w) mainGlobals "max" = some none := by kernel_rfl
theorem g_sum (w : World) : nsIn (KK w) mainGlobals "sum" = some none := by kernel_rfl
theorem g_abs (w : World) : nsIn (KK w) mainGlobals "abs" = some none := by kernel_rfl
theorem g_sorted (w : World) : nsIn (KK w) mainGlobals "sorted" = some none := by kernel_rfl
theorem g_tuple (w : World) : nsIn (KK w) mainGlobals "tuple" = some none := by kernel_rfl
theorem b_len : bootBuiltins "len" = some (.builtin "len") := by kernel_rfl
theorem b_max : bootBuiltins "max" = some (.builtin "max") := by kernel_rfl
theorem b_sum : bootBuiltins "sum" = some (.builtin "sum") := by kernel_rfl
theorem b_abs : bootBuiltins "abs" = some (.builtin "abs") := by kernel_rfl
theorem b_sorted : bootBuiltins "sorted" = some (.builtin "sorted") := by kernel_rfl
theorem b_range : bootBuiltins "range" = some (.type "range") := by kernel_rfl
theorem b_list : bootBuiltins "list" = some (.type "list") := by kernel_rfl
theorem b_tuple : bootBuiltins "tuple" = some (.type "tuple") := by kernel_rfl

theorem any_up {t : Sem Value} {d : Dt} (h : wpAny (model prog w) A t (fun v s₂ => (s.heap.objs.size ≤ s₂.heap.objs.size → Up s s₂) ∧ (s.heap.objs.size ≤ s₂.heap.objs.size → Rep X s₂.heap d v)) NoE s) : wpAny (model prog w) A t (fun v s₂ => Up s s₂ ∧ Rep X s₂.heap d v) NoE s :=
  any_size (wpAny_mono h (fun v s₂ q z => ⟨q.1 z, q.2 z⟩) fun _ _ q _ => q)

section
variable {p pos : Pos} {e e' : Expr} (G : Gl w s.heap) (hk : env.scope.kind = .function) (hgl : env.globals = mainGlobals) (hb : env.builtins = builtinsNs)
include G hk hgl hb
theorem ev_len {ds : List Dt} (V : Ev0 prog w A env s e (.list ds)) (hsz : ds.length < 2 ^ 63) (hx : env.kindOf "len" = some .globalImplicit := by rfl) (he : starEach [e] env = (false, eval e env) :: starEach [] env := by rfl) : Ev prog w A X env s (.Call (.Name "len" p) [e] [] pos) (.int ds.length) :=
  ev_callB G (g_len w) b_len (evs_cons V evs_nil he) (fun vs s₁ _ r => by
    obtain ⟨v, rfl, r'⟩ := r.one
    obtain ⟨a, vs, rfl, _, pl, l⟩ := r'.list_inv
    have el : vs.toArray.size = ds.length := by simp [l.length]
    exact call_len_list pl (by rw [el]; omega) (by rw [el]; exact ⟨Up.toks _ _, .int _ _⟩)) hk hx hgl hb (by decide) (by decide) he
theorem ev_max {a b : Int} (hh : A.handled = none) (V : Ev0 prog w A env s e (.int a)) (W : Ev0 prog w A env s e' (.int b)) (hx : env.kindOf "max" = some .globalImplicit := by rfl) (he : starEach [e, e'] env = (false, eval e env) :: starEach [e'] env := by rfl) (he' : starEach [e'] env = (false, eval e' env) :: starEach [] env := by rfl) : Ev prog w A X env s (.Call (.Name "max" p) [e, e'] [] pos) (.int (if b > a then b else a)) :=
  ev_callB G (g_max w) b_max (evs_cons V (evs_cons W evs_nil he') he) (fun vs s₁ _ r => by
    obtain ⟨v₁, v₂, rfl, r₁, r₂⟩ := r.two
    obtain ⟨t, rfl⟩ := r₁.int_inv
    obtain ⟨u, rfl⟩ := r₂.int_inv
    refine any_up (max_two_ints hh fun h' tk k => ⟨fun z => ⟨⟨_, _, rfl⟩, fun b o _ q => k b o q, z⟩, fun _ => ?_⟩)
    split <;> exact .int _ _) hk hx hgl hb (by decide) (by decide) he (by rw [he']; rfl)
theorem ev_abs {a : Int} (V : Ev0 prog w A env s e (.int a)) (hx : env.kindOf "abs" = some .globalImplicit := by rfl) (he : starEach [e] env = (false, eval e env) :: starEach [] env := by rfl) : Ev prog w A X env s (.Call (.Name "abs" p) [e] [] pos) (.int (if a < 0 then -a else a)) :=
  ev_callB G (g_abs w) b_abs (evs_cons V evs_nil he) (fun vs s₁ _ r => by
    obtain ⟨v, rfl, r'⟩ := r.one
    obtain ⟨t, rfl⟩ := r'.int_inv
    exact call_abs_int fun u tk => ⟨Up.toks _ _, .int _ _⟩) hk hx hgl hb (by decide) (by decide) he
theorem ev_sum {ns : List Int} (hh : A.handled = none) (V : Ev0 prog w A env s e (.list (ns.map .int))) (hx : env.kindOf "sum" = some .globalImplicit := by rfl) (he : starEach [e] env = (false, eval e env) :: starEach [] env := by rfl) : Ev prog w A X env s (.Call (.Name "sum" p) [e] [] pos) (.int ns.sum) :=
  ev_callB G (g_sum w) b_sum (evs_cons V evs_nil he) (fun vs s₁ _ r => by
    obtain ⟨v, rfl, r'⟩ := r.one
    obtain ⟨a, vs, rfl, _, pl, l⟩ := r'.list_inv
    have hi := l.ints
    obtain ⟨xs, hx⟩ := hi.allInts.items
    have hl' : s₁.heap.IsList a (intItems xs) := hx ▸ pl
    have e1 : ns = xs.toList.map (·.1) := by
      rw [← nums_intItems, ← hx]
      exact (show numsOf vs.toArray.toList = ns from hi.numsOf).symm
    have e2 : preSum (numAt xs) xs.size = ns.sum := by rw [preSum_eq, List.take_of_length_le (by simp), e1]
    exact any_up (sum_intListG hh hl' fun h' tk t' k => ⟨fun z => ⟨⟨_, _, rfl⟩, fun b o _ q => k b o q, z⟩, fun _ => by rw [e2]; exact .int _ _⟩)) hk hx hgl hb (by decide) (by decide) he
end
end
end Mine

/-! Lay9 -/
namespace Mine

abbrev Dt.nat (i : Nat) : Dt := .int (i : Int)

theorem Has.inner {env cenv : Env} {y : Str} {d : Dt} {h : Heap} (H : Has env y d h) (hk : env.kindOf y = some .cell ∨ env.kindOf y = some .free) (hc : cenv.cells.lookup y = env.cells.lookup y) (hk' : cenv.kindOf y = some .cell ∨ cenv.kindOf y = some .free) : Has cenv y d h := by
  obtain ⟨v, V, R⟩ := H
  refine ⟨v, ?_, R⟩
  rcases V with ⟨a, _⟩ | ⟨c, a, l, e⟩
  · rw [a] at hk; rcases hk with h | h <;> cases h
  · exact .inr ⟨c, hk', hc.trans l, e⟩

theorem pick_eq {is : List Nat} (p : Nat → Bool) {β : Type} (f : Nat → β) : ((List.range is.length).filter fun j => p (is.getD j 0)).map (fun j => f (is.getD j 0)) = (is.filter p).map f := by
  have e : (List.range is.length).map (fun j => is.getD j 0) = is := by
    apply List.ext_getElem
    · simp
    · intro i h1 h2; simp at h1; simp [h1]
  conv => rhs; rw [← e]
  rw [List.filter_map, List.map_map]
  rfl

section
variable {prog : Program} {w : World} {A : Around} {X : Addr → Prop} {env : Env} {s : Shared} {E : Value → Shared → Prop}
theorem ev_comp {elt iter : Expr} {x : Str} {px : Pos} {ifs : List Expr} {scope : Scope} {cl : List (Str × Addr)} {pos : Pos} {cellx : Bool} (is : List Nat) {g : Nat → Dt} (p : Nat → Bool) {f : Nat → Dt}
    (hclos : closureFor scope env = pure cl) (B : Blk scope cl x cellx) (S : SrcD prog w A NoX env s iter (is.map g)) (hsz : is.length ≤ sizeLine)
    (T : ∀ C i s₃, i ∈ is → Up s s₃ → Has (compEnvC scope (cellsFrom (C + 1) scope.names cl) C env) x (g i) s₃.heap → Tsts prog w A (compEnvC scope (cellsFrom (C + 1) scope.names cl) C env) s₃ ifs (p i))
    (V : ∀ C i s₃, i ∈ is → p i = true → Up s s₃ → Has (compEnvC scope (cellsFrom (C + 1) scope.names cl) C env) x (g i) s₃.heap → Ev prog w A (fun b => b < s₃.heap.objs.size) (compEnvC scope (cellsFrom (C + 1) scope.names cl) C env) s₃ elt (f i))
    (hs : ∀ x, foldedSetIterable iter env x = pure x := by intro _; rfl) :
    Ev prog w A X env s (.ListComp elt [⟨.Name x px, iter, ifs, 0⟩] scope pos) (.list ((is.filter p).map f)) := by
  intro hX s₁ u
  have S := S s₁ u
  rw [List.length_map] at S
  have hg : ∀ {i : Nat} {d : Dt}, i < is.length → (is.map g)[i]? = some d → d = g (is.getD i 0) ∧ is.getD i 0 ∈ is := by
    intro i d hi e
    simp only [List.getElem?_map, List.getElem?_eq_getElem hi, Option.map_some, Option.some.injEq] at e
    have e2 : is.getD i 0 = is[i] := by simp [List.getD, List.getElem?_eq_getElem hi]
    rw [e2]
    exact ⟨e.symm, List.getElem_mem hi⟩
  refine comp_eval hclos B S hsz (fun j => p (is.getD j 0)) (fun j y h => Rep (fun b => b < s₁.heap.objs.size) h (f (is.getD j 0)) y) ?_ ?_ ?_ hs
  · rintro C i v s₃ hi ⟨d, hd, R⟩ us₃ Vx
    obtain ⟨rfl, hm⟩ := hg hi hd
    exact T C _ s₃ hm (u.trans us₃) ⟨v, Vx, R.up us₃⟩
  · rintro C i v s₃ hi ⟨d, hd, R⟩ hp us₃ Vx
    obtain ⟨rfl, hm⟩ := hg hi hd
    refine (V C _ s₃ hm hp (u.trans us₃) ⟨v, Vx, R.up us₃⟩).use (fun b h => h) (But.refl _) fun y s₄ u₄ _ R' => ⟨u₄, fun h' k => ?_⟩
    exact R'.mono fun b o nb e => ⟨k b o (Nat.not_lt.mp nb) e, fun q => nb (Nat.lt_of_lt_of_le q us₃.size)⟩
  · intro D ys s' u' hD O
    obtain ⟨pl, P⟩ := O.out
    refine ⟨u', .list (vs := ys) (fun q => absurd (Nat.lt_of_lt_of_le (hX _ q) u.size) (Nat.not_lt.mpr hD)) pl.isList ?_⟩
    have := RepL.paired (f := fun j => f (is.getD j 0)) P
    rw [pick_eq] at this
    exact this.mono fun b o nb e => ⟨e, fun q => nb (Nat.lt_of_lt_of_le (hX _ q) u.size)⟩

/-! ranges -/
section
variable {p pos : Pos} {e e' : Expr} (G : Gl w s.heap) (hk : env.scope.kind = .function) (hgl : env.globals = mainGlobals) (hb : env.builtins = builtinsNs)
include G hk hgl hb
theorem srcD_range {N : Addr → Prop} {n : Nat} (hh : A.handled = none) (V : Ev0 prog w A env s e (.int n)) (hn : n < 2 ^ 61) (hx : env.kindOf "range" = some .globalImplicit := by rfl) (he : starEach [e] env = (false, eval e env) :: starEach [] env := by rfl) :
    SrcD prog w A N env s (.Call (.Name "range" p) [e] [] pos) ((List.range n).map Dt.nat) := by
  intro s₁ u
  have hsz : Builtin.Range.rangeSize 0 n 1 = (n : Int) := by rw [rangeSize_one]; split <;> omega
  have := src_range (prog := prog) (w := w) (A := A) (env := env) (s := s₁) (iter := .Call (.Name "range" p) [e] [] pos) (a := 0) (b := n) (n := n) hh (small_one (by omega) (by omega) (by omega) (by omega)) hsz fun Q E k => by
    refine useT (G.up u) (g_range w) b_range (evs_cons (V.up0 u) evs_nil he) (fun vs s₂ u₂ r => ?_) hk hx hgl hb (by decide) (by decide) he
    obtain ⟨v, rfl, r'⟩ := r.one
    obtain ⟨t, rfl⟩ := r'.int_inv
    exact call_range_1 (k _ _ _ _ _ (u₂.trans (Up.push _ _ _)) u₂.size (IsRange.new ..))
  simp only [List.length_map, List.length_range]
  intro Q E k
  refine this Q E fun I fp wr St s₂ W hst u' hwr hfp => k I fp wr St s₂ (walks_imp W fun i v hi h => ?_) hst u' hwr fun b hb => ⟨(hfp b hb).1, (hfp b hb).2.elim .inl fun q => q.elim⟩
  obtain ⟨t, rfl⟩ := h
  refine ⟨.nat i, by simp [hi], ?_⟩
  rw [Int.zero_add]; exact .int _ _
theorem srcD_range2 {N : Addr → Prop} {a : Nat} {n : Nat} (hh : A.handled = none) (V : Ev0 prog w A env s e (.int a)) (W : Ev0 prog w A env s e' (.int n)) (ha : a < 2 ^ 61) (hn : n < 2 ^ 61) (hx : env.kindOf "range" = some .globalImplicit := by rfl) (he : starEach [e, e'] env = (false, eval e env) :: starEach [e'] env := by rfl) (he' : starEach [e'] env = (false, eval e' env) :: starEach [] env := by rfl) :
    SrcD prog w A N env s (.Call (.Name "range" p) [e, e'] [] pos) ((List.range (n - a)).map fun i => Dt.nat (a + i)) := by
  intro s₁ u
  have hsz : Builtin.Range.rangeSize a n 1 = ((n - a : Nat) : Int) := by rw [rangeSize_one]; split <;> omega
  have := src_range (prog := prog) (w := w) (A := A) (env := env) (s := s₁) (iter := .Call (.Name "range" p) [e, e'] [] pos) (a := a) (b := n) (n := n - a) hh (small_one (by omega) (by omega) (by omega) (by omega)) hsz fun Q E k => by
    refine useT (G.up u) (g_range w) b_range (evs_cons (V.up0 u) (evs_cons (W.up0 u) evs_nil he') he) (fun vs s₂ u₂ r => ?_) hk hx hgl hb (by decide) (by decide) he (by rw [he']; rfl)
    obtain ⟨v, v', rfl, r', r''⟩ := r.two
    obtain ⟨t, rfl⟩ := r'.int_inv
    obtain ⟨t', rfl⟩ := r''.int_inv
    exact call_range_2 (k _ _ _ _ _ (u₂.trans (Up.push _ _ _)) u₂.size (IsRange.new ..))
  simp only [List.length_map, List.length_range]
  intro Q E k
  refine this Q E fun I fp wr St s₂ W hst u' hwr hfp => k I fp wr St s₂ (walks_imp W fun i v hi h => ?_) hst u' hwr fun b hb => ⟨(hfp b hb).1, (hfp b hb).2.elim .inl fun q => q.elim⟩
  obtain ⟨t, rfl⟩ := h
  refine ⟨.nat (a + i), by simp [hi], ?_⟩
  show Rep NoX _ (.int ((a + i : Nat) : Int)) _
  rw [Int.natCast_add]; exact .int _ _
theorem ev_listRange {n : Nat} {p' pos' : Pos} (hh : A.handled = none) (V : Ev0 prog w A env s e (.int n)) (hn : n ≤ 1000) (hx : env.kindOf "range" = some .globalImplicit := by rfl) (hx' : env.kindOf "list" = some .globalImplicit := by rfl) (he : starEach [e] env = (false, eval e env) :: starEach [] env := by rfl)
    (he' : starEach [.Call (.Name "range" p) [e] [] pos] env = (false, eval (.Call (.Name "range" p) [e] [] pos) env) :: starEach [] env := by rfl) :
    Ev prog w A X env s (.Call (.Name "list" p') [.Call (.Name "range" p) [e] [] pos] [] pos') (.list ((List.range n).map Dt.nat)) := by
  intro hX s₁ u
  refine Call_Name rfl (name_boot (G.up u) (g_list w) b_list (callWith_type1 ?_ he' rfl) hk hx' hgl hb (by decide) (by decide))
  rw [he']
  refine spliced_cons (useT (G.up u) (g_range w) b_range (evs_cons (V.up0 u) evs_nil he) (fun vs s₂ u₂ r => ?_) hk hx hgl hb (by decide) (by decide) he)
  obtain ⟨v, rfl, r'⟩ := r.one
  obtain ⟨t, rfl⟩ := r'.int_inv
  refine call_range_1 (spliced_nil ?_)
  have hsz : Builtin.Range.rangeSize 0 n 1 = (n : Int) := by rw [rangeSize_one]; split <;> omega
  refine any_size (call_list_range hh (IsRange.new ..) (small_one (by omega) (by omega) (by omega) (by omega)) hsz (by omega) fun h' tk acc' c' kk ha hi z => ?_)
  have z2 : s₂.heap.objs.size ≤ h'.objs.size := Nat.le_trans (by show s₂.heap.objs.size ≤ (s₂.heap.push _).objs.size; rw [Heap.size_push]; omega) z
  refine ⟨u₂.trans ⟨⟨_, _, rfl⟩, fun b o _ q => kk b o (Heap.get?_push_of_some _ q), z2⟩, .list (vs := acc'.toList) (fun q => ?_) ⟨_, ha, rfl, _, rfl⟩ ?_⟩
  · have h1 := hX _ q
    have h2 := (u.trans u₂).size
    have h3 : s₂.heap.objs.size + 1 = (s₂.heap.push { cls := .type "range", data := .fields #[.int 0 s₂.toks, .int n t, .int 1 (s₂.toks + 1)] }).objs.size := (Heap.size_push ..).symm
    change (s₂.heap.push { cls := .type "range", data := .fields #[.int 0 s₂.toks, .int n t, .int 1 (s₂.toks + 1)] }).objs.size < _ at h1
    omega
  · obtain ⟨h1, h2⟩ := hi
    have e : acc'.toList = (List.range n).map fun i => acc'.getD i .none := by
      apply List.ext_getElem
      · simp [h1]
      · intro i q1 q2; simp at q1; simp [q1]
    rw [e]
    refine RepL.paired (f := Dt.nat) ?_
    have key : ∀ l : List Nat, (∀ i ∈ l, i < n) → Paired (fun i y => Rep X h' (.int (i : Nat)) y) l (l.map fun i => acc'.getD i .none) := by
      intro l
      induction l with
      | nil => intro _; exact .nil
      | cons i l ih =>
        intro hl
        refine .cons ?_ (ih fun j hj => hl j (List.mem_cons_of_mem _ hj))
        have hi : i < acc'.size := by rw [h1]; exact hl i (List.mem_cons_self ..)
        obtain ⟨t, ht⟩ := h2 i (acc'.getD i .none) (by simp [hi])
        show Rep X h' (Dt.int (i : Nat)) (acc'.getD i .none)
        rw [ht, Int.zero_add, Int.mul_one]; exact .int _ _
    exact key _ fun i hi => List.mem_range.mp hi
end
end
end Mine

/-! Lay10 -/
namespace Mine

abbrev put (ρ : Str → Option Dt) (y : Str) (d : Dt) : Str → Option Dt := fun z => if z = y then some d else ρ z

/-- in a frame: M are the places that may change, X (more than M) those that no data use; ρ says what the names show -/
structure Sit (M X : Addr → Prop) (env : Env) (ρ : Str → Option Dt) (h : Heap) : Prop where
  fr : ∃ m, h.Ns env.locals m
  cells : ∀ x c, env.cells.lookup x = some c → ∃ v, h.IsCell c v
  inj : ∀ x y c, env.cells.lookup x = some c → env.cells.lookup y = some c → x = y
  apart : ∀ x c, env.cells.lookup x = some c → c ≠ env.locals
  xl : M env.locals
  xc : ∀ x c, env.cells.lookup x = some c → M c
  mx : ∀ b, M b → X b
  bd : ∀ b : Nat, X b → b < h.objs.size
  val : ∀ x d, ρ x = some d → ∃ v, Var env x v h ∧ Rep X h d v

/-- the frame's own places -/
def Frm (env : Env) (b : Addr) : Prop := b = env.locals ∨ ∃ x, env.cells.lookup x = some b
section
variable {M X Y : Addr → Prop} {env : Env} {ρ : Str → Option Dt} {s s' : Shared} {h h' : Heap} {x : Str} {d : Dt}
theorem Sit.frm (S : Sit M X env ρ h) : ∀ b, Frm env b → M b := fun b q => q.elim (fun e => e ▸ S.xl) fun ⟨x, e⟩ => S.xc x b e
theorem Sit.has (S : Sit M X env ρ h) (e : ρ x = some d) : Has env x d h := let ⟨v, V, R⟩ := S.val x d e; ⟨v, V, R.to0⟩
theorem Sit.keep (S : Sit M X env ρ h) (k : ∀ b o, ¬ Y b → h.get? b = some o → h'.get? b = some o) (z : h.objs.size ≤ h'.objs.size) (hY : ∀ a, Y a → X a) (hl : ¬ Y env.locals) (hc : ∀ x c, env.cells.lookup x = some c → ¬ Y c) : Sit M X env ρ h' where
  fr := let ⟨m, h⟩ := S.fr; ⟨m, h.at' fun o e => k _ _ hl e⟩
  cells := fun x c e => let ⟨v, o, h, q⟩ := S.cells x c e; ⟨v, o, k _ _ (hc x c e) h, q⟩
  inj := S.inj
  apart := S.apart
  xl := S.xl
  xc := S.xc
  mx := S.mx
  bd := fun b' h => Nat.lt_of_lt_of_le (S.bd b' h) z
  val := fun x d e => by
    obtain ⟨v, V, R⟩ := S.val x d e
    refine ⟨v, ?_, R.mono fun a o n e => ⟨k _ _ (fun q => n (hY a q)) e, n⟩⟩
    rcases V with ⟨a, m, n, e⟩ | ⟨c, a, l, o, h, q⟩
    · exact .inl ⟨a, m, n.at' fun o e => k _ _ hl e, e⟩
    · exact .inr ⟨c, a, l, o, k _ _ (hc x c l) h, q⟩
theorem Sit.up (S : Sit M X env ρ s.heap) (u : Up s s') : Sit M X env ρ s'.heap := S.keep (Y := NoX) (fun b o _ e => u.le b o e) u.size (fun _ q => q.elim) (fun q => q) fun _ _ _ q => q
/-- a change of places of X other than the frame and its cells -/
theorem Sit.but (S : Sit M X env ρ s.heap) (b : But Y s s') (hY : ∀ a, Y a → X a) (hl : ¬ Y env.locals) (hc : ∀ x c, env.cells.lookup x = some c → ¬ Y c) : Sit M X env ρ s'.heap := S.keep b.keep b.size hY hl hc
/-- new places that no data use yet -/
theorem Sit.more (S : Sit M X env ρ s.heap) (u : Up s s') (hY : ∀ a : Nat, Y a → s.heap.objs.size ≤ a ∧ a < s'.heap.objs.size) : Sit M (fun b => X b ∨ Y b) env ρ s'.heap where
  fr := (S.up u).fr
  cells := (S.up u).cells
  inj := S.inj
  apart := S.apart
  xl := S.xl
  xc := S.xc
  mx := fun b h => .inl (S.mx b h)
  bd := fun b h => h.elim ((S.up u).bd b) fun e => (hY b e).2
  val := fun x d e => by
    obtain ⟨v, V, R⟩ := S.val x d e
    refine ⟨v, V.le u.le, R.mono fun b o n e => ⟨u.le _ _ e, fun q => ?_⟩⟩
    rcases q with q | q
    · exact n q
    · exact absurd (Heap.lt_size e) (Nat.not_lt.mpr (hY b q).1)
theorem Sit.moreM (S : Sit M X env ρ h) (hY : ∀ a, Y a → X a) : Sit (fun b => M b ∨ Y b) X env ρ h := { S with xl := .inl S.xl, xc := fun x c e => .inl (S.xc x c e), mx := fun b q => q.elim (S.mx b) (hY b) }
theorem Sit.forget (S : Sit M X env ρ h) (ρ' : Str → Option Dt) (k : ∀ x d, ρ' x = some d → ρ x = some d) : Sit M X env ρ' h := { S with val := fun x d e => S.val x d (k x d e) }
theorem Sit.less (S : Sit M X env ρ h) (Y : Addr → Prop) (hY : ∀ b, Y b → X b) (hM : ∀ b, M b → Y b) : Sit M Y env ρ h := { S with mx := hM, bd := fun b q => S.bd b (hY b q), val := fun x d e => let ⟨v, V, R⟩ := S.val x d e; ⟨v, V, R.mono fun b o n e => ⟨e, fun q => n (hY b q)⟩⟩ }
end

section
variable {prog : Program} {w : World} {A : Around} {M X : Addr → Prop} {env : Env} {ρ : Str → Option Dt} {s : Shared} {E : Value → Shared → Prop} {Mo : Model}
theorem Var.other {h h' : Heap} {x : Str} {v : Value} {z : Addr} (V : Var env x v h) (hz : z ≠ env.locals) (hs : Heap.SameBut z h h') (hc : ∀ c, env.cells.lookup x = some c → c ≠ z) : Var env x v h' := by
  rcases V with ⟨a, m, n, e⟩ | ⟨c, a, l, e⟩
  · exact .inl ⟨a, m, n.sameBut hs (Ne.symm hz), e⟩
  · exact .inr ⟨c, a, l, e.sameBut hs (hc c l)⟩
theorem ns_same {h : Heap} {a : Addr} {m m' : Str → Option Value} (x : h.Ns a m) (y : h.Ns a m') : m = m' := by
  obtain ⟨o, es, ep, h1, h2, _, h3⟩ := x
  obtain ⟨o', es', ep', h1', h2', _, h3'⟩ := y
  rw [h1] at h1'
  cases h1'
  rw [h2] at h2'
  cases h2'
  funext z
  rw [← h3, ← h3']
/-- the local y now holds v -/
theorem Sit.putL {y : Str} {v : Value} {d : Dt} {s' : Shared} {m : Str → Option Value} (S : Sit M X env ρ s.heap) (R : Rep X s'.heap d v) (hy : env.kindOf y = some .local) (b : But (· = env.locals) s s') (hm : s.heap.Ns env.locals m) (hn : s'.heap.Ns env.locals (fun z => if z = y then some v else m z)) : Sit M X env (put ρ y d) s'.heap := by
  have bX : But X s s' := b.mono fun _ q => q ▸ S.mx _ S.xl
  refine { fr := ⟨_, hn⟩, cells := fun x c e => let ⟨v, o, h, q⟩ := S.cells x c e; ⟨v, o, b.keep _ _ (S.apart x c e) h, q⟩, inj := S.inj, apart := S.apart, xl := S.xl, xc := S.xc, mx := S.mx, bd := fun b' h => Nat.lt_of_lt_of_le (S.bd b' h) b.size, val := fun x d' e => ?_ }
  dsimp only [put] at e
  by_cases hx : x = y
  · rw [if_pos hx] at e
    cases e
    exact ⟨v, .inl ⟨hx ▸ hy, _, hn, by simp [hx]⟩, R⟩
  · rw [if_neg hx] at e
    obtain ⟨v', V, R'⟩ := S.val x d' e
    refine ⟨v', ?_, R'.but bX⟩
    rcases V with ⟨a, m', n', e'⟩ | ⟨c, a, l, o, e', q⟩
    · refine .inl ⟨a, _, hn, ?_⟩
      simp only [if_neg hx]
      rw [ns_same hm n']; exact e'
    · exact .inr ⟨c, a, l, o, b.keep _ _ (S.apart x c l) e', q⟩
theorem Sit.store {y : Str} {v : Value} {d : Dt} {Q : Unit → Shared → Prop} (S : Sit M X env ρ s.heap) (R : Rep X s.heap d v) (hk : env.scope.kind = .function)
    (hy : env.kindOf y = some .local ∨ (env.kindOf y = some .cell ∧ (env.cells.lookup y).isSome = true)) (k : ∀ s', But (Frm env) s s' → Sit M X env (put ρ y d) s'.heap → Q () s') : wpAny Mo A (storeName env y v) Q E s := by
  rcases hy with hy | ⟨hy, hc⟩
  · obtain ⟨m, hm⟩ := S.fr
    refine wpAny_storeName_local hy hm (fun h' hn hs => ?_) (by rw [hk]; rfl)
    have b : But (· = env.locals) s { s with heap := h', toks := s.toks + 1 } := ⟨⟨_, _, rfl⟩, fun b o q e => hs.extBut b o q e, Nat.le_of_eq hs.1.symm⟩
    have bX : But M s { s with heap := h', toks := s.toks + 1 } := b.mono fun _ q => q ▸ S.xl
    exact k _ (b.mono fun _ q => .inl q) (S.putL (R.but (bX.mono S.mx)) hy b hm hn)
  · obtain ⟨c, hc⟩ := Option.isSome_iff_exists.mp hc
    obtain ⟨v₀, h₀⟩ := S.cells y c hc
    refine wpAny_storeName_cell hk hy hc h₀ fun h' hc' hs => ?_
    have b : But (· = c) s { s with heap := h' } := ⟨⟨_, s.toks, rfl⟩, fun b o q e => hs.extBut b o q e, Nat.le_of_eq hs.1.symm⟩
    have bM : But M s { s with heap := h' } := b.mono fun _ q => q ▸ S.xc y c hc
    have bX : But X s { s with heap := h' } := bM.mono S.mx
    refine k _ (b.mono fun _ q => .inr ⟨y, q ▸ hc⟩) { fr := let ⟨m, h⟩ := S.fr; ⟨m, h.sameBut hs (Ne.symm (S.apart y c hc))⟩, cells := fun x c₁ e => ?_, inj := S.inj, apart := S.apart, xl := S.xl, xc := S.xc, mx := S.mx, bd := fun b h => Nat.lt_of_lt_of_le (S.bd b h) bX.size, val := fun x d' e => ?_ }
    · by_cases hx : c₁ = c
      · subst hx; exact ⟨_, hc'⟩
      · let ⟨v, h⟩ := S.cells x c₁ e; exact ⟨v, h.sameBut hs hx⟩
    · dsimp only [put] at e
      by_cases hx : x = y
      · rw [if_pos hx] at e
        cases e
        subst hx
        exact ⟨v, .inr ⟨c, .inl hy, hc, hc'⟩, R.but bX⟩
      · rw [if_neg hx] at e
        obtain ⟨v', V, R'⟩ := S.val x d' e
        exact ⟨v', V.other (S.apart y c hc) hs fun c₁ e₁ q => hx (S.inj x y c (q ▸ e₁) hc), R'.but bX⟩

/-! statements -/
abbrev Stk (y : Str) (env : Env) : Prop := env.kindOf y = some .local ∨ (env.kindOf y = some .cell ∧ (env.cells.lookup y).isSome = true)
theorem st_assign {y : Str} {py pos : Pos} {e : Expr} {d : Dt} {Q : Flow → Shared → Prop} (S : Sit M X env ρ s.heap) (V : Ev prog w A X env s e d) (hy : Stk y env) (k : ∀ s', But (Frm env) s s' → Sit M X env (put ρ y d) s'.heap → Q .next s')
    (hk : env.scope.kind = .function := by rfl) (hs : swapsWith e (some (.Name y py)) pos.line env = pure false := by rfl) : wpAny (model prog w) A (exec (.Assign [.Name y py] e pos) env) Q E s :=
  wpAny_Assign_Name (V.use S.bd (But.refl s) fun v s₂ u₂ _ R => (S.up u₂).store R hk hy fun s₃ b₃ S₃ => k s₃ ((u₂.up (X := Frm env)).trans b₃) S₃) hs
theorem st_if {t : Expr} {a b : List Stmt} {pos : Pos} {c : Bool} {Q : Flow → Shared → Prop} (S : Sit M X env ρ s.heap) (T : Tst prog w A env s t c) (kt : c = true → ∀ s', Up s s' → Sit M X env ρ s'.heap → wpAny (model prog w) A (execs a env) Q E s')
    (kf : c = false → ∀ s', Up s s' → Sit M X env ρ s'.heap → wpAny (model prog w) A (execs b env) Q E s') : wpAny (model prog w) A (exec (.If t a b pos) env) Q E s := by
  refine wpAny_If (T.use (But.refl s) fun s₂ u₂ _ => ?_)
  cases c with
  | true => exact kt rfl s₂ u₂ (S.up u₂)
  | false => exact kf rfl s₂ u₂ (S.up u₂)
theorem st_aug_add {y : Str} {py pos : Pos} {e : Expr} {a b : Int} {Q : Flow → Shared → Prop} (S : Sit M X env ρ s.heap) (hv : ρ y = some (.int a)) (V : Ev0 prog w A env s e (.int b)) (hy : Stk y env) (k : ∀ s', But (Frm env) s s' → Sit M X env (put ρ y (.int (a + b))) s'.heap → Q .next s')
    (hk : env.scope.kind = .function := by rfl) (hn : (y == ("__classdict__" : Str)) = false := by decide) : wpAny (model prog w) A (exec (.AugAssign (.Name y py) .Add e pos) env) Q E s := by
  obtain ⟨v, Vy, R⟩ := S.has hv
  obtain ⟨t, rfl⟩ := R.int_inv
  refine wpAny_AugAssign_Name (load_var Vy (V.use0 (But.refl s) fun v' s₂ u₂ _ R' => ?_) hk hn)
  obtain ⟨t', rfl⟩ := R'.int_inv
  refine wpAny_iadd_int ?_
  exact Sit.store (s := { s₂ with toks := s₂.toks + 1 }) ((S.up u₂).up (Up.toks _ _)) (.int _ _) hk hy fun s₃ b₃ S₃ => k s₃ (((u₂.trans (Up.toks _ _)).up (X := Frm env)).trans b₃) S₃

/-! for -/
theorem for_rule2 {x : Str} {px pos : Pos} {iter : Expr} {body : List Stmt} {ro : Addr → Prop} {n : Nat} {P : Nat → Value → Prop} {Q : Flow → Shared → Prop} (S : Src prog w A env iter s ro n P) (X : Addr → Prop) (hX : ∀ b : Nat, X b → b < s.heap.objs.size) (hro : ∀ b, ro b → ¬ X b)
    (J : Nat → Nat → Heap → Prop) (h0 : ∀ (k₀ : Nat) (h' : Heap), s.heap.objs.size ≤ k₀ → k₀ ≤ h'.objs.size → (∀ b o, s.heap.get? b = some o → h'.get? b = some o) → J k₀ 0 h')
    (turn : ∀ (k₀ : Nat) i v s₁, s.heap.objs.size ≤ k₀ → k₀ ≤ s₁.heap.objs.size → i < n → P i v → But X s s₁ → J k₀ i s₁.heap →
      wpAny (model prog w) A (storeName env x v) (fun _ s₂ => wpAny (model prog w) A (execs body env) (fun f s₃ => match f with
        | .ret v => Q (.ret v) s₃
        | .brk => Q .next s₃
        | _ => But (fun b => X b ∨ k₀ ≤ b) s₁ s₃ ∧ ∀ h' : Heap, (∀ (b : Nat) o, (b < s.heap.objs.size ∨ k₀ ≤ b) → s₃.heap.get? b = some o → h'.get? b = some o) → s₃.heap.objs.size ≤ h'.objs.size → J k₀ (i + 1) h') NoE s₂) NoE s₁)
    (done : ∀ (k₀ : Nat) s', s.heap.objs.size ≤ k₀ → But X s s' → J k₀ n s'.heap → Q .next s')
    (hs : ∀ x, foldedSetIterable iter env x = pure x := by intro _; rfl) :
    wpAny (model prog w) A (exec (.For (.Name x px) iter body [] pos) env) Q E s := by
  refine wpAny_For (S _ _ fun I fp wr St s₂ W hst u hwr hfp => ?_) hs
  have us := u.size
  refine codeAny_forLoop (fun k s' => ∃ i, But X s s' ∧ St i s'.heap ∧ s₂.heap.objs.size ≤ s'.heap.objs.size ∧ i ≤ n ∧ k = n + 1 - i ∧
    ∀ h' : Heap, (∀ (b : Nat) o, (b < s.heap.objs.size ∨ s₂.heap.objs.size ≤ b) → s'.heap.get? b = some o → h'.get? b = some o) → s'.heap.objs.size ≤ h'.objs.size → J s₂.heap.objs.size i h') ?_ (n + 1)
    ⟨0, u.up, hst, Nat.le_refl _, Nat.zero_le _, rfl, fun h' k z => ?_⟩
  · rintro k s' ⟨i, b, st, hz, hi, rfl, hJ⟩
    have hwr2 : ∀ b : Nat, b ∈ wr → b < s₂.heap.objs.size := fun b hb => (hfp b (W.sub b hb)).1
    by_cases hlt : i < n
    · refine any_size (W.item i _ _ _ hlt st fun v h₁ tk₁ hPv st₁ k₁ z₁ => ?_)
      have b₁ : But X s { s' with heap := h₁, toks := tk₁ } := ((b.mono (Y := fun b => X b ∨ b ∈ wr) (fun _ q => .inl q)).trans ⟨⟨_, _, rfl⟩, fun b o q e => k₁ b o (fun q' => q (.inr q')) e, z₁⟩).drop fun b hb hl => by
        rcases hb with hb | hb
        · exact hb
        · exact absurd (hwr b hb) (Nat.not_le.mpr hl)
      have hJ₁ : J s₂.heap.objs.size i h₁ := hJ h₁ (fun b o hb e => k₁ b o (fun q => by have h1 := hwr b q; have h2 := hwr2 b q; omega) e) z₁
      refine wpAny_assign_Name (noE (wpAny_mono (turn s₂.heap.objs.size i v _ us (Nat.le_trans hz z₁) hlt hPv b₁ hJ₁) (fun _ s₃ h₃ => noE (wpAny_mono h₃ (fun f s₄ h₄ => ?_) fun _ _ q => q.elim)) fun _ _ q => q.elim))
      have nx : But (fun b => X b ∨ s₂.heap.objs.size ≤ b) { s' with heap := h₁, toks := tk₁ } s₄ → (∀ h' : Heap, (∀ (b : Nat) o, (b < s.heap.objs.size ∨ s₂.heap.objs.size ≤ b) → s₄.heap.get? b = some o → h'.get? b = some o) → s₄.heap.objs.size ≤ h'.objs.size → J s₂.heap.objs.size (i + 1) h') →
          ∃ m, m < n + 1 - i ∧ ∃ i, But X s s₄ ∧ St i s₄.heap ∧ s₂.heap.objs.size ≤ s₄.heap.objs.size ∧ i ≤ n ∧ m = n + 1 - i ∧
            ∀ h' : Heap, (∀ (b : Nat) o, (b < s.heap.objs.size ∨ s₂.heap.objs.size ≤ b) → s₄.heap.get? b = some o → h'.get? b = some o) → s₄.heap.objs.size ≤ h'.objs.size → J s₂.heap.objs.size i h' := fun b₄ hJ₄ => by
        refine ⟨n + 1 - (i + 1), by omega, i + 1, ?_, ?_, Nat.le_trans hz (Nat.le_trans z₁ b₄.size), hlt, rfl, hJ₄⟩
        · exact ((b₁.mono (Y := fun b => X b ∨ s₂.heap.objs.size ≤ b) fun _ q => .inl q).trans b₄).drop fun b hb hl => by
            rcases hb with hb | hb
            · exact hb
            · exact absurd (Nat.le_trans us hb) (Nat.not_le.mpr hl)
        · refine W.frame _ _ _ st₁ fun b hb o e => b₄.keep b o (fun q => ?_) e
          have h1 := hfp b hb
          rcases q with q | q
          · rcases h1.2 with h2 | h2
            · exact absurd (hX b q) (Nat.not_lt.mpr h2)
            · exact hro b h2 q
          · exact absurd h1.1 (Nat.not_lt.mpr q)
      cases f with
      | next => exact nx h₄.1 h₄.2
      | cont => exact nx h₄.1 h₄.2
      | brk => exact h₄
      | ret v => exact h₄
    · have e : i = n := by omega
      subst e
      refine any_size (W.done _ _ _ st fun h₁ tk₁ k₁ z₁ => wpAny_execs_nil ?_)
      refine done s₂.heap.objs.size _ us (((b.mono (Y := fun b => X b ∨ b ∈ wr) (fun _ q => .inl q)).trans ⟨⟨_, _, rfl⟩, fun b o q e => k₁ b o (fun q' => q (.inr q')) e, z₁⟩).drop fun b hb hl => by
        rcases hb with hb | hb
        · exact hb
        · exact absurd (hwr b hb) (Nat.not_le.mpr hl)) (hJ h₁ (fun b o hb e => k₁ b o (fun q => by have h1 := hwr b q; have h2 := hwr2 b q; omega) e) z₁)
  · exact h0 _ h' us z fun b o e => k b o (.inl (Heap.lt_size e)) (u.le b o e)

/-- the loop, said over Sit: X₁ are X and the loop's own new things -/
theorem st_for {x : Str} {px pos : Pos} {iter : Expr} {body : List Stmt} {ro : Addr → Prop} {n : Nat} {P : Nat → Value → Prop} {Q : Flow → Shared → Prop} (S : Sit M X env ρ s.heap) (Sr : Src prog w A env iter s ro n P) (hro : ∀ b, ro b → ¬ M b)
    (g : Nat → Dt) (hP : ∀ i v, i < n → P i v → Rep X s.heap (g i) v) (hx : Stk x env)
    (I : Nat → (Str → Option Dt) → Heap → Prop) (hI : ∀ i ρ' h h', I i ρ' h → (∀ (b : Nat) o, b < s.heap.objs.size → ¬ Frm env b → h.get? b = some o → h'.get? b = some o) → I i ρ' h') (h0 : I 0 ρ s.heap)
    (turn : ∀ (X₁ : Addr → Prop) i ρ' s₂, (∀ b, X b → X₁ b) → (∀ b : Nat, X₁ b → X b ∨ s.heap.objs.size ≤ b) → i < n → But M s s₂ → I i ρ' s₂.heap → Sit M X₁ env (put ρ' x (g i)) s₂.heap → wpAny (model prog w) A (execs body env) (fun f s₃ => match f with
        | .ret v => Q (.ret v) s₃
        | .brk => Q .next s₃
        | _ => But M s₂ s₃ ∧ ∃ ρ'', I (i + 1) ρ'' s₃.heap ∧ Sit M X₁ env ρ'' s₃.heap) NoE s₂)
    (done : ∀ s' ρ', But M s s' → I n ρ' s'.heap → Sit M X env ρ' s'.heap → Q .next s')
    (hk : env.scope.kind = .function := by rfl) (hs : ∀ x, foldedSetIterable iter env x = pure x := by intro _; rfl) :
    wpAny (model prog w) A (exec (.For (.Name x px) iter body [] pos) env) Q E s := by
  refine for_rule2 Sr M (fun b h => S.bd b (S.mx b h)) hro (fun k₀ i h => s.heap.objs.size ≤ k₀ ∧ ∃ ρ', I i ρ' h ∧ Sit M (fun b => X b ∨ (s.heap.objs.size ≤ b ∧ b < k₀)) env ρ' h) ?_ ?_ ?_ hs
  · intro k₀ h' z0 z1 k
    refine ⟨z0, ρ, hI 0 ρ s.heap h' h0 fun b o _ _ e => k b o e, ?_⟩
    refine { fr := let ⟨m, h⟩ := S.fr; ⟨m, h.keeps k⟩, cells := fun x c e => let ⟨v, h⟩ := S.cells x c e; ⟨v, h.keeps k⟩, inj := S.inj, apart := S.apart, xl := S.xl, xc := S.xc, mx := fun b h => .inl (S.mx b h), bd := fun b h => ?_, val := fun x d e => ?_ }
    · rcases h with h | h
      · exact Nat.lt_of_lt_of_le (S.bd b h) (Nat.le_trans z0 z1)
      · exact Nat.lt_of_lt_of_le h.2 z1
    · obtain ⟨v, V, R⟩ := S.val x d e
      refine ⟨v, V.le k, R.mono fun b o n e => ⟨k _ _ e, fun q => ?_⟩⟩
      rcases q with q | q
      · exact n q
      · exact absurd (Heap.lt_size e) (Nat.not_lt.mpr q.1)
  · rintro k₀ i v s₁ z0 z1 hi p b ⟨_, ρ', hI', S₁⟩
    have Rv : Rep (fun b => X b ∨ (s.heap.objs.size ≤ b ∧ b < k₀)) s₁.heap (g i) v := (hP i v hi p).mono fun a o n e => ⟨b.keep a o (fun q => n (S.mx a q)) e, fun q => by
      rcases q with q | q
      · exact n q
      · exact absurd (Heap.lt_size e) (Nat.not_lt.mpr q.1)⟩
    refine S₁.store Rv hk hx fun s₂ b₂ S₂ => ?_
    have b₂M : But M s₁ s₂ := b₂.mono S.frm
    refine wpAny_mono (turn _ i ρ' s₂ (fun b h => .inl h) (fun b h => h.elim .inl fun q => .inr q.1) hi (b.trans b₂M) (hI _ _ _ _ hI' fun b o _ nb e => b₂.keep b o nb e) S₂) (fun f s₃ h₃ => ?_) fun _ _ q => q
    have nx : (But M s₂ s₃ ∧ ∃ ρ'', I (i + 1) ρ'' s₃.heap ∧ Sit M (fun b => X b ∨ (s.heap.objs.size ≤ b ∧ b < k₀)) env ρ'' s₃.heap) →
        But (fun b => M b ∨ k₀ ≤ b) s₁ s₃ ∧ ∀ h' : Heap, (∀ (b : Nat) o, (b < s.heap.objs.size ∨ k₀ ≤ b) → s₃.heap.get? b = some o → h'.get? b = some o) → s₃.heap.objs.size ≤ h'.objs.size → s.heap.objs.size ≤ k₀ ∧ ∃ ρ', I (i + 1) ρ' h' ∧ Sit M (fun b => X b ∨ (s.heap.objs.size ≤ b ∧ b < k₀)) env ρ' h' := by
      rintro ⟨b₃, ρ'', h1, S₃⟩
      refine ⟨(b₂M.trans b₃).mono fun _ q => .inl q, fun h' kk z => ⟨z0, ρ'', hI _ _ _ _ h1 fun b o hb _ e => kk b o (.inl hb) e, ?_⟩⟩
      have hM : ∀ b : Nat, M b → b < s.heap.objs.size := fun b h => S.bd b (S.mx b h)
      refine S₃.keep (Y := fun b => s.heap.objs.size ≤ b ∧ b < k₀) (fun b o nb e => kk b o ?_ e) z (fun a q => .inr q) (fun q => absurd (hM _ S.xl) (Nat.not_lt.mpr q.1)) (fun x c e q => absurd (hM _ (S.xc x c e)) (Nat.not_lt.mpr q.1))
      by_cases h : b < s.heap.objs.size
      · exact .inl h
      · exact .inr (Nat.not_lt.mp fun q => nb ⟨Nat.not_lt.mp h, q⟩)
    cases f with
    | next => exact nx h₃
    | cont => exact nx h₃
    | brk => exact h₃
    | ret v => exact h₃
  · rintro k₀ s' z0 b ⟨_, ρ', hI', S'⟩
    exact done s' ρ' b hI' (S'.less X (fun b h => .inl h) S.mx)
/-- the loop over a source of plain data -/
theorem st_forD {x : Str} {px pos : Pos} {iter : Expr} {body : List Stmt} {is : List Nat} {g : Nat → Dt} {Q : Flow → Shared → Prop} (S : Sit M X env ρ s.heap) (Sr : SrcD prog w A M env s iter (is.map g)) (im : ∀ i, (g i).imm = true) (hx : Stk x env)
    (I : Nat → (Str → Option Dt) → Heap → Prop) (hI : ∀ i ρ' h h', I i ρ' h → (∀ (b : Nat) o, b < s.heap.objs.size → ¬ Frm env b → h.get? b = some o → h'.get? b = some o) → I i ρ' h') (h0 : I 0 ρ s.heap)
    (turn : ∀ (X₁ : Addr → Prop) i j ρ' s₂, (∀ b, X b → X₁ b) → (∀ b : Nat, X₁ b → X b ∨ s.heap.objs.size ≤ b) → is[i]? = some j → But M s s₂ → I i ρ' s₂.heap → Sit M X₁ env (put ρ' x (g j)) s₂.heap → wpAny (model prog w) A (execs body env) (fun f s₃ => match f with
        | .ret v => Q (.ret v) s₃
        | .brk => Q .next s₃
        | _ => But M s₂ s₃ ∧ ∃ ρ'', I (i + 1) ρ'' s₃.heap ∧ Sit M X₁ env ρ'' s₃.heap) NoE s₂)
    (done : ∀ s' ρ', But M s s' → I is.length ρ' s'.heap → Sit M X env ρ' s'.heap → Q .next s')
    (hk : env.scope.kind = .function := by rfl) (hs : ∀ x, foldedSetIterable iter env x = pure x := by intro _; rfl) :
    wpAny (model prog w) A (exec (.For (.Name x px) iter body [] pos) env) Q E s := by
  have hg : ∀ i, i < is.length → is[i]? = some (is.getD i 0) := fun i hi => by simp [List.getD, List.getElem?_eq_getElem hi]
  refine st_for S (Sr s (But.refl s)) (fun b q r => q r) (fun i => g (is.getD i 0)) ?_ hx I hI h0 ?_ (by rw [List.length_map]; exact done) hk hs
  · rintro i v hi ⟨d, hd, R⟩
    rw [List.length_map] at hi
    rw [List.getElem?_map, hg i hi] at hd
    cases hd
    exact R.imm (im _)
  · intro X₁ i ρ' s₂ h1 h2 hi b hI' S₂
    rw [List.length_map] at hi
    exact turn X₁ i _ ρ' s₂ h1 h2 (hg i hi) b hI' S₂
end
end Mine

/-! Lay11 -/
namespace Mine

/-- the new places of a call -/
def Nw (s s₁ : Shared) (b : Nat) : Prop := s.heap.objs.size ≤ b ∧ b < s₁.heap.objs.size
section
variable {prog : Program} {w : World} {A : Around} {s : Shared} {E : Value → Shared → Prop}
/-- a parameter's value -/
def Par (fd : FuncData) (L f : Addr) (binds : List (Str × Value)) (h : Heap) (x : Str) (d : Dt) : Prop :=
  ∃ v, Rep NoX h d v ∧ (((callEnvC fd L f).kindOf x = some .local ∧ bindL (callEnvC fd L f).kindOf binds (fun _ => none) x = some v) ∨
    ((callEnvC fd L f).kindOf x = some .cell ∧ ((callEnvC fd L f).cells.lookup x).isSome = true ∧ bindC (callEnvC fd L f).kindOf binds (fun _ => none) x = some v))
theorem enterS {f : Addr} {fd : FuncData} {vals : List Value} {body : List Stmt} (binds : List (Str × Value)) {Q : Value → Shared → Prop} (ρ : Str → Option Dt) (D : DefAt w f fd body) (G : Gl w s.heap) (hroom : A.depth < recursionLimit)
    (hbind : bindArgs fd ⟨vals, []⟩ = pure binds)
    (hkind : ∀ x ∈ binds, fd.scope.names.lookup x.1 = some .local ∨ (fd.scope.names.lookup x.1 = some .cell ∧ ((cellsFrom (s.heap.objs.size + 1) fd.scope.names []).lookup x.1).isSome = true))
    (hρ : ∀ x d, ρ x = some d → Par fd s.heap.objs.size f binds s.heap x d)
    (h : ∀ s₁, Up s s₁ → Sit (Nw s s₁) (Nw s s₁) (callEnvC fd s.heap.objs.size f) ρ s₁.heap → wpAny (model prog w) (A.deeper (callEnvC fd s.heap.objs.size f)) (execs body (callEnvC fd s.heap.objs.size f))
      (fun fl s' => Q (match fl with | .ret v => v | _ => .none) s') NoE s₁)
    (hclo : fd.closure = [] := by rfl) :
    wpAny (model prog w) A (call (.ref f) vals) Q E s := by
  refine wpAny_call (codeAny_call_cells hroom (G.x _ _ D.at_) rfl G.lim (codeRec_of G.x D.code) D.body hbind hclo hkind (fun s₁ I => ?_) D.co D.gen D.kind)
  have u : Up s s₁ := by
    obtain ⟨h, tk, rfl⟩ := I.toInCall.same
    refine ⟨⟨_, _, rfl⟩, fun b o _ e => I.toInCall.keep b o e, ?_⟩
    exact Nat.le_of_lt (Nat.lt_of_le_of_lt I.toInCall.fresh I.toInCall.ns.lt)
  have hc : ∀ x c, (callEnvC fd s.heap.objs.size f).cells.lookup x = some c → Nw s s₁ c := fun x c e =>
    ⟨Nat.le_of_lt (I.above x c (mem_of_lookup e)), (I.cell x c e).lt⟩
  have hval : ∀ x d, ρ x = some d → ∃ v, Var (callEnvC fd s.heap.objs.size f) x v s₁.heap ∧ Rep (Nw s s₁) s₁.heap d v := by
    intro x d e
    obtain ⟨v, R, hv⟩ := hρ x d e
    refine ⟨v, ?_, R.mono fun b o _ e => ⟨u.le _ _ e, fun q => absurd (Heap.lt_size e) (Nat.not_lt.mpr q.1)⟩⟩
    rcases hv with ⟨hk, hv⟩ | ⟨hk, hl, hv⟩
    · exact .inl ⟨hk, _, I.toInCall.ns, hv⟩
    · obtain ⟨c, hl⟩ := Option.isSome_iff_exists.mp hl
      refine .inr ⟨c, .inl hk, hl, ?_⟩
      have := I.cell x c hl
      rwa [hv] at this
  have S : Sit (Nw s s₁) (Nw s s₁) (callEnvC fd s.heap.objs.size f) ρ s₁.heap :=
    ⟨⟨_, I.toInCall.ns⟩, fun x c e => ⟨_, I.cell x c e⟩, fun x y c e e' => name_of_addr I.apart (mem_of_lookup e) (mem_of_lookup e'), fun x c e => Nat.ne_of_gt (I.above x c (mem_of_lookup e)),
      ⟨Nat.le_refl _, I.toInCall.ns.lt⟩, hc, fun _ q => q, fun b q => q.2, hval⟩
  exact wpAny_mono (h s₁ u S) (fun fl s' q => q) fun _ _ q => q.elim
/-- what a pure call left: all of s stands -/
theorem Nw.up {s s₁ s₂ : Shared} (u : Up s s₁) (b : But (Nw s s₁) s₁ s₂) : Up s s₂ := ((u.up (X := Nw s s₁)).trans b).fresh fun b q => q.1
end

section
variable {prog : Program} {w : World} {A : Around} {M X X' : Addr → Prop} {env : Env} {ρ : Str → Option Dt} {s : Shared} {E : Value → Shared → Prop}
theorem st_retX {e : Expr} {pos : Pos} {d : Dt} {Q : Flow → Shared → Prop} (V : Ev prog w A X' env s e d) (hX : ∀ b : Nat, X' b → b < s.heap.objs.size) (k : ∀ v s', Up s s' → Rep X' s'.heap d v → Q (.ret v) s') : wpAny (model prog w) A (exec (.Return (some e) pos) env) Q E s :=
  wpAny_Return_some (V.use hX (But.refl s) fun v s₂ u₂ _ R => k v s₂ u₂ R)

/-! slices of lists of ints -/
def EvP (prog : Program) (w : World) (A : Around) (env : Env) (s : Shared) (oe : Option Expr) (o : Option Int) : Prop := ∀ s₁, Up s s₁ → wpAny (model prog w) A (evalPart oe env) (fun v s₂ => Up s₁ s₂ ∧ IsPart v o) NoE s₁
theorem evp_none : EvP prog w A env s none none := fun s₁ _ => wpAny_pure ⟨But.refl _, .none⟩
theorem evp_some {e : Expr} {k : Int} (V : Ev0 prog w A env s e (.int k)) : EvP prog w A env s (some e) (some k) := fun s₁ u => V.use0 u fun v s₂ u₂ _ R => by obtain ⟨t, rfl⟩ := R.int_inv; exact ⟨u₂, .int _ _⟩
theorem ev_sliceG {l : Expr} {lo hi st : Option Expr} {p p' : Pos} {ms : List Int} {o₁ o₂ o₃ : Option Int} (V : ∀ s₁, Up s s₁ → wpAny (model prog w) A (eval l env) (fun v s₂ => Up s₁ s₂ ∧ ∃ a vs, v = .ref a ∧ s₂.heap.IsList a (List.toArray vs) ∧ vs.length ≤ sizeLine ∧ IntsAre (slicePick (List.toArray vs) o₁ o₂ o₃).toList ms) NoE s₁)
    (P₁ : EvP prog w A env s lo o₁) (P₂ : EvP prog w A env s hi o₂) (P₃ : EvP prog w A env s st o₃) (h0 : o₃ ≠ some 0) (ops : Value → Value → List Value)
    (hs : ∀ o x, subscripted (.Slice lo hi st p') false o x = operate (ops o x) (getItem o x)) : Ev prog w A X env s (.Subscript l (.Slice lo hi st p') p) (.list (ms.map .int)) := by
  intro hX s₁ u
  refine Subscript_ (wpAny_mono (V s₁ u) (fun v s₂ h => ?_) fun _ _ q => q)
  obtain ⟨u₂, a, vs, rfl, hl, hsz, hm⟩ := h
  refine wpAny_Slice (wpAny_mono (P₁ s₂ (u.trans u₂)) (fun v₁ s₃ h₃ => wpAny_mono (P₂ s₃ ((u.trans u₂).trans h₃.1)) (fun v₂ s₄ h₄ => wpAny_mono (P₃ s₄ (((u.trans u₂).trans h₃.1).trans h₄.1)) (fun v₃ s₅ h₅ => ?_) fun _ _ q => q) fun _ _ q => q) fun _ _ q => q)
  have u₅ : Up s₂ s₅ := (h₃.1.trans h₄.1).trans h₅.1
  have hl₅ : s₅.heap.IsList a vs.toArray := by obtain ⟨o, ho, r⟩ := hl; exact ⟨o, u₅.le _ _ ho, r⟩
  refine tail_any (T := "list") (hl₅.push _).typeIs list_getitem_lookup (wpAny_getItem_list_slice (hl₅.push _) (Heap.IsSliceOf.new ..) h₃.2 h₄.2 h₅.2 h0 ?_ (by simpa using hsz)) (hs _ _)
  refine ⟨(u₂.trans u₅).trans ((Up.push _ _ _).trans (Up.push _ _ _)), .list (vs := (slicePick vs.toArray o₁ o₂ o₃).toList) (fun q => ?_) (by rw [Array.toArray_toList]; exact ⟨_, Heap.get?_push_size _ rfl, rfl, _, rfl⟩) (.of_ints hm)⟩
  have h1 := hX _ q
  have h2 := ((u.trans u₂).trans u₅).size
  have h3 : (s₅.heap.push { cls := .type "slice", data := .fields #[v₁, v₂, v₃] }).objs.size = s₅.heap.objs.size + 1 := Heap.size_push ..
  change (s₅.heap.push { cls := .type "slice", data := .fields #[v₁, v₂, v₃] }).objs.size < _ at h1
  omega
theorem ev_slice {l : Expr} {lo hi : Option Expr} {p p' : Pos} {ns ms : List Int} {o₁ o₂ : Option Int} (V : Ev0 prog w A env s l (.list (ns.map .int))) (P₁ : EvP prog w A env s lo o₁) (P₂ : EvP prog w A env s hi o₂) (hsz : ns.length ≤ sizeLine)
    (hm : ∀ vs, IntsAre vs ns → IntsAre (slicePick (List.toArray vs) o₁ o₂ none).toList ms) : Ev prog w A X env s (.Subscript l (.Slice lo hi none p') p) (.list (ms.map .int)) :=
  ev_sliceG (o₃ := none) (fun s₁ u => V.use0 u fun v s₂ u₂ _ R => by
    obtain ⟨a, vs, rfl, _, pl, l⟩ := R.list_inv
    exact ⟨u₂, a, vs, rfl, pl, by rw [l.length, List.length_map]; exact hsz, hm vs l.ints⟩) P₁ P₂ evp_none (by simp) (fun o x => [x, o]) fun o x => by with_unfolding_all rfl

/-! sorted -/
theorem ev_sorted {p pos : Pos} {e : Expr} {ns ms : List Int} (G : Gl w s.heap) (hk : env.scope.kind = .function) (hgl : env.globals = mainGlobals) (hb : env.builtins = builtinsNs) (V : Ev0 prog w A env s e (.list (ns.map .int))) (h64 : ns.length < 64)
    (hm : ∀ ns' : List Int, ns'.Perm ns → ns'.Pairwise (· ≤ ·) → ns' = ms)
    (hx : env.kindOf "sorted" = some .globalImplicit := by rfl) (he : starEach [e] env = (false, eval e env) :: starEach [] env := by rfl) : Ev prog w A X env s (.Call (.Name "sorted" p) [e] [] pos) (.list (ms.map .int)) :=
  ev_callB G (g_sorted w) b_sorted (evs_cons V evs_nil he) (fun vs s₁ hX r => by
    obtain ⟨v, rfl, r'⟩ := r.one
    obtain ⟨a, vs, rfl, _, pl, l⟩ := r'.list_inv
    refine any_up (sorted_ints pl l.ints (by rw [l.length, List.length_map]; exact h64) fun out ns' a1 a2 a3 => ?_)
    obtain ⟨ep, he⟩ := sortedAll_at s₁.heap vs out
    refine ⟨fun z => ⟨⟨_, s₁.toks, rfl⟩, fun b o _ q => sortedAll_old q, z⟩, fun _ => .list (vs := out.toList) (fun q => absurd (hX _ q) (by omega)) (by rw [Array.toArray_toList]; exact ⟨_, he, rfl, _, rfl⟩) (.of_ints (hm ns' a2 a3 ▸ a1))⟩) hk hx hgl hb (by decide) (by decide) he

/-! join -/
theorem RepL.strs {h : Heap} : ∀ {xs : List Str} {vs : List Value}, RepL X h (xs.map .str) vs → StrsAre vs xs := by
  intro xs
  induction xs with
  | nil => intro vs r; cases r; exact .nil
  | cons n ns ih => intro vs r; cases r with | cons a r => cases a; exact .cons _ _ (ih r)
theorem ev_join {o e : Expr} {ap pos : Pos} {x : Str} {ys : List Str} {pl : Sem Bool} (V : Ev0 prog w A env s o (.str x)) (W : Ev0 prog w A env s e (.list (ys.map .str))) (hok : (ys.map (·.length)).sum + ys.length * x.length ≤ 16777216)
    (he : starEach [e] env = (false, eval e env) :: starEach [] env := by rfl)
    (hc : eval (.Call (.Attribute o "join" ap) [e] [] pos) env = (do
      let ov ← eval o env
      standAt ap.atName
      let (f, first) ← holding [ov] (getMethod ov "join" pl)
      callWith pos f first (backTo pos (starEach [e] env)) []) := by rfl) : Ev prog w A X env s (.Call (.Attribute o "join" ap) [e] [] pos) (.str (Txt.join x ys)) := by
  intro hX s₁ u
  refine MethodCall_ (pl := pl) (V.use0 u fun v s₂ u₂ us₂ R => ?_) hc
  obtain ⟨t, rfl⟩ := R.str_inv
  refine GM.join (callWith_method1 (Evs.use (evs_cons W evs_nil he) us₂ fun vs s₃ u₃ us₃ r => ?_) he)
  obtain ⟨v, rfl, r'⟩ := r.one
  obtain ⟨a, vs, rfl, _, pl, l⟩ := r'.list_inv
  exact join_list pl (by simpa using l.strs) hok fun t' k => ⟨(u₂.trans u₃).trans (Up.toks _ _), .str _ _⟩
end

/-! _law_text -/
def fdText : FuncData := fdOf (topS 6) "_law_text" (.str "law_mj0182_01" 312) (.ref 98)
theorem text_at (w : World) : DefAt w 99 fdText (dBody (topS 6)) := ⟨by kernel_rfl, by kernel_rfl, rfl, rfl, rfl, rfl⟩
theorem text_bind (x : Value) : bindArgs fdText ⟨[x], []⟩ = pure [(("x" : Str), x)] := by kernel_rfl
end Mine

/-! Lay12 -/
namespace Mine
theorem Ev.eq {prog : Program} {w : World} {A : Around} {X : Addr → Prop} {env : Env} {s : Shared} {e : Expr} {d d' : Dt} (V : Ev prog w A X env s e d) (h : d = d') : Ev prog w A X env s e d' := h ▸ V
theorem Tst.eq {prog : Program} {w : World} {A : Around} {env : Env} {s : Shared} {e : Expr} {d d' : Bool} (V : Tst prog w A env s e d) (h : d = d') : Tst prog w A env s e d' := h ▸ V
theorem blk {scope : Scope} {cl : List (Str × Addr)} {x : Str} {cellx : Bool} (h1 : scope.kind = .function := by rfl)
    (h2 : (scope.names.all fun y => !(y.2 == NameKind.local) || (scope.names.lookup y.1 == some .local)) = true := by rfl)
    (h3 : ∀ h, pushCells h scope.names = if cellx then h.push { cls := .type "cell", data := .cell none } else h := by intro _; rfl)
    (h4 : ∀ n, cellsFrom n scope.names cl = if cellx then (x, n) :: cl else cl := by intro _; rfl)
    (h5 : scope.names.lookup x = some (if cellx then .cell else .local) := by rfl) : Blk scope cl x cellx :=
  ⟨h1, fun y hy e => by
    have := List.all_eq_true.mp h2 y hy
    rw [e] at this
    simpa using this, h3, h4, h5⟩
theorem Has.inn {env cenv : Env} {y : Str} {d : Dt} {h : Heap} (H : Has env y d h) (hk : (env.kindOf y == some .cell || env.kindOf y == some .free) = true := by rfl) (hc : cenv.cells.lookup y = env.cells.lookup y := by rfl) (hk' : (cenv.kindOf y == some .cell || cenv.kindOf y == some .free) = true := by rfl) : Has cenv y d h :=
  H.inner (by simpa using hk) hc (by simpa using hk')
section
variable {prog : Program} {w : World} {A : Around} {X : Addr → Prop} {env : Env} {s : Shared} {E : Value → Shared → Prop}
theorem ev_compA {elt iter : Expr} {x : Str} {px : Pos} {scope : Scope} {cl : List (Str × Addr)} {pos : Pos} {cellx : Bool} (is : List Nat) {g : Nat → Dt} {f : Nat → Dt}
    (hclos : closureFor scope env = pure cl) (B : Blk scope cl x cellx) (S : SrcD prog w A NoX env s iter (is.map g)) (hsz : is.length ≤ sizeLine)
    (V : ∀ C i s₃, i ∈ is → Up s s₃ → Has (compEnvC scope (cellsFrom (C + 1) scope.names cl) C env) x (g i) s₃.heap → Ev prog w A (fun b => b < s₃.heap.objs.size) (compEnvC scope (cellsFrom (C + 1) scope.names cl) C env) s₃ elt (f i))
    (hs : ∀ x, foldedSetIterable iter env x = pure x := by intro _; rfl) :
    Ev prog w A X env s (.ListComp elt [⟨.Name x px, iter, [], 0⟩] scope pos) (.list (is.map f)) :=
  Ev.eq (ev_comp is (fun _ => true) hclos B S hsz (fun _ _ _ _ _ _ => tsts_nil) (fun C i s₃ hi _ => V C i s₃ hi) hs) (by rw [List.filter_eq_self.mpr fun _ _ => rfl])
end
end Mine

/-! Lay13 -/
namespace Mine
section
variable {prog : Program} {w : World} {A : Around} {M X : Addr → Prop} {env : Env} {ρ : Str → Option Dt} {s : Shared} {E : Value → Shared → Prop}
theorem Rep.tup_inv {h : Heap} {ds : List Dt} {v : Value} (R : Rep X h (.tup ds) v) : ∃ a vs, v = .ref a ∧ ¬ X a ∧ IsTup h a (List.toArray vs) ∧ RepL X h ds vs := by
  cases R with | tup a b c => exact ⟨_, _, rfl, a, ⟨_, b, rfl, _, rfl⟩, c⟩
theorem up_ext {s : Shared} {h' : Heap} (k : Heap.ExtBut s.heap.objs.size s.heap h') (z : s.heap.objs.size ≤ h'.objs.size) : Up s { s with heap := h' } :=
  ⟨⟨_, s.toks, rfl⟩, fun b o _ e => k b o (Nat.ne_of_lt (Heap.lt_size e)) e, z⟩
theorem unpack_up {t : Addr} {items : Array Value} {targets : List (Bool × (Value → Sem Unit))} {Q : Unit → Shared → Prop} (hh : A.handled = none) (ht : s.heap.IsTuple t items)
    (hn : targets.length = items.size) (hstar : targets.findIdx? (·.1) = none)
    (h : ∀ h', Up s { s with heap := h' } → wpAny (model prog w) A (assignInOrder (targets.map (·.2)) items.toList) Q E { s with heap := h' }) :
    wpAny (model prog w) A (unpack (.ref t) targets) Q E s := by
  unfold unpack
  rw [hn, hstar]
  exact wpAny_bind (wpAny_holding (any_size (wpAny_mono (wpAny_unpackItems_tuple (Q := fun xs s' => s.heap.objs.size ≤ s'.heap.objs.size → wpAny (model prog w) A (assignInOrder (targets.map (·.2)) xs) Q E s') hh ht fun h' kk z => h h' (up_ext kk z)) (fun _ _ q => q) fun _ _ q _ => q)))
/-- a, b = e -/
theorem st_unpack2 {y₁ y₂ : Str} {p₁ p₂ tp pos : Pos} {kk : Nat} {e : Expr} {d₁ d₂ : Dt} {Q : Flow → Shared → Prop} (S : Sit M X env ρ s.heap) (hh : A.handled = none) (V : Ev prog w A X env s e (.tup [d₁, d₂])) (hy₁ : Stk y₁ env) (hy₂ : Stk y₂ env)
    (k : ∀ s', But (Frm env) s s' → Sit M X env (put (put ρ y₁ d₁) y₂ d₂) s'.heap → Q .next s') (hk : env.scope.kind = .function := by rfl)
    (ha : assignEach [.Name y₁ p₁, .Name y₂ p₂] env = [(false, assign (.Name y₁ p₁) env), (false, assign (.Name y₂ p₂) env)] := by rfl)
    (hs : swapsWithSole [.Tuple [.Name y₁ p₁, .Name y₂ p₂] kk tp] e pos.line env = pure false := by rfl) (hw : swappedStores [.Tuple [.Name y₁ p₁, .Name y₂ p₂] kk tp] e env = pure none := by rfl) :
    wpAny (model prog w) A (exec (.Assign [.Tuple [.Name y₁ p₁, .Name y₂ p₂] kk tp] e pos) env) Q E s := by
  refine Assign_Tuple (V.use S.bd (But.refl s) fun v s₂ u₂ _ R => ?_) hs hw
  obtain ⟨a, vs, rfl, _, ht, l⟩ := R.tup_inv
  obtain ⟨v₁, v₂, rfl, R₁, R₂⟩ := l.two
  rw [PyProof.Rows.assign_Tuple]
  refine wpAny_bind (wpAny_standAt ?_)
  rw [ha]
  refine unpack_up (items := #[v₁, v₂]) hh ht rfl rfl fun h' u₃ => ?_
  refine assignInOrder_cons (wpAny_assign_Name ?_)
  refine Sit.store (s := { s₂ with heap := h' }) ((S.up u₂).up u₃) (R₁.up u₃) hk hy₁ fun s₄ b₄ S₄ => ?_
  have b₄X : But X { s₂ with heap := h' } s₄ := b₄.mono fun b q => S.mx b (S.frm b q)
  refine assignInOrder_cons (wpAny_assign_Name (S₄.store ((R₂.up u₃).but b₄X) hk hy₂ fun s₅ b₅ S₅ => assignInOrder_nil ?_))
  exact k s₅ (((u₂.trans u₃).up (X := Frm env)).trans (b₄.trans b₅)) S₅

/-! tuples -/
theorem ev_lenT {p pos : Pos} {e : Expr} {ds : List Dt} (G : Gl w s.heap) (hk : env.scope.kind = .function) (hgl : env.globals = mainGlobals) (hb : env.builtins = builtinsNs) (V : Ev0 prog w A env s e (.tup ds)) (hsz : ds.length < 2 ^ 63) (hx : env.kindOf "len" = some .globalImplicit := by rfl) (he : starEach [e] env = (false, eval e env) :: starEach [] env := by rfl) : Ev prog w A X env s (.Call (.Name "len" p) [e] [] pos) (.int ds.length) :=
  ev_callB G (g_len w) b_len (evs_cons V evs_nil he) (fun vs s₁ _ r => by
    obtain ⟨v, rfl, r'⟩ := r.one
    obtain ⟨a, vs, rfl, _, pl, l⟩ := r'.tup_inv
    have el : vs.toArray.size = ds.length := by simp [l.length]
    exact PyProof.Rows.len_tuple pl (by rw [el]; omega) (by rw [el]; exact ⟨Up.toks _ _, .int _ _⟩)) hk hx hgl hb (by decide) (by decide) he
theorem ev_itemT {l i : Expr} {p : Pos} {ds : List Dt} {k : Nat} {d : Dt} (V : Ev0 prog w A env s l (.tup ds)) (W : Ev0 prog w A env s i (.int k)) (h1 : k < 2 ^ 62) (hd : ds[k]? = some d) (im : d.imm = true := by rfl)
    (hs : ∀ o x, subscripted i false o x = operate [o, x] (getItem o x) := by intro _ _; with_unfolding_all rfl) : Ev prog w A X env s (.Subscript l i p) d := by
  intro _ s₁ u
  refine Subscript_ (V.use0 u fun v₁ s₂ u₂ us₂ r₁ => W.use0 us₂ fun v₂ s₃ u₃ us₃ r₂ => ?_)
  obtain ⟨a₁, vs₁, rfl, _, p₁, l₁⟩ := (r₁.up u₃).tup_inv
  obtain ⟨t, rfl⟩ := r₂.int_inv
  obtain ⟨v, hv, r⟩ := l₁.at hd
  have hlt : k < vs₁.length := by rw [List.getElem?_eq_some_iff] at hv; exact hv.1
  refine item_tupleT p₁ (by omega) (by omega) (j := k) ?_ hv ⟨u₂.trans u₃, r.imm im⟩ (hs _ _)
  unfold seqIndex?
  simp only [show ¬ ((k : Int) < 0) by omega, if_false]
  first | rfl | (simp; omega) | simp [hlt]

/-! own objects -/
theorem ws_inv {h : Heap} {n nt : Int} {count : List Int} {tr : Int} {v : Value} (R : Rep X h (.ws n nt count tr) v) : ∃ x dx es k tn tnt vn, v = .ref x ∧ InstAt h x (instObj 90 dx) 90 (some (dictOf es k)) ∧
    getL "n" es = some (some (.int n tn)) ∧ getL "nt" es = some (some (.int nt tnt)) ∧ getL "is_simple" es = some (some (.bool (decide (count.length ≤ 1)))) ∧ getL "norm" es = some (some vn) ∧
    (∀ nm : Str, nm = "less" ∨ nm = "longest_run_of_spaces" ∨ nm = "indent_level" → getL nm es = some none) ∧ Rep X h (.tup [.tup (count.map .int), .int tr]) vn := by
  cases R with | ws a b c d e f g i j r => exact ⟨_, _, _, _, _, _, _, rfl, ⟨c, rfl, rfl, d⟩, e, f, g, i, j, r⟩
theorem k_get (w : World) (name : Str) : plainGet (KK w) 90 name = true := by show (_ && _) = true; kernel_rfl
theorem k_dict (w : World) : hasDictIn (KK w) 90 = true := by kernel_rfl
theorem ev_attr {x nm : Str} {xp p : Pos} {n nt : Int} {count : List Int} {tr : Int} {d : Dt} (G : Gl w s.heap) (V : Ev0 prog w A env s (.Name x xp) (.ws n nt count tr)) (hf : findIn (KK w) (.ref 90) nm = some none) (im : d.imm = true ∨ X = NoX)
    (hd : ∀ h y, Rep NoX h (.ws n nt count tr) y → ∃ x dx es k v, y = .ref x ∧ InstAt h x (instObj 90 dx) 90 (some (dictOf es k)) ∧ getL nm es = some (some v) ∧ Rep NoX h d v)
    (he : eval (.Attribute (.Name x xp) nm p) env = (do
      let o ← eval (.Name x xp) env
      standAt p.atName
      let r ← holding [o] (getAttr o nm true)
      letTemporaryGo (.Name x xp) o r
      pure r) := by with_unfolding_all rfl) : Ev prog w A X env s (.Attribute (.Name x xp) nm p) d := by
  intro _ s₁ u
  refine Attribute_Name_ (V.use0 u fun v s₂ u₂ us₂ R => ?_) he
  obtain ⟨x, dx, es, k, v, rfl, I, hl, R'⟩ := hd _ _ R
  refine get_value (K := KK w) (G.up us₂).x I (plainGet_of (k_get w nm)).1 (findObj_own (k_dict w) hf rfl hl) ?_ ⟨u₂.trans (Up.toks _ _), ?_⟩
  · cases R' <;> rfl
  · rcases im with im | rfl
    · exact R'.imm im
    · exact R'
theorem f_n (w : World) : findIn (KK w) (.ref 90) "n" = some none := by kernel_rfl
theorem f_nt (w : World) : findIn (KK w) (.ref 90) "nt" = some none := by kernel_rfl
theorem f_sim (w : World) : findIn (KK w) (.ref 90) "is_simple" = some none := by kernel_rfl
theorem f_norm (w : World) : findIn (KK w) (.ref 90) "norm" = some none := by kernel_rfl
section
variable {x : Str} {xp p : Pos} {n nt : Int} {count : List Int} {tr : Int} (G : Gl w s.heap) (V : Ev0 prog w A env s (.Name x xp) (.ws n nt count tr))
include G V
theorem ev_n : Ev prog w A X env s (.Attribute (.Name x xp) "n" p) (.int n) := ev_attr G V (f_n w) (.inl rfl) fun h y R => by obtain ⟨x, dx, es, k, tn, tnt, vn, a, b, c, _⟩ := ws_inv R; exact ⟨x, dx, es, k, _, a, b, c, .int _ _⟩
theorem ev_nt : Ev prog w A X env s (.Attribute (.Name x xp) "nt" p) (.int nt) := ev_attr G V (f_nt w) (.inl rfl) fun h y R => by obtain ⟨x, dx, es, k, tn, tnt, vn, a, b, _, c, _⟩ := ws_inv R; exact ⟨x, dx, es, k, _, a, b, c, .int _ _⟩
theorem ev_sim : Ev prog w A X env s (.Attribute (.Name x xp) "is_simple" p) (.bool (decide (count.length ≤ 1))) := ev_attr G V (f_sim w) (.inl rfl) fun h y R => by obtain ⟨x, dx, es, k, tn, tnt, vn, a, b, _, _, c, _⟩ := ws_inv R; exact ⟨x, dx, es, k, _, a, b, c, .bool _⟩
end
theorem Sit.name {x : Str} {p : Pos} {d : Dt} (S : Sit M X env ρ s.heap) (e : ρ x = some d) (hk : env.scope.kind = .function := by rfl) (hd : (x == ("__debug__" : Str)) = false := by decide) (hn : (x == ("__classdict__" : Str)) = false := by decide) : Ev prog w A X env s (.Name x p) d := by
  intro _ s₁ u
  obtain ⟨v, V, R⟩ := S.val x d e
  exact name_var (V.le u.le) ⟨But.refl _, R.up u⟩ hk hd hn
theorem ev_normX {x : Str} {xp p : Pos} {n nt : Int} {count : List Int} {tr : Int} (G : Gl w s.heap) (S : Sit M X env ρ s.heap) (hx : ρ x = some (.ws n nt count tr)) (hk : env.scope.kind = .function := by rfl) (hd : (x == ("__debug__" : Str)) = false := by decide) (hn : (x == ("__classdict__" : Str)) = false := by decide)
    (he : eval (.Attribute (.Name x xp) "norm" p) env = (do
      let o ← eval (.Name x xp) env
      standAt p.atName
      let r ← holding [o] (getAttr o "norm" true)
      letTemporaryGo (.Name x xp) o r
      pure r) := by with_unfolding_all rfl) : Ev prog w A X env s (.Attribute (.Name x xp) "norm" p) (.tup [.tup (count.map .int), .int tr]) := by
  intro hX s₁ u
  refine Attribute_Name_ (Ev.use (S.name hx hk hd hn) hX u fun v s₂ u₂ us₂ R => ?_) he
  obtain ⟨x, dx, es, k, tn, tnt, vn, rfl, I, _, _, _, hl, _, R'⟩ := ws_inv R
  refine get_value (K := KK w) (G.up us₂).x I (plainGet_of (k_get w "norm")).1 (findObj_own (k_dict w) (f_norm w) rfl hl) ?_ ⟨u₂.trans (Up.toks _ _), R'⟩
  cases R' <;> rfl
end
end Mine

/-! Lay14 -/
namespace Mine
section
variable {prog : Program} {w : World} {A : Around} {M X : Addr → Prop} {env : Env} {ρ : Str → Option Dt} {s : Shared} {E : Value → Shared → Prop}
/-- a list that may change, as data at this moment -/
theorem Sit.hasL {x : Str} {a : Addr} {vs : List Value} {ds : List Dt} (S : Sit M X env ρ s.heap) (e : ρ x = some (.ptr a)) (hl : s.heap.IsList a vs.toArray) (r : RepL NoX s.heap ds vs) : Has env x (.list ds) s.heap := by
  obtain ⟨v, V, R⟩ := S.val x _ e
  rw [R.ptr_inv] at V
  exact ⟨_, V, .list (fun q => q) hl r⟩
def hitI (k : Int) : Dt → Bool
  | .int n => n == k
  | _ => false
def Dt.opt : Dt → Bool
  | .int _ | .none => true
  | _ => false
theorem any_hit {h : Heap} {k : Int} : ∀ {ds : List Dt} {vs : List Value}, RepL NoX h ds vs → ds.all Dt.opt = true → (vs.any fun y => match y with | .int i _ => i == k | _ => false) = ds.any (hitI k)
  | _, _, .nil, _ => rfl
  | _, _, .cons (d := d) a r, o => by
    simp only [List.all_cons, Bool.and_eq_true] at o
    rw [List.any_cons, List.any_cons, any_hit r o.2]
    cases d with
    | int n => obtain ⟨t, rfl⟩ := a.int_inv; rfl
    | none => rw [a.none_inv]; rfl
    | _ => exact absurd o.1 (by simp [Dt.opt])
theorem eq_opt {h : Shared} {k : Int} {t : Tok} {ds : List Dt} {vs : List Value} (r : RepL NoX h.heap ds vs) (o : ds.all Dt.opt = true) : ∀ y, y ∈ vs.toArray → SeqAt.EqAt A h y (.int k t) (match y with | .int i _ => i == k | _ => false) := by
  intro y hy
  obtain ⟨i, hi, e⟩ := List.getElem_of_mem (by simpa using hy)
  obtain ⟨d, hd, R⟩ := r.get (by rw [List.getElem?_eq_getElem hi, e])
  have := List.all_eq_true.mp o d (List.mem_of_getElem? hd)
  cases d with
  | int n => obtain ⟨t', rfl⟩ := R.int_inv; exact SeqAt.EqAt.int_int n t' k t
  | none => rw [R.none_inv]; exact SeqAt.EqAt.none_int k t
  | _ => exact absurd this (by simp [Dt.opt])
theorem cmp_in {k : Int} {ds : List Dt} (o : ds.all Dt.opt = true) : Cmp prog w A .In (.int k) (.list ds) (ds.any (hitI k)) := fun v₁ v₂ s₁ r₁ r₂ => by
  obtain ⟨t, rfl⟩ := r₁.int_inv
  obtain ⟨a, vs, rfl, _, hl, l⟩ := r₂.list_inv
  exact SeqAt.in_listAt _ hl (eq_opt l o) ⟨But.refl _, by rw [← any_hit l o]; simp⟩
theorem cmp_notin {k : Int} {ds : List Dt} (o : ds.all Dt.opt = true) : Cmp prog w A .NotIn (.int k) (.list ds) (!ds.any (hitI k)) := fun v₁ v₂ s₁ r₁ r₂ => by
  obtain ⟨t, rfl⟩ := r₁.int_inv
  obtain ⟨a, vs, rfl, _, hl, l⟩ := r₂.list_inv
  exact SeqAt.notIn_listAt _ hl (eq_opt l o) ⟨But.refl _, by rw [← any_hit l o]; simp⟩

/-! a call whose arguments' data avoid Y; Z are the old places that it may change -/
def ParY (Y : Addr → Prop) (fd : FuncData) (L f : Addr) (binds : List (Str × Value)) (h : Heap) (x : Str) (d : Dt) : Prop :=
  ∃ v, Rep Y h d v ∧ (((callEnvC fd L f).kindOf x = some .local ∧ bindL (callEnvC fd L f).kindOf binds (fun _ => none) x = some v) ∨
    ((callEnvC fd L f).kindOf x = some .cell ∧ ((callEnvC fd L f).cells.lookup x).isSome = true ∧ bindC (callEnvC fd L f).kindOf binds (fun _ => none) x = some v))
theorem enterX {f : Addr} {fd : FuncData} {vals : List Value} {body : List Stmt} (binds : List (Str × Value)) {Q : Value → Shared → Prop} (ρ : Str → Option Dt) (Z Y : Addr → Prop) (hZY : ∀ b, Z b → Y b) (hY : ∀ b : Nat, Y b → b < s.heap.objs.size) (D : DefAt w f fd body) (G : Gl w s.heap) (hroom : A.depth < recursionLimit)
    (hbind : bindArgs fd ⟨vals, []⟩ = pure binds)
    (hkind : ∀ x ∈ binds, fd.scope.names.lookup x.1 = some .local ∨ (fd.scope.names.lookup x.1 = some .cell ∧ ((cellsFrom (s.heap.objs.size + 1) fd.scope.names []).lookup x.1).isSome = true))
    (hρ : ∀ x d, ρ x = some d → ParY Y fd s.heap.objs.size f binds s.heap x d)
    (h : ∀ s₁, Up s s₁ → (∀ b : Nat, Frm (callEnvC fd s.heap.objs.size f) b → Nw s s₁ b) → Sit (fun b => Nw s s₁ b ∨ Z b) (fun b => Nw s s₁ b ∨ Y b) (callEnvC fd s.heap.objs.size f) ρ s₁.heap → wpAny (model prog w) (A.deeper (callEnvC fd s.heap.objs.size f)) (execs body (callEnvC fd s.heap.objs.size f))
      (fun fl s' => Q (match fl with | .ret v => v | _ => .none) s') NoE s₁)
    (hclo : fd.closure = [] := by rfl) :
    wpAny (model prog w) A (call (.ref f) vals) Q E s := by
  refine wpAny_call (codeAny_call_cells hroom (G.x _ _ D.at_) rfl G.lim (codeRec_of G.x D.code) D.body hbind hclo hkind (fun s₁ I => ?_) D.co D.gen D.kind)
  have u : Up s s₁ := by
    obtain ⟨h, tk, rfl⟩ := I.toInCall.same
    refine ⟨⟨_, _, rfl⟩, fun b o _ e => I.toInCall.keep b o e, ?_⟩
    exact Nat.le_of_lt (Nat.lt_of_le_of_lt I.toInCall.fresh I.toInCall.ns.lt)
  have hc : ∀ x c, (callEnvC fd s.heap.objs.size f).cells.lookup x = some c → Nw s s₁ c := fun x c e =>
    ⟨Nat.le_of_lt (I.above x c (mem_of_lookup e)), (I.cell x c e).lt⟩
  have hval : ∀ x d, ρ x = some d → ∃ v, Var (callEnvC fd s.heap.objs.size f) x v s₁.heap ∧ Rep (fun b => Nw s s₁ b ∨ Y b) s₁.heap d v := by
    intro x d e
    obtain ⟨v, R, hv⟩ := hρ x d e
    refine ⟨v, ?_, R.mono fun b o n e => ⟨u.le _ _ e, fun q => q.elim (fun q => absurd (Heap.lt_size e) (Nat.not_lt.mpr q.1)) n⟩⟩
    rcases hv with ⟨hk, hv⟩ | ⟨hk, hl, hv⟩
    · exact .inl ⟨hk, _, I.toInCall.ns, hv⟩
    · obtain ⟨c, hl⟩ := Option.isSome_iff_exists.mp hl
      refine .inr ⟨c, .inl hk, hl, ?_⟩
      have := I.cell x c hl
      rwa [hv] at this
  have S : Sit (fun b => Nw s s₁ b ∨ Z b) (fun b => Nw s s₁ b ∨ Y b) (callEnvC fd s.heap.objs.size f) ρ s₁.heap :=
    ⟨⟨_, I.toInCall.ns⟩, fun x c e => ⟨_, I.cell x c e⟩, fun x y c e e' => name_of_addr I.apart (mem_of_lookup e) (mem_of_lookup e'), fun x c e => Nat.ne_of_gt (I.above x c (mem_of_lookup e)),
      .inl ⟨Nat.le_refl _, I.toInCall.ns.lt⟩, fun x c e => .inl (hc x c e), fun b q => q.elim .inl fun q => .inr (hZY b q), fun b q => q.elim (fun q => q.2) fun q => Nat.lt_of_lt_of_le (hY b q) u.size, hval⟩
  exact wpAny_mono (h s₁ u (fun b q => q.elim (fun e => e ▸ ⟨Nat.le_refl _, I.toInCall.ns.lt⟩) fun ⟨x, e⟩ => hc x b e) S) (fun fl s' q => q) fun _ _ q => q.elim
end
end Mine

/-! Txt1 -/
namespace Mine
def bitT (x : Int) (k : Nat) : Str := if ((((x.fdiv 6).fdiv (2 ^ ((k : Int).toNat))).fmod 2) == 1) = true then "\t" else " "
def txtL (x : Int) : List Str := (List.range (x.fmod 6).toNat).map (bitT x)
def txtF (x : Int) : Str := Txt.join "" (txtL x)
theorem bitT_len (x : Int) (k : Nat) : (bitT x k).length = 1 := by unfold bitT; split <;> rfl
theorem sum_ones {α : Type} (f : α → Nat) (h : ∀ a, f a = 1) : ∀ l : List α, (l.map f).sum = l.length
  | [] => rfl
  | a :: l => by simp [h, sum_ones f h l]; omega

section
variable {prog : Program} {w : World} {A : Around} {s : Shared} {E : Value → Shared → Prop}
theorem text_call {x : Int} {t : Tok} {X : Addr → Prop} (G : Gl w s.heap) (hh : A.handled = none) (hroom : A.depth < recursionLimit) :
    wpAny (model prog w) A (call (.ref 99) [.int x t]) (fun v s' => Up s s' ∧ Rep X s'.heap (.str (txtF x)) v) E s := by
  refine enterS [(("x" : Str), .int x t)] (put (fun _ => none) "x" (.int x)) (text_at w) G hroom (text_bind _) ?_ ?_ fun s₁ u S => ?_
  · intro y hy
    rw [List.mem_singleton] at hy
    subst hy
    exact .inr ⟨by kernel_rfl, by kernel_rfl⟩
  · intro y d e
    dsimp only [put] at e
    split at e
    · rename_i h
      cases e
      subst h
      exact ⟨_, .int x t, .inr ⟨by kernel_rfl, by kernel_rfl, by kernel_rfl⟩⟩
    · cases e
  have G₁ := G.up u
  have hn : (0 : Int) ≤ x.fmod 6 ∧ x.fmod 6 < 6 := ⟨Int.fmod_nonneg_of_pos x (by decide), Int.fmod_lt_of_pos x (by decide)⟩
  have hx : x.fmod 6 = ((x.fmod 6).toNat : Int) := (Int.toNat_of_nonneg hn.1).symm
  have hb : ∀ i ∈ List.range (x.fmod 6).toNat, i < 6 := fun i hi => by have := List.mem_range.mp hi; omega
  refine wpAny_execs_cons ?_
  refine st_retX (X' := fun _ => False) (d := .str (txtF x)) ?_ (fun _ q => q.elim) fun v s' u' R => ⟨u.trans u', R.imm rfl⟩
  refine ev_join ev_str ?_ ?_
  · unfold txtL
    rw [List.map_map]
    refine ev_compA (List.range (x.fmod 6).toNat) (g := Dt.nat) (cellx := false) (cl := [("x", s.heap.objs.size + 1)]) (by rfl) blk (srcD_range G₁ rfl rfl rfl hh ?_ (by omega)) (by rw [List.length_range, sizeLine]; omega) ?_
    · exact Ev.eq (ev_mod (ev_name0 (S.has rfl)) ev_int (by decide)) (by rw [← hx])
    · intro C i s₃ hi us₃ Hk
      refine Ev.eq (ev_ifexp (tst_cmp (ev_mod (ev_fdiv (ev_fdiv (ev_name0 ((S.has rfl).up us₃).inn) ev_int (by decide) (PyProof.noPylong_small (by decide))) (ev_pow ev_int (ev_name0 Hk) (by omega) (by have := hb i hi; omega) (by decide)) ?_ ?_) ev_int (by decide)) ev_int cmp_eq) (fun _ => ev_str) (fun _ => ev_str)) ?_
      · have := hb i hi
        have : i = 0 ∨ i = 1 ∨ i = 2 ∨ i = 3 ∨ i = 4 ∨ i = 5 := by omega
        rcases this with rfl | rfl | rfl | rfl | rfl | rfl <;> decide
      · refine PyProof.noPylong_small ?_
        have := hb i hi
        have : i = 0 ∨ i = 1 ∨ i = 2 ∨ i = 3 ∨ i = 4 ∨ i = 5 := by omega
        rcases this with rfl | rfl | rfl | rfl | rfl | rfl <;> decide
      · show (if _ then Dt.str _ else Dt.str _) = Dt.str (bitT x i)
        unfold bitT
        split <;> rfl
  · have e : ((txtL x).map (·.length)).sum = (txtL x).length := by
      unfold txtL
      rw [List.map_map, List.length_map]
      exact sum_ones _ (fun k => bitT_len x k) _
    have l : (txtL x).length ≤ 6 := by unfold txtL; rw [List.length_map, List.length_range]; omega
    rw [e]
    have : (("" : Str)).length = 0 := rfl
    rw [this]; omega
end
end Mine

/-! Ws1 -/
namespace Mine
/-! the making of an indent -/
structure WsSt where
  n : Int
  nt : Int
  b : Nat
  count : List Int
def padC (count : List Int) (b : Nat) : List Int := if count.length ≤ b then count ++ List.replicate (b - count.length + 1) 0 else count
def wsStep (st : WsSt) (c : Nat) : WsSt := if c = 32 then { st with n := st.n + 1, b := st.b + 1 } else { n := st.n + 1, nt := st.nt + 1, b := 0, count := (padC st.count st.b).set st.b ((padC st.count st.b).getD st.b 0 + 1) }
def wsRun (t : List Nat) : WsSt := t.foldl wsStep ⟨0, 0, 0, []⟩

def fdInit : FuncData := fdOf (clsS 1) "Whitespace.__init__" (.str "cpy313.tabnanny" 210) (.ref 44)
theorem init_at (w : World) : DefAt w 45 fdInit (dBody (clsS 1)) := ⟨by kernel_rfl, by kernel_rfl, rfl, rfl, rfl, rfl⟩
theorem init_bind (x y : Value) : bindArgs fdInit ⟨[x, y], []⟩ = pure [(("self" : Str), x), (("ws" : Str), y)] := by kernel_rfl

structure IS (s₀ : Shared) (L : Addr) (m : Str → Option Value) (news : List (Addr × Obj)) (s : Shared) : Prop where
  same : ∃ h tk, s = { s₀ with heap := h, toks := tk }
  F : Fr s₀.heap L s.heap m
  N : News s₀.heap L s.heap news
section
variable {prog : Program} {w : World} {A : Around} {E : Value → Shared → Prop} {s₀ s s' : Shared} {L : Addr} {m : Str → Option Value} {news news' : List (Addr × Obj)} {env : Env} {M : Model}
theorem IS.up (I : IS s₀ L m news s) (u : Up s s') : IS s₀ L m news s' where
  same := by obtain ⟨h, tk, rfl⟩ := I.same; obtain ⟨h', tk', rfl⟩ := u.same; exact ⟨_, _, rfl⟩
  F := ⟨I.F.ns.keeps u.le, fun b o e => u.le b o (I.F.keep b o e), I.F.above⟩
  N := fun p hp => ⟨u.le _ _ (I.N p hp).1, (I.N p hp).2⟩
theorem IS.gl (I : IS s₀ L m news s) (G : Gl w s₀.heap) : Gl w s.heap := G.le I.F.keep
theorem IS.has {x : Str} {v : Value} {d : Dt} (I : IS s₀ L m news s) (e : m x = some v) (R : Rep NoX s.heap d v) (hl : env.locals = L := by rfl) (hk : env.kindOf x = some .local := by rfl) : Has env x d s.heap := ⟨v, .inl ⟨hk, m, hl ▸ I.F.ns, e⟩, R⟩
theorem IS.hasI {x : Str} {n : Int} {t : Tok} (I : IS s₀ L m news s) (e : m x = some (.int n t)) (hl : env.locals = L := by rfl) (hk : env.kindOf x = some .local := by rfl) : Has env x (.int n) s.heap := I.has e (.int _ _) hl hk
theorem IS.hasS {x : Str} {n : Str} {t : Tok} (I : IS s₀ L m news s) (e : m x = some (.str n t)) (hl : env.locals = L := by rfl) (hk : env.kindOf x = some .local := by rfl) : Has env x (.str n) s.heap := I.has e (.str _ _) hl hk
theorem IS.store {y : Str} {v : Value} {Q : Unit → Shared → Prop} (I : IS s₀ L m news s) (k : ∀ s', IS s₀ L (fun z => if z = y then some v else m z) news s' → But (· = L) s s' → Q () s') (hl : env.locals = L := by rfl) (hk : env.kindOf y = some .local := by rfl) (hf : env.scope.kind = .function := by rfl) : wpAny M A (storeName env y v) Q E s := by
  subst hl
  refine wpAny_storeName_local hk I.F.ns (fun h' hn hs => k _ ⟨?_, I.F.set hn hs, I.N.set hs⟩ ⟨⟨_, _, rfl⟩, fun b o q e => hs.extBut b o q e, Nat.le_of_eq hs.1.symm⟩) (by rw [hf]; rfl)
  obtain ⟨h, tk, rfl⟩ := I.same
  exact ⟨_, _, rfl⟩
theorem IS.assign {y : Str} {py pos : Pos} {e : Expr} {d : Dt} {Q : Flow → Shared → Prop} (I : IS s₀ L m news s) (V : Ev0 prog w A env s e d) (k : ∀ v s', IS s₀ L (fun z => if z = y then some v else m z) news s' → Rep NoX s'.heap d v → But (· = L) s s' → Q .next s') (im : d.imm = true := by rfl) (hl : env.locals = L := by rfl) (hk : env.kindOf y = some .local := by rfl) (hf : env.scope.kind = .function := by rfl)
    (hs : swapsWith e (some (.Name y py)) pos.line env = pure false := by rfl) : wpAny (model prog w) A (exec (.Assign [.Name y py] e pos) env) Q E s :=
  wpAny_Assign_Name (V.use0 (But.refl s) fun v s₂ u₂ _ R => (I.up u₂).store (fun s₃ I₃ b₃ => k v s₃ I₃ (R.imm im) ((u₂.up (X := (· = L))).trans b₃)) hl hk hf) hs
theorem IS.attr {nm : Str} {x dx : Addr} {v : Value} {es es' : List DictEntry} {n n' : Nat} {Q : Unit → Shared → Prop} (G : Gl w s₀.heap) (I : IS s₀ L m news s) (hx : (x, instObj 90 dx) ∈ news) (hd : (dx, dictOf es n) ∈ news) (ht : takerIn (KK w) 90 nm = some none) (hg : (getL nm es).isSome = true)
    (he : (putL nm (PyData.keyHash w.params nm) (.str nm (s.toks + 1)) v es, putN nm es n) = (es', n')) (U : Upd dx (dictOf es n) (dictOf es' n') news news') (hz : es'.length ≤ 1000)
    (k : ∀ s', IS s₀ L m news' s' → Q () s') : wpAny (model prog w) A (setAttr (.ref x) nm v) Q E s :=
  set_dict (K := KK w) I.F G.x I.N (InstAt.of_news I.N hx hd) rfl (by kernel_rfl) (by kernel_rfl) ht (k_dict w) hg he U hz fun h' F' N' => k _ ⟨by obtain ⟨h, tk, rfl⟩ := I.same; exact ⟨_, _, rfl⟩, F', N'⟩
end
section
variable {prog : Program} {w : World} {A : Around} {X : Addr → Prop} {E : Value → Shared → Prop} {s₀ s s' : Shared} {L : Addr} {m : Str → Option Value} {news news' : List (Addr × Obj)} {env : Env} {R : Result → Shared → Prop}
theorem f_raw (w : World) : findIn (KK w) (.ref 90) "raw" = some none := by kernel_rfl
theorem g_ws (w : World) : nsIn (KK w) mainGlobals "Whitespace" = some (some (.ref 90)) := by kernel_rfl
theorem r_ws (w : World) : readsIn (KK w) 90 (.type "type") = true := by kernel_rfl
theorem c_S (w : World) : findCls (KK w) (.ref 90) (.type "type") "S" = some (.val (.str " " 225)) := by kernel_rfl
theorem c_T (w : World) : findCls (KK w) (.ref 90) (.type "type") "T" = some (.val (.str "\t" 226)) := by kernel_rfl
theorem ev_cls {nm : Str} {v : Str} {t : Tok} {xp p : Pos} (G : Gl w s.heap) (e : findCls (KK w) (.ref 90) (.type "type") nm = some (.val (.str v t))) (hk : env.scope.kind = .function := by rfl) (hx : env.kindOf "Whitespace" = some .globalImplicit := by rfl) (hgl : env.globals = mainGlobals := by rfl)
    (he : eval (.Attribute (.Name "Whitespace" xp) nm p) env = (do
      let o ← eval (.Name "Whitespace" xp) env
      standAt p.atName
      let r ← holding [o] (getAttr o nm true)
      letTemporaryGo (.Name "Whitespace" xp) o r
      pure r) := by with_unfolding_all rfl) : Ev prog w A X env s (.Attribute (.Name "Whitespace" xp) nm p) (.str v) := by
  intro _ s₁ u
  refine Attribute_Name_ (name_glob (G.up u) (g_ws w) (cls_value (K := KK w) (G.up u).x (r_ws w) e rfl ⟨Up.toks _ _, .str _ _⟩) hk hx hgl) he

theorem ev_tup {es : List Expr} {k : Nat} {p : Pos} {ds : List Dt} (V : Evs prog w A env s p es ds) (hsz : ds.length ≤ sizeLine) : Ev0 prog w A env s (.Tuple es k p) (.tup ds) := by
  intro hX s₁ u
  refine wpAny_Tuple (V.use u fun vs s₂ u₂ us₂ r => ⟨by rw [r.length]; exact hsz, u₂.trans (Up.push _ _ _), ?_⟩)
  exact .tup (vs := vs) (fun q => q) (Heap.get?_push_size _ rfl) (r.up (Up.push _ _ _))
theorem ev_addL {l r : Expr} {p : Pos} {ns ms : List Int} (V : Ev0 prog w A env s l (.list (ns.map .int))) (W : Ev0 prog w A env s r (.list (ms.map .int))) (hsz : ns.length + ms.length ≤ sizeLine) : Ev prog w A X env s (.BinOp l .Add r p) (.list ((ns ++ ms).map .int)) :=
  ev_bin V W fun v₁ v₂ s₁ hX r₁ r₂ => by
    obtain ⟨a, vs, rfl, _, hl, l₁⟩ := r₁.list_inv
    obtain ⟨b, us, rfl, _, hb, l₂⟩ := r₂.list_inv
    have e1 : vs.length = ns.length := by rw [l₁.length, List.length_map]
    have e2 : us.length = ms.length := by rw [l₂.length, List.length_map]
    obtain ⟨⟨cls, dd, data, sl⟩, ho, hc, n, hd⟩ := hl
    obtain ⟨⟨cls2, dd2, data2, sl2⟩, ho2, hc2, n2, hd2⟩ := hb
    simp only at hc hd hc2 hd2
    subst hc hd hc2 hd2
    refine concat_meets ⟨_, ho, rfl⟩ ⟨_, ho2, rfl⟩ noFill_list_add seq_list_add PySem.F.slot_list_add PySem.F.entry_list_add (PySem.F.args_list_add_2 _ _) (list_addW a b vs.toArray us.toArray n n2 dd dd2 sl sl2 (by simp only [List.size_toArray]; omega)) ⟨ho, ho2, ?_⟩
    refine ⟨Up.push _ _ _, .list (vs := vs ++ us) (fun q => absurd (hX _ q) (Nat.lt_irrefl _)) ⟨_, Heap.get?_push_size _ rfl, rfl, 0, by simp⟩ (.of_ints (l₁.ints.append l₂.ints))⟩
theorem zeros_ints (t : Tok) : ∀ (k : Nat) (acc : Array Value) (ns : List Int), IntsAre acc.toList ns → IntsAre (List.foldl (fun x1 x2 => x1 ++ x2) acc (List.replicate k #[Value.int 0 t])).toList (ns ++ List.replicate k 0)
  | 0, acc, ns, h => by simpa using h
  | k + 1, acc, ns, h => by
    rw [List.replicate_succ, List.foldl_cons, List.replicate_succ, show ns ++ (0 : Int) :: List.replicate k 0 = (ns ++ [0]) ++ List.replicate k 0 by simp]
    refine zeros_ints t k _ _ ?_
    rw [Array.toList_append]
    exact h.append (.cons 0 t .nil)
theorem mul_up {l : Addr} {items : Array Value} {k : Nat} {x : Int} {u : Tok} {Q : Value → Shared → Prop} (hl : s.heap.get? l = some { cls := .type "list", dict := none, data := .seq items k, slots := #[] })
    (h1 : ¬(!Builtin.List.listFitsIndex x) = true) (h2 : ¬items.size * x.toNat > (2 ^ 63 - 1) / 8) (h3 : ¬Builtin.List.listTooLong (items.size * x.toNat) = true)
    (h : Q (.ref s.heap.objs.size) { s with heap := s.heap.push { cls := .type "list", data := .seq (List.foldl (fun x1 x2 => x1 ++ x2) #[] (List.replicate (if items.isEmpty = true then 0 else x.toNat) items)) } }) :
    wpAny (model prog w) A (binaryOp .Mult (.ref l) (.int x u)) Q E s :=
  wpAny_binaryOp_repeat_ref (T := "list") (U := "int") (by decide) ⟨_, hl, rfl⟩ (fun s' => typeIs_int s' x u) noFill_list_mul PySem.F.fills_int_mul PySem.F.slot_int_rmul repeat_list PySem.F.slot_int_index.lookup
    (call_meets PySem.F.slot_int_rmul (typeIs_int s x u) PySem.F.entry_int_rmul (PySem.F.args_int_rmul_2 _ _) (int___rmul___int_list x u l items k)
      ⟨hl, rfl, ⟨_, hl, rfl⟩, call_meets PySem.F.slot_list_mul ⟨_, hl, rfl⟩ PySem.F.entry_list_mul (PySem.F.args_list_mul_2 _ _) (AutoListH.list___mul___list_int_3 l items k x u h1 h2 h3) ⟨hl, h⟩⟩)
theorem ev_zeros {e : Expr} {p₁ p₂ p : Pos} {c : Nat} {k : Nat} (V : Ev0 prog w A env s e (.int k)) (hk : k ≤ 1000) : Ev prog w A X env s (.BinOp (.List [.Constant (.int 0) c p₁] p₂) .Mult e p) (.list ((List.replicate k (0 : Int)).map .int)) := by
  intro hX s₁ u
  refine wpAny_BinOp (wpAny_List (spliced_cons (wpAny_Constant_int (k := c) (pos := p₁) (spliced_nil ⟨Nat.le_of_ble_eq_true rfl, ?_⟩))))
  have u₂ : Up s₁ { s₁ with toks := s₁.toks + 1, heap := s₁.heap.push { cls := .type "list", data := .seq [Value.int 0 s₁.toks].toArray } } := (Up.push s₁ _ _)
  refine V.use0 (u.trans u₂) fun v s₃ u₃ us₃ R => ?_
  obtain ⟨t, rfl⟩ := R.int_inv
  have hl := u₃.le _ _ (show ({ s₁ with toks := s₁.toks + 1, heap := s₁.heap.push { cls := .type "list", data := .seq [Value.int 0 s₁.toks].toArray } } : Shared).heap.get? s₁.heap.objs.size = some _ from Heap.get?_push_size _ rfl)
  have ek : (#[Value.int 0 s₁.toks] : Array Value).size * ((k : Int)).toNat = k := by simp
  refine mul_up (items := #[Value.int 0 s₁.toks]) hl (by simp [Builtin.List.listFitsIndex]; omega) (by rw [ek]; omega) (by rw [ek]; simp [Builtin.List.listTooLong, sizeLine]; omega) ?_
  refine ⟨(u₂.trans u₃).trans (Up.push _ _ _), .list (vs := (List.foldl (fun x1 x2 => x1 ++ x2) #[] (List.replicate k #[Value.int 0 s₁.toks])).toList) (fun q => ?_) ⟨_, Heap.get?_push_size _ rfl, rfl, 0, ?_⟩ (.of_ints ?_)⟩
  · exact absurd (hX _ q) (Nat.not_lt.mpr us₃.size)
  · simp
  · have := zeros_ints s₁.toks k #[] [] .nil
    simpa using this
/-- the frame of __init__ between two turns -/
def LoopAt (s₀ : Shared) (L x dx : Addr) (D1 : Obj) (st : WsSt) (a : Addr) (m : Str → Option Value) (vs : List Value) (ts tt : Tok) (h : Heap) : Prop :=
  Fr s₀.heap L h m ∧ News s₀.heap L h [(dx, D1), (x, instObj 90 dx)] ∧ h.IsList a vs.toArray ∧ IntsAre vs st.count ∧ m "self" = some (.ref x) ∧ m "S" = some (.str " " ts) ∧ m "T" = some (.str "\t" tt) ∧ m "count" = some (.ref a) ∧
    (∃ t, m "n" = some (.int st.n t)) ∧ (∃ t, m "nt" = some (.int st.nt t)) ∧ ∃ t, m "b" = some (.int st.b t)
theorem run_take {cs : List Nat} {i c : Nat} (h : cs[i]? = some c) : wsRun (cs.take (i + 1)) = wsStep (wsRun (cs.take i)) c := by
  unfold wsRun
  rw [List.take_add_one, h, List.foldl_append]; rfl
theorem ints_set : ∀ {vs : List Value} {ns : List Int}, IntsAre vs ns → ∀ (i : Nat) (n : Int) (t : Tok), IntsAre (vs.set i (.int n t)) (ns.set i n)
  | _, _, .nil, _, _, _ => .nil
  | _, _, .cons _ _ r, 0, n, t => .cons n t r
  | _, _, .cons a b r, i + 1, n, t => .cons a b (ints_set r i n t)
theorem same_but {X : Addr → Prop} {a b c : Shared} (h : ∃ h tk, b = { a with heap := h, toks := tk }) (k : But X b c) : ∃ h tk, c = { a with heap := h, toks := tk } := by
  obtain ⟨h, tk, rfl⟩ := h; obtain ⟨h', tk', rfl⟩ := k.same; exact ⟨_, _, rfl⟩
theorem run_small : ∀ (cs : List Nat), (wsRun cs).b ≤ cs.length ∧ (wsRun cs).count.length ≤ cs.length := by
  intro cs
  have key : ∀ (cs : List Nat) (st : WsSt) (k : Nat), st.b ≤ k → st.count.length ≤ k → (cs.foldl wsStep st).b ≤ k + cs.length ∧ (cs.foldl wsStep st).count.length ≤ k + cs.length := by
    intro cs
    induction cs with
    | nil => intro st k h1 h2; exact ⟨h1, h2⟩
    | cons c cs ih =>
      intro st k h1 h2
      have : (wsStep st c).b ≤ k + 1 ∧ (wsStep st c).count.length ≤ k + 1 := by
        unfold wsStep
        split
        · exact ⟨by show st.b + 1 ≤ _; omega, by show st.count.length ≤ _; omega⟩
        · refine ⟨by show 0 ≤ _; omega, ?_⟩
          show ((padC st.count st.b).set _ _).length ≤ _
          rw [List.length_set]
          unfold padC
          split
          · rw [List.length_append, List.length_replicate]; omega
          · omega
      have := ih (wsStep st c) (k + 1) this.1 this.2
      rw [List.foldl_cons, List.length_cons]
      omega
  have := key cs ⟨0, 0, 0, []⟩ 0 (Nat.le_refl _) (Nat.le_refl _)
  simpa [wsRun] using this
theorem init_for {t : Str} {tk : Tok} {cs : List Nat} {L x dx a₀ : Nat} {es : List DictEntry} {n₁ : Nat} {ts tt : Tok} {Q : Flow → Shared → Prop} (G : Gl w s₀.heap) (hh : A.handled = none) (ht : t.cps.toList = cs ++ [120]) (hcs : ∀ c ∈ cs, c = 32 ∨ c = 9) (hlen : cs.length ≤ 6)
    (hraw : getL "raw" es = some (some (.str t tk))) (hd : dx < L) (hx : x < L) (ha : L < a₀) (hsame : ∃ h tk, s = { s₀ with heap := h, toks := tk })
    (I : LoopAt s₀ L x dx (dictOf es n₁) ⟨0, 0, 0, []⟩ a₀ m [] ts tt s.heap)
    (k : ∀ m' a vs s', (∃ h tk, s' = { s₀ with heap := h, toks := tk }) → L < a → LoopAt s₀ L x dx (dictOf es n₁) (wsRun cs) a m' vs ts tt s'.heap → Q .next s') :
    wpAny (model prog w) A (exec (nth (dBody (clsS 1)) 4) (callEnv fdInit L 45)) Q NoE s := by
  obtain ⟨F, N, hl, hi, e1, e2, e3, e4, e5, e6, e7⟩ := id I
  have Gs : Gl w s.heap := G.le F.keep
  have I₀ : IS s₀ L m _ s := ⟨hsame, F, N⟩
  have hlt : L < s.heap.objs.size := F.ns.lt
  have hab : s₀.heap.objs.size ≤ L := F.above
  have hsz : t.cps.size = cs.length + 1 := by rw [← Array.length_toList, ht, List.length_append]; rfl
  have ha₀ : a₀ < s.heap.objs.size := by obtain ⟨o, ho, _⟩ := hl; exact Heap.lt_size ho
  refine for_rule2 (src_str (x := t) (t := tk) hh fun Q E k => ?_) (fun b => b = L ∨ b = a₀) (fun b q => by rcases q with rfl | rfl <;> assumption) (fun _ q => q.elim)
    (fun k₀ i h => i ≤ cs.length ∧ ∃ m a vs, L < a ∧ (a = a₀ ∨ k₀ ≤ a) ∧ LoopAt s₀ L x dx (dictOf es n₁) (wsRun (cs.take i)) a m vs ts tt h) ?_ ?_ ?_
  · refine Attribute_Name_ (name_var (.inl ⟨rfl, _, F.ns, e1⟩) (get_value (K := KK w) Gs.x (InstAt.of_news N (.tail _ (.head _)) (.head _)) (plainGet_of (k_get w "raw")).1 (findObj_own (attr := none) (k_dict w) (f_raw w) rfl hraw) rfl (k _ (Up.toks _ _))))
  · intro k₀ h' z0 z1 kk
    refine ⟨Nat.zero_le _, m, a₀, [], ha, .inl rfl, ⟨F.ns.keeps kk, fun b o e => kk b o (F.keep b o e), F.above⟩, fun p hp => ⟨kk _ _ (N p hp).1, (N p hp).2⟩, (let ⟨o, ho, r⟩ := hl; ⟨o, kk _ _ ho, r⟩), hi, e1, e2, e3, e4, e5, e6, e7⟩
  · rintro k₀ i v s₁ z0 z1 hi' ⟨c, tc, hc, rfl⟩ b ⟨hile, m₁, a, vs, hLa, hak, F₁, N₁, hl₁, hint, f1, f2, f3, f4, ⟨t5, f5⟩, ⟨t6, f6⟩, ⟨t7, f7⟩⟩
    have I₁ : IS s₀ L m₁ _ s₁ := ⟨same_but hsame b, F₁, N₁⟩
    refine I₁.store fun s₂ I₂ b₂ => ?_
    have G₂ := I₂.gl G
    have hct : (cs ++ [120])[i]? = some c := by rw [← ht]; simpa using hc
    have fin : ∀ (m' : Str → Option Value) (a' : Addr) (vs' : List Value) (s' : Shared), IS s₀ L m' [(dx, dictOf es n₁), (x, instObj 90 dx)] s' → s'.heap.IsList a' vs'.toArray → But (fun b => (b = L ∨ b = a₀) ∨ k₀ ≤ b) s₁ s' → L < a' → (a' = a₀ ∨ k₀ ≤ a') →
        IntsAre vs' (wsRun (cs.take (i + 1))).count → m' "self" = some (.ref x) → m' "S" = some (.str " " ts) → m' "T" = some (.str "\t" tt) → m' "count" = some (.ref a') → (∃ t, m' "n" = some (.int (wsRun (cs.take (i + 1))).n t)) → (∃ t, m' "nt" = some (.int (wsRun (cs.take (i + 1))).nt t)) → (∃ t, m' "b" = some (.int (wsRun (cs.take (i + 1))).b t)) → i + 1 ≤ cs.length →
        But (fun b => (b = L ∨ b = a₀) ∨ k₀ ≤ b) s₁ s' ∧ ∀ h' : Heap, (∀ (b : Nat) o, (b < s.heap.objs.size ∨ k₀ ≤ b) → s'.heap.get? b = some o → h'.get? b = some o) → s'.heap.objs.size ≤ h'.objs.size →
          i + 1 ≤ cs.length ∧ ∃ m a vs, L < a ∧ (a = a₀ ∨ k₀ ≤ a) ∧ LoopAt s₀ L x dx (dictOf es n₁) (wsRun (cs.take (i + 1))) a m vs ts tt h' := by
      intro m' a' vs' s' I' gl b' hl' ha' g1 g2 g3 g4 g5 g6 g7 g8 g9
      have aa : a' < s.heap.objs.size ∨ k₀ ≤ a' := by
        rcases ha' with rfl | h
        · exact .inl ha₀
        · exact .inr h
      refine ⟨b', fun h' kk _ => ⟨g9, m', a', vs', hl', ha', ⟨I'.F.ns.at' fun o e => kk _ o (.inl hlt) e, fun b o e => kk b o (.inl (Nat.lt_trans (Nat.lt_of_lt_of_le (Heap.lt_size e) hab) hlt)) (I'.F.keep b o e), F.above⟩, fun p hp => ⟨kk _ _ ?_ (I'.N p hp).1, (I'.N p hp).2⟩, (let ⟨o, ho, r⟩ := gl; ⟨o, kk _ _ aa ho, r⟩), g1, g2, g3, g4, g5, g6, g7, g8⟩⟩
      rcases List.mem_cons.mp hp with rfl | hp
      · exact .inl (by show dx < _; omega)
      · rw [List.mem_singleton] at hp; subst hp; exact .inl (by show x < _; omega)
    have aL : a ≠ L := Nat.ne_of_gt hLa
    have lk : ∀ {s' s'' : Shared} {a : Addr} {vs : List Value}, L < a → s'.heap.IsList a vs.toArray → But (· = L) s' s'' → s''.heap.IsList a vs.toArray := fun ha ⟨o, ho, r⟩ bb => ⟨o, bb.keep _ _ (Nat.ne_of_gt ha) ho, r⟩
    have lu : ∀ {s' s'' : Shared} {a : Addr} {vs : List Value}, s'.heap.IsList a vs.toArray → Up s' s'' → s''.heap.IsList a vs.toArray := fun ⟨o, ho, r⟩ u => ⟨o, u.le _ _ ho, r⟩
    have hl₂ := lk hLa hl₁ b₂
    have bL : ∀ {s' s'' : Shared}, But (· = L) s' s'' → But (fun b => (b = L ∨ b = a₀) ∨ k₀ ≤ b) s' s'' := fun h => h.mono fun _ q => .inl (.inl q)
    refine wpAny_execs_cons (wpAny_If (Tst.use (tst_cmp (ev_name0 (I₂.hasS rfl)) (ev_name0 (I₂.hasS f2)) cmp_eq_str) (But.refl s₂) fun s₃ u₃ _ => ?_))
    have I₃ := I₂.up u₃
    have hl₃ := lu hl₂ u₃
    have b₃ : But (fun b => (b = L ∨ b = a₀) ∨ k₀ ≤ b) s₁ s₃ := (bL b₂).trans u₃.up
    by_cases hi2 : i < cs.length
    · have hci : cs[i]? = some c := by rw [List.getElem?_append_left hi2] at hct; exact hct
      have hrun := run_take hci
      rcases hcs c (List.mem_of_getElem? hci) with rfl | rfl
      · have e : ((⟨#[32]⟩ : Str) == Str.ofString " ") = true := by decide
        rw [e]
        simp only [if_true]
        refine wpAny_execs_cons (I₃.assign (ev_add (ev_name0 (I₃.hasI f5)) ev_int) fun v s₄ I₄ R₄ b₄ => ?_)
        obtain ⟨t4, rfl⟩ := R₄.int_inv
        refine wpAny_execs_cons (I₄.assign (ev_add (ev_name0 (I₄.hasI f7)) ev_int) fun v s₅ I₅ R₅ b₅ => wpAny_execs_nil (wpAny_execs_nil ?_))
        obtain ⟨t5', rfl⟩ := R₅.int_inv
        exact fin _ a vs s₅ I₅ (lk hLa (lk hLa hl₃ b₄) b₅) ((b₃.trans (bL b₄)).trans (bL b₅)) hLa hak (by rw [hrun]; exact hint) f1 f2 f3 f4 ⟨_, by rw [hrun]; rfl⟩ ⟨_, by rw [hrun]; exact f6⟩ ⟨_, by rw [hrun]; rfl⟩ (by omega)
      · have e : ((⟨#[9]⟩ : Str) == Str.ofString " ") = false := by decide
        rw [e]
        simp only [Bool.false_eq_true, if_false]
        refine wpAny_execs_cons (wpAny_If (Tst.use (tst_cmp (ev_name0 (I₃.hasS rfl)) (ev_name0 (I₃.hasS f3)) cmp_eq_str) (But.refl s₃) fun s₄ u₄ _ => ?_))
        have e : ((⟨#[9]⟩ : Str) == Str.ofString "\t") = true := by decide
        rw [e]
        simp only [if_true]
        have I₄ := I₃.up u₄
        have b₄ : But (fun b => (b = L ∨ b = a₀) ∨ k₀ ≤ b) s₁ s₄ := b₃.trans u₄.up
        refine wpAny_execs_cons (I₄.assign (ev_add (ev_name0 (I₄.hasI f5)) ev_int) fun v s₅ I₅ R₅ b₅ => ?_)
        obtain ⟨t5', rfl⟩ := R₅.int_inv
        refine wpAny_execs_cons (I₅.assign (ev_add (ev_name0 (I₅.hasI f6)) ev_int) fun v s₆ I₆ R₆ b₆ => ?_)
        obtain ⟨t6', rfl⟩ := R₆.int_inv
        have b₆' := (b₄.trans (bL b₅)).trans (bL b₆)
        have hl₆ := lk hLa (lk hLa (lu hl₃ u₄) b₅) b₆
        have hsm := run_small (cs.take i)
        have hti : (cs.take i).length ≤ 6 := by rw [List.length_take]; omega
        have G₆ := I₆.gl G
        generalize hst : wsRun (cs.take i) = st at *
        have hC : Has (callEnv fdInit L 45) "count" (.list (st.count.map .int)) s₆.heap := I₆.has f4 (.list (fun q => q) hl₆ (.of_ints hint))
        refine wpAny_execs_cons (wpAny_mono (Q := fun f s₇ => f = Flow.next ∧ ∃ (m₇ : Str → Option Value) (a₇ : Addr) (vs₇ : List Value), IS s₀ L m₇ [(dx, dictOf es n₁), (x, instObj 90 dx)] s₇ ∧ s₇.heap.IsList a₇ vs₇.toArray ∧ But (fun b => (b = L ∨ b = a₀) ∨ k₀ ≤ b) s₁ s₇ ∧ L < a₇ ∧ (a₇ = a₀ ∨ k₀ ≤ a₇) ∧ IntsAre vs₇ (padC st.count st.b) ∧
            m₇ "self" = some (.ref x) ∧ m₇ "S" = some (.str " " ts) ∧ m₇ "T" = some (.str "\t" tt) ∧ m₇ "count" = some (.ref a₇) ∧ (∃ t, m₇ "n" = some (.int (st.n + 1) t)) ∧ (∃ t, m₇ "nt" = some (.int (st.nt + 1) t)) ∧ (∃ t, m₇ "b" = some (.int st.b t))) ?_ (fun f s₇ h₇ => ?_) fun _ _ q => q)
        · refine wpAny_If (Tst.use (tst_cmp (ev_name0 (I₆.hasI f7)) (ev_len G₆ rfl rfl rfl (ev_name0 hC) (by rw [List.length_map]; omega)) cmp_ge) (But.refl s₆) fun s₇ u₇ _ => ?_)
          have I₇ := I₆.up u₇
          have G₇ := I₇.gl G
          have hC₇ := hC.up u₇
          rw [List.length_map]
          by_cases hb : st.count.length ≤ st.b
          · rw [decide_eq_true (by omega : (st.count.length : Int) ≤ st.b)]
            simp only [if_true]
            have ek : ((st.b : Int) - (st.count.length : Int) + 1) = ((st.b - st.count.length + 1 : Nat) : Int) := by omega
            refine wpAny_execs_cons (wpAny_Assign_Name (Ev.use (X := fun b => b < s₇.heap.objs.size) (ev_addL (ev_name0 hC₇) (ev_zeros (k := st.b - st.count.length + 1) (Ev.eq (ev_add (ev_sub (ev_name0 (I₇.hasI f7)) (ev_len G₇ rfl rfl rfl (ev_name0 hC₇) (by rw [List.length_map]; omega))) ev_int) (by rw [List.length_map, ek])) (by omega)) (by rw [List.length_replicate, sizeLine]; omega)) (fun b h => h) (But.refl s₇) fun v s₈ u₈ _ R₈ => ?_))
            obtain ⟨a₈, vs₈, rfl, na, hl₈, rl₈⟩ := R₈.list_inv
            have hge : s₇.heap.objs.size ≤ a₈ := Nat.not_lt.mp na
            have hz7 : s₁.heap.objs.size ≤ s₇.heap.objs.size := Nat.le_trans b₆'.size u₇.size
            have hLs : L < s₁.heap.objs.size := F₁.ns.lt
            have hLa8 : L < a₈ := by omega
            refine (I₇.up u₈).store fun s₉ I₉ b₉ => wpAny_execs_nil ⟨rfl, _, a₈, vs₈, I₉, lk hLa8 hl₈ b₉, ((b₆'.trans u₇.up).trans u₈.up).trans (bL b₉), hLa8, .inr (by omega), ?_, f1, f2, f3, rfl, ⟨_, rfl⟩, ⟨_, rfl⟩, ⟨_, f7⟩⟩
            unfold padC
            rw [if_pos hb]
            exact rl₈.ints
          · rw [decide_eq_false (by omega : ¬ (st.count.length : Int) ≤ st.b)]
            simp only [Bool.false_eq_true, if_false]
            refine wpAny_execs_nil ⟨rfl, _, a, vs, I₇, lu hl₆ u₇, b₆'.trans u₇.up, hLa, hak, ?_, f1, f2, f3, f4, ⟨_, rfl⟩, ⟨_, rfl⟩, ⟨_, f7⟩⟩
            unfold padC
            rw [if_neg hb]
            exact hint
        · obtain ⟨rfl, m₇, a₇, vs₇, I₇, hl₇, b₇, hLa₇, hak₇, hint₇, g1, g2, g3, g4, ⟨t8, g5⟩, ⟨t9, g6⟩, ⟨ta, g7⟩⟩ := h₇
          have hC₇ : Has (callEnv fdInit L 45) "count" (.list ((padC st.count st.b).map .int)) s₇.heap := I₇.has g4 (.list (fun q => q) hl₇ (.of_ints hint₇))
          have hpl : st.b < (padC st.count st.b).length := by
            unfold padC
            split
            · rw [List.length_append, List.length_replicate]; omega
            · omega
          have hgd : (padC st.count st.b)[st.b]? = some ((padC st.count st.b).getD st.b 0) := by simp [List.getD, List.getElem?_eq_getElem hpl]
          refine wpAny_execs_cons (wpAny_Assign_Subscript (Ev.use0 (ev_add (ev_item (d := .int ((padC st.count st.b).getD st.b 0)) (ev_name0 hC₇) (ev_name0 (I₇.hasI g7)) (by omega) (by omega) (by rw [List.getElem?_map, Int.toNat_natCast, hgd]; rfl)) ev_int) (But.refl s₇) fun v s₈ u₈ _ R₈ => ?_))
          obtain ⟨t8', rfl⟩ := R₈.int_inv
          have I₈ := I₇.up u₈
          have hl₈ := lu hl₇ u₈
          refine name_var (.inl ⟨rfl, _, I₈.F.ns, g4⟩) (name_var (.inl ⟨rfl, _, I₈.F.ns, g7⟩) ?_)
          have hsz₇ : vs₇.length = (padC st.count st.b).length := hint₇.length
          refine any_size (wpAny_setItem_list hl₈ (by omega) (by omega) (by simp only [List.size_toArray]; omega) fun h₉ hl₉ hs₉ z₉ => ?_)
          have b₉ : But (· = a₇) s₈ { s₈ with heap := h₉ } := ⟨⟨_, s₈.toks, rfl⟩, fun b o q e => hs₉.extBut b o q e, z₉⟩
          have I₉ : IS s₀ L m₇ [(dx, dictOf es n₁), (x, instObj 90 dx)] { s₈ with heap := h₉ } := by
            refine ⟨same_but I₈.same b₉, ⟨I₈.F.ns.at' fun o e => b₉.keep _ o (Nat.ne_of_lt hLa₇) e, fun b o e => b₉.keep _ o (fun q => ?_) (I₈.F.keep b o e), F.above⟩, fun p hp => ⟨b₉.keep _ _ (fun q => ?_) (I₈.N p hp).1, (I₈.N p hp).2⟩⟩
            · have h1 : b < s₀.heap.objs.size := Heap.lt_size e
              have h2 : a₇ < s₀.heap.objs.size := q ▸ h1
              exact absurd (Nat.lt_of_lt_of_le h2 hab) (Nat.not_lt.mpr (Nat.le_of_lt hLa₇))
            · rcases List.mem_cons.mp hp with rfl | hp
              · exact absurd q (by show ¬ dx = a₇; omega)
              · rw [List.mem_singleton] at hp; subst hp; exact absurd q (by show ¬ x = a₇; omega)
          have bb₉ : But (fun b => (b = L ∨ b = a₀) ∨ k₀ ≤ b) s₁ { s₈ with heap := h₉ } := (b₇.trans u₈.up).trans (b₉.mono fun b q => by rcases hak₇ with h | h; exact .inl (.inr (q.trans h)); exact .inr (q ▸ h))
          have hl₉' : ({ s₈ with heap := h₉ } : Shared).heap.IsList a₇ (vs₇.set st.b (.int ((padC st.count st.b).getD st.b 0 + 1) t8')).toArray := by simpa using hl₉
          refine wpAny_execs_cons (I₉.assign ev_int fun v s' I' R' b' => wpAny_execs_nil (wpAny_execs_nil (wpAny_execs_nil ?_)))
          obtain ⟨tb, rfl⟩ := R'.int_inv
          refine fin _ a₇ _ s' I' (lk hLa₇ hl₉' b') (bb₉.trans (bL b')) hLa₇ hak₇ ?_ g1 g2 g3 g4 ⟨_, by rw [hrun]; exact g5⟩ ⟨_, by rw [hrun]; exact g6⟩ ⟨_, by rw [hrun]; rfl⟩ (by omega)
          rw [hrun]
          exact ints_set hint₇ _ _ _
    · have hi3 : i = cs.length := by omega
      have hc2 : c = 120 := by
        rw [hi3, List.getElem?_append_right (Nat.le_refl _)] at hct
        simpa using hct.symm
      subst hc2
      have e : ((⟨#[120]⟩ : Str) == Str.ofString " ") = false := by decide
      rw [e]
      simp only [Bool.false_eq_true, if_false]
      refine wpAny_execs_cons (wpAny_If (Tst.use (tst_cmp (ev_name0 (I₃.hasS rfl)) (ev_name0 (I₃.hasS f3)) cmp_eq_str) (But.refl s₃) fun s₄ u₄ _ => ?_))
      have e : ((⟨#[120]⟩ : Str) == Str.ofString "\t") = false := by decide
      rw [e]
      simp only [Bool.false_eq_true, if_false]
      have I₄ := I₃.up u₄
      refine wpAny_execs_cons (wpAny_Break ?_)
      have e : cs.take i = cs := List.take_of_length_le (by omega)
      rw [e] at hint f5 f6 f7
      exact k _ a vs s₄ I₄.same hLa ⟨I₄.F, I₄.N, lu hl₃ u₄, hint, f1, f2, f3, f4, ⟨_, f5⟩, ⟨_, f6⟩, ⟨_, f7⟩⟩
  · rintro k₀ s' z0 b ⟨hle, _⟩
    omega
theorem code_init {t : Str} {tk : Tok} {cs : List Nat} (G : Gl w s₀.heap) (hh : A.handled = none) (hroom : A.depth < recursionLimit) (ht : t.cps.toList = cs ++ [120]) (hcs : ∀ c ∈ cs, c = 32 ∨ c = 9) (hlen : cs.length ≤ 6)
    (hR : ∀ s', Up s₀ s' → Rep (fun b => b < s₀.heap.objs.size) s'.heap (.ws (wsRun cs).n (wsRun cs).nt (wsRun cs).count (wsRun cs).b) (.ref (s₀.heap.objs.size + 1)) → R (.ok (.ret (.ref (s₀.heap.objs.size + 1)))) s') :
    codeAny (model prog w) A (.call (.ref 45) ⟨[.ref (s₀.heap.objs.size + 1), .str t tk], []⟩) (InitBack (s₀.heap.objs.size + 1) R) { s₀ with heap := (s₀.heap.push emptyDict).push (instObj 90 s₀.heap.objs.size) } := by
  generalize hx : s₀.heap.objs.size + 1 = x at *
  generalize hdx : s₀.heap.objs.size = dx at *
  have hk : ∀ b o, s₀.heap.get? b = some o → ((s₀.heap.push emptyDict).push (instObj 90 dx)).get? b = some o := fun b o e => Heap.get?_push_of_some _ (Heap.get?_push_of_some _ e)
  have hL : ((s₀.heap.push emptyDict).push (instObj 90 dx)).objs.size = dx + 2 := by rw [Heap.size_push, Heap.size_push, hdx]
  have G₁ : Gl w ((s₀.heap.push emptyDict).push (instObj 90 dx)) := G.le hk
  refine code_size (codeAny_call_straight (binds := [(("self" : Str), .ref x), (("ws" : Str), .str t tk)]) hroom (G₁.x _ _ (init_at w).at_) rfl G₁.lim (codeRec_of G₁.x (init_at w).code) (init_at w).body (init_bind _ _) ?_ ?_ (fun s₁ I => ?_) (init_at w).co (init_at w).gen (init_at w).kind)
  · intro y hy e
    have : (fdInit.scope.names.all fun x => !(x.2 == .cell)) = true := by decide +kernel
    have := List.all_eq_true.mp this y hy
    rw [e] at this
    exact absurd this (by decide)
  · exact locs (by kernel_rfl)
  have I₁ : IS s₀ (dx + 2) (fun z => ([(("self" : Str), Value.ref x), (("ws" : Str), Value.str t tk)] : List (Str × Value)).reverse.lookup z) [(dx, dictOf [] 0), (x, instObj 90 dx)] s₁ := by
    refine ⟨?_, ⟨hL ▸ I.ns, fun b o e => I.keep b o (hk b o e), by omega⟩, ?_⟩
    · obtain ⟨h, tk, rfl⟩ := I.same; exact ⟨_, _, rfl⟩
    · intro p hp
      rcases List.mem_cons.mp hp with rfl | hp
      · exact ⟨I.keep _ _ (Heap.get?_push_of_some _ (by rw [← hdx]; exact Heap.get?_push_size _ rfl)), by show dx ≠ dx + 2; omega, Heap.get?_none_of_le (by show s₀.heap.objs.size ≤ dx; omega)⟩
      · rw [List.mem_singleton] at hp
        subst hp
        refine ⟨I.keep _ _ ?_, by show x ≠ dx + 2; omega, Heap.get?_none_of_le (by show s₀.heap.objs.size ≤ x; omega)⟩
        have : (s₀.heap.push emptyDict).objs.size = x := by rw [Heap.size_push]; omega
        rw [← this]; exact Heap.get?_push_size _ rfl
  rw [hL]
  generalize hE : callEnv fdInit (dx + 2) 45 = env
  have eL : env.locals = dx + 2 := by rw [← hE]; rfl
  clear I
  subst hE
  refine wpAny_execs_cons (plainObj_wpAny_Assign_Attribute (name_var (.inl ⟨rfl, _, I₁.F.ns, rfl⟩) (name_var (.inl ⟨rfl, _, I₁.F.ns, rfl⟩) (I₁.attr G (.tail _ (.head _)) (.head _) (by kernel_rfl) rfl rfl (.head ?_) (Nat.le_of_ble_eq_true rfl) fun s₂ I₂ => ?_))))
  · intro p hp; rw [List.mem_singleton] at hp; subst hp; show x ≠ dx; omega
  have G₂ := I₂.gl G
  refine wpAny_execs_cons (Assign_Tuple_swapped (names := ["S", "T"]) (Ev.use0 (ev_tup (evs_cons (ev_cls G₂ (c_S w)) (evs_cons (ev_cls G₂ (c_T w)) evs_nil)) (by decide)) (But.refl s₂) fun v s₃ u₃ _ R₃ => ?_))
  obtain ⟨at_, vst, rfl, _, htup, lst⟩ := R₃.tup_inv
  obtain ⟨v₁, v₂, rfl, Rs, Rt⟩ := lst.two
  obtain ⟨ts, rfl⟩ := Rs.str_inv
  obtain ⟨tt, rfl⟩ := Rt.str_inv
  have I₃ := I₂.up u₃
  refine any_size (wpAny_mono (wpAny_unpackItems_tuple (Q := fun xs s' => s₃.heap.objs.size ≤ s'.heap.objs.size → wpAny (model prog w) (A.deeper (callEnv fdInit (dx + 2) 45)) (assignInOrder ((["S", "T"] : List Str).reverse.map fun n => bindName (callEnv fdInit (dx + 2) 45) n) xs.reverse) _ _ s') (items := #[.str " " ts, .str "\t" tt]) hh htup fun h' kk z => ?_) (fun _ _ q => q) fun _ _ q => q)
  have I₄ := I₃.up (up_ext kk z)
  refine assignInOrder_cons (wpAny_bindName (I₄.store fun s₅ I₅ _ => ?_))
  refine assignInOrder_cons (wpAny_bindName (I₅.store fun s₆ I₆ _ => assignInOrder_nil ?_))
  refine wpAny_execs_cons (wpAny_Assign_Name (wpAny_List (spliced_nil ⟨by decide, ?_⟩)))
  have I₇ : IS s₀ (dx + 2) _ _ { s₆ with heap := s₆.heap.push { cls := .type "list", data := .seq ([] : List Value).toArray } } := I₆.up (Up.push s₆ _ _)
  have hl₇ : ({ s₆ with heap := s₆.heap.push { cls := .type "list", data := .seq ([] : List Value).toArray } } : Shared).heap.IsList s₆.heap.objs.size ([] : List Value).toArray := ⟨_, Heap.get?_push_size _ rfl, rfl, _, rfl⟩
  have hlt₀ : dx + 2 < s₆.heap.objs.size := I₆.F.ns.lt
  generalize s₆.heap.objs.size = a₀ at *
  have lk : ∀ {s' s'' : Shared} {a : Addr} {vs : List Value}, dx + 2 < a → s'.heap.IsList a vs.toArray → But (· = dx + 2) s' s'' → s''.heap.IsList a vs.toArray := fun ha ⟨o, ho, r⟩ bb => ⟨o, bb.keep _ _ (Nat.ne_of_gt ha) ho, r⟩
  have lu : ∀ {s' s'' : Shared} {a : Addr} {vs : List Value}, s'.heap.IsList a vs.toArray → Up s' s'' → s''.heap.IsList a vs.toArray := fun ⟨o, ho, r⟩ u => ⟨o, u.le _ _ ho, r⟩
  refine I₇.store fun s₈ I₈ b₈ => ?_
  refine wpAny_execs_cons (wpAny_Assign_three (wpAny_Constant_int (wpAny_assign_Name (IS.store (I₈.up (Up.toks _ _)) fun s₉ I₉ b₉ => wpAny_assign_Name (I₉.store fun sa Ia ba => wpAny_assign_Name (Ia.store fun sb Ib bb => ?_))))))
  have hlb := lk hlt₀ (lk hlt₀ (lk hlt₀ (lu (lk hlt₀ hl₇ b₈) (Up.toks _ _)) b₉) ba) bb
  refine wpAny_execs_cons (noE (init_for (A := A.deeper (callEnv fdInit (dx + 2) 45)) (t := t) (tk := tk) (cs := cs) (L := dx + 2) (x := x) (dx := dx) (a₀ := a₀) G hh ht hcs hlen rfl (by omega) (by omega) hlt₀ Ib.same ⟨Ib.F, Ib.N, hlb, .nil, rfl, rfl, rfl, rfl, ⟨_, rfl⟩, ⟨_, rfl⟩, ⟨_, rfl⟩⟩ fun m' a vs sc hsame hLa Lp => ?_))
  obtain ⟨F, N, hl, hint, f1, f2, f3, f4, ⟨t5, f5⟩, ⟨t6, f6⟩, ⟨t7, f7⟩⟩ := Lp
  obtain ⟨oc, hoc, hcc, epc, hdc⟩ := hl
  have hnew : ∀ b : Nat, dx ≤ b → s₀.heap.get? b = none := fun b hb => Heap.get?_none_of_le (by show s₀.heap.objs.size ≤ b; omega)
  have Ic : IS s₀ (dx + 2) m' ((dx, _) :: (x, instObj 90 dx) :: [(a, oc)]) sc := ⟨hsame, F, fun p hp => by
    rcases List.mem_cons.mp hp with rfl | hp
    · exact N _ (.head _)
    rcases List.mem_cons.mp hp with rfl | hp
    · exact N _ (.tail _ (.head _))
    rw [List.mem_singleton] at hp
    subst hp
    exact ⟨hoc, Nat.ne_of_gt hLa, hnew a (by omega)⟩⟩
  have hxd : ∀ p ∈ [(x, instObj 90 dx), (a, oc)], p.1 ≠ dx := fun p hp => by
    rcases List.mem_cons.mp hp with rfl | hp
    · show x ≠ dx; omega
    · rw [List.mem_singleton] at hp; subst hp; exact Nat.ne_of_gt (Nat.lt_trans (by omega : dx < dx + 2) hLa)
  generalize hes : putL "raw" _ _ _ [] = es₁ at Ic
  generalize hn₁ : putN "raw" [] 0 = n₁ at Ic
  have hes₁ : es₁ = [⟨PyData.keyHash w.params "raw", .str "raw" (s₁.toks + 1), .str t tk⟩] := hes.symm
  subst hes₁
  refine wpAny_execs_cons (plainObj_wpAny_Assign_Attribute (name_var (.inl ⟨rfl, _, Ic.F.ns, f5⟩) (name_var (.inl ⟨rfl, _, Ic.F.ns, f1⟩) (Ic.attr G (.tail _ (.head _)) (.head _) (by kernel_rfl) rfl rfl (.head hxd) (Nat.le_of_ble_eq_true rfl) fun sd Id => ?_))))
  refine wpAny_execs_cons (plainObj_wpAny_Assign_Attribute (name_var (.inl ⟨rfl, _, Id.F.ns, f6⟩) (name_var (.inl ⟨rfl, _, Id.F.ns, f1⟩) (Id.attr G (.tail _ (.head _)) (.head _) (by kernel_rfl) rfl rfl (.head hxd) (Nat.le_of_ble_eq_true rfl) fun se Ie => ?_))))
  have isl : ∀ {s'' : Shared} {mm : Str → Option Value} {nn : List (Addr × Obj)}, IS s₀ (dx + 2) mm nn s'' → (a, oc) ∈ nn → s''.heap.IsList a vs.toArray := fun J hm => ⟨oc, (J.N _ hm).1, hcc, epc, hdc⟩
  have hsm := run_small cs
  have hvs : vs.length = (wsRun cs).count.length := hint.length
  refine wpAny_execs_cons (plainObj_wpAny_Assign_Attribute (wpAny_Tuple (spliced_cons (useT (Ie.gl G) (g_tuple w) b_tuple (evs_cons (ev_name0 (Ie.has (d := .list ((wsRun cs).count.map .int)) f4 (.list (fun q => q) (isl Ie (.tail _ (.tail _ (.head _)))) (.of_ints hint)))) evs_nil) fun vv sf uf rf => ?_))))
  obtain ⟨v1, rfl, r1⟩ := rf.one
  obtain ⟨ac, vs', rfl, _, hlc, rl⟩ := r1.list_inv
  have If' := Ie.up uf
  refine call_tuple_list hlc (fun h₁ kk => ?_) (by have := rl.length; simp only [List.size_toArray]; rw [List.length_map] at this; rw [sizeLine]; omega)
  have Ig : IS s₀ (dx + 2) m' _ { sf with heap := h₁ } := ⟨by obtain ⟨h, tk, rfl⟩ := If'.same; exact ⟨_, _, rfl⟩, ⟨If'.F.ns.keeps kk, fun b o e => kk b o (If'.F.keep b o e), If'.F.above⟩, fun p hp => ⟨kk _ _ (If'.N p hp).1, (If'.N p hp).2⟩⟩
  have Ih : IS s₀ (dx + 2) m' ((h₁.objs.size, { cls := .type "tuple", data := .seq vs'.toArray }) :: _) { sf with heap := h₁.push { cls := .type "tuple", data := .seq vs'.toArray } } := ⟨by obtain ⟨h, tk, e⟩ := If'.same; exact ⟨_, tk, by rw [e]⟩, Ig.F.push _, News.push Ig.F Ig.N _⟩
  refine spliced_cons (name_var (.inl ⟨rfl, _, Ih.F.ns, f7⟩) (spliced_nil ⟨Nat.le_of_ble_eq_true rfl, ?_⟩))
  have Ii : IS s₀ (dx + 2) m' ((h₁.objs.size + 1, { cls := .type "tuple", data := .seq [Value.ref h₁.objs.size, Value.int (wsRun cs).b t7].toArray }) :: _) { sf with heap := (h₁.push { cls := .type "tuple", data := .seq vs'.toArray }).push { cls := .type "tuple", data := .seq [Value.ref h₁.objs.size, Value.int (wsRun cs).b t7].toArray } } := ⟨by obtain ⟨h, tk, e⟩ := If'.same; exact ⟨_, tk, by rw [e]⟩, Ih.F.push _, by have := News.push Ih.F Ih.N { cls := .type "tuple", data := .seq [Value.ref h₁.objs.size, Value.int (wsRun cs).b t7].toArray }; rwa [show ({ sf with heap := h₁.push { cls := .type "tuple", data := .seq vs'.toArray } } : Shared).heap.objs.size = h₁.objs.size + 1 from Heap.size_push ..] at this⟩
  have hz1 : dx + 2 < h₁.objs.size := Ig.F.ns.lt
  have ez : (h₁.push { cls := .type "tuple", data := .seq vs'.toArray }).objs.size = h₁.objs.size + 1 := Heap.size_push ..
  show wpAny _ _ (eval _ _) _ _ _
  rw [ez]
  refine name_var (.inl ⟨rfl, _, Ii.F.ns, f1⟩) (Ii.attr G (.tail _ (.tail _ (.tail _ (.head _)))) (.tail _ (.tail _ (.head _))) (by kernel_rfl) rfl rfl (.tail (by show h₁.objs.size + 1 ≠ dx; omega) (.tail (by show h₁.objs.size ≠ dx; omega) (.head hxd))) (Nat.le_of_ble_eq_true rfl) fun sj Ij => ?_)
  refine wpAny_execs_cons (plainObj_wpAny_Assign_Attribute (Ev.use0 (ev_cmp (ev_len (Ij.gl G) rfl rfl rfl (ev_name0 (Ij.has (d := .list ((wsRun cs).count.map .int)) f4 (.list (fun q => q) (isl Ij (.tail _ (.tail _ (.tail _ (.tail _ (.head _)))))) (.of_ints hint)))) (by rw [List.length_map]; omega)) ev_int cmp_le) (But.refl sj) fun v sk uk _ Rk => ?_))
  rw [Rk.bool_inv, List.length_map]
  have Ik := Ij.up uk
  refine name_var (.inl ⟨rfl, _, Ik.F.ns, f1⟩) (Ik.attr G (.tail _ (.tail _ (.tail _ (.head _)))) (.tail _ (.tail _ (.head _))) (by kernel_rfl) rfl rfl (.tail (by show h₁.objs.size + 1 ≠ dx; omega) (.tail (by show h₁.objs.size ≠ dx; omega) (.head hxd))) (Nat.le_of_ble_eq_true rfl) fun sl Il => ?_)
  refine wpAny_execs_nil fun zl => ⟨rfl, hR sl ⟨Il.same, fun b o _ e => Il.F.keep b o e, by omega⟩ ?_⟩
  have lt : ∀ b : Nat, dx ≤ b → ¬ b < dx := fun b h => Nat.not_lt.mpr h
  refine .ws (lt x (by omega)) (lt dx (Nat.le_refl _)) (Il.N _ (.tail _ (.tail _ (.tail _ (.head _))))).1 (Il.N _ (.tail _ (.tail _ (.head _)))).1 rfl rfl ?_ rfl ?_ (.tup (lt _ (by omega)) (Il.N _ (.head _)).1 (.cons (.tup (lt _ (by omega)) (Il.N _ (.tail _ (.head _))).1 (.of_ints rl.ints)) (.cons (.int _ _) .nil)))
  · have e : decide (((wsRun cs).count.length : Int) ≤ 1) = decide ((wsRun cs).count.length ≤ 1) := by rw [decide_eq_decide]; omega
    rw [← e]; rfl
  · rintro nm (rfl | rfl | rfl) <;> rfl
end
end Mine

/-! Ws2 -/
namespace Mine
def fdLong : FuncData := fdOf (clsS 2) "Whitespace.longest_run_of_spaces" (.str "cpy313.tabnanny" 210) (.ref 51)
theorem long_at (w : World) : DefAt w 52 fdLong (dBody (clsS 2)) := ⟨by kernel_rfl, by kernel_rfl, rfl, rfl, rfl, rfl⟩
theorem long_bind (x : Value) : bindArgs fdLong ⟨[x], []⟩ = pure [(("self" : Str), x)] := by kernel_rfl
def fdLev : FuncData := fdOf (clsS 3) "Whitespace.indent_level" (.str "cpy313.tabnanny" 210) (.ref 58)
theorem lev_at (w : World) : DefAt w 59 fdLev (dBody (clsS 3)) := ⟨by kernel_rfl, by kernel_rfl, rfl, rfl, rfl, rfl⟩
theorem lev_bind (x y : Value) : bindArgs fdLev ⟨[x, y], []⟩ = pure [(("self" : Str), x), (("tabsize" : Str), y)] := by kernel_rfl
def fdLess : FuncData := fdOf (clsS 6) "Whitespace.less" (.str "cpy313.tabnanny" 210) (.ref 79)
theorem less_at (w : World) : DefAt w 80 fdLess (dBody (clsS 6)) := ⟨by kernel_rfl, by kernel_rfl, rfl, rfl, rfl, rfl⟩
theorem less_bind (x y : Value) : bindArgs fdLess ⟨[x, y], []⟩ = pure [(("self" : Str), x), (("other" : Str), y)] := by kernel_rfl

def lrsF (count : List Int) (tr : Int) : Int := if tr > (count.length : Int) - 1 then tr else (count.length : Int) - 1
def ilStep (count : List Int) (ts : Nat) (il : Int) (i : Nat) : Int := il + ((ts + i : Nat) : Int).fdiv ts * count.getD (ts + i) 0
def ilF (count : List Int) (ts : Nat) : Int := (List.range (count.length - ts)).foldl (ilStep count ts) 0
def levF (nt : Int) (count : List Int) (tr : Int) (ts : Nat) : Int := tr + ts * (ilF count ts + nt)

section
variable {prog : Program} {w : World} {A : Around} {X : Addr → Prop} {env : Env} {s : Shared} {E : Value → Shared → Prop}
theorem ev_meth0 {x nm : Str} {xp ap pos : Pos} {f : Addr} {n nt : Int} {count : List Int} {tr : Int} {d : Dt} (G : Gl w s.heap) (V : Ev0 prog w A env s (.Name x xp) (.ws n nt count tr)) (hfind : findIn (KK w) (.ref 90) nm = some (some (.ref f)))
    (hfn : typeIn (KK w) (.ref f) = some (.type "function")) (hkp : keepIn (KK w) (.ref f) = true) (hnm : nm = "less" ∨ nm = "longest_run_of_spaces" ∨ nm = "indent_level")
    (k : ∀ v s₁, Gl w s₁.heap → Rep NoX s₁.heap (.ws n nt count tr) v → wpAny (model prog w) A (call (.ref f) [v]) (fun r s₂ => Up s₁ s₂ ∧ Rep X s₂.heap d r) NoE s₁) {pl : Sem Bool}
    (hc : eval (.Call (.Attribute (.Name x xp) nm ap) [] [] pos) env = (do
      let ov ← eval (.Name x xp) env
      standAt ap.atName
      let (f, first) ← holding [ov] (getMethod ov nm pl)
      callWith pos f first (backTo pos (starEach [] env)) []) := by rfl) : Ev prog w A X env s (.Call (.Attribute (.Name x xp) nm ap) [] [] pos) d := by
  intro _ s₁ u
  refine MethodCall_ (pl := pl) (V.use0 u fun v s₂ u₂ us₂ R => ?_) hc
  obtain ⟨x, dx, es, k', tn, tnt, vn, rfl, I, _, _, _, _, hno, _⟩ := ws_inv R
  refine method_fn (K := KK w) (G.up us₂).x I (plainGet_of (k_get w nm)).1 (plainGet_of (k_get w nm)).2 hfind hfn (by show (lookIn nm (dictOf es k')).map _ = _; rw [lookIn_dict, hno nm hnm]; rfl) ?_
  refine callWith_K0 (K := KK w) (G.up us₂).x hkp ?_
  exact wpAny_mono (k _ s₂ (G.up us₂) R) (fun r s₃ h => ⟨u₂.trans h.1, h.2⟩) fun _ _ q => q
theorem ev_meth1 {x nm : Str} {xp ap pos : Pos} {f : Addr} {n nt : Int} {count : List Int} {tr : Int} {d d₁ : Dt} {e : Expr} (G : Gl w s.heap) (V : Ev0 prog w A env s (.Name x xp) (.ws n nt count tr)) (W : Ev0 prog w A env s e d₁) (hfind : findIn (KK w) (.ref 90) nm = some (some (.ref f)))
    (hfn : typeIn (KK w) (.ref f) = some (.type "function")) (hkp : keepIn (KK w) (.ref f) = true) (hnm : nm = "less" ∨ nm = "longest_run_of_spaces" ∨ nm = "indent_level")
    (k : ∀ v v₁ s₁, Gl w s₁.heap → Rep NoX s₁.heap (.ws n nt count tr) v → Rep NoX s₁.heap d₁ v₁ → wpAny (model prog w) A (call (.ref f) [v, v₁]) (fun r s₂ => Up s₁ s₂ ∧ Rep X s₂.heap d r) NoE s₁) {pl : Sem Bool}
    (he : starEach [e] env = (false, eval e env) :: starEach [] env := by rfl)
    (hc : eval (.Call (.Attribute (.Name x xp) nm ap) [e] [] pos) env = (do
      let ov ← eval (.Name x xp) env
      standAt ap.atName
      let (f, first) ← holding [ov] (getMethod ov nm pl)
      callWith pos f first (backTo pos (starEach [e] env)) []) := by rfl) : Ev prog w A X env s (.Call (.Attribute (.Name x xp) nm ap) [e] [] pos) d := by
  intro _ s₁ u
  refine MethodCall_ (pl := pl) (V.use0 u fun v s₂ u₂ us₂ R => ?_) hc
  have R₀ := R
  obtain ⟨x, dx, es, k', tn, tnt, vn, rfl, I, _, _, _, _, hno, _⟩ := ws_inv R
  refine method_fn (K := KK w) (G.up us₂).x I (plainGet_of (k_get w nm)).1 (plainGet_of (k_get w nm)).2 hfind hfn (by show (lookIn nm (dictOf es k')).map _ = _; rw [lookIn_dict, hno nm hnm]; rfl) ?_
  refine callWith_K (K := KK w) (h₀ := s₂.heap) (G.up us₂).x hkp (Evs.use (evs_cons W evs_nil he) us₂ fun vs s₃ u₃ us₃ r => ⟨(G.up us₃).x, ?_⟩) he
  obtain ⟨v, rfl, r'⟩ := r.one
  exact wpAny_mono (k _ v s₃ (G.up us₃) (R₀.up u₃) r') (fun r s₄ h => ⟨(u₂.trans u₃).trans h.1, h.2⟩) fun _ _ q => q

variable {n nt : Int} {count : List Int} {tr : Int} {v : Value}
theorem long_call (G : Gl w s.heap) (hh : A.handled = none) (hroom : A.depth < recursionLimit) (hc : count.length < 100) (R : Rep NoX s.heap (.ws n nt count tr) v) :
    wpAny (model prog w) A (call (.ref 52) [v]) (fun r s' => Up s s' ∧ Rep X s'.heap (.int (lrsF count tr)) r) E s := by
  refine enterS [(("self" : Str), v)] (put (fun _ => none) "self" (.ws n nt count tr)) (long_at w) G hroom (long_bind _) ?_ ?_ fun s₁ u S => ?_
  · intro y hy
    rw [List.mem_singleton] at hy
    subst hy
    exact .inl (by kernel_rfl)
  · intro y d e
    dsimp only [put] at e
    split at e
    · rename_i h
      cases e
      subst h
      exact ⟨_, R, .inl ⟨by kernel_rfl, by kernel_rfl⟩⟩
    · cases e
  have G₁ := G.up u
  refine wpAny_execs_cons (st_unpack2 S hh (ev_normX G₁ S rfl) (.inl rfl) (.inl rfl) fun s₂ b₂ S₂ => ?_)
  refine wpAny_execs_cons (st_retX (X' := NoX) (d := .int (lrsF count tr)) ?_ (fun _ q => q.elim) fun v s' u' R => ⟨?_, R.imm rfl⟩)
  · have G₂ : Gl w s₂.heap := G.up (Nw.up u (b₂.mono S.frm))
    refine Ev.eq (ev_max G₂ rfl rfl rfl hh (ev_sub (ev_lenT G₂ rfl rfl rfl (ev_name0 (S₂.has rfl)) (by rw [List.length_map]; omega)) ev_int) (ev_name0 (S₂.has rfl))) ?_
    rw [List.length_map]; rfl
  · exact (Nw.up u (b₂.mono S.frm)).trans u'

theorem lev_call {ts : Nat} {t : Tok} (G : Gl w s.heap) (hh : A.handled = none) (hroom : A.depth < recursionLimit) (hc : count.length < 100) (hcb : ∀ x ∈ count, 0 ≤ x ∧ x < 2 ^ 32) (h1 : 1 ≤ ts) (h2 : ts < 1000) (R : Rep NoX s.heap (.ws n nt count tr) v) :
    wpAny (model prog w) A (call (.ref 59) [v, .int ts t]) (fun r s' => Up s s' ∧ Rep X s'.heap (.int (levF nt count tr ts)) r) E s := by
  refine enterS [(("self" : Str), v), (("tabsize" : Str), .int ts t)] (put (put (fun _ => none) "self" (.ws n nt count tr)) "tabsize" (.int ts)) (lev_at w) G hroom (lev_bind _ _) ?_ ?_ fun s₁ u S => ?_
  · intro y hy
    rcases List.mem_cons.mp hy with rfl | hy
    · exact .inl (by kernel_rfl)
    rw [List.mem_singleton] at hy
    subst hy
    exact .inl (by kernel_rfl)
  · intro y d e
    dsimp only [put] at e
    split at e
    · rename_i h
      cases e
      subst h
      exact ⟨_, .int _ t, .inl ⟨by kernel_rfl, by kernel_rfl⟩⟩
    split at e
    · rename_i h
      cases e
      subst h
      exact ⟨_, R, .inl ⟨by kernel_rfl, by kernel_rfl⟩⟩
    · cases e
  have G₁ := G.up u
  refine wpAny_execs_cons (st_unpack2 S hh (ev_normX G₁ S rfl) (.inl rfl) (.inl rfl) fun s₂ b₂ S₂ => ?_)
  have u₂ := Nw.up u (b₂.mono S.frm)
  have G₂ : Gl w s₂.heap := G.up u₂
  refine wpAny_execs_cons (st_assign S₂ ev_int (.inl rfl) fun s₃ b₃ S₃ => ?_)
  have bb₃ := b₂.trans b₃
  have u₃ := Nw.up u (bb₃.mono S.frm)
  have G₃ : Gl w s₃.heap := G.up u₃
  refine wpAny_execs_cons ?_
  refine st_forD (is := List.range (count.length - ts)) (g := fun i => Dt.nat (ts + i)) S₃ (srcD_range2 G₃ rfl rfl rfl hh (a := ts) (n := count.length) (ev_name0 (S₃.has rfl)) (Ev.eq (ev_lenT G₃ rfl rfl rfl (ev_name0 (S₃.has rfl)) (by rw [List.length_map]; omega)) (by rw [List.length_map])) (by omega) (by omega)) (fun _ => rfl) (.inl rfl)
    (fun i ρ h => ρ "self" = some (.ws n nt count tr) ∧ ρ "tabsize" = some (.int ts) ∧ ρ "count" = some (.tup (count.map .int)) ∧ ρ "trailing" = some (.int tr) ∧ ρ "il" = some (.int ((List.range i).foldl (ilStep count ts) 0))) (fun _ _ _ _ q _ => q) ⟨rfl, rfl, rfl, rfl, rfl⟩ ?_ ?_
  · rintro X₁ i j ρ' s₄ hX1 hX2 hj b₄ ⟨e1, e2, e3, e4, e5⟩ S₄
    have hji : j = i ∧ ts + i < count.length := by
      have h1 : i < (List.range (count.length - ts)).length := by
        rcases Nat.lt_or_ge i (List.range (count.length - ts)).length with h | h
        · exact h
        · rw [List.getElem?_eq_none h] at hj; cases hj
      rw [List.length_range] at h1
      rw [List.getElem?_range h1] at hj
      cases hj
      exact ⟨rfl, by omega⟩
    obtain ⟨rfl, hlt⟩ := hji
    have hci : count[ts + j]? = some (count.getD (ts + j) 0) := by simp [List.getD, List.getElem?_eq_getElem hlt]
    have hb := hcb (count.getD (ts + j) 0) (List.mem_of_getElem? hci)
    have bM := bb₃.mono S.frm
    refine wpAny_execs_cons (st_assign S₄ (ev_add (ev_name0 (S₄.has e5)) (ev_mul (ev_fdiv (ev_name0 (S₄.has rfl)) (ev_name0 (S₄.has e2)) (by omega) (PyProof.noPylong_small (by omega))) (ev_itemT (d := .int (count.getD (ts + j) 0)) (ev_name0 (S₄.has e3)) (ev_name0 (S₄.has rfl)) (by omega) (by rw [List.getElem?_map, hci]; rfl)) (IntMulOk.of_right (intBits_le_64 (by omega) (by omega))))) (.inl rfl) fun s₅ b₅ S₅ => ?_)
    refine wpAny_execs_nil ⟨b₅.mono S.frm, _, ?_, S₅⟩
    refine ⟨e1, e2, e3, e4, ?_⟩
    show some _ = some _
    rw [List.range_succ, List.foldl_append]
    rfl
  · rintro s₄ ρ' b₄ ⟨e1, e2, e3, e4, e5⟩ S₄
    have u₄ : Up s s₄ := Nw.up u ((bb₃.mono S.frm).trans b₄)
    refine wpAny_execs_cons (st_retX (X' := NoX) (d := .int (levF nt count tr ts)) ?_ (fun _ q => q.elim) fun v s' u' R => ⟨u₄.trans u', R.imm rfl⟩)
    have G₄ := G.up u₄
    refine Ev.eq (ev_add (ev_name0 (S₄.has e4)) (ev_mul (ev_name0 (S₄.has e2)) (ev_add (ev_name0 (S₄.has e5)) (ev_nt G₄ (ev_name0 (S₄.has e1)))) (IntMulOk.of_left (intBits_le_64 (by omega) (by omega))))) ?_
    rw [List.length_range]; rfl

def wsOk (count : List Int) (tr : Int) : Prop := count.length < 100 ∧ (∀ x ∈ count, 0 ≤ x ∧ x < 2 ^ 32) ∧ 0 ≤ tr ∧ tr < 100
/-- less, in plain -/
def lessF (n nt : Int) (count : List Int) (tr : Int) (n' nt' : Int) (count' : List Int) (tr' : Int) : Bool :=
  if decide (n' ≤ n) then false
  else if decide (count.length ≤ 1) && decide (count'.length ≤ 1) then decide (nt ≤ nt')
  else (List.range ((if lrsF count' tr' > lrsF count tr then lrsF count' tr' else lrsF count tr) + 1 + 1 - 2).toNat).all fun i => !decide (levF nt' count' tr' (2 + i) ≤ levF nt count tr (2 + i))
theorem m_long (w : World) : findIn (KK w) (.ref 90) "longest_run_of_spaces" = some (some (.ref 52)) := by kernel_rfl
theorem m_lev (w : World) : findIn (KK w) (.ref 90) "indent_level" = some (some (.ref 59)) := by kernel_rfl
theorem t_long (w : World) : typeIn (KK w) (.ref 52) = some (.type "function") := by kernel_rfl
theorem t_lev (w : World) : typeIn (KK w) (.ref 59) = some (.type "function") := by kernel_rfl
theorem k_long (w : World) : keepIn (KK w) (.ref 52) = true := by kernel_rfl
theorem k_lev (w : World) : keepIn (KK w) (.ref 59) = true := by kernel_rfl
theorem lrs_bd {count : List Int} {tr : Int} (h : wsOk count tr) : -1 ≤ lrsF count tr ∧ lrsF count tr < 100 := by unfold lrsF; have := h.1; have := h.2.2; split <;> omega

theorem less_call {n' nt' : Int} {count' : List Int} {tr' : Int} {v' : Value} (G : Gl w s.heap) (hh : A.handled = none) (hroom : A.depth + 5 < recursionLimit) (hw : wsOk count tr) (hw' : wsOk count' tr') (R : Rep NoX s.heap (.ws n nt count tr) v) (R' : Rep NoX s.heap (.ws n' nt' count' tr') v') :
    wpAny (model prog w) A (call (.ref 80) [v, v']) (fun r s' => Up s s' ∧ Rep X s'.heap (.bool (lessF n nt count tr n' nt' count' tr')) r) E s := by
  refine enterS [(("self" : Str), v), (("other" : Str), v')] (put (put (fun _ => none) "self" (.ws n nt count tr)) "other" (.ws n' nt' count' tr')) (less_at w) G (by omega) (less_bind _ _) ?_ ?_ fun s₁ u S => ?_
  · intro y hy
    rcases List.mem_cons.mp hy with rfl | hy
    · exact .inl (by kernel_rfl)
    rw [List.mem_singleton] at hy
    subst hy
    exact .inl (by kernel_rfl)
  · intro y d e
    dsimp only [put] at e
    split at e
    · rename_i h
      cases e
      subst h
      exact ⟨_, R', .inl ⟨by kernel_rfl, by kernel_rfl⟩⟩
    split at e
    · rename_i h
      cases e
      subst h
      exact ⟨_, R, .inl ⟨by kernel_rfl, by kernel_rfl⟩⟩
    · cases e
  have G₁ := G.up u
  have hroom' : (A.deeper (callEnvC fdLess s.heap.objs.size 80)).depth < recursionLimit := by show A.depth + 1 < _; omega
  unfold lessF
  refine wpAny_execs_cons (st_if S (tst_cmp (ev_n G₁ (ev_name0 (S.has rfl))) (ev_n G₁ (ev_name0 (S.has rfl))) cmp_ge) (fun hc s₂ u₂ S₂ => ?_) fun hc s₂ u₂ S₂ => ?_)
  · rw [hc]
    exact wpAny_execs_cons (st_retX (X' := NoX) ev_bool (fun _ q => q.elim) fun v s' u' R => ⟨(u.trans u₂).trans u', R.imm rfl⟩)
  rw [hc]
  refine wpAny_execs_nil ?_
  have G₂ := G₁.up u₂
  refine wpAny_execs_cons (st_if S₂ (tst_and (tst_val (ev_sim G₂ (ev_name0 (S₂.has rfl)))) fun _ => tst_val (ev_sim G₂ (ev_name0 (S₂.has rfl)))) (fun hc s₃ u₃ S₃ => ?_) fun hc s₃ u₃ S₃ => ?_)
  · rw [hc]
    have G₃ := G₂.up u₃
    exact wpAny_execs_cons (st_retX (X' := NoX) (ev_cmp (ev_nt G₃ (ev_name0 (S₃.has rfl))) (ev_nt G₃ (ev_name0 (S₃.has rfl))) cmp_le) (fun _ q => q.elim) fun v s' u' R => ⟨((u.trans u₂).trans u₃).trans u', R.imm rfl⟩)
  rw [hc]
  refine wpAny_execs_nil ?_
  have G₃ := G₂.up u₃
  have uu₃ := (u.trans u₂).trans u₃
  have l₁ := lrs_bd hw
  have l₂ := lrs_bd hw'
  generalize hm : (if lrsF count' tr' > lrsF count tr then lrsF count' tr' else lrsF count tr) = m
  have hmb : -1 ≤ m ∧ m < 100 := by rw [← hm]; split <;> omega
  refine wpAny_execs_cons (st_assign (d := .int (m + 1)) S₃ (ev_add (Ev.eq (ev_max G₃ rfl rfl rfl hh (ev_meth0 G₃ (ev_name0 (S₃.has rfl)) (m_long w) (t_long w) (k_long w) (.inr (.inl rfl)) fun v s₁ G R => long_call G hh hroom' hw.1 R) (ev_meth0 G₃ (ev_name0 (S₃.has rfl)) (m_long w) (t_long w) (k_long w) (.inr (.inl rfl)) fun v s₁ G R => long_call G hh hroom' hw'.1 R)) (by rw [hm])) ev_int) (.inl rfl) fun s₄ b₄ S₄ => ?_)
  have uu₄ : Up s s₄ := Nw.up u (((u₂.trans u₃).up (X := Nw s s₁)).trans (b₄.mono S.frm))
  have G₄ := G.up uu₄
  have e2 : (m + 1 + 1 - 2).toNat = (m + 1 + 1).toNat - 2 := by omega
  rw [e2]
  refine wpAny_execs_cons (st_forD (is := List.range ((m + 1 + 1).toNat - 2)) (g := fun i => Dt.nat (2 + i)) S₄ (srcD_range2 G₄ rfl rfl rfl hh (a := 2) (n := (m + 1 + 1).toNat) ev_int (Ev.eq (ev_add (ev_name0 (S₄.has rfl)) ev_int) (by rw [Int.toNat_of_nonneg (by omega)])) (by omega) (by omega)) (fun _ => rfl) (.inl rfl)
    (fun i ρ h => ρ "self" = some (.ws n nt count tr) ∧ ρ "other" = some (.ws n' nt' count' tr') ∧ ((List.range i).all fun i => !decide (levF nt' count' tr' (2 + i) ≤ levF nt count tr (2 + i))) = true) (fun _ _ _ _ q _ => q) ⟨rfl, rfl, rfl⟩ ?_ ?_)
  · rintro X₁ i j ρ' s₅ hX1 hX2 hj b₅ ⟨e1, e2, e3⟩ S₅
    have hji : j = i ∧ 2 + i < (m + 1 + 1).toNat := by
      have h1 : i < (List.range ((m + 1 + 1).toNat - 2)).length := by
        rcases Nat.lt_or_ge i (List.range ((m + 1 + 1).toNat - 2)).length with h | h
        · exact h
        · rw [List.getElem?_eq_none h] at hj; cases hj
      rw [List.length_range] at h1
      rw [List.getElem?_range h1] at hj
      cases hj
      exact ⟨rfl, by omega⟩
    obtain ⟨rfl, hlt⟩ := hji
    have uu₅ : Up s s₅ := Nw.up u ((((u₂.trans u₃).up (X := Nw s s₁)).trans (b₄.mono S.frm)).trans b₅)
    have G₅ := G.up uu₅
    refine wpAny_execs_cons (st_if (c := decide (levF nt' count' tr' (2 + j) ≤ levF nt count tr (2 + j))) S₅ (tst_cmp (ev_meth1 G₅ (ev_name0 (S₅.has e1)) (ev_name0 (S₅.has rfl)) (m_lev w) (t_lev w) (k_lev w) (.inr (.inr rfl)) fun v v₁ s₁ G R R₁ => ?_) (ev_meth1 G₅ (ev_name0 (S₅.has e2)) (ev_name0 (S₅.has rfl)) (m_lev w) (t_lev w) (k_lev w) (.inr (.inr rfl)) fun v v₁ s₁ G R R₁ => ?_) cmp_ge) (fun hc s₆ u₆ S₆ => ?_) fun hc s₆ u₆ S₆ => ?_)
    · obtain ⟨t, rfl⟩ := R₁.int_inv
      exact lev_call (ts := 2 + j) G hh hroom' hw.1 hw.2.1 (by omega) (by omega) R
    · obtain ⟨t, rfl⟩ := R₁.int_inv
      exact lev_call (ts := 2 + j) G hh hroom' hw'.1 hw'.2.1 (by omega) (by omega) R
    · have hf : ((List.range ((m + 1 + 1).toNat - 2)).all fun i => !decide (levF nt' count' tr' (2 + i) ≤ levF nt count tr (2 + i))) = false := by
        rw [List.all_eq_false]
        exact ⟨j, List.mem_range.mpr (by omega), by rw [hc]; decide⟩
      rw [hf]
      exact wpAny_execs_cons (st_retX (X' := NoX) ev_bool (fun _ q => q.elim) fun v s' u' R => ⟨(uu₅.trans u₆).trans u', R.imm rfl⟩)
    · refine wpAny_execs_nil (wpAny_execs_nil ⟨u₆.up, _, ?_, S₆⟩)
      refine ⟨e1, e2, ?_⟩
      rw [List.range_succ, List.all_append, e3]
      simp only [List.all_cons, List.all_nil, hc]
      rfl
  · rintro s₅ ρ' b₅ ⟨e1, e2, e3⟩ S₅
    rw [List.length_range] at e3
    have uu₅ : Up s s₅ := Nw.up u ((((u₂.trans u₃).up (X := Nw s s₁)).trans (b₄.mono S.frm)).trans b₅)
    simp only [e3]
    exact wpAny_execs_cons (st_retX (X' := NoX) ev_bool (fun _ q => q.elim) fun v s' u' R => ⟨uu₅.trans u', R.imm rfl⟩)
end
end Mine

/-! Ws3 -/
namespace Mine
theorem m_init (w : World) : findIn (KK w) (.ref 90) "__init__" = some (some (.ref 45)) := by kernel_rfl
theorem t_init (w : World) : typeIn (KK w) (.ref 45) = some (.type "function") := by kernel_rfl
theorem k_ws (w : World) : keepIn (KK w) (.ref 90) = true := by kernel_rfl
theorem mk_ws (w : World) : makesIn (KK w) 90 = true := by kernel_rfl
section
variable {prog : Program} {w : World} {A : Around} {X : Addr → Prop} {E : Value → Shared → Prop} {s : Shared}
theorem ws_call {t : Str} {tk : Tok} {cs : List Nat} (G : Gl w s.heap) (hh : A.handled = none) (hroom : A.depth + 5 < recursionLimit) (hX : ∀ b : Nat, X b → b < s.heap.objs.size) (ht : t.cps.toList = cs ++ [120]) (hcs : ∀ c ∈ cs, c = 32 ∨ c = 9) (hlen : cs.length ≤ 6) :
    wpAny (model prog w) A (call (.ref 90) [.str t tk]) (fun v s' => Up s s' ∧ Rep X s'.heap (.ws (wsRun cs).n (wsRun cs).nt (wsRun cs).count (wsRun cs).b) v) E s := by
  obtain ⟨h, g, d, tk', os⟩ := s
  refine wpAny_call (make_core (makes_of G.x (mk_ws w)) (looks_findIn G.x (m_init w)) (fun self => bind_fn G.x self (t_init w)) (.inl rfl) ?_)
  refine code_init (s₀ := ⟨h, g, d, tk', os⟩) G hh (by show A.depth + 1 < _; omega) ht hcs hlen fun s' u R => ⟨u, ?_⟩
  exact R.mono fun b o n e => ⟨e, fun q => n (hX b q)⟩
end
end Mine

/-! Sld1 -/
namespace Mine
/-- an IndexError at e, not yet noted; c: its context -/
def Raw (h : Heap) (e : Addr) (c : Value) : Prop := ∃ o vs, h.get? e = some o ∧ o.cls = .type "IndexError" ∧ o.data = .fields vs ∧ vs[1]? = some .none ∧ vs[2]? = some c
/-- an IndexError at e, noted by the traceback tb -/
def Nt (h : Heap) (e tb : Addr) (fl c : Value) : Prop := ∃ o vs ot tvs, h.get? e = some o ∧ o.cls = .type "IndexError" ∧ o.data = .fields vs ∧ vs[1]? = some (.ref tb) ∧ vs[2]? = some c ∧ tb ≠ e ∧ h.get? tb = some ot ∧ ot.data = .fields tvs ∧ tvs[3]? = some fl
structure Stp (FR : List Addr) (T : Addr → Prop) (s s' : Shared) : Prop where
  same : ∃ h tk, s' = { s with heap := h, toks := tk }
  keep : ∀ b o, ¬ T b → b ∉ FR → s.heap.get? b = some o → s'.heap.get? b = some o
  slot : ∀ b o, ¬ T b → s.heap.get? b = some o → ∃ sl, s'.heap.get? b = some { o with slots := sl }
  size : s.heap.objs.size ≤ s'.heap.objs.size
section
variable {M : Model} {A : Around} {E : Value → Shared → Prop} {s : Shared} {env : Env} {outer : List Env} {L e tb : Addr} {c fl : Value}
theorem note_raw {Q : Unit → Shared → Prop} (hfr : A.frames = some (env :: outer)) (hl : s.heap.FunFrames {} (env :: outer)) (hf : env.frame = some L) (R : Raw s.heap e c)
    (k : ∀ s' tb, Stp ((env :: outer).filterMap (·.frame)) (· = e) s s' → s.heap.get? tb = none → Nt s'.heap e tb (rawInt L) c → Q () s') : wpAny M A (noteFrame (.ref e) env) Q E s := by
  obtain ⟨oe, vs, he, hc, hd, h1, h2⟩ := R
  have hsz : 1 < vs.size := (Array.getElem?_eq_some_iff.mp h1).1
  have hene : e ∉ (env :: outer).filterMap (·.frame) := fun hm => by
    obtain ⟨_, o, ho, hnf⟩ := hl.mem hm
    rw [he] at ho; injection ho with ho; subst ho; exact hnf vs hd
  unfold noteFrame
  simp only [hf]
  refine wpAny_bind (wpAny_field he hd h1 ?_)
  rw [if_neg (by decide)]
  refine wpAny_bind (wpAny_frameOf_fun hfr hl hf fun h₁ hs₁ => ?_)
  refine wpAny_bind (wpAny_entryPlaceOf fun pl hpl => ?_)
  unfold EntryCells.newEntry newFields
  refine wpAny_bind (wpAny_newObj_type ?_ (hpl.sizeOk5 _ _ _ _ _))
  have he₁ : h₁.get? e = some oe := (hs₁.2.1 e hene).trans he
  have he₂ := Heap.get?_push_of_some (h := h₁) { cls := .type "traceback", dict := none, data := .fields ([Value.none, .ref L, .none, rawInt L, .none] ++ (if pl.isEmpty then List.replicate 6 Value.none else pl)).toArray } he₁
  refine any_size (wpAny_setField he₂ hd hsz ?_)
  intro z
  have hTe : h₁.objs.size ≠ e := Nat.ne_of_gt (Heap.lt_size he₁)
  have hd₃ := Obj.data_mapFields hd (·.setIfInBounds 1 (Value.ref h₁.objs.size))
  have he₃ := Heap.get?_update_self (Obj.mapFields (·.setIfInBounds 1 (Value.ref h₁.objs.size))) he₂ (Obj.isFreed_of_fields hd₃)
  have kp : ∀ b o, b ≠ e → h₁.get? b = some o → ((h₁.push { cls := .type "traceback", dict := none, data := .fields ([Value.none, .ref L, .none, rawInt L, .none] ++ (if pl.isEmpty then List.replicate 6 Value.none else pl)).toArray }).update e (Obj.mapFields (·.setIfInBounds 1 (Value.ref h₁.objs.size)))).get? b = some o := fun b o hb q => by
    rw [Heap.get?_update_other _ _ (Ne.symm hb)]
    exact Heap.get?_push_of_some _ q
  have hT₃ := (Heap.get?_update_other (h₁.push { cls := .type "traceback", dict := none, data := .fields ([Value.none, .ref L, .none, rawInt L, .none] ++ (if pl.isEmpty then List.replicate 6 Value.none else pl)).toArray })
    (Obj.mapFields (·.setIfInBounds 1 (Value.ref h₁.objs.size))) (Ne.symm hTe)).trans (Heap.get?_push_size h₁ rfl)
  refine k _ h₁.objs.size ⟨⟨_, s.toks, rfl⟩, fun b o nb nf q => kp b o nb ((hs₁.2.1 b nf).trans q), fun b o nb q => ?_, ?_⟩ (Heap.get?_none_of_le (by rw [hs₁.1]; exact Nat.le_refl _)) ?_
  · obtain ⟨sl, hs⟩ := hs₁.2.2 b o q
    exact ⟨sl, kp b _ nb hs⟩
  · refine Nat.le_trans ?_ z
    show s.heap.objs.size ≤ (h₁.push _).objs.size
    rw [Heap.size_push, hs₁.1]; omega
  · refine ⟨_, _, _, _, he₃, (Obj.cls_mapFields _ _).trans hc, hd₃, by simp [hsz], by rw [Array.getElem?_setIfInBounds_ne (by decide)]; exact h2, hTe, hT₃, rfl, by first | (simp; done) | (rcases hpl with rfl | ⟨_, _, _, _, _, _, _, rfl⟩ <;> simp)⟩
theorem note_nt {Q : Unit → Shared → Prop} (hf : env.frame = some L) (N : Nt s.heap e tb (rawInt L) c) (h : Q () s) : wpAny M A (noteFrame (.ref e) env) Q E s := by
  obtain ⟨o, vs, ot, tvs, he, _, hd, h1, _, _, ht, hdt, h3⟩ := N
  exact wpAny_noteFrame_inFlight hf he hd h1 ht hdt h3 h
theorem flight {Q : Unit → Shared → Prop} {f : Option Addr} (N : Nt s.heap e tb fl c) (k : ∀ s', Stp [] (· = tb) s s' → Nt s'.heap e tb (f.elim .none fun a => rawInt a) c → Q () s') : wpAny M A (setFlight (.ref e) f) Q E s := by
  obtain ⟨o, vs, ot, tvs, he, hc, hd, h1, h2, hne, ht, hdt, h3⟩ := N
  have hsz : 3 < tvs.size := (Array.getElem?_eq_some_iff.mp h3).1
  unfold setFlight
  refine wpAny_bind (wpAny_field he hd h1 ?_)
  rw [if_pos (show (Value.ref tb != Value.none) = true from by simp)]
  refine any_size (wpAny_setField ht hdt hsz fun z => ?_)
  have oth : ∀ b, b ≠ tb → (s.heap.update tb (Obj.mapFields (·.setIfInBounds 3 (f.elim .none fun a => rawInt a)))).get? b = s.heap.get? b := fun b hb => Heap.get?_update_other _ _ (Ne.symm hb)
  refine k _ ⟨⟨_, s.toks, rfl⟩, fun b o nb _ q => (oth b nb).trans q, fun b o nb q => ⟨o.slots, (oth b nb).trans q⟩, z⟩ ⟨o, vs, _, _, (oth e (Ne.symm hne)).trans he, hc, hd, h1, h2, hne, Heap.get?_update_self _ ht (Obj.isFreed_of_fields (Obj.data_mapFields hdt _)), Obj.data_mapFields hdt _, by simp [hsz]⟩
theorem came_back (hf : env.frame = some L) (N : Nt s.heap e tb fl c) (k : ∀ s', Stp [] (· = tb) s s' → Nt s'.heap e tb (rawInt L) c → E (.ref e) s') : cameBackBy M A env E (.ref e) s := by
  obtain ⟨o, vs, ot, tvs, he, hc, hd, h1, h2, hne, ht, hdt, h3⟩ := id N
  unfold cameBackBy
  refine wpAny_bind (wpAny_field he hd h1 ?_)
  rw [if_neg (by simp)]
  rw [hf]
  exact flight N fun s' st n => k s' st n
end
section
variable {prog : Program} {w : World} {A : Around} {E : Value → Shared → Prop} {s : Shared}
/-- an item that is not there -/
theorem out_none {l : Addr} {items : Array Value} {k : Int} {t : Tok} {Q : Value → Shared → Prop} (hA : A.handled = none) (hl : s.heap.IsList l items) (hout : (items.size : Int) ≤ k) (hhi : k < 2 ^ 63)
    (hE : ∀ s' e, Up s s' → s.heap.get? e = none → Raw s'.heap e .none → E (.ref e) s') : wpAny (model prog w) A (getItem (.ref l) (.int k t)) Q E s := by
  refine any_size (wpAny_getItem_list_out hA hl (.inr hout) (by omega) hhi fun h' tk e N z => ?_)
  obtain ⟨ob, tt, h1, h2, h3⟩ := N.there
  exact hE _ e ⟨⟨_, _, rfl⟩, fun b o _ q => N.keeps b o q, z⟩ N.new ⟨ob, _, h1, h2, h3, rfl, rfl⟩
theorem entry_unchain : entryFor table "proto.unchain" = some Builtin.«proto.unchain» := entryFor_of_tree (by kernel_rfl)
/-- raised while another is being handled -/
theorem raise_some {α : Type} {e₁ : Addr} {msg : String} {o₁ : Obj} {vs₁ : Array Value} {Q : α → Shared → Prop} (hh : A.handled = some (.ref e₁)) (h1 : s.heap.get? e₁ = some o₁) (hd : o₁.data = .fields vs₁) (h2 : vs₁[2]? = some .none)
    (hE : ∀ s' e, Up s s' → s.heap.get? e = none → Raw s'.heap e (.ref e₁) → E (.ref e) s') : wpAny (model prog w) A (raiseErrorWords "IndexError" msg : Sem α) Q E s := by
  unfold raiseErrorWords
  refine wpAny_bind (wpAny_mkText (wpAny_bind ?_))
  unfold newExc newTuple
  refine wpAny_bind (wpAny_newObj_type ?_)
  refine wpAny_bind (m := firstArgMember _ _) (wpAny_of_eq (a := Value.none) (by simp only [firstArgMember, plainExc_IndexError.first]; rfl) ?_)
  rw [plainExc_IndexError.own]
  refine wpAny_newObj_type ?_
  unfold raiseNew
  refine wpAny_bind (wpAny_handled ?_)
  rw [hh]
  dsimp only
  generalize hH : (({ s with toks := s.toks + 1 } : Shared).heap.push _) = H1
  generalize hH2 : H1.push _ = H2
  have hz1 : H1.objs.size = s.heap.objs.size + 1 := by rw [← hH]; exact Heap.size_push ..
  have lt1 : e₁ < s.heap.objs.size := Heap.lt_size h1
  have k2 : ∀ b o, s.heap.get? b = some o → H2.get? b = some o := fun b o q => hH2 ▸ Heap.get?_push_of_some _ (hH ▸ Heap.get?_push_of_some _ q)
  have hne : e₁ ≠ H1.objs.size := Nat.ne_of_lt (by rw [hz1]; exact Nat.lt_succ_of_lt lt1)
  rw [if_pos (by simpa using hne)]
  refine wpAny_bind (wpAny_holding (wpAny_runValue (codeAny_builtin entry_unchain ?_)))
  refine wpAny_bind (wpAny_field (k2 _ _ h1) hd h2 ?_)
  rw [if_pos (by decide)]
  refine wpAny_bind (wpAny_pure ?_)
  refine wpAny_pure ?_
  dsimp only
  have hnew : H2.get? H1.objs.size = some _ := hH2 ▸ Heap.get?_push_size _ rfl
  refine wpAny_bind (any_size ?_)
  show wpAny (model prog w) A (setField (.ref H1.objs.size) 2 (.ref e₁)) _ _ _
  refine wpAny_setField hnew rfl (by simp) fun z => wpAny_throw ?_
  refine hE _ H1.objs.size ⟨⟨_, _, rfl⟩, fun b o _ q => ?_, Nat.le_trans (by show s.heap.objs.size ≤ H2.objs.size; rw [← hH2, Heap.size_push]; omega) z⟩ (Heap.get?_none_of_le (by omega)) ⟨_, _, Heap.get?_update_self _ hnew rfl, rfl, rfl, rfl, rfl⟩
  rw [Heap.get?_update_other _ _ (Ne.symm (Nat.ne_of_lt (Nat.lt_of_lt_of_le (Heap.lt_size q) (by omega))))]
  exact k2 b o q
set_option maxRecDepth 512 in
theorem out_some {l e₁ : Addr} {items : Array Value} {k : Int} {t : Tok} {o₁ : Obj} {vs₁ : Array Value} {Q : Value → Shared → Prop} (hh : A.handled = some (.ref e₁)) (h1 : s.heap.get? e₁ = some o₁) (hd₁ : o₁.data = .fields vs₁) (h2 : vs₁[2]? = some .none)
    (hl : s.heap.IsList l items) (hout : (items.size : Int) ≤ k) (hhi : k < 2 ^ 63)
    (hE : ∀ s' e, Up s s' → s.heap.get? e = none → Raw s'.heap e (.ref e₁) → E (.ref e) s') : wpAny (model prog w) A (getItem (.ref l) (.int k t)) Q E s := by
  obtain ⟨o, ho, hc, ne, hd⟩ := id hl
  unfold getItem
  try with_reducible refine wpAny_holding ?_
  first | refine wpAny_bind (wpAny_pure ?_) | skip
  refine wpAny_bind (wpAny_sequenceKey hl.typeIs (by decide) ?_)
  refine wpAny_bind (wpAny_callSpecial?_slot (name := Str.ofString "__getitem__") hl.typeIs slot_list_getitem
    (wpAny_call_entry slot_list_getitem hl.typeIs entry_list_getitem ?_ (args_list_getitem _ _)))
  show wpAny _ _ (Builtin.List.listSubscript? (.int k t) >>= _) _ _ s
  refine wpAny_bind (wpAny_listSubscript_int (fitsIndex_both (by omega) hhi) ?_)
  clear hhi
  cases k with
  | ofNat j =>
    have hx : items[j]? = none := Array.getElem?_eq_none (by have : (items.size : Int) ≤ (j : Int) := hout; omega)
    show wpAny _ _ ((seqItemAt l j >>= fun r => pure (r.map (j, ·))) >>= _) _ _ s
    refine wpAny_bind (wpAny_bind (wpAny_seqItemAt ho hd (wpAny_pure ?_)))
    rw [hx]
    first
      | exact wpAny_bind (wpAny_rule (raise_some hh h1 hd₁ h2 hE))
      | exact wpAny_bind (wpAny_rule (wpAny_bind (raise_some hh h1 hd₁ h2 hE)))
      | exact wpAny_bind (wpAny_bind (wpAny_rule (raise_some hh h1 hd₁ h2 hE)))
      | exact wpAny_rule (raise_some hh h1 hd₁ h2 hE)
  | negSucc j => exact absurd hout (by have := Int.negSucc_lt_zero j; omega)
end
end Mine

/-! Sld2 -/
namespace Mine
abbrev frs (l : List Env) : List Addr := l.filterMap (·.frame)
structure SD (s₀ : Shared) (env : Env) (outer : List Env) (L : Addr) (m : Str → Option Value) (am au : Addr) (ms : List Int) (s : Shared) : Prop where
  slo : Stp (frs outer) NoX s₀ s
  ns : s.heap.Ns L m
  lm : ∃ vs, s.heap.PlainList am (List.toArray vs) ∧ IntsAre vs ms
  lu : s.heap.PlainList au (List.toArray [])
  fl : s.heap.FunFrames {} (env :: outer)
structure SDs (s₀ : Shared) (env : Env) (outer : List Env) (L am au : Addr) : Prop where
  nL : s₀.heap.get? L = none
  nm : s₀.heap.get? am = none
  nu : s₀.heap.get? au = none
  Lm : L ≠ am
  Lu : L ≠ au
  mu : am ≠ au
  fr : env.frame = some L
  loc : env.locals = L
  out : ∀ b ∈ frs outer, ∃ o, s₀.heap.get? b = some o
def NewE (s₀ : Shared) (L am au b : Addr) : Prop := s₀.heap.get? b = none ∧ b ≠ L ∧ b ≠ am ∧ b ≠ au
section
variable {s₀ s s' : Shared} {env : Env} {outer : List Env} {L am au : Addr} {m : Str → Option Value} {ms : List Int} {T : Addr → Prop} {prog : Program} {w : World} {A : Around} {E : Value → Shared → Prop}
theorem fun_of {h h' base : Heap} (k : ∀ b o, h.get? b = some o → (∀ vs, o.data ≠ .fields vs) → ∃ o', h'.get? b = some o' ∧ ∀ vs, o'.data ≠ .fields vs) : ∀ {l : List Env}, h.FunFrames base l → h'.FunFrames base l
  | [], _ => trivial
  | env :: rest, ⟨hk, ⟨L, o, hf, hn, ho, hd⟩, hr⟩ => let ⟨o', ho', hd'⟩ := k L o ho hd; ⟨hk, ⟨L, o', hf, hn, ho', hd'⟩, fun_of k hr⟩
theorem ns_slot {h h' : Heap} {a : Addr} (hn : h.Ns a m) (k : ∀ o, h.get? a = some o → ∃ sl, h'.get? a = some { o with slots := sl }) : h'.Ns a m := by
  obtain ⟨o, es, ep, ho, hd, r⟩ := hn
  obtain ⟨sl, hs⟩ := k o ho
  exact ⟨_, es, ep, hs, hd, r⟩
theorem SD.step (D : SD s₀ env outer L m am au ms s) (C : SDs s₀ env outer L am au) {FR : List Addr} (hFR : ∀ b ∈ FR, b ∈ frs (env :: outer)) (st : Stp FR T s s') (hT : ∀ b, T b → NewE s₀ L am au b) (hf : ∀ b o, T b → s.heap.get? b = some o → ∃ vs, o.data = .fields vs) : SD s₀ env outer L m am au ms s' := by
  have nF : ∀ b, s₀.heap.get? b = none → b ≠ L → b ∉ FR := fun b h1 h2 hm => by
    have := hFR b hm
    simp only [frs, List.filterMap_cons, C.fr] at this
    rcases List.mem_cons.mp this with h | h
    · exact h2 h
    · obtain ⟨o, ho⟩ := C.out b h
      rw [h1] at ho; cases ho
  refine ⟨⟨?_, fun b o _ nf q => ?_, fun b o _ q => ?_, Nat.le_trans D.slo.size st.size⟩, ns_slot D.ns fun o q => st.slot L o (fun t => (hT L t).2.1 rfl) q, ?_, ?_, ?_⟩
  · obtain ⟨h, tk, rfl⟩ := D.slo.same
    obtain ⟨h', tk', rfl⟩ := st.same
    exact ⟨_, _, rfl⟩
  · have q1 := D.slo.keep b o (fun x => x) nf q
    refine st.keep b o (fun t => by rw [(hT b t).1] at q; cases q) (fun hm => ?_) q1
    have := hFR b hm
    simp only [frs, List.filterMap_cons, C.fr] at this
    rcases List.mem_cons.mp this with h | h
    · rw [h, C.nL] at q; cases q
    · exact nf h
  · obtain ⟨sl, q1⟩ := D.slo.slot b o (fun x => x) q
    obtain ⟨sl', q2⟩ := st.slot b _ (fun t => by rw [(hT b t).1] at q; cases q) q1
    exact ⟨sl', q2⟩
  · obtain ⟨vs, ⟨n, hp⟩, hi⟩ := D.lm
    exact ⟨vs, ⟨n, st.keep am _ (fun t => (hT am t).2.2.1 rfl) (nF am C.nm (Ne.symm C.Lm)) hp⟩, hi⟩
  · obtain ⟨n, hp⟩ := D.lu
    exact ⟨n, st.keep au _ (fun t => (hT au t).2.2.2 rfl) (nF au C.nu (Ne.symm C.Lu)) hp⟩
  · refine D.fl.of_keeps fun b o ho hnf => ?_
    by_cases t : T b
    · obtain ⟨vs, hv⟩ := hf b o t ho
      exact absurd hv (hnf vs)
    · obtain ⟨sl, q⟩ := st.slot b o t ho
      exact ⟨_, q, rfl⟩
theorem stp_up {FR : List Addr} (u : Up s s') : Stp FR NoX s s' := ⟨u.same, fun b o _ _ e => u.le b o e, fun b o _ e => ⟨o.slots, u.le b o e⟩, u.size⟩
theorem SD.up (D : SD s₀ env outer L m am au ms s) (C : SDs s₀ env outer L am au) (u : Up s s') : SD s₀ env outer L m am au ms s' := D.step C (FR := []) (fun _ h => nomatch h) (stp_up u) (fun _ q => q.elim) fun _ _ q => q.elim
theorem SD.new (D : SD s₀ env outer L m am au ms s) {e : Addr} (h : s.heap.get? e = none) : NewE s₀ L am au e := by
  refine ⟨?_, fun q => ?_, fun q => ?_, fun q => ?_⟩
  · cases q : s₀.heap.get? e with
    | none => rfl
    | some o => obtain ⟨sl, q1⟩ := D.slo.slot e o (fun x => x) q; rw [h] at q1; cases q1
  · obtain ⟨o, _, _, ho, _⟩ := D.ns; rw [q, ho] at h; cases h
  · obtain ⟨vs, ⟨n, hp⟩, _⟩ := D.lm; rw [q, hp] at h; cases h
  · obtain ⟨n, hp⟩ := D.lu; rw [q, hp] at h; cases h
theorem SD.isList (D : SD s₀ env outer L m am au ms s) {a : Addr} {items : Array Value} (h : s₀.heap.IsList a items) : s.heap.IsList a items := by
  obtain ⟨o, ho, hc, n, hd⟩ := h
  obtain ⟨sl, q⟩ := D.slo.slot a o (fun x => x) ho
  exact ⟨_, q, hc, n, hd⟩
theorem SD.storeB {y : Str} {v : Value} {Q : Unit → Shared → Prop} {M : Model} (D : SD s₀ env outer L m am au ms s) (C : SDs s₀ env outer L am au) (k : ∀ s', SD s₀ env outer L (fun z => if z = y then some v else m z) am au ms s' → But (· = L) s s' → Q () s') (hk : env.kindOf y = some .local := by rfl) (hf : env.scope.kind = .function := by rfl) : wpAny M A (storeName env y v) Q E s := by
  refine wpAny_storeName_local hk (C.loc ▸ D.ns) (fun h' hn hs => ?_) (by rw [hf]; rfl)
  rw [C.loc] at hn hs
  have ot : ∀ b o, b ≠ L → s.heap.get? b = some o → h'.get? b = some o := fun b o q e => hs.extBut b o q e
  refine k _ ⟨⟨?_, fun b o _ nf q => ot b o (fun e => by rw [e, C.nL] at q; cases q) (D.slo.keep b o (fun x => x) nf q), fun b o _ q => ?_, Nat.le_trans D.slo.size (Nat.le_of_eq hs.1.symm)⟩, hn, ?_, ?_, ?_⟩ ⟨⟨_, _, rfl⟩, fun b o q e => ot b o q e, Nat.le_of_eq hs.1.symm⟩
  · obtain ⟨h, tk, rfl⟩ := D.slo.same; exact ⟨_, _, rfl⟩
  · obtain ⟨sl, q1⟩ := D.slo.slot b o (fun x => x) q
    exact ⟨sl, ot b _ (fun e => by rw [e, C.nL] at q; cases q) q1⟩
  · obtain ⟨vs, ⟨n, hp⟩, hi⟩ := D.lm
    exact ⟨vs, ⟨n, ot am _ (Ne.symm C.Lm) hp⟩, hi⟩
  · obtain ⟨n, hp⟩ := D.lu
    exact ⟨n, ot au _ (Ne.symm C.Lu) hp⟩
  · refine fun_of (fun b o ho hnf => ?_) D.fl
    by_cases q : b = L
    · subst q
      obtain ⟨o', es, ep, ho', hd', _⟩ := hn
      exact ⟨o', ho', fun vs e => by rw [hd'] at e; cases e⟩
    · exact ⟨o, ot b o q ho, hnf⟩
theorem SD.store {y : Str} {v : Value} {Q : Unit → Shared → Prop} {M : Model} (D : SD s₀ env outer L m am au ms s) (C : SDs s₀ env outer L am au) (k : ∀ s', SD s₀ env outer L (fun z => if z = y then some v else m z) am au ms s' → Q () s') (hk : env.kindOf y = some .local := by rfl) (hf : env.scope.kind = .function := by rfl) : wpAny M A (storeName env y v) Q E s :=
  D.storeB C (fun s' D' _ => k s' D') hk hf
theorem Nt.but {e tb : Addr} {fl c : Value} (N : Nt s.heap e tb fl c) (b : But (· = L) s s') (h1 : e ≠ L) (h2 : tb ≠ L) : Nt s'.heap e tb fl c := by
  obtain ⟨o, vs, ot, tvs, he, hc, hd, q1, q2, hne, ht, hdt, h3⟩ := N
  exact ⟨o, vs, ot, tvs, b.keep _ _ h1 he, hc, hd, q1, q2, hne, b.keep _ _ h2 ht, hdt, h3⟩
theorem Nt.up {e tb : Addr} {fl c : Value} (N : Nt s.heap e tb fl c) (b : Up s s') : Nt s'.heap e tb fl c := by
  obtain ⟨o, vs, ot, tvs, he, hc, hd, q1, q2, hne, ht, hdt, h3⟩ := N
  exact ⟨o, vs, ot, tvs, b.le _ _ he, hc, hd, q1, q2, hne, b.le _ _ ht, hdt, h3⟩
theorem Nt.fields {h : Heap} {e tb : Addr} {fl c : Value} (N : Nt h e tb fl c) : (∀ o, h.get? e = some o → ∃ vs, o.data = .fields vs) ∧ (∀ o, h.get? tb = some o → ∃ vs, o.data = .fields vs) := by
  obtain ⟨o, vs, ot, tvs, he, hc, hd, h1, h2, hne, ht, hdt, h3⟩ := N
  exact ⟨fun o' q => ⟨vs, by rw [he] at q; cases q; exact hd⟩, fun o' q => ⟨tvs, by rw [ht] at q; cases q; exact hdt⟩⟩
/-- the first note -/
theorem SD.note {e : Addr} {c : Value} {Q : Unit → Shared → Prop} {M : Model} (D : SD s₀ env outer L m am au ms s) (C : SDs s₀ env outer L am au) (hfr : A.frames = some (env :: outer)) (R : Raw s.heap e c) (ne : NewE s₀ L am au e)
    (k : ∀ s' tb, SD s₀ env outer L m am au ms s' → NewE s₀ L am au tb → Nt s'.heap e tb (rawInt L) c → Stp (frs (env :: outer)) (· = e) s s' → Q () s') : wpAny M A (noteFrame (.ref e) env) Q E s := by
  refine note_raw hfr D.fl C.fr R fun s' tb st hn N => ?_
  obtain ⟨o, vs, he, _, hd, _⟩ := R
  exact k s' tb (D.step C (fun _ h => h) st (fun b q => q ▸ ne) fun b o' q ho => ⟨vs, by rw [q, he] at ho; cases ho; exact hd⟩) (D.new hn) N st
theorem SD.fly {e tb : Addr} {fl c : Value} {f : Option Addr} {Q : Unit → Shared → Prop} {M : Model} (D : SD s₀ env outer L m am au ms s) (C : SDs s₀ env outer L am au) (N : Nt s.heap e tb fl c) (nt : NewE s₀ L am au tb)
    (k : ∀ s', SD s₀ env outer L m am au ms s' → Nt s'.heap e tb (f.elim .none fun a => rawInt a) c → Stp [] (· = tb) s s' → Q () s') : wpAny M A (setFlight (.ref e) f) Q E s :=
  flight N fun s' st N' => k s' (D.step C (FR := []) (fun _ h => nomatch h) st (fun b q => q ▸ nt) fun b o q ho => (q ▸ N.fields.2) o (q ▸ ho)) N' st
theorem SD.came {e tb : Addr} {fl c : Value} {M : Model} (D : SD s₀ env outer L m am au ms s) (C : SDs s₀ env outer L am au) (N : Nt s.heap e tb fl c) (nt : NewE s₀ L am au tb)
    (k : ∀ s', SD s₀ env outer L m am au ms s' → Nt s'.heap e tb (rawInt L) c → Stp [] (· = tb) s s' → E (.ref e) s') : cameBackBy M A env E (.ref e) s :=
  came_back C.fr N fun s' st N' => k s' (D.step C (FR := []) (fun _ h => nomatch h) st (fun b q => q ▸ nt) fun b o q ho => (q ▸ N.fields.2) o (q ▸ ho)) N' st

/-! while lst[idx] == val: .. -/
variable {lst idx vl : Str} {p₁ p₂ p₃ p₄ p₅ p₆ : Pos} {body : List Stmt} {a : Addr} {items : Array Value} {k : Nat} {tk tv : Tok} {v : Int}
theorem wh_exit {Q : Flow → Shared → Prop} {x : Int} {tx : Tok} (V₁ : Var env lst (.ref a) s.heap) (V₂ : Var env idx (.int k tk) s.heap) (V₃ : Var env vl (.int v tv) s.heap) (hl : s.heap.IsList a items) (hx : items[k]? = some (.int x tx)) (hk : k < 2 ^ 62) (hne : x ≠ v) (h : Q .next s)
    (hf : env.scope.kind = .function := by rfl) (n1 : (lst == ("__debug__" : Str)) = false := by decide) (n2 : (lst == ("__classdict__" : Str)) = false := by decide) (n3 : (idx == ("__debug__" : Str)) = false := by decide) (n4 : (idx == ("__classdict__" : Str)) = false := by decide) (n5 : (vl == ("__debug__" : Str)) = false := by decide) (n6 : (vl == ("__classdict__" : Str)) = false := by decide) :
    wpAny (model prog w) A (exec (.While (.Compare (.Subscript (.Name lst p₁) (.Name idx p₂) p₃) [.Eq] [.Name vl p₄] p₅) body [] p₆) env) Q E s := by
  refine wpAny_While (codeAny_whileLoop (fun _ s' => s' = s) (fun n s' e => ?_) 0 rfl)
  subst e
  refine wpAny_isTrue_Compare1 (Subscript_ (name_var V₁ (name_var V₂ ?_ hf n3 n4) hf n1 n2)) rfl
  refine tail_any hl.typeIs slot_list_getitem.lookup (wpAny_getItem_list hl (by omega) (by omega) (by rw [Int.toNat_natCast]; exact hx) (name_var V₃ (PyProof.Rows.eq_int (wpAny_truthy_bool ?_)) hf n5 n6)) (by with_unfolding_all rfl)
  rw [show (x == v) = false from by simpa using hne]
  exact wpAny_execs_nil h
/-- the same, the item is not there -/
theorem wh_raise {Q : Flow → Shared → Prop} {c : Value} (D : SD s₀ env outer L m am au ms s) (C : SDs s₀ env outer L am au) (hfr : A.frames = some (env :: outer)) (hO : ∀ {Q : Value → Shared → Prop} {E : Value → Shared → Prop}, (∀ s' e, Up s s' → s.heap.get? e = none → Raw s'.heap e c → E (.ref e) s') → wpAny (model prog w) A (getItem (.ref a) (.int k tk)) Q E s)
    (V₁ : Var env lst (.ref a) s.heap) (V₂ : Var env idx (.int k tk) s.heap) (hl : s.heap.IsList a items)
    (h : ∀ s' e tb, SD s₀ env outer L m am au ms s' → NewE s₀ L am au e → NewE s₀ L am au tb → Nt s'.heap e tb (rawInt L) c → E (.ref e) s')
    (hf : env.scope.kind = .function := by rfl) (n1 : (lst == ("__debug__" : Str)) = false := by decide) (n2 : (lst == ("__classdict__" : Str)) = false := by decide) (n3 : (idx == ("__debug__" : Str)) = false := by decide) (n4 : (idx == ("__classdict__" : Str)) = false := by decide) :
    wpAny (model prog w) A (exec (.While (.Compare (.Subscript (.Name lst p₁) (.Name idx p₂) p₃) [.Eq] [.Name vl p₄] p₅) body [] p₆) env) Q E s := by
  refine wpAny_While (codeAny_whileLoop (fun _ s' => s' = s) (fun n s' e => ?_) 0 rfl)
  subst e
  refine wpAny_isTrue_Compare1 (Subscript_ (name_var V₁ (name_var V₂ ?_ hf n3 n4) hf n1 n2)) rfl
  refine tail_any hl.typeIs slot_list_getitem.lookup (hO fun s₁ e u hn R => ?_) (by with_unfolding_all rfl)
  have ne := D.new hn
  refine SD.note (D.up C u) C hfr R ne fun s₂ tb D₂ nt N₂ _ => ?_
  exact D₂.came C N₂ nt fun s₃ D₃ N₃ _ => h s₃ e tb D₃ ne nt N₃
end

/-! the plain law -/
def dif (xs ys : List Int) : List Int := xs.filter fun x => !ys.contains x
structure PI (xs ys : List Int) (i j : Nat) (ms : List Int) : Prop where
  sub : (ys.drop j).Sublist (xs.drop i)
  eq : ms ++ dif (xs.drop i) (ys.drop j) = dif xs ys
theorem drop_at {xs : List Int} {i : Nat} {e : Int} (h : xs[i]? = some e) : xs.drop i = e :: xs.drop (i + 1) := by
  have hi := (List.getElem?_eq_some_iff.mp h).1
  rw [List.drop_eq_getElem_cons hi]
  rw [(List.getElem?_eq_some_iff.mp h).2]
theorem pw_drop {xs : List Int} (h : xs.Pairwise (· < ·)) {i : Nat} {e : Int} (he : xs[i]? = some e) : ∀ x ∈ xs.drop (i + 1), e < x := by
  have := h.sublist (List.drop_sublist i xs)
  rw [drop_at he] at this
  exact (List.pairwise_cons.mp this).1
section
variable {xs ys : List Int} {i j : Nat} {ms : List Int} {e a : Int}
theorem PI.ge (P : PI xs ys i j ms) (hp : xs.Pairwise (· < ·)) (he : xs[i]? = some e) (ha : ys[j]? = some a) : e ≤ a := by
  have hm : a ∈ xs.drop i := P.sub.subset (by rw [drop_at ha]; exact List.mem_cons_self ..)
  rw [drop_at he] at hm
  rcases List.mem_cons.mp hm with h | h
  · omega
  · have := pw_drop hp he a h; omega
theorem PI.lt (P : PI xs ys i j ms) (hp : xs.Pairwise (· < ·)) (he : xs[i]? = some e) (ha : ys[j]? = some a) (h : e < a) : PI xs ys (i + 1) j (ms ++ [e]) ∧ ∃ x, xs[i + 1]? = some x ∧ x ≠ e := by
  have hs := P.sub
  rw [drop_at he, drop_at ha] at hs
  have hs' : (a :: ys.drop (j + 1)).Sublist (xs.drop (i + 1)) := by
    cases hs with
    | cons _ h => exact h
    | cons_cons _ h => omega
  refine ⟨⟨by rw [drop_at ha]; exact hs', ?_⟩, ?_⟩
  · have := P.eq
    rw [← this, drop_at he]
    have hn : (ys.drop j).contains e = false := by
      rw [drop_at ha]
      have hna : e ∉ a :: ys.drop (j + 1) := fun hm => by
        have := pw_drop hp he e (hs'.subset hm); omega
      simpa using hna
    show (ms ++ [e]) ++ dif (xs.drop (i + 1)) (ys.drop j) = ms ++ (e :: xs.drop (i + 1)).filter _
    rw [List.filter_cons, hn]
    simp [dif]
  · have hm : a ∈ xs.drop (i + 1) := hs'.subset (List.mem_cons_self ..)
    have hlen : i + 1 < xs.length := by
      rcases Nat.lt_or_ge (i + 1) xs.length with h | h
      · exact h
      · rw [List.drop_eq_nil_of_le h] at hm; cases hm
    refine ⟨xs[i + 1], List.getElem?_eq_getElem hlen, ?_⟩
    have := pw_drop hp he xs[i + 1] (by rw [List.drop_eq_getElem_cons hlen]; exact List.mem_cons_self ..)
    omega
theorem PI.same (P : PI xs ys i j ms) (hp : xs.Pairwise (· < ·)) (he : xs[i]? = some e) (ha : ys[j]? = some e) : PI xs ys (i + 1) (j + 1) ms ∧ (∀ x, xs[i + 1]? = some x → x ≠ e) ∧ (∀ x, ys[j + 1]? = some x → x ≠ e) ∧ (xs.length ≤ i + 1 → ys.length ≤ j + 1) := by
  have hs := P.sub
  rw [drop_at he, drop_at ha] at hs
  have hs' : (ys.drop (j + 1)).Sublist (xs.drop (i + 1)) := by
    cases hs with
    | cons _ h => exact (List.sublist_cons_self _ _).trans h
    | cons_cons _ h => exact h
  have big : ∀ x ∈ ys.drop (j + 1), e < x := fun x hx => pw_drop hp he x (hs'.subset hx)
  refine ⟨⟨hs', ?_⟩, fun x hx => ?_, fun x hx => ?_, fun h => ?_⟩
  · have := P.eq
    rw [← this, drop_at he, drop_at ha]
    congr 1
    show dif (xs.drop (i + 1)) (ys.drop (j + 1)) = (e :: xs.drop (i + 1)).filter _
    rw [List.filter_cons]
    simp only [List.contains_cons, beq_self_eq_true, Bool.true_or, Bool.not_true, Bool.false_eq_true, if_false]
    unfold dif
    apply List.filter_congr
    intro x hx
    have := pw_drop hp he x hx
    have : (x == e) = false := by simpa using (by omega : x ≠ e)
    rw [this, Bool.false_or]
  · have := pw_drop hp he x (by rw [drop_at hx]; exact List.mem_cons_self ..); omega
  · have := big x (by rw [drop_at hx]; exact List.mem_cons_self ..); omega
  · have h1 := hs'.length_le
    rw [List.length_drop, List.length_drop] at h1
    omega
theorem PI.end1 (P : PI xs ys i j ms) (h : xs.length ≤ i) : ys.length ≤ j ∧ ms ++ xs.drop i = dif xs ys := by
  have hx := List.drop_eq_nil_of_le h
  have hs := P.sub.length_le
  rw [hx, List.length_drop] at hs
  have := P.eq
  rw [hx] at this ⊢
  exact ⟨by simp at hs; omega, by simpa [dif] using this⟩
theorem PI.end2 (P : PI xs ys i j ms) (h : ys.length ≤ j) : ms ++ xs.drop i = dif xs ys := by
  have hy := List.drop_eq_nil_of_le h
  have := P.eq
  rw [hy] at this
  rw [← this]
  congr 1
  unfold dif
  rw [List.filter_eq_self.mpr]
  intro x _
  simp
end
end Mine

/-! Sld3 -/
namespace Mine
section
variable {prog : Program} {w : World} {A : Around} {E : Value → Shared → Prop} {s : Shared} {env : Env}
theorem ext_up {D b : Addr} {vs us : List Value} {Q : Value → Shared → Prop} (hl : s.heap.PlainList D vs.toArray) (hb : s.heap.PlainList b us.toArray) (hsz : vs.length + us.length ≤ 1000)
    (h : ∀ h', h'.PlainList D (vs ++ us).toArray → Heap.SameBut D s.heap h' → Q .none { s with heap := h' }) : wpAny (model prog w) A (call (.builtin "list.extend") [.ref D, .ref b]) Q E s := by
  obtain ⟨n, h1⟩ := hl
  obtain ⟨n2, h2⟩ := hb
  have hs : vs.toArray.size + us.toArray.size ≤ sizeLine := by simp only [List.size_toArray, sizeLine]; omega
  refine call_meets PySem.F.slot_list_extend ⟨_, h1, rfl⟩ PySem.F.entry_list_extend (PySem.F.args_list_extend_2 _ _) (AutoSeq1.list_extend_list_list_0 D vs.toArray n b us.toArray n2 (extend_door hs) (Nat.le_trans (Nat.le_add_right _ _) hs)) ⟨h1, h2, ?_⟩
  have e : vs.toArray ++ us.toArray = (vs ++ us).toArray := by simp
  have ho' : (s.heap.update D (Obj.mapSeq fun x => x ++ us.toArray)).get? D = some { cls := .type "list", data := .seq (vs ++ us).toArray (if (vs.toArray ++ us.toArray).size == vs.toArray.size then n else n + 1) } := by
    rw [Heap.get?_update_self _ h1 (by rw [mapSeq_app]; rfl), mapSeq_app, e]
  exact h _ ⟨_, ho'⟩ (Heap.SameBut.update ..)
/-- x[i:] of a list of ints, as a new plain list -/
theorem slice_from {l i : Str} {p₁ p₂ p₃ p₄ : Pos} {a : Addr} {vs : List Value} {xs : List Int} {k : Nat} {tk : Tok} {Q : Value → Shared → Prop} (V₁ : Var env l (.ref a) s.heap) (V₂ : Var env i (.int k tk) s.heap) (hl : s.heap.IsList a vs.toArray) (hi : IntsAre vs xs) (hz : vs.length ≤ 1000)
    (h : ∀ s' b us, Up s s' → s.heap.objs.size ≤ b → s'.heap.PlainList b (List.toArray us) → IntsAre us (xs.drop k) → Q (.ref b) s') (hf : env.scope.kind = .function := by rfl)
    (n1 : (l == ("__debug__" : Str)) = false := by decide) (n2 : (l == ("__classdict__" : Str)) = false := by decide) (n3 : (i == ("__debug__" : Str)) = false := by decide) (n4 : (i == ("__classdict__" : Str)) = false := by decide) :
    wpAny (model prog w) A (eval (.Subscript (.Name l p₁) (.Slice (some (.Name i p₂)) none none p₃) p₄) env) Q E s := by
  refine Subscript_ (name_var V₁ (wpAny_Slice (wpAny_mono (Q := fun v s' => v = .int k tk ∧ s' = s) (E := E) (show wpAny (model prog w) A (eval (.Name i p₂) env) _ _ _ from name_var V₂ ⟨rfl, rfl⟩ hf n3 n4) (fun v s' q => ?_) fun _ _ q => q)) hf n1 n2)
  obtain ⟨rfl, rfl⟩ := q
  refine wpAny_pure (wpAny_pure ?_)
  refine tail_any (T := "list") (hl.push _).typeIs list_getitem_lookup (wpAny_getItem_list_slice (hl.push _) (Heap.IsSliceOf.new ..) (.int _ _) .none .none (by simp) ?_ (by simp only [List.size_toArray, sizeLine]; omega)) (by with_unfolding_all rfl)
  refine h _ _ (slicePick vs.toArray (some k) none none).toList ((Up.push s' _ _).trans (Up.push _ _ _)) ?_ ⟨_, by rw [Array.toArray_toList]; exact Heap.get?_push_size _ rfl⟩ ?_
  · show s'.heap.objs.size ≤ (s'.heap.push _).objs.size
    rw [Heap.size_push]; omega
  · have := slice_ints_fromW hi (x := (k : Int)) (by omega)
    rwa [Int.toNat_natCast] at this
end
section
variable {s₀ s s' : Shared} {env : Env} {outer : List Env} {L am au : Addr} {m : Str → Option Value} {ms : List Int} {prog : Program} {w : World} {A : Around} {E : Value → Shared → Prop}
/-- a change of am or au alone -/
theorem SD.lst {h' : Heap} {D : Addr} (S : SD s₀ env outer L m am au ms s) (C : SDs s₀ env outer L am au) (hD : D = am ∨ D = au) (hs : Heap.SameBut D s.heap h') (o' : Obj) (ho : h'.get? D = some o') (hof : ∀ vs, o'.data ≠ .fields vs) (ms' : List Int)
    (hm : ∃ vs, h'.PlainList am (List.toArray vs) ∧ IntsAre vs ms') (hu : h'.PlainList au (List.toArray [])) : SD s₀ env outer L m am au ms' { s with heap := h' } := by
  have nD : s₀.heap.get? D = none := by rcases hD with rfl | rfl; exact C.nm; exact C.nu
  have LD : L ≠ D := by rcases hD with rfl | rfl; exact C.Lm; exact C.Lu
  have ot : ∀ b o, b ≠ D → s.heap.get? b = some o → h'.get? b = some o := fun b o q e => hs.extBut b o q e
  refine ⟨⟨?_, fun b o _ nf q => ot b o (fun e => by rw [e, nD] at q; cases q) (S.slo.keep b o (fun x => x) nf q), fun b o _ q => ?_, Nat.le_trans S.slo.size (Nat.le_of_eq hs.1.symm)⟩, S.ns.at' fun o e => ot L o LD e, hm, hu, ?_⟩
  · obtain ⟨h, tk, rfl⟩ := S.slo.same; exact ⟨_, _, rfl⟩
  · obtain ⟨sl, q1⟩ := S.slo.slot b o (fun x => x) q
    exact ⟨sl, ot b _ (fun e => by rw [e, nD] at q; cases q) q1⟩
  · refine fun_of (fun b o ho' hnf => ?_) S.fl
    by_cases q : b = D
    · subst q; exact ⟨o', ho, hof⟩
    · exact ⟨o, ot b o q ho', hnf⟩
theorem SD.var {x : Str} {v : Value} (S : SD s₀ env outer L m am au ms s) (C : SDs s₀ env outer L am au) (e : m x = some v) (hk : env.kindOf x = some .local := by rfl) : Var env x v s.heap := .inl ⟨hk, m, C.loc ▸ S.ns, e⟩
end
def fdSld : FuncData := fdOf (topS 2) "sorted_list_difference" (.str "cpy313.unittest.util" 194) (.ref 27)
theorem sld_at (w : World) : DefAt w 28 fdSld (dBody (topS 2)) := ⟨by kernel_rfl, by kernel_rfl, rfl, rfl, rfl, rfl⟩
theorem sld_bind (x y : Value) : bindArgs fdSld ⟨[x, y], []⟩ = pure [(("expected" : Str), x), (("actual" : Str), y)] := by kernel_rfl
theorem g_IE (w : World) : nsIn (KK w) mainGlobals "IndexError" = some none := by kernel_rfl
theorem b_IE : bootBuiltins "IndexError" = some (.type "IndexError") := by kernel_rfl
theorem sub_IE : isSubtype (.type "IndexError") (.type "BaseException") = pure true := by rw [isSubtype_type]; kernel_rfl
theorem sub_II : isSubtype (.type "IndexError") (.type "IndexError") = pure true := by rw [isSubtype_type]; kernel_rfl
theorem sub_IT : isSubtype (.type ((Manifest.find? "IndexError").elim "type" fun x => x.metatype)) (.type "tuple") = pure false := by
  have : ((Manifest.find? "IndexError").elim "type" fun x => x.metatype) = "type" := by decide +kernel
  rw [this, isSubtype_type]; kernel_rfl
def tryS : Stmt := match nth (dBody (topS 2)) 3 with | .While _ (b :: _) _ _ => b | s => s
def tryH : List ExceptHandler := match tryS with | .Try _ h _ _ _ => h | _ => []
section
variable {s₀ s s' : Shared} {outer : List Env} {L am au ax ay : Addr} {m : Str → Option Value} {ms xs ys : List Int} {vx vy : List Value} {i j : Nat} {prog : Program} {w : World} {A : Around} {E : Value → Shared → Prop}
/-- what the names hold -/
structure Nm (m : Str → Option Value) (ax ay am au : Addr) (i j : Nat) : Prop where
  e1 : m "expected" = some (.ref ax)
  e2 : m "actual" = some (.ref ay)
  e3 : m "missing" = some (.ref am)
  e4 : m "unexpected" = some (.ref au)
  e5 : ∃ t, m "i" = some (.int i t)
  e6 : ∃ t, m "j" = some (.int j t)
structure In2 (s₀ : Shared) (ax ay : Addr) (vx vy : List Value) (xs ys : List Int) : Prop where
  lx : s₀.heap.IsList ax vx.toArray
  ly : s₀.heap.IsList ay vy.toArray
  ix : IntsAre vx xs
  iy : IntsAre vy ys
  zx : xs.length ≤ 100
  zy : ys.length ≤ 100
/-- an elder heap whose things no frame is -/
structure Bs (w : World) (B : Heap) (s₀ : Shared) (outer : List Env) : Prop where
  gl : Gl w B
  le : ∀ b o, B.get? b = some o → s₀.heap.get? b = some o
  fr : ∀ b ∈ frs outer, B.get? b = none
theorem Bs.at {B : Heap} {env : Env} (G : Bs w B s₀ outer) (D : SD s₀ env outer L m am au ms s) : Gl w s.heap := G.gl.le fun b o e => D.slo.keep b o (fun x => x) (fun h => by rw [G.fr b h] at e; cases e) (G.le b o e)
/-- the handler -/
theorem sld_hdl {e : Addr} {c : Value} {B : Heap} {Q : Flow → Shared → Prop} (G : Bs w B s₀ outer) (C : SDs s₀ (callEnv fdSld L 28) outer L am au) (I : In2 s₀ ax ay vx vy xs ys) (hfr : A.frames = some (callEnv fdSld L 28 :: outer)) (hz : ms.length ≤ 100)
    (D : SD s₀ (callEnv fdSld L 28) outer L m am au ms s) (hm : Nm m ax ay am au i j) (hy : ys.length ≤ j) (ne : NewE s₀ L am au e) (R : Raw s.heap e c ∨ ∃ tb, NewE s₀ L am au tb ∧ Nt s.heap e tb (rawInt L) c)
    (k : ∀ s', SD s₀ (callEnv fdSld L 28) outer L m am au (ms ++ xs.drop i) s' → Q .brk s') :
    wpAny (model prog w) A (noteFrame (.ref e) (callEnv fdSld L 28)) (fun _ s₂ => wpAny (model prog w) A (setFlight (.ref e) none) (fun _ s₃ => wpAny (model prog w) A (handleBy (.ref e) (callEnv fdSld L 28) tryH) Q E s₃) E s₂) E s := by
  have fin : ∀ s₂ tb fl, SD s₀ (callEnv fdSld L 28) outer L m am au ms s₂ → NewE s₀ L am au tb → Nt s₂.heap e tb fl c → wpAny (model prog w) A (setFlight (.ref e) none) (fun _ s₃ => wpAny (model prog w) A (handleBy (.ref e) (callEnv fdSld L 28) tryH) Q E s₃) E s₂ := by
    intro s₂ tb fl D₂ nt N₂
    refine D₂.fly C N₂ nt fun s₃ D₃ N₃ _ => ?_
    have hE : ∃ o, s₃.heap.get? e = some o ∧ o.cls = .type "IndexError" := by obtain ⟨o, vs, ot, tvs, he, hc, _⟩ := N₃; exact ⟨o, he, hc⟩
    refine wpAny_handleBy_builtin (X := "IndexError") (T := "IndexError") (b := true) sub_IE sub_IT sub_II (name_boot (G.at D₃) (g_IE w) b_IE ⟨rfl, hE, ?_⟩)
    simp only [if_true]
    refine D₃.fly C N₃ nt fun s₄ D₄ N₄ _ => ?_
    obtain ⟨ti, hi⟩ := hm.e5
    obtain ⟨tj, hj⟩ := hm.e6
    obtain ⟨vm, hpm, him⟩ := id D₄.lm
    have nd : ∀ {s : Shared} {a : Addr} {vs : List Value}, s.heap.PlainList a vs.toArray → s.heap.NoDictAt (.ref a) := fun ⟨n, h⟩ => by first | exact ⟨_, h, rfl⟩ | (intro a o e q; cases e; rw [h] at q; cases q; rfl)
    have hzx : vx.length = xs.length := I.ix.length
    have hzy : vy.length = ys.length := I.iy.length
    have z1 := I.zx
    have z2 := I.zy
    refine wpAny_execs_cons (wpAny_Expr (MethodCall_ (name_var (D₄.var C hm.e3) (getMethod_list_of PySem.F.slot_list_extend PySem.F.type_list_extend hpm.isList (nd hpm) (callWith_method1 (spliced_cons (slice_from (D₄.var C hm.e1) (D₄.var C hi) (D₄.isList I.lx) I.ix (by omega) fun s₅ b us u₅ hb hpb hib => spliced_nil ?_)))))))
    have pk : ∀ {s s' : Shared} {a : Addr} {vs : List Value}, s.heap.PlainList a vs.toArray → Up s s' → s'.heap.PlainList a vs.toArray := fun ⟨n, h⟩ u => ⟨n, u.le _ _ h⟩
    have D₅ := D₄.up C u₅
    have zm : vm.length = ms.length := him.length
    have zu : us.length = (xs.drop i).length := hib.length
    have zd : (xs.drop i).length ≤ xs.length := by rw [List.length_drop]; omega
    refine ext_up (pk hpm u₅) hpb (by omega) fun h₆ hp₆ hs₆ => ?_
    have D₆ : SD s₀ (callEnv fdSld L 28) outer L m am au (ms ++ xs.drop i) { s₅ with heap := h₆ } := by
      obtain ⟨n, hp⟩ := id hp₆
      obtain ⟨n', hpu⟩ := D₅.lu
      exact D₅.lst C (.inl rfl) hs₆ _ hp (fun _ q => nomatch q) _ ⟨_, hp₆, him.append hib⟩ ⟨n', hs₆.extBut _ _ (Ne.symm C.mu) hpu⟩
    have hpu := D₆.lu
    refine wpAny_execs_cons (wpAny_Expr (MethodCall_ (name_var (D₆.var C hm.e4) (getMethod_list_of PySem.F.slot_list_extend PySem.F.type_list_extend hpu.isList (nd hpu) (callWith_method1 (spliced_cons (slice_from (D₆.var C hm.e2) (D₆.var C hj) (D₆.isList I.ly) I.iy (by omega) fun s₇ b' us' u₇ hb' hpb' hib' => spliced_nil ?_)))))))
    have D₇ := D₆.up C u₇
    rw [List.drop_eq_nil_of_le hy] at hib'
    cases hib'
    refine ext_up (pk hpu u₇) hpb' (by simp) fun h₈ hp₈ hs₈ => ?_
    have D₈ : SD s₀ (callEnv fdSld L 28) outer L m am au (ms ++ xs.drop i) { s₇ with heap := h₈ } := by
      obtain ⟨n, hp⟩ := id hp₈
      obtain ⟨vs, ⟨n', hpm'⟩, him'⟩ := D₇.lm
      exact D₇.lst C (.inr rfl) hs₈ _ hp (fun _ q => nomatch q) _ ⟨vs, ⟨n', hs₈.extBut _ _ C.mu hpm'⟩, him'⟩ hp₈
    exact wpAny_execs_cons (wpAny_Break (k _ D₈))
  rcases R with R | ⟨tb, nt, N⟩
  · exact D.note C hfr R ne fun s₂ tb D₂ nt N₂ _ => fin s₂ tb _ D₂ nt N₂
  · exact note_nt C.fr N (fin s tb _ D nt N)
end
end Mine

/-! Sld4 -/
namespace Mine
section
variable {s₀ s s' : Shared} {outer : List Env} {L am au ax ay : Addr} {m : Str → Option Value} {ms xs ys : List Int} {vx vy : List Value} {i j : Nat} {prog : Program} {w : World} {A : Around} {E : Value → Shared → Prop} {B : Heap}
theorem PI.len (P : PI xs ys i j ms) : ms.length ≤ xs.length := by
  have h1 : (ms ++ dif (xs.drop i) (ys.drop j)).length ≤ xs.length := by rw [P.eq]; exact List.length_filter_le _ _
  rw [List.length_append] at h1; omega
theorem sld_try {Q : Flow → Shared → Prop} (G : Bs w B s₀ outer) (C : SDs s₀ (callEnv fdSld L 28) outer L am au) (I : In2 s₀ ax ay vx vy xs ys) (hh : A.handled = none) (hfr : A.frames = some (callEnv fdSld L 28 :: outer)) (hp : xs.Pairwise (· < ·))
    (D : SD s₀ (callEnv fdSld L 28) outer L m am au ms s) (hm : Nm m ax ay am au i j) (P : PI xs ys i j ms) (hi : i ≤ xs.length) (hj : j ≤ ys.length)
    (kn : ∀ s' m' i' j' ms', SD s₀ (callEnv fdSld L 28) outer L m' am au ms' s' → Nm m' ax ay am au i' j' → PI xs ys i' j' ms' → i' ≤ xs.length → j' ≤ ys.length → (xs.length - i') + (ys.length - j') < (xs.length - i) + (ys.length - j) → Q .next s')
    (kb : ∀ s' m', SD s₀ (callEnv fdSld L 28) outer L m' am au (dif xs ys) s' → (∃ i j, Nm m' ax ay am au i j) → Q .brk s') :
    wpAny (model prog w) A (exec tryS (callEnv fdSld L 28)) Q E s := by
  have z1 := I.zx
  have z2 := I.zy
  have zx : vx.length = xs.length := I.ix.length
  have zy : vy.length = ys.length := I.iy.length
  have zm := P.len
  refine wpAny_Try_except ?_
  obtain ⟨ti, ei⟩ := hm.e5
  obtain ⟨tj, ej⟩ := hm.e6
  refine wpAny_execs_cons (wpAny_Assign_Name (Subscript_ (name_var (D.var C hm.e1) (name_var (D.var C ei) ?_))))
  have lx := D.isList I.lx
  by_cases hix : i < xs.length
  case neg =>
    refine tail_any lx.typeIs slot_list_getitem.lookup (out_none hh lx (by simp only [List.size_toArray]; omega) (by omega) fun s₁ e u hn R => ?_) (by with_unfolding_all rfl)
    have pe := P.end1 (by omega)
    exact sld_hdl (i := i) (j := j) G C I hfr (by omega) (D.up C u) hm pe.1 (D.new hn) (.inl R) fun s' D' => kb s' m (pe.2 ▸ D') ⟨i, j, hm⟩
  case pos =>
  obtain ⟨e, he⟩ : ∃ e, xs[i]? = some e := ⟨_, List.getElem?_eq_getElem hix⟩
  obtain ⟨te, hve⟩ := I.ix.get i e he
  refine tail_any lx.typeIs slot_list_getitem.lookup (wpAny_getItem_list lx (by omega) (by omega) (by rw [Int.toNat_natCast]; simpa using hve) ?_) (by with_unfolding_all rfl)
  refine D.store C fun s₁ D₁ => ?_
  refine wpAny_execs_cons (wpAny_Assign_Name (Subscript_ (name_var (D₁.var C hm.e2) (name_var (D₁.var C ej) ?_))))
  have ly := D₁.isList I.ly
  have hm₁ : Nm (fun z => if z = "e" then some (.int e te) else m z) ax ay am au i j := ⟨hm.e1, hm.e2, hm.e3, hm.e4, ⟨_, ei⟩, ⟨_, ej⟩⟩
  by_cases hjy : j < ys.length
  case neg =>
    refine tail_any ly.typeIs slot_list_getitem.lookup (out_none hh ly (by simp only [List.size_toArray]; omega) (by omega) fun s₂ ex u hn R => ?_) (by with_unfolding_all rfl)
    have pe := P.end2 (by omega)
    exact sld_hdl (i := i) (j := j) G C I hfr (by omega) (D₁.up C u) hm₁ (by omega) (D₁.new hn) (.inl R) fun s' D' => kb s' _ (pe ▸ D') ⟨i, j, hm₁⟩
  case pos =>
  obtain ⟨a, ha⟩ : ∃ e, ys[j]? = some e := ⟨_, List.getElem?_eq_getElem hjy⟩
  obtain ⟨ta, hva⟩ := I.iy.get j a ha
  refine tail_any ly.typeIs slot_list_getitem.lookup (wpAny_getItem_list ly (by omega) (by omega) (by rw [Int.toNat_natCast]; simpa using hva) ?_) (by with_unfolding_all rfl)
  refine D₁.store C fun s₂ D₂ => ?_
  have hm₂ : Nm (fun z => if z = "a" then some (.int a ta) else if z = "e" then some (.int e te) else m z) ax ay am au i j := ⟨hm.e1, hm.e2, hm.e3, hm.e4, ⟨_, ei⟩, ⟨_, ej⟩⟩
  have hge := P.ge hp he ha
  refine wpAny_execs_cons (wpAny_If (wpAny_isTrue_Compare1 (name_var (D₂.var C rfl) (name_var (D₂.var C rfl) (PyProof.Rows.lt_int (wpAny_truthy_bool ?_)))) rfl))
  by_cases hlt : e < a
  · rw [decide_eq_true hlt]
    simp only [if_true]
    obtain ⟨P', x, hx, hxe⟩ := P.lt hp he ha hlt
    obtain ⟨vm, ⟨n, hpm⟩, him⟩ := id D₂.lm
    have zv : vm.length = ms.length := him.length
    refine wpAny_execs_cons (wpAny_Expr (MethodCall_ (name_var (D₂.var C hm₂.e3) (Calls.getMethod_list_append hpm rfl rfl (callWith_method1 (spliced_cons (name_var (D₂.var C rfl) (spliced_nil ?_))))))))
    refine wpAny_list_append_plain (hsz := by simp only [List.size_toArray, sizeLine]; omega) ⟨n, hpm⟩ fun h₃ hp₃ hs₃ => ?_
    obtain ⟨n', hq⟩ := id hp₃
    obtain ⟨nu, hu⟩ := D₂.lu
    have D₃ := D₂.lst C (.inl rfl) hs₃ _ hq (fun _ q => nomatch q) (ms ++ [e]) ⟨vm ++ [.int e te], by simpa using hp₃, him.append (.cons e te .nil)⟩ ⟨nu, hs₃.extBut _ _ (Ne.symm C.mu) hu⟩
    refine wpAny_execs_cons (wpAny_AugAssign_Name (load_var (D₃.var C ei) (wpAny_Constant_int (wpAny_iadd_int ?_))))
    refine SD.store (s := { s₂ with heap := h₃, toks := s₂.toks + 1 + 1 }) (D₃.up C (Up.toks _ _)) C fun s₄ D₄ => ?_
    obtain ⟨tx, hvx⟩ := I.ix.get (i + 1) x hx
    refine wpAny_execs_cons (wh_exit (k := i + 1) (x := x) (v := e) (D₄.var C hm.e1) (D₄.var C rfl) (D₄.var C rfl) (D₄.isList I.lx) (by simpa using hvx) (by omega) hxe (wpAny_execs_nil (wpAny_execs_nil (wpAny_execs_nil ?_))))
    exact kn s₄ _ (i + 1) j _ D₄ ⟨hm.e1, hm.e2, hm.e3, hm.e4, ⟨_, rfl⟩, ⟨_, ej⟩⟩ P' (by omega) hj (by omega)
  · rw [decide_eq_false hlt]
    simp only [Bool.false_eq_true, if_false]
    have hea : e = a := by omega
    subst hea
    obtain ⟨P', h1, h2, h3⟩ := P.same hp he ha
    refine wpAny_execs_cons (wpAny_If (wpAny_isTrue_Compare1 (name_var (D₂.var C rfl) (name_var (D₂.var C rfl) (PyProof.Rows.gt_int (wpAny_truthy_bool ?_)))) rfl))
    rw [decide_eq_false (by omega : ¬ e < e)]
    simp only [Bool.false_eq_true, if_false]
    refine wpAny_execs_cons (wpAny_AugAssign_Name (load_var (D₂.var C ei) (wpAny_Constant_int (wpAny_iadd_int ?_))))
    refine SD.store (s := { s₂ with toks := s₂.toks + 1 + 1 }) (D₂.up C (Up.toks _ _)) C fun s₃ D₃ => ?_
    have hm₃ : Nm (fun z => if z = "i" then some (Value.int ((i : Int) + 1) (s₂.toks + 1)) else if z = "a" then some (.int e ta) else if z = "e" then some (.int e te) else m z) ax ay am au (i + 1) j := ⟨hm.e1, hm.e2, hm.e3, hm.e4, ⟨_, rfl⟩, ⟨_, ej⟩⟩
    have P'' : PI xs ys (i + 1) (j + 1) ms := P'
    have hE : ∀ {s₅ : Shared} {m₅ : Str → Option Value} {ex tb : Addr} {fl c : Value}, SD s₀ (callEnv fdSld L 28) outer L m₅ am au ms s₅ → Nm m₅ ax ay am au (i + 1) (j + 1) → ys.length ≤ j + 1 → NewE s₀ L am au ex → NewE s₀ L am au tb → Nt s₅.heap ex tb (rawInt L) c →
        wpAny (model prog w) A (noteFrame (.ref ex) (callEnv fdSld L 28)) (fun _ s₂ => wpAny (model prog w) A (setFlight (.ref ex) none) (fun _ s₃ => wpAny (model prog w) A (handleBy (.ref ex) (callEnv fdSld L 28) tryH) Q E s₃) E s₂) E s₅ := by
      intro s₅ m₅ ex tb fl c D₅ hm₅ hy n₁ n₂ N
      exact sld_hdl (i := i + 1) (j := j + 1) G C I hfr (by omega) D₅ hm₅ hy n₁ (.inr ⟨tb, n₂, N⟩) fun s' D' => kb s' _ (P''.end2 hy ▸ D') ⟨_, _, hm₅⟩
    refine wpAny_execs_cons (wpAny_Try_finally ?_)
    by_cases hix' : i + 1 < xs.length
    · obtain ⟨x, hx⟩ : ∃ e, xs[i + 1]? = some e := ⟨_, List.getElem?_eq_getElem hix'⟩
      obtain ⟨tx, hvx⟩ := I.ix.get (i + 1) x hx
      refine wpAny_execs_cons (wh_exit (k := i + 1) (x := x) (v := e) (D₃.var C hm₃.e1) (D₃.var C rfl) (D₃.var C rfl) (D₃.isList I.lx) (by simpa using hvx) (by omega) (h1 x hx) (wpAny_execs_nil (wpAny_execs_nil ?_)))
      refine wpAny_execs_cons (wpAny_AugAssign_Name (load_var (D₃.var C ej) (wpAny_Constant_int (wpAny_iadd_int ?_))))
      refine SD.store (s := { s₃ with toks := s₃.toks + 1 + 1 }) (D₃.up C (Up.toks _ _)) C fun s₄ D₄ => ?_
      have ly := D₄.isList I.ly
      by_cases hjy' : j + 1 < ys.length
      · obtain ⟨y, hy⟩ : ∃ e, ys[j + 1]? = some e := ⟨_, List.getElem?_eq_getElem hjy'⟩
        obtain ⟨ty, hvy⟩ := I.iy.get (j + 1) y hy
        refine wpAny_execs_cons (wh_exit (k := j + 1) (x := y) (v := e) (D₄.var C hm.e2) (D₄.var C rfl) (D₄.var C rfl) ly (by simpa using hvy) (by omega) (h2 y hy) (wpAny_execs_nil (wpAny_execs_nil (wpAny_execs_nil (wpAny_execs_nil (wpAny_execs_nil ?_))))))
        exact kn s₄ _ (i + 1) (j + 1) _ D₄ ⟨hm.e1, hm.e2, hm.e3, hm.e4, ⟨_, rfl⟩, ⟨_, rfl⟩⟩ P' (by omega) (by omega) (by omega)
      · refine wpAny_execs_cons (wh_raise (k := j + 1) (c := .none) D₄ C hfr (fun hO => out_none hh ly (by simp only [List.size_toArray]; omega) (by omega) hO) (D₄.var C hm.e2) (D₄.var C rfl) ly fun s₅ ex tb D₅ n₁ n₂ N => ?_)
        refine note_nt C.fr N (D₅.came C N n₂ fun s₆ D₆ N₆ _ => ?_)
        exact hE (fl := .none) D₆ ⟨hm.e1, hm.e2, hm.e3, hm.e4, ⟨_, rfl⟩, ⟨_, rfl⟩⟩ (by omega) n₁ n₂ N₆
    · have lx₃ := D₃.isList I.lx
      refine wpAny_execs_cons (wh_raise (k := i + 1) (c := .none) D₃ C hfr (fun hO => out_none hh lx₃ (by simp only [List.size_toArray]; omega) (by omega) hO) (D₃.var C hm₃.e1) (D₃.var C rfl) lx₃ fun s₄ ex tb D₄ n₁ n₂ N => ?_)
      have hjl := h3 (by omega)
      refine note_nt C.fr N ⟨(fun q => nomatch q), note_nt C.fr N (D₄.fly C N n₂ fun s₅ D₅ N₅ _ => ?_)⟩
      refine wpAny_execs_cons (wpAny_AugAssign_Name (load_var (D₅.var C ej) (wpAny_Constant_int (wpAny_iadd_int ?_))))
      refine SD.storeB (s := { s₅ with toks := s₅.toks + 1 + 1 }) (D₅.up C (Up.toks _ _)) C fun s₆ D₆ b₆ => ?_
      have N₆ := (N₅.up (Up.toks s₅ (s₅.toks + 1 + 1))).but b₆ n₁.2.1 n₂.2.1
      have ly := D₆.isList I.ly
      obtain ⟨o₁, w₁, ot₁, tw₁, q1, q2, q3, q4, q5, q6⟩ := id N₆
      refine wpAny_execs_cons (wh_raise (k := j + 1) (c := .ref ex) D₆ C hfr (fun hO => out_some rfl q1 q3 q5 ly (by simp only [List.size_toArray]; omega) (by omega) hO) (D₆.var C hm.e2) (D₆.var C rfl) ly fun s₇ ex₂ tb₂ D₇ n₃ n₄ N₇ => ?_)
      refine note_nt C.fr N₇ (D₇.came C N₇ n₄ fun s₈ D₈ N₈ _ => ?_)
      exact hE (fl := .none) D₈ ⟨hm.e1, hm.e2, hm.e3, hm.e4, ⟨_, rfl⟩, ⟨_, rfl⟩⟩ (by omega) n₃ n₄ N₈
end
end Mine

/-! Sld5 -/
namespace Mine
section
variable {s : Shared} {outer : List Env} {ax ay : Addr} {xs ys : List Int} {vx vy : List Value} {prog : Program} {w : World} {A : Around} {E : Value → Shared → Prop} {B : Heap}
theorem sld_call {Q : Value → Shared → Prop} (G : Bs w B s outer) (I : In2 s ax ay vx vy xs ys) (hh : A.handled = none) (hroom : A.depth < recursionLimit) (hfr : A.frames = some outer) (hfun : s.heap.FunFrames {} outer) (hp : xs.Pairwise (· < ·)) (hsub : ys.Sublist xs)
    (k : ∀ s' v, Stp (frs outer) NoX s s' → Rep (fun b => b < s.heap.objs.size) s'.heap (.tup [.list ((dif xs ys).map .int), .list []]) v → Q v s') :
    wpAny (model prog w) A (call (.ref 28) [.ref ax, .ref ay]) Q E s := by
  have Gs : Gl w s.heap := G.gl.le G.le
  refine enter _ (sld_at w) Gs hroom (sld_bind _ _) (by decide +kernel) (by kernel_rfl) fun s₁ I₁ => ?_
  generalize hL : s.heap.objs.size = L at I₁ ⊢
  refine wpAny_execs_cons (wpAny_Assign_two (wpAny_Constant_int (wpAny_assign_Name (In.store (I₁.le (Up.toks _ _)) fun s₂ I₂ b₂ => wpAny_assign_Name (In.store I₂ fun s₃ I₃ b₃ => ?_)))))
  refine wpAny_execs_cons (wpAny_Assign_Name (wpAny_List (spliced_nil ⟨by decide, ?_⟩)))
  have hm0 : ({ s₃ with heap := s₃.heap.push { cls := .type "list", data := .seq ([] : List Value).toArray } } : Shared).heap.PlainList s₃.heap.objs.size ([] : List Value).toArray := ⟨_, Heap.get?_push_size _ rfl⟩
  have hLm : L < s₃.heap.objs.size := I₃.ns.lt
  refine In.store (I₃.le (Up.push s₃ _ _)) fun s₄ I₄ b₄ => ?_
  have hm4 : s₄.heap.PlainList s₃.heap.objs.size ([] : List Value).toArray := by obtain ⟨n, h⟩ := hm0; exact ⟨n, b₄.keep _ _ (Nat.ne_of_gt hLm) h⟩
  generalize s₃.heap.objs.size = am at *
  refine wpAny_execs_cons (wpAny_Assign_Name (wpAny_List (spliced_nil ⟨by decide, ?_⟩)))
  have hu0 : ({ s₄ with heap := s₄.heap.push { cls := .type "list", data := .seq ([] : List Value).toArray } } : Shared).heap.PlainList s₄.heap.objs.size ([] : List Value).toArray := ⟨_, Heap.get?_push_size _ rfl⟩
  have hLu : L < s₄.heap.objs.size := I₄.ns.lt
  have hmu : am < s₄.heap.objs.size := by obtain ⟨n, h⟩ := hm4; exact Heap.lt_size h
  refine In.store (I₄.le (Up.push s₄ _ _)) fun s₅ I₅ b₅ => ?_
  have hu5 : s₅.heap.PlainList s₄.heap.objs.size ([] : List Value).toArray := by obtain ⟨n, h⟩ := hu0; exact ⟨n, b₅.keep _ _ (Nat.ne_of_gt hLu) h⟩
  have hm5 : s₅.heap.PlainList am ([] : List Value).toArray := by obtain ⟨n, h⟩ := hm4; exact ⟨n, b₅.keep _ _ (Nat.ne_of_gt hLm) (Heap.get?_push_of_some _ h)⟩
  generalize s₄.heap.objs.size = au at *
  have none_of : ∀ b : Nat, L ≤ b → s.heap.get? b = none := fun b h => Heap.get?_none_of_le (by rw [hL]; exact h)
  have C : SDs s (callEnv fdSld L 28) outer L am au := ⟨none_of L (Nat.le_refl _), none_of am (Nat.le_of_lt hLm), none_of au (Nat.le_of_lt hLu), Nat.ne_of_lt hLm, Nat.ne_of_lt hLu, Nat.ne_of_lt hmu, rfl, rfl, fun b hb => by obtain ⟨_, o, ho, _⟩ := hfun.mem hb; exact ⟨o, ho⟩⟩
  have D₀ : SD s (callEnv fdSld L 28) outer L _ am au [] s₅ := ⟨stp_up I₅.up, I₅.ns, ⟨[], hm5, .nil⟩, hu5, Heap.FunFrames.cons (fun q => nomatch q) rfl I₅.ns rfl (hfun.of_keeps fun b o ho _ => ⟨o, I₅.up.le b o ho, rfl⟩)⟩
  have hfr' : (A.deeper (callEnv fdSld L 28)).frames = some (callEnv fdSld L 28 :: outer) := Around.frames_deeper hfr
  refine wpAny_execs_cons (wpAny_While (codeAny_whileLoop (fun n s' => ∃ m i j ms, SD s (callEnv fdSld L 28) outer L m am au ms s' ∧ Nm m ax ay am au i j ∧ PI xs ys i j ms ∧ i ≤ xs.length ∧ j ≤ ys.length ∧ n = (xs.length - i) + (ys.length - j)) ?_ _ ⟨_, 0, 0, [], D₀, ⟨rfl, rfl, rfl, rfl, ⟨_, rfl⟩, ⟨_, rfl⟩⟩, ⟨by simpa using hsub, by simp⟩, Nat.zero_le _, Nat.zero_le _, rfl⟩))
  rintro n s₆ ⟨m, i, j, ms, D, hm, P, hi, hj, rfl⟩
  refine wpAny_isTrue_value (wpAny_Constant_bool (wpAny_truthy_bool ?_))
  simp only [if_true]
  refine wpAny_execs_cons (sld_try G C I hh hfr' hp D hm P hi hj (fun s₇ m' i' j' ms' D' hm' P' hi' hj' hlt => ?_) fun s₇ m' D' hm' => ?_)
  · exact wpAny_execs_nil ⟨_, hlt, m', i', j', ms', D', hm', P', hi', hj', rfl⟩
  · obtain ⟨i', j', hm'⟩ := hm'
    refine wpAny_execs_cons (wpAny_Return_some (wpAny_Tuple (spliced_cons (name_var (D'.var C hm'.e3) (spliced_cons (name_var (D'.var C hm'.e4) (spliced_nil ⟨Nat.le_of_ble_eq_true rfl, ?_⟩)))))))
    obtain ⟨vm, hpm, him⟩ := D'.lm
    have u := Up.push s₇ { cls := .type "tuple", data := .seq [Value.ref am, Value.ref au].toArray } s₇.toks
    have D'' := D'.up C u
    refine k _ _ D''.slo ?_
    have z7 : L ≤ s₇.heap.objs.size := Nat.le_of_lt D'.ns.lt
    rw [hL]
    refine .tup (vs := [.ref am, .ref au]) (Nat.not_lt.mpr z7) (Heap.get?_push_size _ rfl) (.cons (.list (vs := vm) (Nat.not_lt.mpr (Nat.le_of_lt hLm)) (hpm.isList.push _) (.of_ints him)) (.cons (.list (vs := []) (Nat.not_lt.mpr (Nat.le_of_lt hLu)) (D'.lu.isList.push _) .nil) .nil))
end
end Mine

/-! Jn1 -/
namespace Mine
/-- an elder heap with all that the top has laid -/
structure GB (w : World) (B h : Heap) : Prop where
  gl : Gl w B
  le : ∀ b o, B.get? b = some o → h.get? b = some o
theorem GB.g {w : World} {B h : Heap} (G : GB w B h) : Gl w h := G.gl.le G.le
theorem GB.but {w : World} {B : Heap} {s s' : Shared} {Y : Addr → Prop} (G : GB w B s.heap) (b : But Y s s') (hY : ∀ b : Nat, Y b → B.objs.size ≤ b) : GB w B s'.heap :=
  ⟨G.gl, fun a o e => b.keep a o (fun q => absurd (Heap.lt_size e) (Nat.not_lt.mpr (hY a q))) (G.le a o e)⟩
theorem GB.up {w : World} {B : Heap} {s s' : Shared} (G : GB w B s.heap) (u : Up s s') : GB w B s'.heap := ⟨G.gl, fun a o e => u.le a o (G.le a o e)⟩

section
variable {prog : Program} {w : World} {A : Around} {M X : Addr → Prop} {env : Env} {ρ : Str → Option Dt} {s : Shared} {E : Value → Shared → Prop}
theorem ev_itemX {l i : Expr} {p : Pos} {ds : List Dt} {k : Int} {d : Dt} (V : Ev prog w A X env s l (.list ds)) (W : Ev0 prog w A env s i (.int k)) (h0 : 0 ≤ k) (h1 : k < 2 ^ 63) (hd : ds[k.toNat]? = some d)
    (hs : ∀ o x, subscripted i false o x = operate [o, x] (getItem o x) := by intro _ _; with_unfolding_all rfl) : Ev prog w A X env s (.Subscript l i p) d := by
  intro hX s₁ u
  refine Subscript_ (V.use hX u fun v₁ s₂ u₂ us₂ r₁ => W.use0 us₂ fun v₂ s₃ u₃ us₃ r₂ => ?_)
  obtain ⟨a₁, vs₁, rfl, _, p₁, l₁⟩ := (r₁.up u₃).list_inv
  obtain ⟨t, rfl⟩ := r₂.int_inv
  obtain ⟨v, hv, r⟩ := l₁.at hd
  exact tail_any p₁.typeIs slot_list_getitem.lookup (wpAny_getItem_list p₁ h0 h1 (by simpa using hv) ⟨u₂.trans u₃, r⟩) (hs _ _)
end

/-- the plain list at a shows ds (all of them imm) -/
def LsAt (h : Heap) (a : Addr) (ds : List Dt) : Prop := ∃ vs, h.PlainList a (List.toArray vs) ∧ RepL NoX h ds vs ∧ ds.all Dt.imm = true
theorem RepL.imm {X X' : Addr → Prop} {h h' : Heap} : ∀ {ds : List Dt} {vs : List Value}, RepL X h ds vs → ds.all Dt.imm = true → RepL X' h' ds vs
  | _, _, .nil, _ => .nil
  | _, _, .cons a r, i => by simp only [List.all_cons, Bool.and_eq_true] at i; exact .cons (a.imm i.1) (r.imm i.2)
theorem LsAt.at {h h' : Heap} {a : Addr} {ds : List Dt} (L : LsAt h a ds) (k : ∀ o, h.get? a = some o → h'.get? a = some o) : LsAt h' a ds := let ⟨vs, p, r, i⟩ := L; ⟨vs, p.at k, r.imm i, i⟩
theorem LsAt.up {s s' : Shared} {a : Addr} {ds : List Dt} (L : LsAt s.heap a ds) (u : Up s s') : LsAt s'.heap a ds := L.at fun o e => u.le a o e
theorem LsAt.but {s s' : Shared} {Y : Addr → Prop} {a : Addr} {ds : List Dt} (L : LsAt s.heap a ds) (b : But Y s s') (n : ¬ Y a) : LsAt s'.heap a ds := L.at fun o e => b.keep a o n e
theorem LsAt.lt {h : Heap} {a : Addr} {ds : List Dt} (L : LsAt h a ds) : a < h.objs.size := let ⟨_, ⟨_, e⟩, _⟩ := L; Heap.lt_size e
theorem RepL.set {X : Addr → Prop} {h : Heap} {d : Dt} {v : Value} (R : Rep X h d v) : ∀ {ds : List Dt} {vs : List Value} (i : Nat), RepL X h ds vs → RepL X h (ds.set i d) (vs.set i v)
  | _, _, _, .nil => .nil
  | _, _, 0, .cons _ r => .cons R r
  | _, _, i + 1, .cons a r => .cons a (r.set R i)
theorem all_set {ds : List Dt} {d : Dt} (hd : d.imm = true) : ∀ (i : Nat), ds.all Dt.imm = true → (ds.set i d).all Dt.imm = true := by
  intro i h
  rw [List.all_eq_true] at h ⊢
  intro x hx
  rcases List.mem_or_eq_of_mem_set hx with q | q
  · exact h x q
  · exact q ▸ hd

section
variable {prog : Program} {w : World} {A : Around} {M X : Addr → Prop} {env : Env} {ρ : Str → Option Dt} {s : Shared} {E : Value → Shared → Prop}
theorem Sit.hasP {x : Str} {a : Addr} {ds : List Dt} (S : Sit M X env ρ s.heap) (e : ρ x = some (.ptr a)) (L : LsAt s.heap a ds) : Has env x (.list ds) s.heap := let ⟨vs, p, r, _⟩ := L; S.hasL e p.isList r
/-- x.append(e) as a statement -/
theorem st_append {x : Str} {xp ap cp pos : Pos} {e : Expr} {a : Addr} {ds : List Dt} {d : Dt} {Q : Flow → Shared → Prop} (S : Sit M X env ρ s.heap) (hx : ρ x = some (.ptr a)) (L : LsAt s.heap a ds) (V : Ev0 prog w A env s e d) (im : d.imm = true) (hXa : X a) (hF : ¬ Frm env a) (hsz : ds.length ≤ 100)
    (k : ∀ s', But (· = a) s s' → Sit M X env ρ s'.heap → LsAt s'.heap a (ds ++ [d]) → Q .next s') {pl : Sem Bool}
    (hk : env.scope.kind = .function := by rfl) (hd : (x == ("__debug__" : Str)) = false := by decide) (hn : (x == ("__classdict__" : Str)) = false := by decide)
    (he : starEach [e] env = (false, eval e env) :: starEach [] env := by rfl)
    (hi : interactive env = false := by rfl) (hs : swapsWith (.Call (.Attribute (.Name x xp) "append" ap) [e] [] cp) none pos.line env = pure false := by rfl)
    (hc : eval (.Call (.Attribute (.Name x xp) "append" ap) [e] [] cp) env = (do
      let ov ← eval (.Name x xp) env
      standAt ap.atName
      let (f, first) ← holding [ov] (getMethod ov "append" pl)
      callWith cp f first (backTo cp (starEach [e] env)) []) := by rfl) :
    wpAny (model prog w) A (exec (.Expr (.Call (.Attribute (.Name x xp) "append" ap) [e] [] cp) pos) env) Q E s := by
  refine wpAny_Expr ?_ hi hs
  refine MethodCall_ (pl := pl) ?_ hc
  obtain ⟨v, Vx, R⟩ := S.val x _ hx
  rw [R.ptr_inv] at Vx
  refine name_var Vx ?_ hk hd hn
  obtain ⟨vs, ⟨n, ho⟩, r, i⟩ := id L
  refine Calls.getMethod_list_append ho rfl rfl (callWith_method1 (Evs.use (evs_cons V evs_nil he) (But.refl s) fun us s₂ u₂ _ r₂ => ?_) he)
  obtain ⟨v', rfl, r'⟩ := r₂.one
  have hl₂ : s₂.heap.PlainList a vs.toArray := ⟨n, u₂.le _ _ ho⟩
  refine wpAny_list_append_plain (hsz := by have := r.length; simp only [List.size_toArray, sizeLine]; omega) hl₂ fun h₃ hp₃ hs₃ => ?_
  have b₃ : But (· = a) s₂ { s₂ with heap := h₃ } := ⟨⟨_, s₂.toks, rfl⟩, fun b o q e => hs₃.extBut b o q e, Nat.le_of_eq hs₃.1.symm⟩
  refine k _ ((u₂.up (X := (· = a))).trans b₃) ((S.up u₂).but b₃ (fun b q => q ▸ hXa) (fun q => hF (.inl q.symm)) fun y c e q => hF (.inr ⟨y, q ▸ e⟩)) ⟨vs ++ [v'], by simpa using hp₃, ?_, by simp [i, im]⟩
  exact (r.imm i).append (.cons (r'.imm im) .nil)
/-- x[i] = e -/
theorem st_setItem {x : Str} {xp p pos : Pos} {i e : Expr} {a : Addr} {ds : List Dt} {d : Dt} {j : Nat} {Q : Flow → Shared → Prop} (S : Sit M X env ρ s.heap) (hx : ρ x = some (.ptr a)) (L : LsAt s.heap a ds) (V : Ev0 prog w A env s e d) (W : Ev0 prog w A env s i (.int j)) (im : d.imm = true) (hXa : X a) (hF : ¬ Frm env a) (hj : j < ds.length) (hsz : ds.length ≤ 100)
    (k : ∀ s', But (· = a) s s' → Sit M X env ρ s'.heap → LsAt s'.heap a (ds.set j d) → Q .next s')
    (hk : env.scope.kind = .function := by rfl) (hd : (x == ("__debug__" : Str)) = false := by decide) (hn : (x == ("__classdict__" : Str)) = false := by decide)
    (hs : swapsWith e (some (.Subscript (.Name x xp) i p)) pos.line env = pure false := by rfl) :
    wpAny (model prog w) A (exec (.Assign [.Subscript (.Name x xp) i p] e pos) env) Q E s := by
  refine wpAny_Assign_Subscript (V.use0 (But.refl s) fun v s₂ u₂ _ R => ?_) hs
  obtain ⟨vx, Vx, Rx⟩ := S.val x _ hx
  rw [Rx.ptr_inv] at Vx
  refine name_var (Vx.le u₂.le) (W.use0 u₂ fun v' s₃ u₃ us₃ R' => ?_) hk hd hn
  obtain ⟨t, rfl⟩ := R'.int_inv
  obtain ⟨vs, ⟨n, ho⟩, r, ii⟩ := id L
  have ho₃ := us₃.le _ _ ho
  have hl := r.length
  refine any_size (ki_setAt ho₃ (by omega) (by omega) (by simp only [List.size_toArray]; omega) fun z => ?_)
  have b₃ : But (· = a) s₃ { s₃ with heap := s₃.heap.update a (Obj.mapSeq (·.setIfInBounds (j : Int).toNat v)) } := ⟨⟨_, s₃.toks, rfl⟩, fun b o q e => by rw [← e]; exact Heap.get?_update_other _ _ (Ne.symm q), z⟩
  have S₃ := S.up us₃
  refine k _ ((us₃.up (X := (· = a))).trans b₃) (S₃.but b₃ (fun b q => q ▸ hXa) (fun q => hF (.inl q.symm)) fun y c e q => hF (.inr ⟨y, q ▸ e⟩)) ⟨vs.set j v, ?_, (r.imm ii).set (R.imm im) j, all_set im j ii⟩
  have e := Heap.get?_update_self (Obj.mapSeq (·.setIfInBounds (j : Int).toNat v)) ho₃ rfl
  exact ⟨n, e.trans (by simp [Obj.mapSeq])⟩
end
end Mine

/-! Jn2 -/
namespace Mine
def updF (f : Nat → Option Nat) (h l : Nat) : Nat → Option Nat := fun i => if i = h then some l else f i
inductive JL (ab : Nat → List Nat) : Nat → List Nat → (Nat → Option Nat) → List Nat → Bool → (Nat → Option Nat) → List Nat → Prop
  | nil {low f t} : JL ab low [] f t false f t
  | seen {low h hs f t b f' t'} : h ∈ t → JL ab low hs f t b f' t' → JL ab low (h :: hs) f t b f' t'
  | free {low h hs f t} : h ∉ t → f h = none → JL ab low (h :: hs) f t true (updF f h low) (t ++ [h])
  | take {low h hs f t l f' t'} : h ∉ t → f h = some l → JL ab l (ab l) f (t ++ [h]) true f' t' → JL ab low (h :: hs) f t true (updF f' h low) t'
  | fail {low h hs f t l f' t' b f'' t''} : h ∉ t → f h = some l → JL ab l (ab l) f (t ++ [h]) false f' t' → JL ab low hs f' t' b f'' t'' → JL ab low (h :: hs) f t b f'' t''
structure JOk (f : Nat → Option Nat) (t : List Nat) : Prop where
  lt : ∀ i l, f i = some l → l < 6
  nd : t.Nodup
  tl : ∀ x ∈ t, x < 6
theorem JOk.app {f : Nat → Option Nat} {t : List Nat} {h : Nat} (J : JOk f t) (hn : h ∉ t) (h6 : h < 6) : JOk f (t ++ [h]) := by
  refine ⟨J.lt, ?_, fun x hx => ?_⟩
  · rw [List.nodup_append]
    exact ⟨J.nd, by simp, fun a ha b hb => by rw [List.mem_singleton] at hb; subst hb; exact fun e => hn (e ▸ ha)⟩
  · rcases List.mem_append.mp hx with q | q
    · exact J.tl x q
    · rw [List.mem_singleton] at q; omega
theorem JOk.upd {f : Nat → Option Nat} {t : List Nat} {h l : Nat} (J : JOk f t) (hl : l < 6) : JOk (updF f h l) t := by
  refine ⟨fun i l' e => ?_, J.nd, J.tl⟩
  unfold updF at e
  split at e
  · cases e; exact hl
  · exact J.lt i l' e
theorem JL.ok {ab : Nat → List Nat} (hab : ∀ p, p < 6 → ∀ q ∈ ab p, q < 6) {low : Nat} {hs : List Nat} {f f' : Nat → Option Nat} {t t' : List Nat} {b : Bool} (H : JL ab low hs f t b f' t') : low < 6 → (∀ q ∈ hs, q < 6) → JOk f t → JOk f' t' ∧ t.length ≤ t'.length := by
  induction H with
  | nil => intro _ _ J; exact ⟨J, Nat.le_refl _⟩
  | seen _ _ ih => intro h1 h2 J; exact ih h1 (fun q hq => h2 q (List.mem_cons_of_mem _ hq)) J
  | free hn _ => intro h1 h2 J; exact ⟨(J.app hn (h2 _ (List.mem_cons_self ..))).upd h1, by simp⟩
  | take hn e _ ih =>
    intro h1 h2 J
    have hl := J.lt _ _ e
    have q := ih hl (hab _ hl) (J.app hn (h2 _ (List.mem_cons_self ..)))
    exact ⟨q.1.upd h1, by have := q.2; simp at this; omega⟩
  | fail hn e _ _ ih ih' =>
    intro h1 h2 J
    have hl := J.lt _ _ e
    have q := ih hl (hab _ hl) (J.app hn (h2 _ (List.mem_cons_self ..)))
    have q' := ih' h1 (fun q hq => h2 q (List.mem_cons_of_mem _ hq)) q.1
    exact ⟨q'.1, by have := q.2; have := q'.2; simp at *; omega⟩
theorem nodup_len : ∀ (l m : List Nat), l.Nodup → (∀ x ∈ l, x ∈ m) → l.length ≤ m.length
  | [], m, _, _ => Nat.zero_le _
  | a :: l, m, hn, hs => by
    rw [List.nodup_cons] at hn
    have ha := hs a (List.mem_cons_self ..)
    have := nodup_len l (m.erase a) hn.2 fun x hx => (List.mem_erase_of_ne (fun e : x = a => hn.1 (e ▸ hx))).mpr (hs x (List.mem_cons_of_mem _ hx))
    rw [List.length_erase_of_mem ha] at this
    have : 0 < m.length := List.length_pos_of_mem ha
    simp; omega
theorem JOk.len {f : Nat → Option Nat} {t : List Nat} (J : JOk f t) : t.length ≤ 6 := by
  have := nodup_len t (List.range 6) J.nd fun x hx => List.mem_range.mpr (J.tl x hx)
  simpa using this
def optD : Option Nat → Dt
  | none => .none
  | some l => .nat l
def lowD (f : Nat → Option Nat) : List Dt := (List.range 6).map fun i => optD (f i)
def aboveD (ab : Nat → List Nat) : Dt := .list ((List.range 6).map fun p => .list ((ab p).map Dt.nat))
theorem lowD_set {f : Nat → Option Nat} {j l : Nat} : (lowD f).set j (.nat l) = lowD (updF f j l) := by
  unfold lowD
  apply List.ext_getElem
  · simp
  · intro i h1 h2
    simp only [List.getElem_set, List.getElem_map, List.getElem_range, updF]
    by_cases h : j = i
    · subst h; simp [optD]
    · rw [if_neg h, if_neg (fun e => h e.symm)]
theorem lowD_at {f : Nat → Option Nat} {j : Nat} (h : j < 6) : (lowD f)[j]? = some (optD (f j)) := by unfold lowD; simp [h]
theorem lowD_opt (f : Nat → Option Nat) : (lowD f).all Dt.opt = true := by
  unfold lowD
  rw [List.all_eq_true]
  intro d hd
  obtain ⟨i, _, rfl⟩ := List.mem_map.mp hd
  cases f i <;> rfl
theorem nats_opt (t : List Nat) : (t.map Dt.nat).all Dt.opt = true := by
  rw [List.all_eq_true]
  intro d hd
  obtain ⟨i, _, rfl⟩ := List.mem_map.mp hd
  rfl
theorem nats_imm (t : List Nat) : (t.map Dt.nat).all Dt.imm = true := by
  rw [List.all_eq_true]
  intro d hd
  obtain ⟨i, _, rfl⟩ := List.mem_map.mp hd
  rfl
theorem nats_hit (t : List Nat) (j : Nat) : (t.map Dt.nat).any (hitI (j : Int)) = decide (j ∈ t) := by
  rw [Bool.eq_iff_iff]
  simp only [List.any_map, List.any_eq_true, Function.comp, hitI, beq_iff_eq, decide_eq_true_eq]
  constructor
  · rintro ⟨x, hx, e⟩; have : x = j := by exact Int.ofNat.inj e
    exact this ▸ hx
  · intro h; exact ⟨j, h, rfl⟩
def fdJoin : FuncData := fdOf (topS 8) "_law_joined" (.str "law_mj0182_01" 312) (.ref 112)
theorem join_at (w : World) : DefAt w 113 fdJoin (dBody (topS 8)) := ⟨by kernel_rfl, by kernel_rfl, rfl, rfl, rfl, rfl⟩
theorem join_bind (a b c d : Value) : bindArgs fdJoin ⟨[a, b, c, d], []⟩ = pure [(("above" : Str), a), (("lower" : Str), b), (("tried" : Str), c), (("low" : Str), d)] := by kernel_rfl
theorem g_join (w : World) : nsIn (KK w) mainGlobals "_law_joined" = some (some (.ref 113)) := by kernel_rfl
theorem k_join (w : World) : keepIn (KK w) (.ref 113) = true := by kernel_rfl
def ρJoin (ab : Nat → List Nat) (al at_ : Addr) (low : Nat) : Str → Option Dt := put (put (put (put (fun _ => none) "above" (aboveD ab)) "lower" (.ptr al)) "tried" (.ptr at_)) "low" (.nat low)
end Mine

/-! Jn3 -/
namespace Mine
theorem is_at {is : List Nat} {i j : Nat} (h : is[i]? = some j) : i < is.length ∧ is.drop i = j :: is.drop (i + 1) := by
  have hi := (List.getElem?_eq_some_iff.mp h).1
  refine ⟨hi, ?_⟩
  rw [List.drop_eq_getElem_cons hi]
  have := (List.getElem?_eq_some_iff.mp h).2
  rw [this]
section
variable {prog : Program} {w : World} {E : Value → Shared → Prop} {B : Heap} {al at_ : Addr}
theorem joined_call (ab : Nat → List Nat) (hab : ∀ p, p < 6 → ∀ q ∈ ab p, q < 6) (h1 : B.objs.size ≤ al) (h2 : B.objs.size ≤ at_) (hne : al ≠ at_) (hfz : True) : ∀ (n : Nat) (A : Around) (s : Shared) (Y : Addr → Prop) (f : Nat → Option Nat) (t : List Nat) (low : Nat) (tk : Tok) (va : Value),
    A.handled = none → A.depth + n + 2 < recursionLimit → GB w B s.heap → Y al → Y at_ → (∀ b : Nat, Y b → b < s.heap.objs.size) → Rep Y s.heap (aboveD ab) va → LsAt s.heap al (lowD f) → LsAt s.heap at_ (t.map Dt.nat) → JOk f t → low < 6 → 6 - t.length ≤ n →
    wpAny (model prog w) A (call (.ref 113) [va, .ref al, .ref at_, .int low tk]) (fun v s' => ∃ b f' t', v = .bool b ∧ JL ab low (ab low) f t b f' t' ∧ But (fun b => b = al ∨ b = at_) s s' ∧ LsAt s'.heap al (lowD f') ∧ LsAt s'.heap at_ (t'.map Dt.nat)) NoE s := by
  intro n
  induction n using Nat.strongRecOn with
  | ind n ih =>
  intro A s Y f t low tk va hh hroom G ya yt hY Ra La Lt J hlow hn
  have lal : al < s.heap.objs.size := La.lt
  have lat : at_ < s.heap.objs.size := Lt.lt
  have hz : B.objs.size ≤ s.heap.objs.size := Nat.le_of_lt (Nat.lt_of_le_of_lt h1 lal)
  refine enterX [(("above" : Str), va), (("lower" : Str), .ref al), (("tried" : Str), .ref at_), (("low" : Str), .int low tk)] (ρJoin ab al at_ low) (fun b => b = al ∨ b = at_) Y (fun b q => q.elim (fun e => e ▸ ya) fun e => e ▸ yt) hY (join_at w) G.g (by omega) (join_bind _ _ _ _) ?_ ?_ fun s₁ u hF S => ?_
  · intro y hy
    refine .inl ?_
    simp only [List.mem_cons, List.not_mem_nil, or_false] at hy
    rcases hy with rfl | rfl | rfl | rfl <;> kernel_rfl
  · intro y d e
    dsimp only [ρJoin, put] at e
    split at e
    · rename_i h; cases e; subst h; exact ⟨_, .int _ tk, .inl ⟨by kernel_rfl, by kernel_rfl⟩⟩
    split at e
    · rename_i h; cases e; subst h; exact ⟨_, .ptr _, .inl ⟨by kernel_rfl, by kernel_rfl⟩⟩
    split at e
    · rename_i h; cases e; subst h; exact ⟨_, .ptr _, .inl ⟨by kernel_rfl, by kernel_rfl⟩⟩
    split at e
    · rename_i h; cases e; subst h; exact ⟨_, Ra, .inl ⟨by kernel_rfl, by kernel_rfl⟩⟩
    · cases e
  have nF : ∀ b : Nat, b < s.heap.objs.size → ¬ Frm (callEnvC fdJoin s.heap.objs.size 113) b := fun b hb q => absurd (hF b q).1 (Nat.not_le.mpr hb)
  have G₁ := G.up u
  have hMB : ∀ b : Nat, (Nw s s₁ b ∨ b = al ∨ b = at_) → B.objs.size ≤ b := fun b q => by
    rcases q with q | q | q
    · exact Nat.le_trans hz q.1
    · exact q ▸ h1
    · exact q ▸ h2
  have out : ∀ s', But (fun b => Nw s s₁ b ∨ b = al ∨ b = at_) s₁ s' → But (fun b => b = al ∨ b = at_) s s' := fun s' b => ((u.up (X := fun b => Nw s s₁ b ∨ b = al ∨ b = at_)).trans b).drop fun b q hl => q.elim (fun q => absurd hl (Nat.not_lt.mpr q.1)) fun q => q
  have hd : ((List.range 6).map fun p => Dt.list ((ab p).map Dt.nat))[((low : Nat) : Int).toNat]? = some (.list ((ab low).map Dt.nat)) := by simp [hlow]
  refine wpAny_execs_cons (st_forD (is := ab low) (g := Dt.nat) S (srcD_ev hh (ev_itemX (S.name (d := aboveD ab) rfl) (ev_name0 (S.has (d := .nat low) rfl)) (by omega) (by omega) hd) S.bd S.mx (fun d q => by obtain ⟨i, _, rfl⟩ := List.mem_map.mp q; rfl)) (fun _ => rfl) (.inl rfl)
    (fun i ρ h => ρ "above" = some (aboveD ab) ∧ ρ "lower" = some (.ptr al) ∧ ρ "tried" = some (.ptr at_) ∧ ρ "low" = some (.nat low) ∧ ∃ fi ti, LsAt h al (lowD fi) ∧ LsAt h at_ (ti.map Dt.nat) ∧ JOk fi ti ∧ t.length ≤ ti.length ∧ ∀ b f' t', JL ab low ((ab low).drop i) fi ti b f' t' → JL ab low (ab low) f t b f' t')
    ?_ ⟨rfl, rfl, rfl, rfl, f, t, La.up u, Lt.up u, J, Nat.le_refl _, fun _ _ _ q => q⟩ ?_ ?_)
  · rintro i ρ' h h' ⟨e1, e2, e3, e4, fi, ti, L1, L2, J', hl, K⟩ kk
    exact ⟨e1, e2, e3, e4, fi, ti, L1.at fun o e => kk _ o (Nat.lt_of_lt_of_le lal u.size) (nF _ lal) e, L2.at fun o e => kk _ o (Nat.lt_of_lt_of_le lat u.size) (nF _ lat) e, J', hl, K⟩
  · rintro X₁ i j ρ' s₂ hX1 hX2 hj b₂ ⟨e1, e2, e3, e4, fi, ti, L1, L2, J', hl, K⟩ S₂
    obtain ⟨hi, hdr⟩ := is_at hj
    rw [hdr] at K
    have hj6 : j < 6 := hab low hlow j (List.mem_of_getElem? hj)
    have xa : X₁ al := hX1 _ (S.mx _ (.inr (.inl rfl)))
    have xt : X₁ at_ := hX1 _ (S.mx _ (.inr (.inr rfl)))
    have G₂ := G₁.but b₂ hMB
    refine wpAny_execs_cons (st_if S₂ (tst_cmp (ev_name0 (S₂.has (d := .nat j) rfl)) (ev_name0 (S₂.hasP e3 L2)) (cmp_notin (nats_opt ti))) (fun hc s₃ u₃ S₃ => ?_) fun hc s₃ u₃ S₃ => ?_)
    · rw [nats_hit] at hc
      have hnj : j ∉ ti := by simpa using hc
      have L1₃ := L1.up u₃
      have L2₃ := L2.up u₃
      have J₂ := J'.app hnj hj6
      have len2 := J₂.len
      rw [List.length_append, List.length_singleton] at len2
      refine wpAny_execs_cons (st_append (d := .nat j) S₃ e3 L2₃ (ev_name0 (S₃.has rfl)) rfl xt (nF _ lat) (by rw [List.length_map]; omega) fun s₄ b₄ S₄ L2₄ => ?_)
      have L1₄ : LsAt s₄.heap al (lowD fi) := L1₃.but b₄ hne
      have L2₄' : LsAt s₄.heap at_ ((ti ++ [j]).map Dt.nat) := by rw [List.map_append]; exact L2₄
      have b₄M : But (fun b => Nw s s₁ b ∨ b = al ∨ b = at_) s₂ s₄ := (u₃.up).trans (b₄.mono fun _ q => .inr (.inr q))
      have G₄ : GB w B s₄.heap := G₂.but b₄M hMB
      refine wpAny_execs_cons (wpAny_If (wpAny_isTrue_BoolOp (wpAny_allTrue_Or_cons (Tst.use (tst_cmp (ev_item0 (ev_name0 (S₄.hasP (x := "lower") e2 L1₄)) (ev_name0 (S₄.has (x := "high") (d := .nat j) rfl)) (by omega) (by omega) (by simpa using lowD_at (f := fi) hj6)) ev_none cmp_is_none) (But.refl s₄) fun s₅ u₅ _ => ?_))))
      have S₅ := S₄.up u₅
      have b₅ := b₄M.trans u₅.up
      cases hfj : fi j with
      | none =>
        show wpAny _ _ (execs _ _) _ _ _
        refine wpAny_execs_cons (st_setItem (x := "lower") (d := .nat low) (j := j) S₅ e2 (L1₄.up u₅) (ev_name0 (S₅.has e4)) (ev_name0 (S₅.has rfl)) rfl xa (nF _ lal) (by simp [lowD]; omega) (by simp [lowD]) fun s₆ b₆ S₆ L1₆ => ?_)
        rw [lowD_set] at L1₆
        refine wpAny_execs_cons (wpAny_Return_some (const_bool ?_))
        exact ⟨true, _, _, rfl, K _ _ _ (.free hnj hfj), out _ ((b₂.trans b₅).trans (b₆.mono fun _ q => .inr (.inl q))), L1₆, (L2₄'.up u₅).but b₆ (Ne.symm hne)⟩
      | some l =>
        refine wpAny_allTrue_Or_cons ?_
        have hl6 := J'.lt _ _ hfj
        obtain ⟨va', Va, Rva⟩ := S₅.val "above" _ e1
        obtain ⟨vl, Vl, Rvl⟩ := S₅.val "lower" _ e2
        obtain ⟨vt, Vt, Rvt⟩ := S₅.val "tried" _ e3
        rw [Rvl.ptr_inv] at Vl
        rw [Rvt.ptr_inv] at Vt
        have G₅ := G₄.up u₅
        refine wpAny_isTrue_value (Call_Name rfl (name_glob G₅.g (g_join w) (callWith_K (K := KK w) G₅.g.x (k_join w) ?_)))
        refine spliced_cons (name_var Va (spliced_cons (name_var Vl (spliced_cons (name_var Vt (spliced_cons (Ev.use0 (d := .nat l) (ev_item0 (ev_name0 (S₅.hasP (x := "lower") e2 (L1₄.up u₅))) (ev_name0 (S₅.has (x := "high") (d := .nat j) rfl)) (by omega) (by omega) (by simpa [hfj, optD] using lowD_at (f := fi) hj6)) (But.refl s₅) fun vi s₆ u₆ _ R₆ => spliced_nil ⟨(G₅.up u₆).g.x, ?_⟩)))))))
        obtain ⟨tk₆, rfl⟩ := R₆.int_inv
        have S₆ := S₅.up u₆
        refine wpAny_mono (ih (n - 1) (by omega) (A.deeper (callEnvC fdJoin s.heap.objs.size 113)) s₆ X₁ fi (ti ++ [j]) l tk₆ va' hh (by show A.depth + 1 + (n - 1) + 2 < _; omega) (G₅.up u₆) xa xt S₆.bd (Rva.up u₆) ((L1₄.up u₅).up u₆) ((L2₄'.up u₅).up u₆) J₂ hl6 (by rw [List.length_append, List.length_singleton]; omega)) (fun v s₇ h₇ => ?_) fun _ _ q => q.elim
        obtain ⟨b, f₇, t₇, rfl, H, b₇, L1₇, L2₇⟩ := h₇
        have ok₇ := H.ok hab hl6 (hab l hl6) J₂
        have S₇ := S₆.but b₇ (fun b q => q.elim (fun e => e ▸ xa) fun e => e ▸ xt) (fun q => q.elim (fun e => nF _ lal (.inl e.symm)) fun e => nF _ lat (.inl e.symm)) fun y c e q => q.elim (fun q => nF _ lal (.inr ⟨y, q ▸ e⟩)) fun q => nF _ lat (.inr ⟨y, q ▸ e⟩)
        have bb₇ := (b₅.trans u₆.up).trans (b₇.mono (Y := fun b => Nw s s₁ b ∨ b = al ∨ b = at_) fun _ q => .inr q)
        refine wpAny_truthy_bool ?_
        cases b with
        | true =>
          show wpAny _ _ (execs _ _) _ _ _
          refine wpAny_execs_cons (st_setItem (x := "lower") (d := .nat low) (j := j) S₇ e2 L1₇ (ev_name0 (S₇.has e4)) (ev_name0 (S₇.has rfl)) rfl xa (nF _ lal) (by simp [lowD]; omega) (by simp [lowD]) fun s₈ b₈ S₈ L1₈ => ?_)
          rw [lowD_set] at L1₈
          refine wpAny_execs_cons (wpAny_Return_some (const_bool ?_))
          exact ⟨true, _, _, rfl, K _ _ _ (.take hnj hfj H), out _ ((b₂.trans bb₇).trans (b₈.mono fun _ q => .inr (.inl q))), L1₈, L2₇.but b₈ (Ne.symm hne)⟩
        | false =>
          refine wpAny_allTrue_Or_nil ?_
          show wpAny _ _ (execs _ _) _ _ _
          refine wpAny_execs_nil (wpAny_execs_nil (wpAny_execs_nil ⟨bb₇, put ρ' "high" (.nat j), ⟨e1, e2, e3, e4, f₇, t₇, L1₇, L2₇, ok₇.1, ?_, fun b f' t' q => K b f' t' (.fail hnj hfj H q)⟩, S₇⟩))
          have := ok₇.2
          rw [List.length_append, List.length_singleton] at this
          omega
    · rw [nats_hit] at hc
      have hnj : j ∈ ti := by simpa using hc
      exact wpAny_execs_nil (wpAny_execs_nil ⟨u₃.up, put ρ' "high" (.nat j), ⟨e1, e2, e3, e4, fi, ti, L1.up u₃, L2.up u₃, J', hl, fun b f' t' q => K b f' t' (.seen hnj q)⟩, S₃⟩)
  · rintro s₂ ρ' b₂ ⟨e1, e2, e3, e4, fi, ti, L1, L2, J', hl, K⟩ S₂
    rw [List.drop_length] at K
    refine wpAny_execs_cons (wpAny_Return_some (const_bool ?_))
    exact ⟨false, fi, ti, rfl, K _ _ _ .nil, out _ b₂, L1, L2⟩
end
end Mine

/-! Lay15 -/
namespace Mine
section
variable {prog : Program} {w : World} {A : Around} {M X : Addr → Prop} {env : Env} {ρ : Str → Option Dt} {s : Shared} {E : Value → Shared → Prop}
/-- y = [.. for x in ..], y a local -/
theorem st_comp {elt iter : Expr} {x y : Str} {px py : Pos} {ifs : List Expr} {scope : Scope} {cl : List (Str × Addr)} {pos spos : Pos} {cellx : Bool} {Q : Flow → Shared → Prop} (is : List Nat) {g : Nat → Dt} (p : Nat → Bool) {f : Nat → Dt} (S : Sit M X env ρ s.heap)
    (hclos : closureFor scope env = pure cl) (B : Blk scope cl x cellx) (Sr : SrcD prog w A NoX env s iter (is.map g)) (hsz : is.length ≤ sizeLine)
    (T : ∀ C i s₃, i ∈ is → Up s s₃ → Has (compEnvC scope (cellsFrom (C + 1) scope.names cl) C env) x (g i) s₃.heap → Tsts prog w A (compEnvC scope (cellsFrom (C + 1) scope.names cl) C env) s₃ ifs (p i))
    (V : ∀ C i s₃, i ∈ is → p i = true → Up s s₃ → Has (compEnvC scope (cellsFrom (C + 1) scope.names cl) C env) x (g i) s₃.heap → Ev prog w A (fun b => b < s₃.heap.objs.size) (compEnvC scope (cellsFrom (C + 1) scope.names cl) C env) s₃ elt (f i))
    (k : ∀ s', But (Frm env) s s' → Sit M X env (put ρ y (.list ((is.filter p).map f))) s'.heap → Q .next s')
    (hsw : swapsWith (.ListComp elt [⟨.Name x px, iter, ifs, 0⟩] scope pos) (some (.Name y py)) spos.line env = pure true := by rfl) (hy : env.kindOf y = some .local := by rfl) (hk : env.scope.kind = .function := by rfl)
    (hs : ∀ x, foldedSetIterable iter env x = pure x := by intro _; rfl) :
    wpAny (model prog w) A (exec (.Assign [.Name y py] (.ListComp elt [⟨.Name x px, iter, ifs, 0⟩] scope pos) spos) env) Q E s := by
  have Sr := Sr s (But.refl s)
  rw [List.length_map] at Sr
  obtain ⟨m, hm⟩ := S.fr
  have hg : ∀ {i : Nat} {d : Dt}, i < is.length → (is.map g)[i]? = some d → d = g (is.getD i 0) ∧ is.getD i 0 ∈ is := by
    intro i d hi e
    simp only [List.getElem?_map, List.getElem?_eq_getElem hi, Option.map_some, Option.some.injEq] at e
    have e2 : is.getD i 0 = is[i] := by simp [List.getD, List.getElem?_eq_getElem hi]
    rw [e2]
    exact ⟨e.symm, List.getElem_mem hi⟩
  refine comp_assign hsw hy hk hm hclos B Sr hsz (fun j => p (is.getD j 0)) (fun j y h => Rep (fun b => b < s.heap.objs.size) h (f (is.getD j 0)) y) ?_ ?_ ?_ hs
  · rintro C i v s₃ hi ⟨d, hd, R⟩ us₃ Vx
    obtain ⟨rfl, hm⟩ := hg hi hd
    exact T C _ s₃ hm us₃ ⟨v, Vx, R.up us₃⟩
  · rintro C i v s₃ hi ⟨d, hd, R⟩ hp us₃ Vx
    obtain ⟨rfl, hm⟩ := hg hi hd
    refine (V C _ s₃ hm hp us₃ ⟨v, Vx, R.up us₃⟩).use (fun b h => h) (But.refl _) fun y s₄ u₄ _ R' => ⟨u₄, fun h' k => ?_⟩
    exact R'.mono fun b o nb e => ⟨k b o (Nat.not_lt.mp nb) e, fun q => nb (Nat.lt_of_lt_of_le q us₃.size)⟩
  · intro D ys s' b' hD hn O
    obtain ⟨pl, P⟩ := O.out
    refine k s' (b'.mono fun _ q => .inl q) (S.putL (v := .ref D) (.list (vs := ys) (fun q => absurd (S.bd _ q) (Nat.not_lt.mpr hD)) pl.isList ?_) hy b' hm hn)
    have := RepL.paired (f := fun j => f (is.getD j 0)) P
    rw [pick_eq] at this
    exact this.mono fun b o nb e => ⟨e, fun q => nb (S.bd _ q)⟩
/-- y = [[x] for x in ..]: new lists, one for each -/
theorem st_compL {iter : Expr} {x y : Str} {px px' lp py : Pos} {scope : Scope} {cl : List (Str × Addr)} {pos spos : Pos} {cellx : Bool} {Q : Flow → Shared → Prop} (is : List Nat) (S : Sit M X env ρ s.heap)
    (hclos : closureFor scope env = pure cl) (B : Blk scope cl x cellx) (Sr : SrcD prog w A NoX env s iter (is.map Dt.nat)) (hsz : is.length ≤ sizeLine)
    (hkx : ∀ C, (compEnvC scope (cellsFrom (C + 1) scope.names cl) C env).scope.kind = .function)
    (k : ∀ s' (D : Nat) (as : List Nat), But (Frm env) s s' → Sit M X env (put ρ y (.ptr D)) s'.heap → s.heap.objs.size ≤ D → LsAt s'.heap D (as.map Dt.ptr) → as.length = is.length → (∀ (i a j : Nat), as[i]? = some a → is[i]? = some j → s.heap.objs.size ≤ a ∧ LsAt s'.heap a [.nat j]) → Q .next s')
    (hsw : swapsWith (.ListComp (.List [.Name x px'] lp) [⟨.Name x px, iter, [], 0⟩] scope pos) (some (.Name y py)) spos.line env = pure true := by rfl) (hy : env.kindOf y = some .local := by rfl) (hk : env.scope.kind = .function := by rfl)
    (hs : ∀ x, foldedSetIterable iter env x = pure x := by intro _; rfl) (hd : (x == ("__debug__" : Str)) = false := by decide) (hn : (x == ("__classdict__" : Str)) = false := by decide)
    (he : ∀ C, starEach [.Name x px'] (compEnvC scope (cellsFrom (C + 1) scope.names cl) C env) = (false, eval (.Name x px') (compEnvC scope (cellsFrom (C + 1) scope.names cl) C env)) :: starEach [] (compEnvC scope (cellsFrom (C + 1) scope.names cl) C env) := by intro _; rfl) :
    wpAny (model prog w) A (exec (.Assign [.Name y py] (.ListComp (.List [.Name x px'] lp) [⟨.Name x px, iter, [], 0⟩] scope pos) spos) env) Q E s := by
  have Sr := Sr s (But.refl s)
  rw [List.length_map] at Sr
  obtain ⟨m, hm⟩ := S.fr
  have hg : ∀ {i : Nat} {d : Dt}, i < is.length → (is.map Dt.nat)[i]? = some d → d = Dt.nat (is.getD i 0) := by
    intro i d hi e
    simp only [List.getElem?_map, List.getElem?_eq_getElem hi, Option.map_some, Option.some.injEq] at e
    have e2 : is.getD i 0 = is[i] := by simp [List.getD, List.getElem?_eq_getElem hi]
    rw [e2]; exact e.symm
  refine comp_assign hsw hy hk hm hclos B Sr hsz (fun _ => true) (fun j y h => ∃ a : Nat, y = .ref a ∧ s.heap.objs.size ≤ a ∧ LsAt h a [.nat (is.getD j 0)]) ?_ ?_ ?_ hs
  · rintro C i v s₃ hi _ us₃ Vx
    exact tsts_nil
  · rintro C i v s₃ hi ⟨d, hd', R⟩ hp us₃ Vx
    have e := hg hi hd'
    subst e
    obtain ⟨t, rfl⟩ := R.int_inv
    refine wpAny_List ?_
    rw [he]
    refine spliced_cons (name_var Vx (spliced_nil ⟨Nat.le_of_ble_eq_true rfl, Up.push _ _ _, fun h' kk => ?_⟩) (hkx C) hd hn)
    exact ⟨s₃.heap.objs.size, rfl, us₃.size, [.int _ t], ⟨_, kk _ _ (Nat.le_refl _) (Heap.get?_push_size _ rfl)⟩, .cons (.int _ _) .nil, rfl⟩
  · intro D ys s' b' hD hn O
    obtain ⟨pl, P⟩ := O.out
    have key : ∀ (js : List Nat) (ys : List Value), Paired (fun (i : Nat) y => ∃ a : Nat, y = Value.ref a ∧ s.heap.objs.size ≤ a ∧ LsAt s'.heap a [.nat (is.getD i 0)]) js ys → ∃ as : List Nat, ys = as.map Value.ref ∧ as.length = js.length ∧ ∀ (i a j : Nat), as[i]? = some a → js[i]? = some j → s.heap.objs.size ≤ a ∧ LsAt s'.heap a [.nat (is.getD j 0)] := by
      intro js ys P
      induction P with
      | nil => exact ⟨[], rfl, rfl, fun i a j e => by simp at e⟩
      | cons h _ ih =>
        obtain ⟨as, rfl, hl, hk⟩ := ih
        obtain ⟨a, rfl, h1, h2⟩ := h
        refine ⟨a :: as, rfl, by simp [hl], fun i a' j e1 e2 => ?_⟩
        cases i with
        | zero => simp at e1 e2; subst e1 e2; exact ⟨h1, h2⟩
        | succ i => exact hk i a' j (by simpa using e1) (by simpa using e2)
    have ef : (List.range is.length).filter (fun _ => true) = List.range is.length := List.filter_eq_self.mpr fun _ _ => rfl
    rw [ef] at P
    obtain ⟨as, rfl, hl, hk'⟩ := key _ _ P
    rw [List.length_range] at hl
    have rp : ∀ as : List Nat, RepL NoX s'.heap (as.map Dt.ptr) (as.map Value.ref) ∧ (as.map Dt.ptr).all Dt.imm = true := by
      intro as
      induction as with
      | nil => exact ⟨.nil, rfl⟩
      | cons a as ih => exact ⟨.cons (.ptr a) ih.1, by rw [List.map_cons, List.all_cons, ih.2]; rfl⟩
    refine k s' D as (b'.mono fun _ q => .inl q) (S.putL (v := .ref D) (.ptr D) hy b' hm hn) hD ⟨_, pl, (rp as).1, (rp as).2⟩ hl fun i a j e1 e2 => ?_
    have hi : i < is.length := (List.getElem?_eq_some_iff.mp e2).1
    have := hk' i a i e1 (by simp [hi])
    have e3 : is.getD i 0 = j := by simp [List.getD, e2]
    rwa [e3] at this
end

theorem srcD_ptr {prog : Program} {w : World} {A : Around} {M N X : Addr → Prop} {env : Env} {ρ : Str → Option Dt} {s : Shared} {x : Str} {p : Pos} {D : Addr} {ds : List Dt} (hh : A.handled = none) (S : Sit M X env ρ s.heap) (hx : ρ x = some (.ptr D)) (L : LsAt s.heap D ds) (hN : ¬ N D) (hk : env.scope.kind = .function := by rfl) (hd : (x == ("__debug__" : Str)) = false := by decide) (hn : (x == ("__classdict__" : Str)) = false := by decide) : SrcD prog w A N env s (.Name x p) ds := by
  intro s₁ u Q E k
  obtain ⟨v, V, R⟩ := (S.up u).val x _ hx
  rw [R.ptr_inv] at V
  obtain ⟨vs, pl, l, i⟩ := L.up u
  refine name_var V ?_ hk hd hn
  refine iter_list (s := s₁) (ro := fun b => ¬ N b) hh (But.refl s₁) pl.isList (.inr hN) fun I fp wr St s₂ W hst u' hwr hfp => ?_
  have e : vs.toArray.size = ds.length := by simp [l.length]
  rw [e] at W
  exact k I fp wr St s₂ (walks_imp W fun i v hi he => l.get (by simpa using he)) hst u' hwr hfp

/-! slots -/
theorem fun_keep {h h' base : Heap} : ∀ {l : List Env}, (∀ b ∈ frs l, ∀ o, h.get? b = some o → ∃ sl, h'.get? b = some { o with slots := sl }) → h.FunFrames base l → h'.FunFrames base l
  | [], _, _ => trivial
  | env :: rest, k, ⟨hk, ⟨L, o, hf, hn, ho, hd⟩, hr⟩ => by
    obtain ⟨sl, q⟩ := k L (by simp [frs, hf]) o ho
    refine ⟨hk, ⟨L, _, hf, hn, q, hd⟩, fun_keep (fun b hb => k b ?_) hr⟩
    simp only [frs, List.filterMap_cons, hf]
    exact List.mem_cons_of_mem _ hb
section
variable {FR FR' : List Addr} {T T' : Addr → Prop} {s s' s'' : Shared}
theorem Stp.trans (x : Stp FR T s s') (y : Stp FR T s' s'') : Stp FR T s s'' := by
  refine ⟨?_, fun b o t f e => y.keep b o t f (x.keep b o t f e), fun b o t e => ?_, Nat.le_trans x.size y.size⟩
  · obtain ⟨h, tk, rfl⟩ := x.same
    obtain ⟨h', tk', rfl⟩ := y.same
    exact ⟨_, _, rfl⟩
  · obtain ⟨sl, q⟩ := x.slot b o t e
    obtain ⟨sl', q'⟩ := y.slot b _ t q
    exact ⟨sl', q'⟩
theorem Stp.of (b : But T s s') : Stp FR T s s' := ⟨b.same, fun a o t _ e => b.keep a o t e, fun a o t e => ⟨o.slots, b.keep a o t e⟩, b.size⟩
theorem Stp.drop (x : Stp FR T s s') (hT : ∀ b : Nat, T b → b < s.heap.objs.size → T' b) (hF : ∀ b ∈ FR, b < s.heap.objs.size → ¬ T' b → b ∈ FR') : Stp FR' T' s s' :=
  ⟨x.same, fun b o t f e => x.keep b o (fun q => t (hT b q (Heap.lt_size e))) (fun q => f (hF b q (Heap.lt_size e) t)) e, fun b o t e => x.slot b o (fun q => t (hT b q (Heap.lt_size e))) e, x.size⟩
theorem Stp.mono (x : Stp FR T s s') (hT : ∀ b, T b → T' b) (hF : ∀ b ∈ FR, b ∈ FR') : Stp FR' T' s s' := x.drop (fun b q _ => hT b q) fun b q _ _ => hF b q
theorem Stp.funs {l : List Env} (x : Stp FR T s s') (h : ∀ b ∈ frs l, ¬ T b) (hl : s.heap.FunFrames {} l) : s'.heap.FunFrames {} l := fun_keep (fun b hb o e => x.slot b o (h b hb) e) hl
theorem GB.stp {w : World} {B : Heap} (G : GB w B s.heap) (x : Stp FR T s s') (hT : ∀ b : Nat, T b → B.objs.size ≤ b) (hF : ∀ b ∈ FR, B.objs.size ≤ b) : GB w B s'.heap :=
  ⟨G.gl, fun a o e => x.keep a o (fun q => absurd (Heap.lt_size e) (Nat.not_lt.mpr (hT a q))) (fun q => absurd (Heap.lt_size e) (Nat.not_lt.mpr (hF a q))) (G.le a o e)⟩
theorem Rep.stp {X : Addr → Prop} {d : Dt} {v : Value} (R : Rep X s.heap d v) (x : Stp FR T s s') (hT : ∀ b, T b → X b) (hF : ∀ b ∈ FR, X b) : Rep X s'.heap d v :=
  R.mono fun b o n e => ⟨x.keep b o (fun q => n (hT b q)) (fun q => n (hF b q)) e, n⟩
theorem LsAt.stp {a : Addr} {ds : List Dt} (L : LsAt s.heap a ds) (x : Stp FR T s s') (hT : ¬ T a) (hF : a ∉ FR) : LsAt s'.heap a ds := L.at fun o e => x.keep a o hT hF e
/-- slots of frames changed -/
theorem Sit.slots {M X : Addr → Prop} {env : Env} {ρ : Str → Option Dt} (S : Sit M X env ρ s.heap) (x : Stp FR NoX s s') (hF : ∀ b ∈ FR, X b) (hc : ∀ y c, env.cells.lookup y = some c → c ∉ FR) : Sit M X env ρ s'.heap where
  fr := let ⟨m, h⟩ := S.fr; ⟨m, ns_slot h fun o e => x.slot _ o (fun q => q) e⟩
  cells := fun y c e => let ⟨v, o, h, q⟩ := S.cells y c e; ⟨v, o, x.keep _ _ (fun q => q) (hc y c e) h, q⟩
  inj := S.inj
  apart := S.apart
  xl := S.xl
  xc := S.xc
  mx := S.mx
  bd := fun b h => Nat.lt_of_lt_of_le (S.bd b h) x.size
  val := fun y d e => by
    obtain ⟨v, V, R⟩ := S.val y d e
    refine ⟨v, ?_, R.stp x (fun _ q => q.elim) hF⟩
    rcases V with ⟨a, m, n, e⟩ | ⟨c, a, l, o, h, q⟩
    · exact .inl ⟨a, m, ns_slot n fun o e => x.slot _ o (fun q => q) e, e⟩
    · exact .inr ⟨c, a, l, o, x.keep _ _ (fun q => q) (hc y c l) h, q⟩
end

theorem g_sld (w : World) : nsIn (KK w) mainGlobals "sorted_list_difference" = some (some (.ref 28)) := by kernel_rfl
theorem k_sld (w : World) : keepIn (KK w) (.ref 28) = true := by kernel_rfl
section
variable {prog : Program} {w : World} {A : Around} {M X : Addr → Prop} {env : Env} {ρ : Str → Option Dt} {s : Shared} {E : Value → Shared → Prop} {B : Heap} {outer : List Env}
/-- y₁, y₂ = sorted_list_difference(e₁, e₂) -/
theorem st_sld {y₁ y₂ : Str} {p₁ p₂ tp np cp pos : Pos} {kk : Nat} {e₁ e₂ : Expr} {xs ys : List Int} {Q : Flow → Shared → Prop} (S : Sit M X env ρ s.heap) (hh : A.handled = none) (hroom : A.depth < recursionLimit) (hfr : A.frames = some outer) (hfun : s.heap.FunFrames {} outer) (G : GB w B s.heap)
    (hB : ∀ b ∈ frs outer, B.objs.size ≤ b) (hF : ∀ b ∈ frs outer, X b) (hc : ∀ y c, env.cells.lookup y = some c → c ∉ frs outer)
    (V₁ : Ev0 prog w A env s e₁ (.list (xs.map .int))) (V₂ : Ev0 prog w A env s e₂ (.list (ys.map .int))) (zx : xs.length ≤ 100) (zy : ys.length ≤ 100) (hp : xs.Pairwise (· < ·)) (hsub : ys.Sublist xs) (hy₁ : Stk y₁ env) (hy₂ : Stk y₂ env)
    (k : ∀ s', Stp (frs outer) (Frm env) s s' → Sit M X env (put (put ρ y₁ (.list ((dif xs ys).map .int))) y₂ (.list [])) s'.heap → Q .next s') (hk : env.scope.kind = .function := by rfl) (hgl : env.globals = mainGlobals := by rfl) (hx : env.kindOf "sorted_list_difference" = some .globalImplicit := by rfl)
    (ha : assignEach [.Name y₁ p₁, .Name y₂ p₂] env = [(false, assign (.Name y₁ p₁) env), (false, assign (.Name y₂ p₂) env)] := by rfl)
    (he : starEach [e₁, e₂] env = (false, eval e₁ env) :: starEach [e₂] env := by rfl) (he' : starEach [e₂] env = (false, eval e₂ env) :: starEach [] env := by rfl)
    (hs : swapsWithSole [.Tuple [.Name y₁ p₁, .Name y₂ p₂] kk tp] (.Call (.Name "sorted_list_difference" np) [e₁, e₂] [] cp) pos.line env = pure false := by rfl) (hw : swappedStores [.Tuple [.Name y₁ p₁, .Name y₂ p₂] kk tp] (.Call (.Name "sorted_list_difference" np) [e₁, e₂] [] cp) env = pure none := by rfl) :
    wpAny (model prog w) A (exec (.Assign [.Tuple [.Name y₁ p₁, .Name y₂ p₂] kk tp] (.Call (.Name "sorted_list_difference" np) [e₁, e₂] [] cp) pos) env) Q E s := by
  refine Assign_Tuple (Call_Name rfl (name_glob G.g (g_sld w) (callWith_K (K := KK w) G.g.x (k_sld w) (Evs.use (evs_cons V₁ (evs_cons V₂ evs_nil he') he) (But.refl s) fun vs s₁ u₁ _ r => ⟨(G.up u₁).g.x, ?_⟩) he (by rw [he']; rfl)) hk hx hgl)) hs hw
  obtain ⟨v₁, v₂, rfl, r₁, r₂⟩ := r.two
  obtain ⟨a₁, vs₁, rfl, _, l₁, q₁⟩ := r₁.list_inv
  obtain ⟨a₂, vs₂, rfl, _, l₂, q₂⟩ := r₂.list_inv
  have G₁ := G.up u₁
  refine sld_call (B := B) ⟨G₁.gl, G₁.le, fun b hb => Heap.get?_none_of_le (hB b hb)⟩ ⟨l₁, l₂, q₁.ints, q₂.ints, zx, zy⟩ hh hroom hfr ((Stp.of (FR := []) u₁).funs (fun _ _ q => q) hfun) hp hsub fun s₂ v st R => ?_
  have S₂ := (S.up u₁).slots st hF hc
  obtain ⟨a, vs, rfl, _, ht, l⟩ := R.tup_inv
  obtain ⟨v₁, v₂, rfl, R₁, R₂⟩ := l.two
  rw [PyProof.Rows.assign_Tuple]
  refine wpAny_bind (wpAny_standAt ?_)
  rw [ha]
  refine unpack_up (items := #[v₁, v₂]) hh ht rfl rfl fun h' u₃ => ?_
  have toX : ∀ {h : Heap} {d : Dt} {v : Value}, Rep (fun b => b < s₁.heap.objs.size) h d v → Rep X h d v := fun R => R.mono fun b o n e => ⟨e, fun q => n (Nat.lt_of_lt_of_le (S.bd b q) u₁.size)⟩
  refine assignInOrder_cons (wpAny_assign_Name ?_)
  refine Sit.store (s := { s₂ with heap := h' }) (S₂.up u₃) (toX (R₁.up u₃)) hk hy₁ fun s₄ b₄ S₄ => ?_
  have b₄X : But X { s₂ with heap := h' } s₄ := b₄.mono fun b q => S.mx b (S.frm b q)
  refine assignInOrder_cons (wpAny_assign_Name (S₄.store ((toX (R₂.up u₃)).but b₄X) hk hy₂ fun s₅ b₅ S₅ => assignInOrder_nil ?_))
  exact k s₅ (((Stp.of u₁.up).trans (st.mono (fun _ q => q.elim) fun _ q => q)).trans ((Stp.of u₃.up).trans (Stp.of (b₄.trans b₅)))) S₅
end
end Mine

/-! Lad1 -/
namespace Mine
section
variable {prog : Program} {w : World} {A : Around} {M X : Addr → Prop} {env : Env} {ρ : Str → Option Dt} {s : Shared} {E : Value → Shared → Prop}
theorem ev_last {l : Expr} {kk : Nat} {p p' p'' : Pos} {ds : List Dt} {d : Dt} (V : Ev0 prog w A env s l (.list ds)) (h0 : ds ≠ []) (hd : ds[ds.length - 1]? = some d) (im : d.imm = true)
    (hs : ∀ o x, subscripted (.UnaryOp .USub (.Constant (.int 1) kk p'') p') false o x = operate [o, x] (getItem o x) := by intro _ _; with_unfolding_all rfl) : Ev prog w A X env s (.Subscript l (.UnaryOp .USub (.Constant (.int 1) kk p'') p') p) d := by
  intro _ s₁ u
  refine Subscript_ (V.use0 u fun v₁ s₂ u₂ us₂ r₁ => wpAny_UnaryOp (wpAny_Constant_int (PyProof.Rows.neg_int ?_)))
  have u₃ : Up s₂ { s₂ with toks := s₂.toks + 1 + 1 } := Up.toks _ _
  obtain ⟨a₁, vs₁, rfl, _, p₁, l₁⟩ := (r₁.up u₃).list_inv
  obtain ⟨v, hv, r⟩ := l₁.at hd
  have hl := l₁.length
  have hpos : 0 < ds.length := List.length_pos_iff.mpr h0
  refine tail_any p₁.typeIs slot_list_getitem.lookup (wpAny_getItem_list_neg p₁ (by omega) (by simp only [List.size_toArray]; omega) (by omega) (x := v) ?_ ⟨u₂.trans u₃, r.imm im⟩) (hs _ _)
  have e : ((-1 : Int) + (vs₁.toArray.size : Nat)).toNat = ds.length - 1 := by simp only [List.size_toArray]; omega
  rw [e]
  simpa using hv
theorem ev_index {x : Str} {xp ap cp : Pos} {e : Expr} {a : Addr} {ds : List Dt} {k : Int} {j : Nat} (S : Sit M X env ρ s.heap) (hx : ρ x = some (.ptr a)) (L : LsAt s.heap a ds) (o : ds.all Dt.opt = true) (W : Ev0 prog w A env s e (.int k)) (hj : ds[j]? = some (.int k)) (hno : ∀ m d, m < j → ds[m]? = some d → hitI k d = false) (hsz : ds.length ≤ 100) {X' : Addr → Prop} {pl : Sem Bool}
    (hk : env.scope.kind = .function := by rfl) (hd : (x == ("__debug__" : Str)) = false := by decide) (hn : (x == ("__classdict__" : Str)) = false := by decide)
    (he : starEach [e] env = (false, eval e env) :: starEach [] env := by rfl)
    (hc : eval (.Call (.Attribute (.Name x xp) "index" ap) [e] [] cp) env = (do
      let ov ← eval (.Name x xp) env
      standAt ap.atName
      let (f, first) ← holding [ov] (getMethod ov "index" pl)
      callWith cp f first (backTo cp (starEach [e] env)) []) := by rfl) : Ev prog w A X' env s (.Call (.Attribute (.Name x xp) "index" ap) [e] [] cp) (.nat j) := by
  intro _ s₁ u
  refine MethodCall_ (pl := pl) ?_ hc
  obtain ⟨v, Vx, R⟩ := (S.up u).val x _ hx
  rw [R.ptr_inv] at Vx
  refine name_var Vx ?_ hk hd hn
  have L₁ := L.up u
  obtain ⟨vs, ⟨n, ho⟩, r, i⟩ := id L₁
  have pl₁ : s₁.heap.PlainList a vs.toArray := ⟨n, ho⟩
  refine getMethod_list_of PySem.F.slot_list_index PySem.F.type_list_index pl₁.isList ⟨_, ho, rfl⟩ (callWith_method1 (Evs.use (evs_cons W evs_nil he) u fun us s₂ u₂ _ r₂ => ?_) he)
  obtain ⟨v', rfl, r'⟩ := r₂.one
  obtain ⟨t, rfl⟩ := r'.int_inv
  have hl := r.length
  have hjl : j < ds.length := (List.getElem?_eq_some_iff.mp hj).1
  have val : ∀ (m : Nat) (hm : m < vs.length) (d : Dt), ds[m]? = some d → (match vs[m] with | .int i _ => i == k | _ => false) = hitI k d := by
    intro m hm d hd
    obtain ⟨v, hv, R⟩ := r.at hd
    have e : vs[m] = v := by rw [List.getElem?_eq_getElem hm] at hv; cases hv; rfl
    rw [e]
    have := List.all_eq_true.mp o d (List.mem_of_getElem? hd)
    cases d with
    | int n => obtain ⟨t', rfl⟩ := R.int_inv; rfl
    | none => rw [R.none_inv]; rfl
    | _ => exact absurd this (by simp [Dt.opt])
  refine call_meets PySem.F.slot_list_index ⟨_, u₂.le _ _ ho, rfl⟩ PySem.F.entry_list_index (PySem.F.args_list_index_2 _ _)
    (SeqAt.list_indexAt a vs.toArray n none #[] (.int k t) (fun y => match y with | .int i _ => i == k | _ => false) j (by simp only [List.size_toArray]; omega) (by omega) ?_ ?_) ⟨u₂.le _ _ ho, eq_opt (r.up u₂) o, u₂.trans (Up.toks _ _), .int _ _⟩
  · have := val j (by omega) _ hj
    simp only [hitI, beq_self_eq_true] at this
    simpa using this
  · intro m hm hlt
    simp only [List.size_toArray] at hm
    have hm' : m < ds.length := by omega
    have := val m hm _ (List.getElem?_eq_getElem hm')
    rw [hno m _ hlt (List.getElem?_eq_getElem hm')] at this
    simpa using this
end

/-! in plain -/
def nxt (f : Nat → Option Nat) (x : Nat) : Option Nat := (List.range 6).find? fun h => f h == some x
def climb (f : Nat → Option Nat) : Nat → List Nat → List Nat
  | 0, l => l
  | n + 1, l => match nxt f (l.getLastD 0) with
    | none => l
    | some h => climb f n (l ++ [h])
def feetF (f : Nat → Option Nat) : List Nat := (List.range 6).filter fun x => (f x).isNone
def ladsF (f : Nat → Option Nat) : List (List Nat) := (feetF f).map fun x => climb f 5 [x]
inductive Lads (ab : Nat → List Nat) : Nat → (Nat → Option Nat) → Prop
  | zero : Lads ab 0 (fun _ => none)
  | succ {n f b f' t'} : Lads ab n f → JL ab n (ab n) f [] b f' t' → Lads ab (n + 1) f'
theorem low_any (f : Nat → Option Nat) (x : Nat) : (lowD f).any (hitI (x : Int)) = (nxt f x).isSome := by
  rw [Bool.eq_iff_iff]
  unfold lowD nxt
  simp only [List.any_map, List.any_eq_true, List.find?_isSome, Function.comp]
  constructor
  · rintro ⟨i, hi, e⟩
    refine ⟨i, hi, ?_⟩
    cases h : f i with
    | none => rw [h] at e; cases e
    | some l =>
      rw [h] at e
      have : l = x := Int.ofNat.inj (by simpa [optD, hitI, Dt.nat] using e)
      simp [this]
  · rintro ⟨i, hi, e⟩
    refine ⟨i, hi, ?_⟩
    have : f i = some x := by simpa using e
    rw [this]; simp [optD, hitI]
theorem nxt_some {f : Nat → Option Nat} {x j : Nat} (h : nxt f x = some j) : j < 6 ∧ f j = some x ∧ ∀ m, m < j → f m ≠ some x := by
  unfold nxt at h
  rw [List.find?_range_eq_some] at h
  obtain ⟨h1, h2, h3⟩ := h
  exact ⟨by simpa using h2, by simpa using h1, fun m hm => by simpa using h3 m hm⟩
theorem dif_feet (f : Nat → Option Nat) : dif ((List.range 6).map fun i : Nat => (i : Int)) (((List.range 6).filter fun i => (f i).isSome).map fun i : Nat => (i : Int)) = (feetF f).map fun i : Nat => (i : Int) := by
  unfold dif feetF
  rw [List.filter_map]
  congr 1
  apply List.filter_congr
  intro x hx
  rw [Bool.eq_iff_iff]
  simp only [Function.comp, Bool.not_eq_true', ← Bool.not_eq_true, List.contains_iff_mem, List.mem_map, List.mem_filter, Int.natCast_inj]
  cases h : f x with
  | none => simp [h]
  | some l => simpa [h] using hx
end Mine

/-! Lad2 -/
namespace Mine
def fdLad : FuncData := fdOf (topS 9) "_law_ladders" (.str "law_mj0182_01" 312) (.ref 117)
theorem lad_at (w : World) : DefAt w 118 fdLad (dBody (topS 9)) := ⟨by kernel_rfl, by kernel_rfl, rfl, rfl, rfl, rfl⟩
theorem lad_bind (a : Value) : bindArgs fdLad ⟨[a], []⟩ = pure [(("above" : Str), a)] := by kernel_rfl
/-- the rungs of one ladder -/
theorem climb_last (f : Nat → Option Nat) (n : Nat) (l : List Nat) (h : nxt f (l.getLastD 0) = none) : climb f n l = l := by
  cases n with
  | zero => rfl
  | succ n => show (match nxt f (l.getLastD 0) with | none => l | some h => climb f n (l ++ [h])) = l; rw [h]
theorem climb_next (f : Nat → Option Nat) (n : Nat) (l : List Nat) {j : Nat} (h : nxt f (l.getLastD 0) = some j) : climb f (n + 1) l = climb f n (l ++ [j]) := by
  show (match nxt f (l.getLastD 0) with | none => l | some h => climb f n (l ++ [h])) = _; rw [h]
theorem last_at {l : List Nat} (h : l ≠ []) : (l.map Dt.nat)[(l.map Dt.nat).length - 1]? = some (.nat (l.getLastD 0)) := by
  rw [List.length_map, List.getElem?_map, ← List.getLast?_eq_getElem?]
  rw [List.getLast?_eq_some_getLast h]
  cases l with
  | nil => exact absurd rfl h
  | cons a l => rfl
section
variable {prog : Program} {w : World} {A : Around} {M X : Addr → Prop} {env : Env} {ρ : Str → Option Dt} {s : Shared} {E : Value → Shared → Prop} {B : Heap} {outer : List Env}
def whileS : Stmt := match nth (dBody (topS 9)) 5 with
  | .For _ _ b _ _ => nth b 0
  | s => s
theorem lad_while {a al : Addr} {f : Nat → Option Nat} {x : Nat} {Q : Flow → Shared → Prop} (hfd : ∃ L, env = callEnvC fdLad L 118) (hh : A.handled = none) (G : GB w B s.heap) (ha : B.objs.size ≤ a) (S : Sit M X env ρ s.heap) (e1 : ρ "ladder" = some (.ptr a)) (e2 : ρ "lower" = some (.ptr al)) (L1 : LsAt s.heap al (lowD f)) (L2 : LsAt s.heap a [.nat x]) (hXa : X a) (hF : ¬ Frm env a) (hne : al ≠ a)
    (k : ∀ s', But (· = a) s s' → Sit M X env ρ s'.heap → LsAt s'.heap a ((climb f 5 [x]).map Dt.nat) → Q .next s') : wpAny (model prog w) A (exec whileS env) Q E s := by
  obtain ⟨L, rfl⟩ := hfd
  refine wpAny_While (codeAny_whileLoop (fun n s' => ∃ l : List Nat, But (· = a) s s' ∧ Sit M X (callEnvC fdLad L 118) ρ s'.heap ∧ LsAt s'.heap a (l.map Dt.nat) ∧ climb f (6 - l.length) l = climb f 5 [x] ∧ l ≠ [] ∧ l.length ≤ 6 ∧ n = 6 - l.length) ?_ 5 ⟨[x], But.refl _, S, L2, rfl, by simp, by simp, by simp⟩)
  rintro n s₁ ⟨l, b₁, S₁, L2₁, hc, hl, h6, rfl⟩
  have L1₁ : LsAt s₁.heap al (lowD f) := L1.but b₁ hne
  have G₁ : GB w B s₁.heap := G.but b₁ fun b q => q ▸ ha
  have hne' : l.map Dt.nat ≠ [] := by simpa using hl
  refine Tst.use (b := (nxt f (l.getLastD 0)).isSome && decide (l.length < 6)) (tst_and (Tst.eq (tst_cmp (ev_last (ev_name0 (S₁.hasP (x := "ladder") e1 L2₁)) hne' (last_at hl) rfl) (ev_name0 (S₁.hasP (x := "lower") e2 L1₁)) (cmp_in (lowD_opt f))) (low_any f _)) fun _ => Tst.eq (tst_cmp (ev_len G₁.g rfl rfl rfl (ev_name0 (S₁.hasP (x := "ladder") e1 L2₁)) (by rw [List.length_map]; omega)) ev_int cmp_lt) (by rw [List.length_map]; simp only [decide_eq_decide]; omega)) (But.refl s₁) fun s₂ u₂ _ => ?_
  have S₂ := S₁.up u₂
  have b₂ := b₁.trans u₂.up
  cases hx : nxt f (l.getLastD 0) with
  | none =>
    rw [climb_last f _ l hx] at hc
    exact wpAny_execs_nil (k s₂ b₂ S₂ (hc ▸ L2₁.up u₂))
  | some j =>
    by_cases hlt : l.length < 6
    · rw [show ((some j).isSome && decide (l.length < 6)) = true by simp [hlt]]
      simp only [if_true]
      obtain ⟨hj6, hfj, hno⟩ := nxt_some hx
      have L1₂ := L1₁.up u₂
      have L2₂ := L2₁.up u₂
      refine wpAny_execs_cons (st_append (d := .nat j) S₂ (x := "ladder") e1 L2₂ (ev_index S₂ (x := "lower") e2 L1₂ (lowD_opt f) (ev_last (ev_name0 (S₂.hasP (x := "ladder") e1 L2₂)) hne' (last_at hl) rfl) (by rw [lowD_at hj6, hfj]; rfl) (fun m d hm hd => ?_) (by simp [lowD])) rfl hXa hF (by rw [List.length_map]; omega) fun s₃ b₃ S₃ L2₃ => ?_)
      · rw [lowD_at (by omega)] at hd
        cases hd
        cases hf : f m with
        | none => rfl
        | some y =>
          have := hno m hm
          rw [hf] at this
          have : y ≠ l.getLastD 0 := fun e => this (by rw [e])
          show ((y : Int) == ((l.getLastD 0 : Nat) : Int)) = false
          exact beq_eq_false_iff_ne.mpr fun e => this (Int.ofNat.inj e)
      · refine wpAny_execs_nil ⟨6 - (l ++ [j]).length, by simp; omega, l ++ [j], b₂.trans b₃, S₃, by simpa using L2₃, ?_, by simp, by simp; omega, rfl⟩
        rw [← hc, show 6 - l.length = (6 - (l ++ [j]).length) + 1 by simp; omega, climb_next f _ l hx]
    · rw [show ((some j).isSome && decide (l.length < 6)) = false by simp [hlt]]
      have e : 6 - l.length = 0 := by omega
      rw [e] at hc
      exact wpAny_execs_nil (k s₂ b₂ S₂ (hc ▸ L2₁.up u₂))
end
end Mine

/-! Lad3 -/
namespace Mine
theorem nats_ints (l : List Nat) : l.map Dt.nat = (l.map fun i : Nat => (i : Int)).map Dt.int := by rw [List.map_map]; rfl
theorem range_inc : ((List.range 6).map fun i : Nat => (i : Int)).Pairwise (· < ·) := by decide
theorem feet_lt (f : Nat → Option Nat) : ∀ x ∈ feetF f, x < 6 := fun x hx => List.mem_range.mp (List.mem_filter.mp hx).1
theorem feet_nodup (f : Nat → Option Nat) : (feetF f).Nodup := List.Pairwise.filter _ List.nodup_range
theorem nodup_inj {l : List Nat} (hn : l.Nodup) {i j : Nat} (hi : i < l.length) (hj : j < l.length) (e : l[i] = l[j]) : i = j := by
  have := List.pairwise_iff_getElem.mp hn
  rcases Nat.lt_trichotomy i j with h | h | h
  · exact absurd e (this i j hi hj h)
  · exact h
  · exact absurd e.symm (this j i hj hi h)
section
variable {prog : Program} {w : World} {A : Around} {s : Shared} {E : Value → Shared → Prop} {B : Heap} {outer : List Env} {Y : Addr → Prop}
theorem LsAt.inj {h : Heap} {a : Addr} {x y : Nat} (L : LsAt h a [.nat x]) (L' : LsAt h a [.nat y]) : x = y := by
  obtain ⟨vs, ⟨n, e⟩, r, _⟩ := L
  obtain ⟨vs', ⟨n', e'⟩, r', _⟩ := L'
  rw [e] at e'
  have e3 : vs = vs' := by injection e' with e'; injection e' with _ _ e'; injection e' with e'; injection e'
  subst e3
  cases r with | cons a _ => cases r' with | cons b _ => cases a; cases b; rfl
theorem LsAt.ptrs {h : Heap} {a : Addr} {x : Nat} {as : List Nat} (L : LsAt h a [.nat x]) (L' : LsAt h a (as.map Dt.ptr)) : False := by
  obtain ⟨vs, ⟨n, e⟩, r, _⟩ := L
  obtain ⟨vs', ⟨n', e'⟩, r', _⟩ := L'
  rw [e] at e'
  have e3 : vs = vs' := by injection e' with e'; injection e' with _ _ e'; injection e' with e'; injection e'
  subst e3
  cases r with | cons a _ => cases as with
    | nil => cases r'
    | cons b as => cases r' with | cons b _ => cases a; cases b
theorem Sit.reX {M X X' : Addr → Prop} {env : Env} {ρ : Str → Option Dt} {h : Heap} (S : Sit M X env ρ h) (hM : ∀ b, M b → X' b) (bd : ∀ b : Nat, X' b → b < h.objs.size) (im : ∀ x d, ρ x = some d → d.imm = true) : Sit M X' env ρ h :=
  { S with mx := hM, bd := bd, val := fun x d e => let ⟨v, V, R⟩ := S.val x d e; ⟨v, V, R.imm (im x d e)⟩ }
theorem RepL.ptrs {h : Heap} {X : Addr → Prop} : ∀ {as : List Nat} {vs : List Value}, RepL X h (as.map Dt.ptr) vs → vs = as.map Value.ref
  | [], _, .nil => rfl
  | a :: as, _, .cons b r => by rw [b.ptr_inv, RepL.ptrs r]; rfl
theorem RepL.lads {h : Heap} {n : Nat} {g : Nat → List Nat} : ∀ {as xs : List Nat}, as.length = xs.length → (∀ i a x : Nat, as[i]? = some a → xs[i]? = some x → n ≤ a ∧ LsAt h a ((g x).map Dt.nat)) → RepL (fun b => b < n) h (xs.map fun x => .list ((g x).map Dt.nat)) (as.map Value.ref)
  | [], [], _, _ => .nil
  | a :: as, x :: xs, hl, k => by
    obtain ⟨h1, vs, p, r, i⟩ := k 0 a x rfl rfl
    exact .cons (.list (Nat.not_lt.mpr h1) p.isList (r.imm i)) (RepL.lads (by simpa using hl) fun i a' x' e1 e2 => k (i + 1) a' x' (by simpa using e1) (by simpa using e2))
set_option maxHeartbeats 2000000 in
theorem ladders_call (ab : Nat → List Nat) (hab : ∀ p, p < 6 → ∀ q ∈ ab p, q < 6) {va : Value} (G : GB w B s.heap) (hh : A.handled = none) (hroom : A.depth + 12 < recursionLimit) (hfr : A.frames = some outer) (hfun : s.heap.FunFrames {} outer)
    (hB : ∀ b ∈ frs outer, B.objs.size ≤ b) (hF : ∀ b ∈ frs outer, Y b) (hY : ∀ b : Nat, Y b → b < s.heap.objs.size) (hBs : B.objs.size ≤ s.heap.objs.size) (Ra : Rep Y s.heap (aboveD ab) va) :
    wpAny (model prog w) A (call (.ref 118) [va]) (fun v s' => ∃ f, Lads ab 6 f ∧ Stp (frs outer) NoX s s' ∧ Rep (fun b => b < s.heap.objs.size) s'.heap (.list ((ladsF f).map fun l => .list (l.map Dt.nat))) v) E s := by
  refine enterX [(("above" : Str), va)] (put (fun _ => none) "above" (aboveD ab)) NoX Y (fun _ q => q.elim) hY (lad_at w) G.g (by omega) (lad_bind _) ?_ ?_ fun s₁ u hFr S => ?_
  · intro y hy
    rw [List.mem_singleton] at hy
    subst hy
    exact .inl (by kernel_rfl)
  · intro y d e
    dsimp only [put] at e
    split at e
    · rename_i h; cases e; subst h; exact ⟨_, Ra, .inl ⟨by kernel_rfl, by kernel_rfl⟩⟩
    · cases e
  have hout : ∀ b ∈ frs outer, b < s.heap.objs.size := fun b hb => hY b (hF b hb)
  have zs : s.heap.objs.size ≤ s₁.heap.objs.size := u.size
  have frsE : frs ((callEnvC fdLad s.heap.objs.size 118) :: outer) = s.heap.objs.size :: frs outer := rfl
  have hfr' : (A.deeper (callEnvC fdLad s.heap.objs.size 118)).frames = some ((callEnvC fdLad s.heap.objs.size 118) :: outer) := Around.frames_deeper hfr
  have hcn : ∀ y c, ((callEnvC fdLad s.heap.objs.size 118)).cells.lookup y = some c → c ∉ frs ((callEnvC fdLad s.heap.objs.size 118) :: outer) := by
    intro y c e q
    rw [frsE] at q
    rcases List.mem_cons.mp q with q | q
    · exact S.apart y c e q
    · exact absurd (hout c q) (Nat.not_lt.mpr (hFr c (.inr ⟨y, e⟩)).1)
  have hroom' : (A.deeper (callEnvC fdLad s.heap.objs.size 118)).depth + 11 < recursionLimit := by show A.depth + 1 + 11 < _; omega
  have hX0 : ∀ b ∈ frs ((callEnvC fdLad s.heap.objs.size 118) :: outer), Nw s s₁ b ∨ Y b := fun b q => by
    rw [frsE] at q
    rcases List.mem_cons.mp q with q | q
    · rw [q]; exact S.mx _ S.xl
    · exact .inr (hF b q)
  have hBF : ∀ b ∈ frs ((callEnvC fdLad s.heap.objs.size 118) :: outer), B.objs.size ≤ b := fun b q => by
    rw [frsE] at q
    rcases List.mem_cons.mp q with q | q
    · rw [q]; exact hBs
    · exact hB b q
  have hBT : ∀ b : Nat, s.heap.objs.size ≤ b → B.objs.size ≤ b := fun b q => Nat.le_trans hBs q
  have gb : ∀ {s'}, Stp (frs ((callEnvC fdLad s.heap.objs.size 118) :: outer)) (fun b : Nat => s.heap.objs.size ≤ b) s s' → GB w B s'.heap := fun st => G.stp st hBT hBF
  have st₁ : Stp (frs ((callEnvC fdLad s.heap.objs.size 118) :: outer)) (fun b : Nat => s.heap.objs.size ≤ b) s s₁ := Stp.of u.up
  -- lower
  refine wpAny_execs_cons (wpAny_Assign_Name (wpAny_List (Evs.use (evs_cons ev_none (evs_cons ev_none (evs_cons ev_none (evs_cons ev_none (evs_cons ev_none (evs_cons ev_none evs_nil)))))) (But.refl s₁) fun vs s₂ u₂ _ r => ⟨by rw [r.length]; exact Nat.le_of_ble_eq_true rfl, ?_⟩)))
  have u₃ : Up s₁ { s₂ with heap := s₂.heap.push { cls := .type "list", data := .seq vs.toArray } } := u₂.trans (Up.push _ _ s₂.toks)
  have La : LsAt (s₂.heap.push { cls := .type "list", data := .seq vs.toArray }) s₂.heap.objs.size (lowD fun _ => none) := ⟨vs, ⟨_, Heap.get?_push_size _ rfl⟩, r.imm rfl, rfl⟩
  have hal : s₁.heap.objs.size ≤ s₂.heap.objs.size := u₂.size
  have z₃ : (s₂.heap.push { cls := .type "list", data := .seq vs.toArray }).objs.size = s₂.heap.objs.size + 1 := Heap.size_push ..
  generalize hh3 : ({ s₂ with heap := s₂.heap.push { cls := .type "list", data := .seq vs.toArray } } : Shared) = s₃ at u₃ ⊢
  have hh3' : s₂.heap.push { cls := .type "list", data := .seq vs.toArray } = s₃.heap := by rw [← hh3]
  rw [hh3'] at La z₃
  generalize hala : s₂.heap.objs.size = al at La hal z₃ ⊢
  have S₃ := (S.more (Y := fun b => b = al) u₃ (fun b (q : b = al) => by subst q; exact ⟨hal, by omega⟩)).moreM (Y := fun b => b = al) (fun b q => .inr q)
  have hFal : ¬ Frm (callEnvC fdLad s.heap.objs.size 118) al := fun q => absurd (hFr al q).2 (Nat.not_lt.mpr hal)
  have st₃ := st₁.trans (Stp.of u₃.up)
  refine S₃.store (.ptr al) rfl (.inr ⟨rfl, rfl⟩) fun s₄ b₄ S₄ => ?_
  have b₄' : But (fun b : Nat => s.heap.objs.size ≤ b) s₃ s₄ := b₄.mono fun b q => (hFr b q).1
  have st₄ := st₃.trans (Stp.of b₄')
  have La₄ := La.but b₄ hFal
  have G₄ := gb st₄
  have lal4 : al < s₄.heap.objs.size := La₄.lt
  -- the joining
  have hM4 : ∀ b : Nat, (((Nw s s₁ b ∨ NoX b) ∨ b = al)) → s.heap.objs.size ≤ b := fun b q => by
    rcases q with (q | q) | q
    · exact q.1
    · exact q.elim
    · rw [q]; exact Nat.le_trans zs hal
  refine wpAny_execs_cons (st_forD (is := List.range 6) (g := Dt.nat) S₄ (srcD_range G₄.g rfl rfl rfl hh ev_int (by decide)) (fun _ => rfl) (.inl rfl)
    (fun i ρ h => ρ "above" = some (aboveD ab) ∧ ρ "lower" = some (.ptr al) ∧ ∃ f, LsAt h al (lowD f) ∧ JOk f [] ∧ Lads ab i f) ?_ ⟨rfl, rfl, _, La₄, ⟨fun i l e => (nomatch e), List.nodup_nil, fun x hx => (nomatch hx)⟩, .zero⟩ ?_ ?_)
  · rintro i ρ' h h' ⟨e1, e2, f, L1, J, K⟩ kk
    exact ⟨e1, e2, f, L1.at fun o e => kk _ o lal4 hFal e, J, K⟩
  · rintro X₁ i j ρ' s₅ hX1 hX2 hj b₅ ⟨e1, e2, f, L1, J, K⟩ S₅
    have hji : j = i ∧ i < 6 := by
      obtain ⟨h1, h2⟩ := List.getElem?_eq_some_iff.mp hj
      simp at h1 h2
      exact ⟨h2.symm, h1⟩
    obtain ⟨rfl, hj6⟩ := hji
    have st₅ := st₄.trans (Stp.of (b₅.mono hM4))
    have G₅ := gb st₅
    obtain ⟨va', Va, Rva⟩ := S₅.val "above" _ e1
    obtain ⟨vl, Vl, Rvl⟩ := S₅.val "lower" _ e2
    rw [Rvl.ptr_inv] at Vl
    obtain ⟨vi, Vi, Rvi⟩ := S₅.val "low" (.nat j) rfl
    obtain ⟨tk, rfl⟩ := Rvi.int_inv
    refine wpAny_execs_cons (wpAny_Expr (Call_Name rfl (name_glob G₅.g (g_join w) (callWith_K (K := KK w) G₅.g.x (k_join w) ?_))))
    refine spliced_cons (name_var Va (spliced_cons (name_var Vl (spliced_cons (wpAny_List (spliced_nil ⟨Nat.le_of_ble_eq_true rfl, ?_⟩))))))
    have u₆ := Up.push s₅ { cls := .type "list", data := .seq ([] : List Value).toArray } s₅.toks
    have Lt : LsAt (s₅.heap.push { cls := .type "list", data := .seq ([] : List Value).toArray }) s₅.heap.objs.size (([] : List Nat).map Dt.nat) := ⟨[], ⟨_, Heap.get?_push_size _ rfl⟩, .nil, rfl⟩
    have z₆ : (s₅.heap.push { cls := .type "list", data := .seq ([] : List Value).toArray }).objs.size = s₅.heap.objs.size + 1 := Heap.size_push ..
    generalize hh6 : ({ s₅ with heap := s₅.heap.push { cls := .type "list", data := .seq ([] : List Value).toArray } } : Shared) = s₆ at u₆ ⊢
    have hh6' : s₅.heap.push { cls := .type "list", data := .seq ([] : List Value).toArray } = s₆.heap := by rw [← hh6]
    rw [hh6'] at Lt z₆
    have xal : X₁ al := hX1 _ (.inr rfl)
    have hal5 : al < s₅.heap.objs.size := L1.lt
    have hBat : B.objs.size ≤ s₅.heap.objs.size := Nat.le_trans hBs (Nat.le_trans (Nat.le_trans zs hal) (Nat.le_of_lt hal5))
    have z5 : s.heap.objs.size ≤ s₅.heap.objs.size := (Nat.le_trans (Nat.le_trans zs hal) (Nat.le_of_lt hal5))
    generalize hat : s₅.heap.objs.size = at_ at Lt z₆ hal5 hBat z5 ⊢
    have G₆ := G₅.up u₆
    refine spliced_cons (name_var (Vi.le u₆.le) (spliced_nil ⟨G₆.g.x, ?_⟩))
    have S₆ := S₅.more (Y := fun b => b = at_) u₆ (fun b (q : b = at_) => by subst q; exact ⟨Nat.le_of_eq hat, by omega⟩)
    refine wpAny_mono (joined_call (B := B) (al := al) (at_ := at_) ab hab (hBT _ (Nat.le_trans zs hal)) hBat (Nat.ne_of_lt hal5) trivial 6 (A.deeper (callEnvC fdLad s.heap.objs.size 118)) s₆ (fun b => X₁ b ∨ b = at_) f [] j tk va' hh (by omega) G₆ (.inl xal) (.inr rfl) S₆.bd ?_ (L1.up u₆) Lt J hj6 (by simp)) (fun v s₇ h₇ => ?_) fun _ _ q => q.elim
    · exact Rva.mono fun b o n e => ⟨u₆.le b o e, fun q => q.elim n fun q => absurd (Heap.lt_size e) (by rw [q, hat]; exact Nat.lt_irrefl _)⟩
    obtain ⟨b, f₇, t₇, rfl, H, b₇, L1₇, L2₇⟩ := h₇
    have ok₇ := H.ok hab hj6 (hab j hj6) J
    have hFat : ¬ Frm (callEnvC fdLad s.heap.objs.size 118) at_ := fun q => absurd (hFr at_ q).2 (Nat.not_lt.mpr (Nat.le_trans hal (Nat.le_of_lt hal5)))
    have S₇ := S₆.but b₇ (fun b q => q.elim (fun e => e ▸ .inl xal) fun e => .inr e) (fun q => q.elim (fun e => hFal (.inl e.symm)) fun e => hFat (.inl e.symm)) fun y c e q => q.elim (fun q => hFal (.inr ⟨y, q ▸ e⟩)) fun q => hFat (.inr ⟨y, q ▸ e⟩)
    have S₈ := S₇.less X₁ (fun b q => .inl q) S₅.mx
    refine wpAny_execs_nil ⟨((u₆.up (X := fun b => b = al ∨ b = at_)).trans b₇).drop fun b q hl => q.elim .inr fun q => absurd hl (by rw [q, hat]; exact Nat.lt_irrefl _), put ρ' "low" (.nat j), ⟨e1, e2, f₇, L1₇, ⟨ok₇.1.lt, List.nodup_nil, fun x hx => (nomatch hx)⟩, .succ K H⟩, S₈⟩
  · rintro s₅ ρ' b₅ ⟨e1, e2, f, L1, J, K⟩ S₅
    rw [List.length_range] at K
    have st₅ := st₄.trans (Stp.of (b₅.mono hM4))
    have G₅ := gb st₅
    show wpAny _ _ (execs _ _) _ _ _
    -- joined
    refine wpAny_execs_cons (st_comp (List.range 6) (g := Dt.nat) (f := Dt.nat) (fun i => (f i).isSome) S₅ (cellx := false) (cl := [("lower", s.heap.objs.size + 1)]) (by rfl) blk (srcD_range G₅.g rfl rfl rfl hh ev_int (by decide)) (by decide) (fun C i s₆ hi u₆ H => ?_) (fun C i s₆ hi _ u₆ H => ev_name H) fun s₆ b₆ S₆ => ?_)
    · have hi6 : i < 6 := List.mem_range.mp hi
      refine tsts_one (Tst.eq (tst_cmp (ev_item0 (ev_name0 ((S₅.hasP (x := "lower") e2 L1).up u₆).inn) (ev_name0 H) (by omega) (by omega) (by simpa using lowD_at (f := f) hi6)) ev_none cmp_isnot_none) ?_)
      cases f i <;> rfl
    have hFrT : ∀ b : Nat, Frm (callEnvC fdLad s.heap.objs.size 118) b → s.heap.objs.size ≤ b := fun b q => (hFr b q).1
    have st₆ := st₅.trans (Stp.of (b₆.mono hFrT))
    have L1₆ := L1.but b₆ hFal
    have G₆ := gb st₆
    have fun₆ : s₆.heap.FunFrames {} ((callEnvC fdLad s.heap.objs.size 118) :: outer) := by
      obtain ⟨m, hm⟩ := S₆.fr
      exact Heap.FunFrames.cons (fun q => nomatch q) rfl hm rfl (st₆.funs (fun b q => Nat.not_le.mpr (hout b q)) hfun)
    -- feet
    refine wpAny_execs_cons (st_sld (xs := (List.range 6).map fun i : Nat => (i : Int)) (ys := ((List.range 6).filter fun i => (f i).isSome).map fun i : Nat => (i : Int)) S₆ hh (by omega) hfr' fun₆ G₆ hBF (fun b q => .inl (hX0 b q)) hcn
      (Ev.eq (ev_listRange G₆.g rfl rfl rfl hh (n := 6) ev_int (by decide)) (by rw [nats_ints])) (Ev.eq (ev_name0 (S₆.has (x := "joined") rfl)) (by rw [nats_ints])) (by decide) ?_ range_inc ?_ (.inl rfl) (.inl rfl) fun s₇ t₇ S₇ => ?_)
    · rw [List.length_map]
      have := List.length_filter_le (fun i => (f i).isSome) (List.range 6)
      rw [List.length_range] at this
      omega
    · exact (List.filter_sublist).map _
    rw [dif_feet, ← nats_ints] at S₇
    have st₇ := st₆.trans (t₇.mono hFrT fun _ q => q)
    have L1₇ : LsAt s₇.heap al (lowD f) := L1₆.stp t₇ hFal (fun q => by
      rw [frsE] at q
      rcases List.mem_cons.mp q with q | q
      · exact hFal (.inl q)
      · exact absurd (hout al q) (Nat.not_lt.mpr (Nat.le_trans zs hal)))
    have G₇ := gb st₇
    -- ladders
    refine wpAny_execs_cons (st_compL (feetF f) S₇ (cellx := false) (cl := []) (by rfl) blk (srcD_name hh (S₇.has (x := "feet") rfl)) ?_ (fun _ => rfl) fun s₈ D as b₈ S₈ hD LD hlen has => ?_)
    · have := List.length_filter_le (fun i => (f i).isNone) (List.range 6)
      rw [List.length_range] at this
      unfold feetF sizeLine
      omega
    have st₈ := st₇.trans (Stp.of (b₈.mono hFrT))
    have L1₈ := L1₇.but b₈ hFal
    have G₈ := gb st₈
    have z₇ : s.heap.objs.size ≤ s₇.heap.objs.size := st₇.size
    have hal7 : al < s₇.heap.objs.size := L1₇.lt
    have hasL : ∀ a : Nat, a ∈ as → s₇.heap.objs.size ≤ a ∧ a < s₈.heap.objs.size ∧ ∃ x, LsAt s₈.heap a [.nat x] := fun a ha => by
      obtain ⟨i, hi, e⟩ := List.getElem_of_mem ha
      have hx : i < (feetF f).length := by omega
      have q := has i a (feetF f)[i] (by rw [List.getElem?_eq_getElem hi, e]) (List.getElem?_eq_getElem hx)
      exact ⟨q.1, q.2.lt, _, q.2⟩
    have hDas : D ∉ as := fun q => by obtain ⟨_, _, x, L⟩ := hasL D q; exact L.ptrs LD
    have hinj : ∀ i j a : Nat, as[i]? = some a → as[j]? = some a → i = j := fun i j a e1 e2 => by
      have h1 : i < (feetF f).length := by have := (List.getElem?_eq_some_iff.mp e1).1; omega
      have h2 : j < (feetF f).length := by have := (List.getElem?_eq_some_iff.mp e2).1; omega
      have q1 := (has i a _ e1 (List.getElem?_eq_getElem h1)).2
      have q2 := (has j a _ e2 (List.getElem?_eq_getElem h2)).2
      exact nodup_inj (feet_nodup f) h1 h2 (q1.inj q2)
    have S₉ := ((S₈.forget (put (put (fun _ => none) "lower" (.ptr al)) "ladders" (.ptr D)) (fun x d e => by
      dsimp only [put] at e ⊢
      split at e
      · rename_i h; subst h; exact e
      · rename_i h
        split at e
        · rename_i h'; subst h'; cases e; exact e2
        · cases e)).reX (X' := fun b => ((Nw s s₁ b ∨ Y b) ∨ b = al) ∨ b ∈ as) (fun b q => .inl (S₈.mx b q)) (fun b q => q.elim (S₈.bd b) fun q => (hasL b q).2.1) (fun x d e => by
      dsimp only [put] at e
      split at e
      · cases e; rfl
      · split at e
        · cases e; rfl
        · cases e)).moreM (Y := fun b => b ∈ as) (fun b q => .inr q)
    have hFas : ∀ a ∈ as, ¬ Frm (callEnvC fdLad s.heap.objs.size 118) a := fun a ha q => absurd (hFr a q).2 (Nat.not_lt.mpr (Nat.le_trans (Nat.le_trans hal (Nat.le_of_lt hal7)) (hasL a ha).1))
    have hFD : ¬ Frm (callEnvC fdLad s.heap.objs.size 118) D := fun q => absurd (hFr D q).2 (Nat.not_lt.mpr (Nat.le_trans (Nat.le_trans hal (Nat.le_of_lt hal7)) hD))
    have halas : al ∉ as := fun q => absurd hal7 (Nat.not_lt.mpr (hasL al q).1)
    have hMD : ¬ (((Nw s s₁ D ∨ NoX D) ∨ D = al) ∨ D ∈ as) := fun q => by
      rcases q with ((q | q) | q) | q
      · exact absurd q.2 (Nat.not_lt.mpr (Nat.le_trans (Nat.le_trans hal (Nat.le_of_lt hal7)) hD))
      · exact q
      · rw [q] at hD; exact absurd hal7 (Nat.not_lt.mpr hD)
      · exact hDas q
    have hM9 : ∀ b : Nat, ((((Nw s s₁ b ∨ NoX b) ∨ b = al)) ∨ b ∈ as) → s.heap.objs.size ≤ b := fun b q => q.elim (hM4 b) fun q => Nat.le_trans z₇ (hasL b q).1
    refine wpAny_execs_cons (st_forD (is := as) (g := Dt.ptr) S₉ (srcD_ptr hh S₉ rfl LD hMD) (fun _ => rfl) (.inl rfl)
      (fun i ρ h => ρ "lower" = some (.ptr al) ∧ ρ "ladders" = some (.ptr D) ∧ LsAt h al (lowD f) ∧ LsAt h D (as.map Dt.ptr) ∧ ∀ j a x : Nat, as[j]? = some a → (feetF f)[j]? = some x → LsAt h a ((if j < i then climb f 5 [x] else [x]).map Dt.nat))
      ?_ ⟨rfl, rfl, L1₈, LD, fun j a x h1 h2 => (has j a x h1 h2).2⟩ ?_ ?_)
    · rintro i ρ' h h' ⟨q1, q2, q3, q4, q5⟩ kk
      exact ⟨q1, q2, q3.at fun o e => kk _ o L1₈.lt hFal e, q4.at fun o e => kk _ o LD.lt hFD e, fun j a x h1 h2 => (q5 j a x h1 h2).at fun o e => kk _ o (hasL a (List.mem_of_getElem? h1)).2.1 (hFas a (List.mem_of_getElem? h1)) e⟩
    · rintro X₁ i a ρ' s₉ hX1 hX2 hj b₉ ⟨q1, q2, q3, q4, q5⟩ S₉'
      have ha := List.mem_of_getElem? hj
      have hi : i < (feetF f).length := by have := (List.getElem?_eq_some_iff.mp hj).1; omega
      have st₉ := st₈.trans (Stp.of (b₉.mono hM9))
      have L2 := q5 i a _ hj (List.getElem?_eq_getElem hi)
      rw [if_neg (Nat.lt_irrefl _)] at L2
      refine wpAny_execs_cons (lad_while (al := al) (a := a) (f := f) (x := (feetF f)[i]) ⟨_, rfl⟩ hh (gb st₉) (hBT _ (Nat.le_trans z₇ (hasL a ha).1)) S₉' rfl q1 q3 L2 (hX1 _ (.inr ha)) (hFas a ha) (fun e => halas (e ▸ ha)) fun s' b' S' L' => ?_)
      have hDa : D ≠ a := fun e => hDas (e ▸ ha)
      refine wpAny_execs_nil ⟨b'.mono fun b q => .inr (q ▸ ha), put ρ' "ladder" (.ptr a), ⟨q1, q2, q3.but b' (fun e => halas (e ▸ ha)), q4.but b' hDa, fun j a' x h1 h2 => ?_⟩, S'⟩
      by_cases e : a' = a
      · subst e
        have := hinj j i a' h1 hj
        subst this
        rw [List.getElem?_eq_getElem hi] at h2
        cases h2
        rw [if_pos (Nat.lt_succ_self _)]
        exact L'
      · have hji : j ≠ i := fun q => e (by subst q; rw [h1] at hj; cases hj; rfl)
        have := (q5 j a' x h1 h2).but b' e
        by_cases hlt : j < i
        · rw [if_pos hlt] at this; rw [if_pos (by omega)]; exact this
        · rw [if_neg hlt] at this; rw [if_neg (by omega)]; exact this
    · rintro s₉ ρ' b₉ ⟨q1, q2, q3, q4, q5⟩ S₉'
      have st₉ := st₈.trans (Stp.of (b₉.mono hM9))
      obtain ⟨v, V, R⟩ := S₉'.val "ladders" _ q2
      rw [R.ptr_inv] at V
      refine wpAny_execs_cons (wpAny_Return_some (name_var V ?_))
      refine ⟨f, K, st₉.drop (fun b q hl => absurd hl (Nat.not_lt.mpr q)) (fun b q hl _ => ?_), ?_⟩
      · rw [frsE] at q
        rcases List.mem_cons.mp q with q | q
        · rw [q] at hl; exact absurd hl (Nat.lt_irrefl _)
        · exact q
      · obtain ⟨vs, p, r, _⟩ := q4
        rw [r.ptrs] at p
        refine .list (vs := as.map Value.ref) (Nat.not_lt.mpr (Nat.le_trans z₇ hD)) p.isList ?_
        unfold ladsF
        rw [List.map_map]
        refine RepL.lads hlen fun i a x h1 h2 => ⟨Nat.le_trans z₇ (hasL a (List.mem_of_getElem? h1)).1, ?_⟩
        have := q5 i a x h1 h2
        rwa [if_pos (List.getElem?_eq_some_iff.mp h1).1] at this
end
end Mine

/-! Flr1 -/
namespace Mine
def floorF (lt : Nat → Nat → Bool) (left : List Nat) : List Nat := left.filter fun p => (left.filter fun q => lt q p).isEmpty
def floorsGo (lt : Nat → Nat → Bool) : Nat → List Nat → Nat
  | 0, _ => 0
  | n + 1, left => if left.isEmpty then 0 else 1 + floorsGo lt n (left.filter fun p => !(floorF lt left).contains p)
def lessD (lt : Nat → Nat → Bool) : Dt := .list ((List.range 6).map fun p => .list ((List.range 6).map fun q => .bool (lt p q)))
theorem dif_nat (l m : List Nat) : dif (l.map fun i : Nat => (i : Int)) (m.map fun i : Nat => (i : Int)) = (l.filter fun p => !m.contains p).map fun i : Nat => (i : Int) := by
  unfold dif
  rw [List.filter_map]
  congr 1
  apply List.filter_congr
  intro x _
  rw [Bool.eq_iff_iff]
  simp only [Function.comp, Bool.not_eq_true', ← Bool.not_eq_true, List.contains_iff_mem, List.mem_map, Int.natCast_inj]
  simp
theorem inc_nat {l : List Nat} (h : l.Pairwise (· < ·)) : (l.map fun i : Nat => (i : Int)).Pairwise (· < ·) := by
  rw [List.pairwise_map]
  exact h.imp fun q => by omega
def fdFlr : FuncData := fdOf (topS 10) "_law_floors" (.str "law_mj0182_01" 312) (.ref 122)
theorem flr_at (w : World) : DefAt w 123 fdFlr (dBody (topS 10)) := ⟨by kernel_rfl, by kernel_rfl, rfl, rfl, rfl, rfl⟩
theorem flr_bind (a : Value) : bindArgs fdFlr ⟨[a], []⟩ = pure [(("less" : Str), a)] := by kernel_rfl
section
variable {prog : Program} {w : World} {A : Around} {s : Shared} {E : Value → Shared → Prop} {B : Heap} {outer : List Env} {Y : Addr → Prop}
set_option maxHeartbeats 2000000 in
theorem floors_call (lt : Nat → Nat → Bool) {va : Value} (G : GB w B s.heap) (hh : A.handled = none) (hroom : A.depth + 12 < recursionLimit) (hu : A.units + 10 < cLine) (hfr : A.frames = some outer) (hfun : s.heap.FunFrames {} outer)
    (hB : ∀ b ∈ frs outer, B.objs.size ≤ b) (hF : ∀ b ∈ frs outer, Y b) (hY : ∀ b : Nat, Y b → b < s.heap.objs.size) (hBs : B.objs.size ≤ s.heap.objs.size) (Ra : Rep Y s.heap (lessD lt) va) :
    wpAny (model prog w) A (call (.ref 123) [va]) (fun v s' => Stp (frs outer) NoX s s' ∧ Rep NoX s'.heap (.nat (floorsGo lt 6 (List.range 6))) v) E s := by
  refine enterX [(("less" : Str), va)] (put (fun _ => none) "less" (lessD lt)) NoX Y (fun _ q => q.elim) hY (flr_at w) G.g (by omega) (flr_bind _) ?_ ?_ fun s₁ u hFr S => ?_
  · intro y hy
    rw [List.mem_singleton] at hy
    subst hy
    exact .inr ⟨by kernel_rfl, by kernel_rfl⟩
  · intro y d e
    dsimp only [put] at e
    split at e
    · rename_i h; cases e; subst h; exact ⟨_, Ra, .inr ⟨by kernel_rfl, by kernel_rfl, by kernel_rfl⟩⟩
    · cases e
  have hout : ∀ b ∈ frs outer, b < s.heap.objs.size := fun b hb => hY b (hF b hb)
  have zs : s.heap.objs.size ≤ s₁.heap.objs.size := u.size
  have frsE : frs ((callEnvC fdFlr s.heap.objs.size 123) :: outer) = s.heap.objs.size :: frs outer := rfl
  have hfr' : (A.deeper (callEnvC fdFlr s.heap.objs.size 123)).frames = some ((callEnvC fdFlr s.heap.objs.size 123) :: outer) := Around.frames_deeper hfr
  have hcn : ∀ y c, ((callEnvC fdFlr s.heap.objs.size 123)).cells.lookup y = some c → c ∉ frs ((callEnvC fdFlr s.heap.objs.size 123) :: outer) := by
    intro y c e q
    rw [frsE] at q
    rcases List.mem_cons.mp q with q | q
    · exact S.apart y c e q
    · exact absurd (hout c q) (Nat.not_lt.mpr (hFr c (.inr ⟨y, e⟩)).1)
  have hroom' : (A.deeper (callEnvC fdFlr s.heap.objs.size 123)).depth + 11 < recursionLimit := by show A.depth + 1 + 11 < _; omega
  have hu' : (A.deeper (callEnvC fdFlr s.heap.objs.size 123)).units < cLine := by show A.units + 3 < _; omega
  have hX0 : ∀ b ∈ frs ((callEnvC fdFlr s.heap.objs.size 123) :: outer), Nw s s₁ b ∨ Y b := fun b q => by
    rw [frsE] at q
    rcases List.mem_cons.mp q with q | q
    · rw [q]; exact S.mx _ S.xl
    · exact .inr (hF b q)
  have hBF : ∀ b ∈ frs ((callEnvC fdFlr s.heap.objs.size 123) :: outer), B.objs.size ≤ b := fun b q => by
    rw [frsE] at q
    rcases List.mem_cons.mp q with q | q
    · rw [q]; exact hBs
    · exact hB b q
  have hBT : ∀ b : Nat, s.heap.objs.size ≤ b → B.objs.size ≤ b := fun b q => Nat.le_trans hBs q
  have gb : ∀ {s'}, Stp (frs ((callEnvC fdFlr s.heap.objs.size 123) :: outer)) (fun b : Nat => s.heap.objs.size ≤ b) s s' → GB w B s'.heap := fun st => G.stp st hBT hBF
  have st₁ : Stp (frs ((callEnvC fdFlr s.heap.objs.size 123) :: outer)) (fun b : Nat => s.heap.objs.size ≤ b) s s₁ := Stp.of u.up
  have hFrT : ∀ b : Nat, Frm (callEnvC fdFlr s.heap.objs.size 123) b → s.heap.objs.size ≤ b := fun b q => (hFr b q).1
  have G₁ := gb st₁
  refine wpAny_execs_cons (st_assign S (ev_listRange G₁.g rfl rfl rfl hh (n := 6) ev_int (by decide)) (.inr ⟨rfl, rfl⟩) fun s₂ b₂ S₂ => ?_)
  have st₂ := st₁.trans (Stp.of (b₂.mono hFrT))
  refine wpAny_execs_cons (st_assign (d := .nat 0) S₂ ev_int (.inl rfl) fun s₃ b₃ S₃ => ?_)
  have st₃ := st₂.trans (Stp.of (b₃.mono hFrT))
  refine wpAny_execs_cons (wpAny_While (codeAny_whileLoop (fun n s' => ∃ left k ρ, Stp (frs ((callEnvC fdFlr s.heap.objs.size 123) :: outer)) (fun b : Nat => s.heap.objs.size ≤ b) s s' ∧ Sit (fun b => Nw s s₁ b ∨ NoX b) (fun b => Nw s s₁ b ∨ Y b) (callEnvC fdFlr s.heap.objs.size 123) ρ s'.heap ∧ ρ "less" = some (lessD lt) ∧ ρ "left" = some (.list (left.map Dt.nat)) ∧ ρ "floors" = some (.nat k) ∧ left.Pairwise (· < ·) ∧ (∀ x ∈ left, x < 6) ∧ left.length ≤ 6 ∧ k + floorsGo lt (6 - k) left = floorsGo lt 6 (List.range 6) ∧ k ≤ 6 ∧ n = 6 - k)
    ?_ 6 ⟨List.range 6, 0, _, st₃, S₃, rfl, rfl, rfl, by decide, by decide, by decide, by simp, by decide, rfl⟩))
  rintro n s₄ ⟨left, k, ρ, st₄, S₄, e1, e2, e3, hp, h6, hlen, hgo, hk, rfl⟩
  have G₄ := gb st₄
  refine Tst.use (b := !(left.map Dt.nat).isEmpty && decide (k < 6)) (tst_and (tst_cmp (ev_name0 (S₄.has (x := "left") e2)) ev_nil (cmp_ne_nil hu')) fun _ => Tst.eq (tst_cmp (ev_name0 (S₄.has (x := "floors") e3)) ev_int cmp_lt) (by simp only [decide_eq_decide]; omega)) (But.refl s₄) fun s₅ u₅ _ => ?_
  have S₅ := S₄.up u₅
  have st₅ := st₄.trans (Stp.of u₅.up)
  have G₅ := gb st₅
  rw [show (left.map Dt.nat).isEmpty = left.isEmpty by cases left <;> rfl]
  have ret : ∀ s', Stp (frs ((callEnvC fdFlr s.heap.objs.size 123) :: outer)) (fun b : Nat => s.heap.objs.size ≤ b) s s' → Stp (frs outer) NoX s s' := fun s' st => st.drop (fun b q hl => absurd hl (Nat.not_lt.mpr q)) (fun b q hl _ => by
    rw [frsE] at q
    rcases List.mem_cons.mp q with q | q
    · rw [q] at hl; exact absurd hl (Nat.lt_irrefl _)
    · exact q)
  by_cases hc : (!left.isEmpty && decide (k < 6)) = true
  · rw [hc]
    simp only [if_true]
    simp only [Bool.and_eq_true, Bool.not_eq_true', decide_eq_true_eq] at hc
    refine wpAny_execs_cons (st_comp left (g := Dt.nat) (f := Dt.nat) (fun p => (left.filter fun q => lt q p).isEmpty) S₅ (cellx := true) (cl := [("less", s.heap.objs.size + 1), ("left", s.heap.objs.size + 2)]) (by rfl) blk (srcD_name hh (S₅.has (x := "left") e2)) (by unfold sizeLine; omega) (fun C p s₆ hp u₆ H => ?_) (fun C i s₆ hi _ u₆ H => ev_name H) fun s₆ b₆ S₆ => ?_)
    · have hL := (S₅.has (x := "less") e1).up u₆
      have hleft := (S₅.has (x := "left") e2).up u₆
      refine tsts_one (Tst.eq (tst_cmp (ev_comp left (g := Dt.nat) (f := Dt.nat) (fun q => lt q p) (cellx := false) (cl := [("p", C + 1), ("less", s.heap.objs.size + 1)]) (by rfl) blk (srcD_name hh hleft.inn) (by unfold sizeLine; omega) (fun C' q s₇ hq u₇ H' => ?_) (fun C' q s₇ hq _ u₇ H' => ev_name H')) ev_nil (cmp_eq_nil hu')) (by cases (left.filter fun q => lt q p) <;> rfl))
      have hp6 := h6 p hp
      have hq6 := h6 q hq
      exact tsts_one (tst_val (ev_itemR (f := fun p => .bool (lt q p)) (ev_itemR0 (f := fun p => .list ((List.range 6).map fun q => .bool (lt p q))) (ev_name0 (hL.inn.up u₇).inn) (ev_name0 H') hq6) (ev_name0 (H.up u₇).inn) hp6))
    have st₆ := st₅.trans (Stp.of (b₆.mono hFrT))
    have G₆ := gb st₆
    have fun₆ : s₆.heap.FunFrames {} ((callEnvC fdFlr s.heap.objs.size 123) :: outer) := by
      obtain ⟨m, hm⟩ := S₆.fr
      exact Heap.FunFrames.cons (fun q => nomatch q) rfl hm rfl (st₆.funs (fun b q => Nat.not_le.mpr (hout b q)) hfun)
    have hfl : (left.filter fun p => (left.filter fun q => lt q p).isEmpty).length ≤ left.length := List.length_filter_le _ _
    refine wpAny_execs_cons (st_sld (xs := left.map fun i : Nat => (i : Int)) (ys := (left.filter fun p => (left.filter fun q => lt q p).isEmpty).map fun i : Nat => (i : Int)) S₆ hh (by omega) hfr' fun₆ G₆ hBF hX0 hcn
      (Ev.eq (ev_name0 (S₆.has (x := "left") e2)) (by rw [nats_ints])) (Ev.eq (ev_name0 (S₆.has (x := "floor") rfl)) (by rw [nats_ints])) (by rw [List.length_map]; omega) (by rw [List.length_map]; omega) (inc_nat hp) (List.filter_sublist.map _) (.inr ⟨rfl, rfl⟩) (.inl rfl) fun s₇ t₇ S₇ => ?_)
    rw [dif_nat, ← nats_ints] at S₇
    have st₇ := st₆.trans (t₇.mono hFrT fun _ q => q)
    refine wpAny_execs_cons (st_aug_add (y := "floors") (a := (k : Int)) (b := 1) S₇ e3 ev_int (.inl rfl) fun s₈ b₈ S₈ => ?_)
    have st₈ := st₇.trans (Stp.of (b₈.mono hFrT))
    refine wpAny_execs_nil ⟨6 - (k + 1), by omega, left.filter (fun p => !(floorF lt left).contains p), k + 1, _, st₈, S₈, e1, rfl, rfl, hp.filter _, fun x hx => h6 x (List.mem_filter.mp hx).1, Nat.le_trans (List.length_filter_le _ _) hlen, ?_, by omega, rfl⟩
    rw [← hgo, show 6 - k = (6 - (k + 1)) + 1 by omega]
    show _ = k + (if left.isEmpty = true then 0 else 1 + floorsGo lt (6 - (k + 1)) (left.filter fun p => !(floorF lt left).contains p))
    rw [hc.1]
    simp only [Bool.false_eq_true, if_false]
    omega
  · rw [Bool.not_eq_true] at hc
    rw [hc]
    simp only [Bool.false_eq_true, if_false]
    have z : floorsGo lt (6 - k) left = 0 := by
      simp only [Bool.and_eq_false_iff, Bool.not_eq_false', decide_eq_false_iff_not] at hc
      rcases hc with hc | hc
      · cases 6 - k with
        | zero => rfl
        | succ n => show (if left.isEmpty = true then 0 else _) = 0; rw [hc]; rfl
      · rw [show 6 - k = 0 by omega]; rfl
    rw [z] at hgo
    refine wpAny_execs_nil ?_
    obtain ⟨v, V, R⟩ := S₅.val "floors" _ e3
    refine wpAny_execs_cons (wpAny_Return_some (name_var V ⟨ret _ st₅, ?_⟩))
    rw [← hgo]
    exact R.imm rfl
end
end Mine

/-! Law1 -/
namespace Mine
def lawEnv (L a : Addr) (cd : Value) : Env := envOfC "law" (dScope (topS 11)) L a cd
def lawB (i : Nat) : Stmt := nth (dBody (topS 11)) i
structure LW (w : World) (B : Heap) (s₀ : Shared) (X : Addr → Prop) (env : Env) (ρ : Str → Option Dt) (s : Shared) : Prop where
  g : GB w B s.heap
  bt : But (fun b : Nat => B.objs.size ≤ b) s₀ s
  S : Sit X X env ρ s.heap
  hx : ∀ b : Nat, X b → B.objs.size ≤ b
section
variable {prog : Program} {w : World} {A : Around} {M X : Addr → Prop} {env : Env} {ρ ρ' : Str → Option Dt} {s s' s₀ : Shared} {E : Value → Shared → Prop} {B : Heap}
theorem LW.step (W : LW w B s₀ X env ρ s) {Y : Addr → Prop} (b : But Y s s') (hY : ∀ a, Y a → X a) (S' : Sit X X env ρ' s'.heap) : LW w B s₀ X env ρ' s' :=
  ⟨W.g.but b fun a q => W.hx a (hY a q), W.bt.trans (b.mono fun a q => W.hx a (hY a q)), S', W.hx⟩
theorem LW.fstep (W : LW w B s₀ X env ρ s) (b : But (Frm env) s s') (S' : Sit X X env ρ' s'.heap) : LW w B s₀ X env ρ' s' := W.step b W.S.frm S'
theorem LW.up (W : LW w B s₀ X env ρ s) (u : Up s s') : LW w B s₀ X env ρ s' := ⟨W.g.up u, W.bt.trans u.up, W.S.up u, W.hx⟩
/-- x[k] += e on a list of ints -/
theorem st_augItem {x y : Str} {xp yp p pos : Pos} {e : Expr} {a : Addr} {ds : List Dt} {j : Nat} {n m : Int} {Q : Flow → Shared → Prop} (S : Sit M X env ρ s.heap) (hx : ρ x = some (.ptr a)) (L : LsAt s.heap a ds) (W : Ev0 prog w A env s (.Name y yp) (.int j)) (hj : ds[j]? = some (.int n)) (V : Ev0 prog w A env s e (.int m)) (hXa : X a) (hF : ¬ Frm env a) (hsz : ds.length ≤ 100)
    (k : ∀ s', But (· = a) s s' → Sit M X env ρ s'.heap → LsAt s'.heap a (ds.set j (.int (n + m))) → Q .next s')
    (hk : env.scope.kind = .function := by rfl) (hd : (x == ("__debug__" : Str)) = false := by decide) (hn : (x == ("__classdict__" : Str)) = false := by decide) :
    wpAny (model prog w) A (exec (.AugAssign (.Subscript (.Name x xp) (.Name y yp) p) .Add e pos) env) Q E s := by
  refine wpAny_AugAssign_Subscript ?_
  obtain ⟨vx, Vx, Rx⟩ := S.val x _ hx
  rw [Rx.ptr_inv] at Vx
  refine name_var Vx (W.use0 (But.refl s) fun v' s₃ u₃ us₃ R' => ?_) hk hd hn
  obtain ⟨t, rfl⟩ := R'.int_inv
  have L₃ := L.up u₃
  obtain ⟨vs, ⟨c, ho⟩, r, ii⟩ := id L₃
  have pl₃ : s₃.heap.PlainList a vs.toArray := ⟨c, ho⟩
  obtain ⟨v, hv, Rv⟩ := r.at hj
  obtain ⟨tv, rfl⟩ := Rv.int_inv
  have hjl : j < ds.length := (List.getElem?_eq_some_iff.mp hj).1
  refine wpAny_getItem_list pl₃.isList (by omega) (by omega) (by simpa using hv) ?_
  refine V.use0 u₃ fun v₂ s₄ u₄ us₄ R₄ => ?_
  obtain ⟨t₄, rfl⟩ := R₄.int_inv
  refine wpAny_iadd_int ?_
  have u₅ : Up s₄ { s₄ with toks := s₄.toks + 1 } := Up.toks _ _
  have us₅ := us₄.trans u₅
  have hl := r.length
  have ho₅ := (u₄.trans u₅).le _ _ ho
  refine any_size (ki_setAt ho₅ (by omega) (by omega) (by simp only [List.size_toArray]; omega) fun z => ?_)
  have b₃ : But (· = a) { s₄ with toks := s₄.toks + 1 } { s₄ with heap := s₄.heap.update a (Obj.mapSeq (·.setIfInBounds (j : Int).toNat (.int (n + m) s₄.toks))), toks := s₄.toks + 1 } := ⟨⟨_, _, rfl⟩, fun b o q e => by rw [← e]; exact Heap.get?_update_other _ _ (Ne.symm q), z⟩
  refine k _ ((us₅.up (X := (· = a))).trans b₃) (Sit.but (s := { s₄ with toks := s₄.toks + 1 }) (S.up us₅) b₃ (fun b q => q ▸ hXa) (fun q => hF (.inl q.symm)) fun y c e q => hF (.inr ⟨y, q ▸ e⟩)) ⟨vs.set j (.int (n + m) s₄.toks), ?_, (r.imm ii).set (.int _ _) j, all_set rfl j ii⟩
  have e := Heap.get?_update_self (Obj.mapSeq (·.setIfInBounds (j : Int).toNat (Value.int (n + m) s₄.toks))) ho₅ rfl
  exact ⟨c, e.trans (by simp [Obj.mapSeq])⟩
end
def sdD (sd : Nat → Int) : List Dt := (List.range 6).map fun i => .int (sd i)
theorem sdD_set {sd : Nat → Int} {j : Nat} {n : Int} : (sdD sd).set j (.int n) = sdD (fun i => if i = j then n else sd i) := by
  unfold sdD
  apply List.ext_getElem
  · simp
  · intro i h1 h2
    simp only [List.getElem_set, List.getElem_map, List.getElem_range]
    by_cases h : j = i
    · subst h; simp
    · rw [if_neg h, if_neg (fun e => h e.symm)]
section
variable {prog : Program} {w : World} {A : Around} {X : Addr → Prop} {s s₀ : Shared} {E : Value → Shared → Prop} {B : Heap} {a : Addr} {cd : Value}
theorem law_seeds {ρ : Str → Option Dt} {Q : Flow → Shared → Prop} (W : LW w B s₀ X (lawEnv B.objs.size a cd) ρ s)
    (k : ∀ s' as, LW w B s₀ (fun b => X b ∨ b = as) (lawEnv B.objs.size a cd) (put ρ "seeds" (.ptr as)) s' → ¬ Frm (lawEnv B.objs.size a cd) as → (∃ sd, LsAt s'.heap as (sdD sd)) → Q .next s') :
    wpAny (model prog w) A (exec (lawB 0) (lawEnv B.objs.size a cd)) Q E s := by
  refine wpAny_Assign_Name (wpAny_List (Evs.use (evs_cons ev_int (evs_cons ev_int (evs_cons ev_int (evs_cons ev_int (evs_cons ev_int (evs_cons ev_int evs_nil)))))) (But.refl s) fun vs s₂ u₂ _ r => ⟨by rw [r.length]; exact Nat.le_of_ble_eq_true rfl, ?_⟩))
  have S := W.S
  have u₃ : Up s { s₂ with heap := s₂.heap.push { cls := .type "list", data := .seq vs.toArray } } := u₂.trans (Up.push _ _ s₂.toks)
  have La : ∃ sd, LsAt (s₂.heap.push { cls := .type "list", data := .seq vs.toArray }) s₂.heap.objs.size (sdD sd) := ⟨fun i => if i = 0 then 1 else if i = 1 then 7 else if i = 2 then 2 else if i = 3 then 14 else if i = 4 then 8 else 4, vs, ⟨_, Heap.get?_push_size _ rfl⟩, r.imm rfl, rfl⟩
  have hal : s.heap.objs.size ≤ s₂.heap.objs.size := u₂.size
  have z₃ : (s₂.heap.push { cls := .type "list", data := .seq vs.toArray }).objs.size = s₂.heap.objs.size + 1 := Heap.size_push ..
  have hFal : ¬ Frm (lawEnv B.objs.size a cd) s₂.heap.objs.size := fun q => absurd (S.bd _ (S.frm _ q)) (Nat.not_lt.mpr hal)
  have hBs : B.objs.size ≤ s.heap.objs.size := Nat.le_of_lt (Nat.lt_of_le_of_lt (W.hx _ S.xl) (S.bd _ S.xl))
  have S₃ := (S.more (Y := fun b => b = s₂.heap.objs.size) u₃ (fun b (q : b = s₂.heap.objs.size) => by subst q; exact ⟨hal, by show _ < (s₂.heap.push _).objs.size; omega⟩)).moreM (Y := fun b => b = s₂.heap.objs.size) (fun b q => .inr q)
  refine Sit.store (s := { s₂ with heap := s₂.heap.push { cls := .type "list", data := .seq vs.toArray } }) S₃ (.ptr s₂.heap.objs.size) rfl (.inl rfl) fun s₄ b₄ S₄ => ?_
  have W₃ := W.up u₃
  have hx' : ∀ b : Nat, X b ∨ b = s₂.heap.objs.size → B.objs.size ≤ b := fun b q => q.elim (W.hx b) fun q => by rw [q]; exact Nat.le_trans hBs hal
  refine k s₄ s₂.heap.objs.size ⟨W₃.g.but b₄ fun b q => W.hx b (S.frm b q), W₃.bt.trans (b₄.mono fun b q => W.hx b (S.frm b q)), S₄, hx'⟩ hFal ?_
  obtain ⟨sd, L⟩ := La
  exact ⟨sd, L.at fun o e => b₄.keep _ _ hFal e⟩
theorem law_fill {ρ : Str → Option Dt} {ns : List Int} {as : Addr} {Q : Flow → Shared → Prop} (hh : A.handled = none) (W : LW w B s₀ X (lawEnv B.objs.size a cd) ρ s) (e1 : ρ "script" = some (.list (ns.map .int))) (hns : ns.length ≤ 63) (e2 : ρ "seeds" = some (.ptr as)) (hXa : X as) (hF : ¬ Frm (lawEnv B.objs.size a cd) as) (L : ∃ sd, LsAt s.heap as (sdD sd))
    (k : ∀ s' ρ', LW w B s₀ X (lawEnv B.objs.size a cd) ρ' s' → ρ' "seeds" = some (.ptr as) → (∃ sd, LsAt s'.heap as (sdD sd)) → Q .next s') :
    wpAny (model prog w) A (exec (lawB 1) (lawEnv B.objs.size a cd)) Q E s := by
  have lt : as < s.heap.objs.size := let ⟨_, L⟩ := L; L.lt
  refine st_forD (is := List.range 6) (g := Dt.nat) W.S (srcD_range W.g.g rfl rfl rfl hh ev_int (by decide)) (fun _ => rfl) (.inr ⟨rfl, rfl⟩)
    (fun i ρ h => ρ "script" = some (.list (ns.map .int)) ∧ ρ "seeds" = some (.ptr as) ∧ ∃ sd, LsAt h as (sdD sd)) ?_ ⟨e1, e2, L⟩ ?_ ?_
  · rintro i ρ' h h' ⟨e1, e2, sd, L⟩ kk
    exact ⟨e1, e2, sd, L.at fun o e => kk _ o lt hF e⟩
  · rintro X₁ i j ρ' s₁ hX1 hX2 hj b₁ ⟨e1, e2, sd, L⟩ S₁
    have hj6 : j < 6 := by
      obtain ⟨h1, h2⟩ := List.getElem?_eq_some_iff.mp hj
      simp at h1 h2; omega
    have G₁ := W.g.but b₁ W.hx
    have hlen : (ns.take 24).length ≤ 24 := by rw [List.length_take]; omega
    refine wpAny_execs_cons (st_augItem (x := "seeds") (j := j) (n := sd j) S₁ e2 L (ev_name0 (S₁.has (x := "k") (d := .nat j) rfl)) (by unfold sdD; simp [hj6]) (ev_abs G₁.g rfl rfl rfl (ev_sum (ns := pickNums (ns.take 24) (some j) none (some 6)) G₁.g rfl rfl rfl hh (ev_sliceG (o₁ := some (j : Int)) (o₂ := none) (o₃ := some 6) ?_ (evp_some (ev_name0 (S₁.has (x := "k") (d := .nat j) rfl))) evp_none (evp_some ev_int) (by simp) (fun o x => [o, x]) ?_))) (hX1 _ hXa) hF (by simp [sdD]) fun s₂ b₂ S₂ L₂ => ?_)
    · intro s₂ u₂
      refine Ev.use0 (ev_slice (ns := ns) (ms := ns.take 24) (o₁ := none) (o₂ := some 24) (ev_name0 (S₁.has (x := "script") e1)) evp_none (evp_some ev_int) (by unfold sizeLine; omega) fun vs h => slice_ints_uptoW h (by decide)) u₂ fun v s₃ u₃ _ R => ?_
      obtain ⟨a, vs, rfl, _, pl, l⟩ := R.list_inv
      exact ⟨u₃, a, vs, rfl, pl, by rw [l.length, List.length_map]; unfold sizeLine; omega, l.ints.pick _ _ _⟩
    · intro o x; with_unfolding_all rfl
    · rw [sdD_set] at L₂
      exact wpAny_execs_nil ⟨b₂.mono fun b q => q ▸ hXa, put ρ' "k" (.nat j), ⟨e1, e2, _, L₂⟩, S₂⟩
  · rintro s' ρ' b' ⟨e1, e2, L⟩ S'
    exact k s' ρ' (W.step b' (fun _ q => q) S') e2 L
end
end Mine

/-! Law2 -/
namespace Mine
def csOf (x : Int) : List Nat := (List.range (x.fmod 6).toNat).map fun k : Nat => if ((((x.fdiv 6).fdiv (2 ^ ((k : Int).toNat))).fmod 2) == 1) = true then 9 else 32
theorem cs_sign (x : Int) : ∀ c ∈ csOf x, c = 32 ∨ c = 9 := by
  intro c hc
  obtain ⟨k, _, rfl⟩ := List.mem_map.mp hc
  split
  · exact .inr rfl
  · exact .inl rfl
theorem cs_len (x : Int) : (csOf x).length ≤ 5 := by
  have := Int.fmod_lt_of_pos x (show (0 : Int) < 6 by decide)
  have := Int.fmod_nonneg_of_pos x (show (0 : Int) < 6 by decide)
  unfold csOf
  rw [List.length_map, List.length_range]
  omega
theorem glue_nil : ∀ (rest : List Str) (acc : Array Nat), (rest.foldl (fun acc p => acc ++ (("" : Str)).cps ++ p.cps) acc).toList = acc.toList ++ rest.flatMap (·.cps.toList)
  | [], acc => by simp
  | p :: rest, acc => by
    rw [List.foldl_cons, glue_nil rest, Array.toList_append, Array.toList_append, List.flatMap_cons]
    have : (("" : Str)).cps.toList = [] := rfl
    rw [this, List.append_nil, List.append_assoc]
theorem join_cps : ∀ parts : List Str, (Txt.join "" parts).cps.toList = parts.flatMap (·.cps.toList)
  | [] => rfl
  | p :: rest => by
    show ((List.drop 1 (p :: rest)).foldl _ p.cps).toList = _
    rw [List.drop_one, List.tail_cons, glue_nil, List.flatMap_cons]
theorem txt_cps (x : Int) : (txtF x).cps.toList = csOf x := by
  unfold txtF txtL csOf
  rw [join_cps]
  generalize (x.fmod 6).toNat = n
  induction List.range n with
  | nil => rfl
  | cons k l ih =>
    rw [List.map_cons, List.flatMap_cons, ih, List.map_cons]
    unfold bitT
    split <;> rfl
theorem txt_x (x : Int) : ((txtF x) ++ ("x" : Str)).cps.toList = csOf x ++ [120] := by
  show ((txtF x).cps ++ (("x" : Str)).cps).toList = _
  rw [Array.toList_append, txt_cps]; rfl
theorem txt_len (x : Int) : (txtF x).length ≤ 5 := by
  have := cs_len x
  rw [← txt_cps, Array.length_toList] at this
  exact this
theorem g_text (w : World) : nsIn (KK w) mainGlobals "_law_text" = some (some (.ref 99)) := by kernel_rfl
theorem k_text (w : World) : keepIn (KK w) (.ref 99) = true := by kernel_rfl
theorem g_col (w : World) : nsIn (KK w) mainGlobals "_law_column" = some (some (.ref 106)) := by kernel_rfl
theorem k_col (w : World) : keepIn (KK w) (.ref 106) = true := by kernel_rfl
theorem m_less (w : World) : findIn (KK w) (.ref 90) "less" = some (some (.ref 80)) := by kernel_rfl
theorem t_less (w : World) : typeIn (KK w) (.ref 80) = some (.type "function") := by kernel_rfl
theorem k_less (w : World) : keepIn (KK w) (.ref 80) = true := by kernel_rfl
theorem range_all : (List.range 6).filter (fun _ => true) = List.range 6 := by decide
def wsD (x : Int) : Dt := .ws (wsRun (csOf x)).n (wsRun (csOf x)).nt (wsRun (csOf x)).count (wsRun (csOf x)).b
def ltW (x y : Int) : Bool := lessF (wsRun (csOf x)).n (wsRun (csOf x)).nt (wsRun (csOf x)).count (wsRun (csOf x)).b (wsRun (csOf y)).n (wsRun (csOf y)).nt (wsRun (csOf y)).count (wsRun (csOf y)).b
section
variable {prog : Program} {w : World} {A : Around} {X : Addr → Prop} {s s₀ : Shared} {E : Value → Shared → Prop} {B : Heap} {a : Addr} {cd : Value} {ρ : Str → Option Dt} {sd : Nat → Int}
theorem law_texts {as : Addr} {Q : Flow → Shared → Prop} (hh : A.handled = none) (hroom : A.depth + 12 < recursionLimit) (W : LW w B s₀ X (lawEnv B.objs.size a cd) ρ s) (e2 : ρ "seeds" = some (.ptr as)) (L : LsAt s.heap as (sdD sd))
    (k : ∀ s', LW w B s₀ X (lawEnv B.objs.size a cd) (put ρ "texts" (.list ((List.range 6).map fun i => .str (txtF (sd i))))) s' → Q .next s') :
    wpAny (model prog w) A (exec (lawB 2) (lawEnv B.objs.size a cd)) Q E s := by
  refine st_comp (List.range 6) (g := fun i => .int (sd i)) (f := fun i => .str (txtF (sd i))) (fun _ => true) W.S (cellx := false) (cl := []) (by rfl) blk (srcD_name hh (W.S.hasP (x := "seeds") e2 L)) (by decide) (fun C i s₃ hi u₃ H => tsts_nil) (fun C i s₃ hi _ u₃ H => ?_) fun s' b' S' => ?_
  · refine ev_callF (W.g.up u₃).g (g_text w) (k_text w) (evs_cons (ev_name0 H) evs_nil) fun vs s₁ u₁ hX r => ?_
    obtain ⟨v, rfl, r'⟩ := r.one
    obtain ⟨t, rfl⟩ := r'.int_inv
    exact text_call ((W.g.up u₃).up u₁).g hh (by omega)
  · rw [range_all] at S'
    exact k s' (W.fstep b' S')
theorem law_indents {Q : Flow → Shared → Prop} (hh : A.handled = none) (hroom : A.depth + 12 < recursionLimit) (W : LW w B s₀ X (lawEnv B.objs.size a cd) ρ s) (e1 : ρ "texts" = some (.list ((List.range 6).map fun i => .str (txtF (sd i)))))
    (k : ∀ s', LW w B s₀ X (lawEnv B.objs.size a cd) (put ρ "indents" (.list ((List.range 6).map fun i => wsD (sd i)))) s' → Q .next s') :
    wpAny (model prog w) A (exec (lawB 3) (lawEnv B.objs.size a cd)) Q E s := by
  refine st_assign W.S (ev_compA (List.range 6) (g := fun i => .str (txtF (sd i))) (f := fun i => wsD (sd i)) (cellx := false) (cl := []) (by rfl) blk (srcD_name hh (W.S.has (x := "texts") e1)) (by decide) fun C i s₃ hi u₃ H => ?_) (.inr ⟨rfl, rfl⟩) fun s' b' S' => k s' (W.fstep b' S')
  refine ev_callF (W.g.up u₃).g (g_ws w) (k_ws w) (evs_cons (ev_cat (ev_name0 H) ev_str ?_) evs_nil) fun vs s₁ u₁ hX r => ?_
  · have := txt_len (sd i)
    have e : (("x" : Str)).length = 1 := rfl
    rw [e]; unfold sizeLine; omega
  obtain ⟨v, rfl, r'⟩ := r.one
  obtain ⟨t, rfl⟩ := r'.str_inv
  exact ws_call ((W.g.up u₃).up u₁).g hh (by omega) hX (txt_x _) (cs_sign _) (Nat.le_trans (cs_len _) (by decide))
theorem run_nn : ∀ (cs : List Nat) (st : WsSt) (c : Nat), (∀ x ∈ st.count, 0 ≤ x ∧ x ≤ (c : Int)) → ∀ x ∈ (cs.foldl wsStep st).count, 0 ≤ x ∧ x ≤ ((c + cs.length : Nat) : Int)
  | [], st, c, h => by simpa using h
  | d :: cs, st, c, h => by
    have hp : ∀ x ∈ padC st.count st.b, 0 ≤ x ∧ x ≤ (c : Int) := by
      intro x hx
      unfold padC at hx
      split at hx
      · rcases List.mem_append.mp hx with q | q
        · exact h x q
        · have := List.eq_of_mem_replicate q; omega
      · exact h x hx
    have key : ∀ x ∈ (wsStep st d).count, 0 ≤ x ∧ x ≤ ((c + 1 : Nat) : Int) := by
      intro x hx
      unfold wsStep at hx
      split at hx
      · have := h x hx; omega
      · rcases List.mem_or_eq_of_mem_set hx with q | q
        · have := hp x q; omega
        · have hz : 0 ≤ (padC st.count st.b).getD st.b 0 ∧ (padC st.count st.b).getD st.b 0 ≤ (c : Int) := by
            cases e : (padC st.count st.b)[st.b]? with
            | none => simp [List.getD, e]
            | some y => simpa [List.getD, e] using hp y (List.mem_of_getElem? e)
          omega
    have := run_nn cs (wsStep st d) (c + 1) key
    intro x hx
    have := this x hx
    rw [List.length_cons]; omega
theorem ws_ok (x : Int) : wsOk (wsRun (csOf x)).count (wsRun (csOf x)).b := by
  have h := run_small (csOf x)
  have l := cs_len x
  refine ⟨by omega, fun y hy => ?_, by omega, by omega⟩
  have := run_nn (csOf x) ⟨0, 0, 0, []⟩ 0 (fun _ q => nomatch q) y hy
  omega
theorem law_less {Q : Flow → Shared → Prop} (hh : A.handled = none) (hroom : A.depth + 12 < recursionLimit) (W : LW w B s₀ X (lawEnv B.objs.size a cd) ρ s) (e1 : ρ "indents" = some (.list ((List.range 6).map fun i => wsD (sd i))))
    (k : ∀ s', LW w B s₀ X (lawEnv B.objs.size a cd) (put ρ "less" (lessD fun i j => ltW (sd i) (sd j))) s' → Q .next s') :
    wpAny (model prog w) A (exec (lawB 4) (lawEnv B.objs.size a cd)) Q E s := by
  refine st_assign (d := lessD fun i j => ltW (sd i) (sd j)) W.S (ev_compA (List.range 6) (g := fun i => wsD (sd i)) (cellx := true) (cl := [("indents", B.objs.size + 2)]) (by rfl) blk (srcD_name hh (W.S.has (x := "indents") e1)) (by decide) fun C i s₃ hi u₃ H => ?_) (.inr ⟨rfl, rfl⟩) fun s' b' S' => k s' (W.fstep b' S')
  refine ev_compA (List.range 6) (g := fun i => wsD (sd i)) (f := fun j => .bool (ltW (sd i) (sd j))) (cellx := false) (cl := [("one", C + 1)]) (by rfl) blk (srcD_name hh ((W.S.has (x := "indents") e1).up u₃).inn) (by decide) fun C' j s₄ hj u₄ H' => ?_
  exact ev_meth1 (X := _) ((W.g.up u₃).up u₄).g (ev_name0 (H.up u₄).inn) (ev_name0 H') (m_less w) (t_less w) (k_less w) (.inl rfl) fun v v₁ s₁ G R R₁ => less_call G hh (by omega) (ws_ok _) (ws_ok _) R R₁
end
end Mine

/-! Law3 -/
namespace Mine
def colsD (sd : Nat → Int) : Dt := .list ((List.range 6).map fun i => .list ((List.range 6).map fun k => .int (colF (csOf (sd i)) ((1 + k : Nat) : Int))))
def colLt (x y : Int) : Bool := ((List.range 6).filter fun k => decide (colF (csOf y) ((1 + k : Nat) : Int) ≤ colF (csOf x) ((1 + k : Nat) : Int))).isEmpty
def toldF (lt : Nat → Nat → Bool) (p : Nat) : Int := (((List.range 6).filter fun q => lt p q || lt q p).map fun q : Nat => (2 : Int) ^ q).sum
def toldD (lt : Nat → Nat → Bool) : Dt := .list ((List.range 6).map fun p => .int (toldF lt p))
theorem lessD_flat (lt : Nat → Nat → Bool) : ((List.range 6).map fun p => Dt.list ((List.range 6).map fun q => .bool (lt p q))).all Dt.flat = true := by
  rw [List.all_eq_true]
  intro d hd
  obtain ⟨p, _, rfl⟩ := List.mem_map.mp hd
  show (((List.range 6).map fun q => Dt.bool (lt p q)).all Dt.imm) = true
  rw [List.all_eq_true]
  intro d hd
  obtain ⟨q, _, rfl⟩ := List.mem_map.mp hd
  rfl
section
variable {prog : Program} {w : World} {A : Around} {X : Addr → Prop} {s s₀ : Shared} {E : Value → Shared → Prop} {B : Heap} {a : Addr} {cd : Value} {ρ : Str → Option Dt} {sd : Nat → Int} {lt : Nat → Nat → Bool}
theorem law_columns {Q : Flow → Shared → Prop} (hh : A.handled = none) (hroom : A.depth + 12 < recursionLimit) (W : LW w B s₀ X (lawEnv B.objs.size a cd) ρ s) (e1 : ρ "texts" = some (.list ((List.range 6).map fun i => .str (txtF (sd i)))))
    (k : ∀ s', LW w B s₀ X (lawEnv B.objs.size a cd) (put ρ "columns" (colsD sd)) s' → Q .next s') :
    wpAny (model prog w) A (exec (lawB 5) (lawEnv B.objs.size a cd)) Q E s := by
  refine st_assign (d := colsD sd) W.S (ev_compA (List.range 6) (g := fun i => .str (txtF (sd i))) (cellx := true) (cl := []) (by rfl) blk (srcD_name hh (W.S.has (x := "texts") e1)) (by decide) fun C i s₃ hi u₃ H => ?_) (.inr ⟨rfl, rfl⟩) fun s' b' S' => k s' (W.fstep b' S')
  refine ev_compA (List.range 6) (g := fun i => Dt.nat (1 + i)) (f := fun k => .int (colF (csOf (sd i)) ((1 + k : Nat) : Int))) (cellx := false) (cl := [("text", C + 1)]) (by rfl) blk (srcD_range2 (a := 1) (n := 7) (W.g.up u₃).g rfl rfl rfl hh ev_int ev_int (by decide) (by decide)) (by decide) fun C' j s₄ hj u₄ H' => ?_
  refine ev_callF ((W.g.up u₃).up u₄).g (g_col w) (k_col w) (evs_cons (ev_name0 (H.up u₄).inn) (evs_cons (ev_name0 H') evs_nil)) fun vs s₁ u₁ hX r => ?_
  obtain ⟨v, v', rfl, r', r''⟩ := r.two
  obtain ⟨t, rfl⟩ := r'.str_inv
  obtain ⟨t', rfl⟩ := r''.int_inv
  have hj6 := List.mem_range.mp hj
  refine column_spec (((W.g.up u₃).up u₄).up u₁).g hh (by omega) (by omega) (by omega) (txt_len _) fun s' tk u => ⟨u, ?_⟩
  rw [txt_cps]
  exact .int _ _
theorem law_check {Q : Flow → Shared → Prop} (hh : A.handled = none) (hu : A.units + 10 < cLine) (W : LW w B s₀ X (lawEnv B.objs.size a cd) ρ s) (e1 : ρ "columns" = some (colsD sd)) (e2 : ρ "less" = some (lessD lt)) (hlt : ∀ i j, i < 6 → j < 6 → lt i j = colLt (sd i) (sd j))
    (k : ∀ s', LW w B s₀ X (lawEnv B.objs.size a cd) ρ s' → Q .next s') :
    wpAny (model prog w) A (exec (lawB 6) (lawEnv B.objs.size a cd)) Q E s := by
  have hc := W.S.has (x := "columns") e1
  refine st_if W.S (tst_cmp (ev_name0 (W.S.has (x := "less") e2)) (Ev.eq (ev_compA (List.range 6) (g := fun i => .list ((List.range 6).map fun k => .int (colF (csOf (sd i)) ((1 + k : Nat) : Int)))) (f := fun i => .list ((List.range 6).map fun j => .bool (lt i j))) (cellx := true) (cl := [("columns", B.objs.size + 4)]) (by rfl) blk (srcD_name hh hc) (by decide) fun C i s₃ hi u₃ H => ?_) rfl) (cmp_ne_same (by omega) (lessD_flat lt))) (fun q => nomatch q) fun _ s' u' S' => wpAny_execs_nil (k s' (W.up u'))
  have hi6 := List.mem_range.mp hi
  refine ev_compA (List.range 6) (g := fun i => .list ((List.range 6).map fun k => .int (colF (csOf (sd i)) ((1 + k : Nat) : Int)))) (f := fun j => .bool (lt i j)) (cellx := true) (cl := [("one", C + 1)]) (by rfl) blk (srcD_name hh (hc.up u₃).inn) (by decide) fun C' j s₄ hj u₄ H' => ?_
  have hj6 := List.mem_range.mp hj
  refine Ev.eq (ev_cmp (ev_comp (List.range 6) (g := Dt.nat) (f := Dt.nat) (fun k => decide (colF (csOf (sd j)) ((1 + k : Nat) : Int) ≤ colF (csOf (sd i)) ((1 + k : Nat) : Int))) (cellx := false) (cl := [("other", C' + 1), ("one", C + 1)]) (by rfl) blk (srcD_range (n := 6) ((W.g.up u₃).up u₄).g rfl rfl rfl hh ev_int (by decide)) (by decide) (fun C'' q s₅ hq u₅ H'' => ?_) (fun C'' q s₅ hq _ u₅ H'' => ev_name H'')) ev_nil (cmp_eq_nil (by omega))) ?_
  · have hq6 := List.mem_range.mp hq
    exact tsts_one (tst_cmp (ev_itemR (f := fun k => .int (colF (csOf (sd i)) ((1 + k : Nat) : Int))) (ev_name0 ((H.up u₄).inn.up u₅).inn) (ev_name0 H'') hq6) (ev_itemR (f := fun k => .int (colF (csOf (sd j)) ((1 + k : Nat) : Int))) (ev_name0 (H'.up u₅).inn) (ev_name0 H'') hq6) cmp_ge)
  · rw [hlt i j hi6 hj6]
    unfold colLt
    rw [List.isEmpty_map]
theorem law_told {Q : Flow → Shared → Prop} (hh : A.handled = none) (W : LW w B s₀ X (lawEnv B.objs.size a cd) ρ s) (e2 : ρ "less" = some (lessD lt))
    (k : ∀ s', LW w B s₀ X (lawEnv B.objs.size a cd) (put ρ "told" (toldD lt)) s' → Q .next s') :
    wpAny (model prog w) A (exec (lawB 7) (lawEnv B.objs.size a cd)) Q E s := by
  have hc := W.S.has (x := "less") e2
  refine st_assign (d := toldD lt) W.S (ev_compA (List.range 6) (g := Dt.nat) (f := fun p => .int (toldF lt p)) (cellx := true) (cl := [("less", B.objs.size + 3)]) (by rfl) blk (srcD_range (n := 6) W.g.g rfl rfl rfl hh ev_int (by decide)) (by decide) fun C p s₃ hp u₃ H => ?_) (.inr ⟨rfl, rfl⟩) fun s' b' S' => k s' (W.fstep b' S')
  have hp6 := List.mem_range.mp hp
  refine ev_sum (ns := ((List.range 6).filter fun q => lt p q || lt q p).map fun q : Nat => (2 : Int) ^ q) (W.g.up u₃).g rfl rfl rfl hh (Ev.eq (ev_comp (List.range 6) (g := Dt.nat) (f := fun q => .int (2 ^ q)) (fun q => lt p q || lt q p) (cellx := false) (cl := [("p", C + 1), ("less", B.objs.size + 3)]) (by rfl) blk (srcD_range (n := 6) (W.g.up u₃).g rfl rfl rfl hh ev_int (by decide)) (by decide) (fun C' q s₄ hq u₄ H' => ?_) (fun C' q s₄ hq _ u₄ H' => ?_)) (by rw [List.map_map]; rfl))
  · have hq6 := List.mem_range.mp hq
    have hL := hc.up u₃
    refine tsts_one (tst_or (tst_val (ev_itemR (f := fun q => .bool (lt p q)) (ev_itemR0 (f := fun p => .list ((List.range 6).map fun q => .bool (lt p q))) (ev_name0 (hL.inn.up u₄).inn) (ev_name0 (H.up u₄).inn) hp6) (ev_name0 H') hq6)) fun _ => tst_val (ev_itemR (f := fun p => .bool (lt q p)) (ev_itemR0 (f := fun p => .list ((List.range 6).map fun q => .bool (lt p q))) (ev_name0 (hL.inn.up u₄).inn) (ev_name0 H') hq6) (ev_name0 (H.up u₄).inn) hp6))
  · have hq6 := List.mem_range.mp hq
    exact Ev.eq (ev_pow ev_int (ev_name0 H') (by omega) (by omega) (by decide)) (by rw [Int.toNat_natCast])
end
end Mine

/-! Law4 -/
namespace Mine
def memF (c : Nat) : List Nat := (List.range 6).filter fun p => (((c : Int).fdiv (2 ^ p)).fmod 2 == 1)
def antiF (lt : Nat → Nat → Bool) (c : Nat) : Bool := ((memF c).filter fun p => Builtin.bitAnd (toldF lt p) (c : Int) != 0).isEmpty
def chainF (lt : Nat → Nat → Bool) (c : Nat) : Bool := ((memF c).filter fun p => Builtin.bitAnd (toldF lt p) (c : Int) != (c : Int) - 2 ^ p).isEmpty
def bestStep (ok : Nat → Bool) (m : Int) (c : Nat) : Int := if ok c then (if ((memF c).length : Int) > m then ((memF c).length : Int) else m) else m
def bestF (ok : Nat → Bool) (n : Nat) : Int := (List.range n).foldl (bestStep ok) 0
theorem bestF_succ (ok : Nat → Bool) (n : Nat) : bestF ok (n + 1) = bestStep ok (bestF ok n) n := by unfold bestF; rw [List.range_succ, List.foldl_append]; rfl
theorem mem_len (c : Nat) : (memF c).length ≤ 6 := by
  have := List.length_filter_le (fun p : Nat => (((c : Int).fdiv (2 ^ p)).fmod 2 == 1)) (List.range 6)
  rw [List.length_range] at this
  exact this
theorem pow_cases {P : Int → Prop} (h : P 1 ∧ P 2 ∧ P 4 ∧ P 8 ∧ P 16 ∧ P 32) {p : Nat} (hp : p < 6) : P (2 ^ p) := by
  have : p = 0 ∨ p = 1 ∨ p = 2 ∨ p = 3 ∨ p = 4 ∨ p = 5 := by omega
  rcases this with rfl | rfl | rfl | rfl | rfl | rfl
  · exact h.1
  · exact h.2.1
  · exact h.2.2.1
  · exact h.2.2.2.1
  · exact h.2.2.2.2.1
  · exact h.2.2.2.2.2
section
variable {prog : Program} {w : World} {A : Around} {X : Addr → Prop} {s s₀ : Shared} {E : Value → Shared → Prop} {B : Heap} {a : Addr} {cd : Value} {ρ : Str → Option Dt} {lt : Nat → Nat → Bool}
def chS (i : Nat) : Stmt := match lawB 10 with
  | .For _ _ b _ _ => nth b i
  | s => s
theorem law_anti {M : Addr → Prop} {c : Nat} {m : Int} {Q : Flow → Shared → Prop} (hh : A.handled = none) (hu : A.units + 10 < cLine) (G : GB w B s.heap) (S : Sit M X (lawEnv B.objs.size a cd) ρ s.heap) (hB : ∀ b : Nat, Frm (lawEnv B.objs.size a cd) b → B.objs.size ≤ b) (e1 : ρ "told" = some (toldD lt)) (e2 : ρ "choice" = some (.nat c)) (e3 : ρ "members" = some (.list ((memF c).map Dt.nat))) (e4 : ρ "widest" = some (.int m))
    (k : ∀ s' ρ', But (Frm (lawEnv B.objs.size a cd)) s s' → Sit M X (lawEnv B.objs.size a cd) ρ' s'.heap → (∀ y : Str, y ≠ "widest" → ρ' y = ρ y) → ρ' "widest" = some (.int (bestStep (antiF lt) m c)) → Q .next s') :
    wpAny (model prog w) A (exec (chS 1) (lawEnv B.objs.size a cd)) Q E s := by
  have hold := S.has (x := "told") e1
  have hch := S.has (x := "choice") e2
  have hm := S.has (x := "members") e3
  have m6 : ∀ p ∈ memF c, p < 6 := fun p hp => List.mem_range.mp (List.mem_filter.mp hp).1
  have ml := mem_len c
  refine st_if (c := antiF lt c) S (Tst.eq (tst_cmp (ev_comp (memF c) (g := Dt.nat) (f := Dt.nat) (fun p => Builtin.bitAnd (toldF lt p) (c : Int) != 0) (cellx := false) (cl := [("told", B.objs.size + 5), ("choice", B.objs.size + 6)]) (by rfl) blk (srcD_name hh hm) (by unfold sizeLine; omega) (fun C p s₃ hp u₃ H => ?_) (fun C p s₃ hp _ u₃ H => ev_name H)) ev_nil (cmp_eq_nil (by omega))) (by rw [List.isEmpty_map]; rfl)) (fun hc s₂ u₂ S₂ => ?_) (fun hc s₂ u₂ S₂ => ?_)
  · have hp6 := m6 p hp
    exact tsts_one (tst_cmp (ev_band (ev_itemR (f := fun p => .int (toldF lt p)) (ev_name0 (hold.up u₃).inn) (ev_name0 H) hp6) (ev_name0 (hch.up u₃).inn)) ev_int cmp_ne)
  · have G₂ := G.up u₂
    refine wpAny_execs_cons (st_assign S₂ (ev_max G₂.g rfl rfl rfl hh (ev_name0 (S₂.has (x := "widest") e4)) (ev_len G₂.g rfl rfl rfl (ev_name0 (S₂.has (x := "members") e3)) (by rw [List.length_map]; omega))) (.inl rfl) fun s₃ b₃ S₃ => wpAny_execs_nil (k s₃ _ (u₂.up.trans b₃) S₃ (fun y hy => by dsimp only [put]; rw [if_neg hy]) ?_))
    unfold bestStep
    rw [hc, List.length_map]
    rfl
  · refine wpAny_execs_nil (k s₂ ρ u₂.up S₂ (fun _ _ => rfl) ?_)
    unfold bestStep
    rw [hc, e4]
    rfl
theorem law_chain {M : Addr → Prop} {c : Nat} {m : Int} {Q : Flow → Shared → Prop} (hh : A.handled = none) (hu : A.units + 10 < cLine) (G : GB w B s.heap) (S : Sit M X (lawEnv B.objs.size a cd) ρ s.heap) (hB : ∀ b : Nat, Frm (lawEnv B.objs.size a cd) b → B.objs.size ≤ b) (e1 : ρ "told" = some (toldD lt)) (e2 : ρ "choice" = some (.nat c)) (e3 : ρ "members" = some (.list ((memF c).map Dt.nat))) (e4 : ρ "longest" = some (.int m))
    (k : ∀ s' ρ', But (Frm (lawEnv B.objs.size a cd)) s s' → Sit M X (lawEnv B.objs.size a cd) ρ' s'.heap → (∀ y : Str, y ≠ "longest" → ρ' y = ρ y) → ρ' "longest" = some (.int (bestStep (chainF lt) m c)) → Q .next s') :
    wpAny (model prog w) A (exec (chS 2) (lawEnv B.objs.size a cd)) Q E s := by
  have hold := S.has (x := "told") e1
  have hch := S.has (x := "choice") e2
  have hm := S.has (x := "members") e3
  have m6 : ∀ p ∈ memF c, p < 6 := fun p hp => List.mem_range.mp (List.mem_filter.mp hp).1
  have ml := mem_len c
  refine st_if (c := chainF lt c) S (Tst.eq (tst_cmp (ev_comp (memF c) (g := Dt.nat) (f := Dt.nat) (fun p => Builtin.bitAnd (toldF lt p) (c : Int) != ((c : Int) - 2 ^ p)) (cellx := false) (cl := [("told", B.objs.size + 5), ("choice", B.objs.size + 6)]) (by rfl) blk (srcD_name hh hm) (by unfold sizeLine; omega) (fun C p s₃ hp u₃ H => ?_) (fun C p s₃ hp _ u₃ H => ev_name H)) ev_nil (cmp_eq_nil (by omega))) (by rw [List.isEmpty_map]; rfl)) (fun hc s₂ u₂ S₂ => ?_) (fun hc s₂ u₂ S₂ => ?_)
  · have hp6 := m6 p hp
    exact tsts_one (tst_cmp (ev_band (ev_itemR (f := fun p => .int (toldF lt p)) (ev_name0 (hold.up u₃).inn) (ev_name0 H) hp6) (ev_name0 (hch.up u₃).inn)) (ev_sub (ev_name0 (hch.up u₃).inn) (Ev.eq (ev_pow ev_int (ev_name0 H) (by omega) (by omega) (by decide)) (by rw [Int.toNat_natCast]))) cmp_ne)
  · have G₂ := G.up u₂
    refine wpAny_execs_cons (st_assign S₂ (ev_max G₂.g rfl rfl rfl hh (ev_name0 (S₂.has (x := "longest") e4)) (ev_len G₂.g rfl rfl rfl (ev_name0 (S₂.has (x := "members") e3)) (by rw [List.length_map]; omega))) (.inl rfl) fun s₃ b₃ S₃ => wpAny_execs_nil (k s₃ _ (u₂.up.trans b₃) S₃ (fun y hy => by dsimp only [put]; rw [if_neg hy]) ?_))
    unfold bestStep
    rw [hc, List.length_map]
    rfl
  · refine wpAny_execs_nil (k s₂ ρ u₂.up S₂ (fun _ _ => rfl) ?_)
    unfold bestStep
    rw [hc, e4]
    rfl
set_option maxHeartbeats 1000000 in
theorem law_choice {Q : Flow → Shared → Prop} (hh : A.handled = none) (hu : A.units + 10 < cLine) (W : LW w B s₀ X (lawEnv B.objs.size a cd) ρ s) (e1 : ρ "told" = some (toldD lt)) (e2 : ρ "less" = some (lessD lt)) (e3 : ρ "widest" = some (.int 0)) (e4 : ρ "longest" = some (.int 0))
    (k : ∀ s' ρ', LW w B s₀ X (lawEnv B.objs.size a cd) ρ' s' → ρ' "less" = some (lessD lt) → ρ' "widest" = some (.int (bestF (antiF lt) 64)) → ρ' "longest" = some (.int (bestF (chainF lt) 64)) → Q .next s') :
    wpAny (model prog w) A (exec (lawB 10) (lawEnv B.objs.size a cd)) Q E s := by
  refine st_forD (is := List.range 64) (g := Dt.nat) W.S (srcD_range (n := 64) W.g.g rfl rfl rfl hh ev_int (by decide)) (fun _ => rfl) (.inr ⟨rfl, rfl⟩)
    (fun i ρ h => ρ "told" = some (toldD lt) ∧ ρ "less" = some (lessD lt) ∧ ρ "widest" = some (.int (bestF (antiF lt) i)) ∧ ρ "longest" = some (.int (bestF (chainF lt) i))) (fun _ _ _ _ q _ => q) ⟨e1, e2, e3, e4⟩ ?_ ?_
  · rintro X₁ i c ρ' s₁ hX1 hX2 hj b₁ ⟨e1, e2, e3, e4⟩ S₁
    have hci : c = i ∧ c < 64 := by
      obtain ⟨h1, h2⟩ := List.getElem?_eq_some_iff.mp hj
      simp at h1 h2; omega
    obtain ⟨rfl, hc⟩ := hci
    have G₁ := W.g.but b₁ W.hx
    have hfx : ∀ b : Nat, Frm (lawEnv B.objs.size a cd) b → B.objs.size ≤ b := fun b q => W.hx b (W.S.frm b q)
    refine wpAny_execs_cons (st_comp (List.range 6) (g := Dt.nat) (f := Dt.nat) (fun p => (((c : Int).fdiv (2 ^ p)).fmod 2 == 1)) S₁ (cellx := false) (cl := [("choice", B.objs.size + 6)]) (by rfl) blk (srcD_range (n := 6) G₁.g rfl rfl rfl hh ev_int (by decide)) (by decide) (fun C p s₃ hp u₃ H => ?_) (fun C p s₃ hp _ u₃ H => ev_name H) fun s₂ b₂ S₂ => ?_)
    · have hp6 := List.mem_range.mp hp
      refine tsts_one (tst_cmp (ev_mod (ev_fdiv (ev_name0 ((S₁.has (x := "choice") (d := .nat c) rfl).up u₃).inn) (Ev.eq (ev_pow ev_int (ev_name0 H) (by omega) (by omega) (by decide)) (by rw [Int.toNat_natCast])) ?_ ?_) ev_int (by decide)) ev_int cmp_eq)
      · exact pow_cases (P := fun x => x ≠ 0) (by decide) hp6
      · exact PyProof.noPylong_small (pow_cases (P := fun x => x.natAbs < _) (by decide) hp6)
    have G₂ := G₁.but b₂ hfx
    refine wpAny_execs_cons (law_anti (c := c) hh hu G₂ S₂ hfx e1 rfl rfl e3 fun s₃ ρ₃ b₃ S₃ ho₃ q₃ => ?_)
    have G₃ := G₂.but b₃ hfx
    refine wpAny_execs_cons (law_chain (c := c) (m := bestF (chainF lt) c) hh hu G₃ S₃ hfx ((ho₃ "told" (by decide)).trans e1) ((ho₃ "choice" (by decide)).trans rfl) ((ho₃ "members" (by decide)).trans rfl) ((ho₃ "longest" (by decide)).trans e4) fun s₄ ρ₄ b₄ S₄ ho₄ q₄ => ?_)
    refine wpAny_execs_nil ⟨((b₂.trans b₃).trans b₄).mono W.S.frm, ρ₄, ⟨?_, ?_, ?_, ?_⟩, S₄⟩
    · exact (ho₄ "told" (by decide)).trans ((ho₃ "told" (by decide)).trans e1)
    · exact (ho₄ "less" (by decide)).trans ((ho₃ "less" (by decide)).trans e2)
    · rw [bestF_succ]; exact (ho₄ "widest" (by decide)).trans q₃
    · rw [bestF_succ]; exact q₄
  · rintro s' ρ' b' ⟨e1, e2, e3, e4⟩ S'
    rw [List.length_range] at e3 e4
    exact k s' ρ' (W.step b' (fun _ q => q) S') e2 e3 e4
end
end Mine

/-! Two1 -/
namespace Mine
theorem turn1 (elt t1 i1 : Expr) (g0 : Comprehension) (scope : Scope) (pos : Pos) (it acc : Value) (env : Env) :
    compTurn (.ListComp elt [g0, ⟨t1, i1, [], 0⟩] scope pos) 1 it acc env = (standAt i1.pos >>= fun _ => pyNext it >>= fun r => match r with
      | none => pure (.done .next)
      | some v => letOwnedTupleGo t1 it v >>= fun _ => assign t1 env v >>= fun _ =>
        (eval elt env >>= fun x => call (.builtin "list.append") [acc, x] >>= fun _ => pure ()) >>= fun _ =>
          again (.compLoop (.ListComp elt [g0, ⟨t1, i1, [], 0⟩] scope pos) 1 it acc env)) := by rfl
theorem turn0 (elt t0 i0 : Expr) (t1 i1 : Expr) (scope : Scope) (pos : Pos) (it acc : Value) (env : Env) :
    compTurn (.ListComp elt [⟨t0, i0, [], 0⟩, ⟨t1, i1, [], 0⟩] scope pos) 0 it acc env = (standAt i0.pos >>= fun _ => pyNext it >>= fun r => match r with
      | none => pure (.done .next)
      | some v => letOwnedTupleGo t0 it v >>= fun _ => assign t0 env v >>= fun _ =>
        eval i1 env >>= fun x => standAt i1.pos >>= fun _ => foldedSetIterable i1 env x >>= fun x => holding [x] (pyIter x) >>= fun y => runOwn (.compStart (.ListComp elt [⟨t0, i0, [], 0⟩, ⟨t1, i1, [], 0⟩] scope pos) 1 y acc env) env >>= fun _ =>
          again (.compLoop (.ListComp elt [⟨t0, i0, [], 0⟩, ⟨t1, i1, [], 0⟩] scope pos) 0 it acc env)) := by rfl
section
variable {prog : Program} {w : World} {A : Around} {R : Result → Shared → Prop} {s : Shared}
theorem loop1 {elt t1 i1 : Expr} {g0 : Comprehension} {scope : Scope} {pos : Pos} {it acc : Value} {env : Env} (I : Nat → Shared → Prop)
    (turn : ∀ n s, I n s → wpAny (model prog w) A (pyNext it) (fun r s₁ => match r with
      | none => R (.ok .next) s₁
      | some v => wpAny (model prog w) A (assign t1 env v) (fun _ s₂ => wpAny (model prog w) A (eval elt env) (fun x s₃ =>
          wpAny (model prog w) A (call (.builtin "list.append") [acc, x]) (fun _ s₄ => ∃ m, m < n ∧ I m s₄) NoE s₃) NoE s₂) NoE s₁) NoE s)
    (n : Nat) (h : I n s) (ht : ∀ v, letOwnedTupleGo t1 it v = pure () := by intro _; rfl) :
    codeAny (model prog w) A (.compLoop (.ListComp elt [g0, ⟨t1, i1, [], 0⟩] scope pos) 1 it acc env) R s := by
  refine codeAny_loop rfl I (fun n s hI => ?_) n h
  show wpAny _ _ ((compTurn (.ListComp elt [g0, ⟨t1, i1, [], 0⟩] scope pos) 1 it acc env).onRaise (fun x => do noteFrame x env; theTreesLotGoes x)) _ _ s
  refine wpAny_noted (noE ?_)
  rw [turn1]
  refine wpAny_bind (wpAny_standAt (wpAny_bind (wpAny_mono (turn n s hI) (fun r s₁ h₁ => ?_) fun _ _ h' => h')))
  cases r with
  | none => exact wpAny_pure h₁
  | some v =>
    refine wpAny_bind (wpAny_of_eq (ht v) ?_)
    exact wpAny_bind (wpAny_mono h₁ (fun _ s₂ h₂ => wpAny_bind (wpAny_bind (wpAny_mono h₂ (fun x s₃ h₃ => wpAny_bind (wpAny_mono h₃
      (fun _ s₄ h₄ => wpAny_pure (wpAny_pure ⟨rfl, h₄⟩)) fun _ _ h' => h')) fun _ _ h' => h'))) fun _ _ h' => h')
theorem start1 {elt t1 i1 : Expr} {g0 : Comprehension} {scope : Scope} {pos : Pos} {it acc : Value} {env : Env}
    (h0 : codeAny (model prog w) A (.compLoop (.ListComp elt [g0, ⟨t1, i1, [], 0⟩] scope pos) 1 it acc env) R s)
    (h : wpAny (model prog w) A (pyIter it) (fun it' s' => codeAny (model prog w) A (.compLoop (.ListComp elt [g0, ⟨t1, i1, [], 0⟩] scope pos) 1 it' acc env) R s') NoE s) :
    codeAny (model prog w) A (.compStart (.ListComp elt [g0, ⟨t1, i1, [], 0⟩] scope pos) 1 it acc env) R s := by
  refine codeAny_of_tree ?_
  show wpAny _ _ ((compStart (.ListComp elt [g0, ⟨t1, i1, [], 0⟩] scope pos) 1 it acc env).onRaise (fun x => do noteFrame x env; standAt theWindowsPlace)) _ _ s
  refine wpAny_notedAt (noE ?_)
  unfold compStart
  show wpAny _ _ (ask >>= _) _ _ s
  refine wpAny_bind (wpAny_askSetting (wpAny_ite ?_))
  split
  · first
      | exact wpAny_bind (wpAny_pure (wpAny_pure (And.intro rfl h0)))
      | exact wpAny_pure (And.intro rfl h0)
  · first
      | exact wpAny_bind (wpAny_rule (wpAny_bind (wpAny_standAt (wpAny_bind (wpAny_mono h (fun it' s' h' => wpAny_pure (And.intro rfl h')) fun _ _ x => x)))))
      | (refine wpAny_bind (wpAny_rule ?_); show wpAny _ _ (standAt i1.pos >>= _) _ _ s; exact wpAny_bind (wpAny_standAt (wpAny_bind (wpAny_mono h (fun it' s' h' => wpAny_pure (And.intro rfl h')) fun _ _ x => x))))
theorem loop0 {elt t0 i0 t1 i1 : Expr} {scope : Scope} {pos : Pos} {it acc : Value} {env : Env} (I : Nat → Shared → Prop) (hs : ∀ x, foldedSetIterable i1 env x = pure x)
    (turn : ∀ n s, I n s → wpAny (model prog w) A (pyNext it) (fun r s₁ => match r with
      | none => R (.ok .next) s₁
      | some v => wpAny (model prog w) A (assign t0 env v) (fun _ s₂ => wpAny (model prog w) A (eval i1 env) (fun x s₃ => wpAny (model prog w) A (pyIter x) (fun y s₄ =>
          codeAny (model prog w) A (.compStart (.ListComp elt [⟨t0, i0, [], 0⟩, ⟨t1, i1, [], 0⟩] scope pos) 1 y acc env) (fun r s₅ => r = .ok .next ∧ ∃ m, m < n ∧ I m s₅) s₄) NoE s₃) NoE s₂) NoE s₁) NoE s)
    (n : Nat) (h : I n s) (ht : ∀ v, letOwnedTupleGo t0 it v = pure () := by intro _; rfl) :
    codeAny (model prog w) A (.compLoop (.ListComp elt [⟨t0, i0, [], 0⟩, ⟨t1, i1, [], 0⟩] scope pos) 0 it acc env) R s := by
  refine codeAny_loop rfl I (fun n s hI => ?_) n h
  show wpAny _ _ ((compTurn (.ListComp elt [⟨t0, i0, [], 0⟩, ⟨t1, i1, [], 0⟩] scope pos) 0 it acc env).onRaise (fun x => do noteFrame x env; theTreesLotGoes x)) _ _ s
  refine wpAny_noted (noE ?_)
  rw [turn0]
  refine wpAny_bind (wpAny_standAt (wpAny_bind (wpAny_mono (turn n s hI) (fun r s₁ h₁ => ?_) fun _ _ h' => h')))
  cases r with
  | none => exact wpAny_pure h₁
  | some v =>
    refine wpAny_bind (wpAny_of_eq (ht v) ?_)
    refine wpAny_bind (wpAny_mono h₁ (fun _ s₂ h₂ => wpAny_bind (wpAny_mono h₂ (fun x s₃ h₃ => ?_) fun _ _ h' => h')) fun _ _ h' => h')
    refine wpAny_bind (wpAny_standAt (wpAny_bind (wpAny_of_eq (hs x) (wpAny_bind (wpAny_holding (wpAny_mono h₃ (fun y s₄ h₄ => ?_) fun _ _ h' => h'))))))
    refine wpAny_bind (wpAny_runOwn (codeAny_mono h₄ fun r s₅ h₅ => ?_))
    obtain ⟨rfl, h₅⟩ := h₅
    exact wpAny_pure ⟨rfl, h₅⟩
end
end Mine

/-! Two2 -/
namespace Mine
section
variable {prog : Program} {w : World} {A : Around} {R : Result → Shared → Prop}
theorem inner2 {y : Str} {py py' : Pos} {i1 : Expr} {g0 : Comprehension} {scope : Scope} {pos : Pos} {cenv : Env} {s₃ s₄ : Shared} {I1 C D : Addr} {fp wr : List Addr} {l acc : List Nat} {P : Nat → Value → Prop} {St : Nat → Heap → Prop} {m : Str → Option Value}
    (W : Walks prog w A I1 fp wr l.length P St) (hP : ∀ i v x, P i v → l[i]? = some x → ∃ t, v = .int (x : Nat) t) (hst : St 0 s₄.heap) (u₄ : Up s₃ s₄) (hwr : ∀ b : Nat, b ∈ wr → s₃.heap.objs.size ≤ b) (hfC : C ∉ fp) (hfD : D ∉ fp) (hDC : D ≠ C) (hm : s₃.heap.Ns C m) (L : LsAt s₃.heap D (acc.map Dt.nat)) (hsz : acc.length + l.length ≤ 100)
    (hloc : cenv.locals = C) (hy : cenv.kindOf y = some .local) (hk : cenv.scope.kind = .function) (hd : (y == ("__debug__" : Str)) = false)
    (hR : ∀ s' m', But (fun b => b = C ∨ b = D) s₃ s' → s'.heap.Ns C m' → LsAt s'.heap D ((acc ++ l).map Dt.nat) → R (.ok .next) s') :
    codeAny (model prog w) A (.compLoop (.ListComp (.Name y py) [g0, ⟨.Name y py', i1, [], 0⟩] scope pos) 1 (.ref I1) (.ref D) cenv) R s₄ := by
  have lC : C < s₃.heap.objs.size := hm.lt
  have lD : D < s₃.heap.objs.size := L.lt
  have hCw : C ∉ wr := fun h => hfC (W.sub _ h)
  have hDw : D ∉ wr := fun h => hfD (W.sub _ h)
  refine loop1 (fun k s' => ∃ i, But (fun b => b = C ∨ b = D) s₃ s' ∧ St i s'.heap ∧ (∃ m, s'.heap.Ns C m) ∧ LsAt s'.heap D ((acc ++ l.take i).map Dt.nat) ∧ i ≤ l.length ∧ k = l.length + 1 - i) ?_ (l.length + 1)
    ⟨0, u₄.up, hst, ⟨m, hm.keeps u₄.le⟩, by simpa using L.up u₄, Nat.zero_le _, rfl⟩
  rintro k s' ⟨i, b', st, ⟨m', hm'⟩, L', hi, rfl⟩
  by_cases hlt : i < l.length
  · refine any_size (W.item i _ _ _ hlt st fun v h₁ tk₁ hPv st₁ k₁ z₁ => ?_)
    have b₁ : But (fun b => b = C ∨ b = D) s₃ { s' with heap := h₁, toks := tk₁ } := ((b'.mono (Y := fun b => (b = C ∨ b = D) ∨ b ∈ wr) fun _ q => .inl q).trans ⟨⟨_, _, rfl⟩, fun b o q e => k₁ b o (fun q' => q (.inr q')) e, z₁⟩).drop fun b q hl => q.elim (fun q => q) fun q => absurd (hwr b q) (Nat.not_le.mpr hl)
    have hm₁ : h₁.Ns C m' := hm'.at' fun o e => k₁ _ _ hCw e
    obtain ⟨t, rfl⟩ := hP i v l[i] hPv (List.getElem?_eq_getElem hlt)
    refine wpAny_assign_Name (wpAny_storeName_local hy (hloc ▸ hm₁) (fun h₂ hn₂ hs₂ => ?_) (by rw [hk]; rfl))
    rw [hloc] at hn₂ hs₂
    refine wpAny_Name (wpAny_loadName_local hk hy (hloc.symm ▸ hn₂) (v := .int (l[i] : Nat) t) (by simp) ?_) hd
    have L₂ : LsAt h₂ D ((acc ++ l.take i).map Dt.nat) := L'.at fun o e => hs₂.extBut D o hDC (k₁ _ _ hDw e)
    obtain ⟨vs, ⟨n, ho⟩, r, im⟩ := id L₂
    have hl := r.length
    rw [List.length_map, List.length_append, List.length_take] at hl
    refine wpAny_list_append_plain (hsz := by simp only [List.size_toArray, sizeLine]; omega) ⟨n, ho⟩ fun h₃ hp₃ hs₃ => ?_
    have b₃ : But (fun b => b = C ∨ b = D) s₃ { s' with heap := h₃, toks := tk₁ + 1 } := b₁.trans ⟨⟨_, _, rfl⟩, fun b o q e => hs₃.extBut b o (fun q' => q (.inr q')) (hs₂.extBut b o (fun q' => q (.inl q')) e), Nat.le_of_eq (hs₂.1.symm.trans hs₃.1.symm)⟩
    refine ⟨l.length + 1 - (i + 1), by omega, i + 1, b₃, ?_, ⟨_, hn₂.sameBut hs₃ (Ne.symm hDC)⟩, ?_, hlt, rfl⟩
    · exact W.frame _ _ _ st₁ fun b hb o e => hs₃.extBut b o (fun q => hfD (q ▸ hb)) (hs₂.extBut b o (fun q => hfC (q ▸ hb)) e)
    · refine ⟨vs ++ [.int (l[i] : Nat) t], by simpa using hp₃, ?_, nats_imm _⟩
      rw [List.take_add_one, List.getElem?_eq_getElem hlt, ← List.append_assoc, List.map_append]
      exact (r.imm im).append (.cons (.int _ _) .nil)
  · have e : i = l.length := by omega
    subst e
    refine any_size (W.done _ _ _ st fun h₁ tk₁ k₁ z₁ => ?_)
    refine hR _ m' (((b'.mono (Y := fun b => (b = C ∨ b = D) ∨ b ∈ wr) fun _ q => .inl q).trans ⟨⟨_, _, rfl⟩, fun b o q e => k₁ b o (fun q' => q (.inr q')) e, z₁⟩).drop fun b q hl => q.elim (fun q => q) fun q => absurd (hwr b q) (Nat.not_le.mpr hl)) (hm'.at' fun o e => k₁ _ _ hCw e) ?_
    rw [List.take_length] at L'
    exact L'.at fun o e => k₁ _ _ hDw e
end
section
variable {prog : Program} {w : World} {A : Around} {X : Addr → Prop} {env : Env} {s : Shared}
theorem ev_flat {x y : Str} {px px' py py' : Pos} {i0 : Expr} {scope : Scope} {cl : List (Str × Addr)} {pos : Pos} {lss : List (List Nat)} (hh : A.handled = none) (hclos : closureFor scope env = pure cl) (B : Blk scope cl x false) (hyl : scope.names.lookup y = some .local) (hxl : scope.names.lookup x = some .local) (Sr : SrcD prog w A NoX env s i0 (lss.map fun l => .list (l.map Dt.nat))) (hsz : lss.flatten.length ≤ 50)
    (hs : ∀ x, foldedSetIterable i0 env x = pure x := by intro _; rfl)
    (hs1 : ∀ C v, foldedSetIterable (.Name x px') (compEnvC scope (cellsFrom (C + 1) scope.names cl) C env) v = pure v := by intro _ _; rfl)
    (hd : (y == ("__debug__" : Str)) = false := by decide) (hdx : (x == ("__debug__" : Str)) = false := by decide) :
    Ev prog w A X env s (.ListComp (.Name y py) [⟨.Name x px, i0, [], 0⟩, ⟨.Name y py', .Name x px', [], 0⟩] scope pos) (.list (lss.flatten.map Dt.nat)) := by
  intro hX s₁ u
  have Sr := Sr s₁ u
  rw [List.length_map] at Sr
  rw [eval_ListComp]
  refine wpAny_comprehension_free (use := none) rfl hs hclos B.kind B.names (Sr _ _ fun I fp wr St s₂ W hst u₂ hwr hfp => ?_)
  refine wpAny_newObj_type (newEnv_comp ?_)
  dsimp only
  rw [B.pc]
  simp only [Bool.false_eq_true, if_false]
  generalize hH2 : s₂.heap.push { cls := .type "list", dict := none, data := .seq ([] : List Value).toArray } = H2
  have hC : H2.objs.size = s₂.heap.objs.size + 1 := by rw [← hH2, Heap.size_push]
  generalize hH3 : H2.push { cls := .type "dict", data := .dict #[] } = H3
  have hC3 : H3.objs.size = s₂.heap.objs.size + 2 := by rw [← hH3, Heap.size_push, hC]
  have old3 : ∀ b o, s₂.heap.get? b = some o → H3.get? b = some o := fun b o e => hH3 ▸ Heap.get?_push_of_some _ (hH2 ▸ Heap.get?_push_of_some _ e)
  have ns3 : H3.Ns H2.objs.size fun _ => none := hH3 ▸ Heap.Ns.new H2 _
  have d3 : LsAt H3 s₂.heap.objs.size (([] : List Nat).map Dt.nat) := ⟨[], ⟨_, hH3 ▸ Heap.get?_push_of_some _ (hH2 ▸ Heap.get?_push_size _ rfl)⟩, .nil, rfl⟩
  have us2 := u₂.size
  have u₅ : Up s₁ { s₂ with heap := H3 } := u₂.trans ⟨⟨_, s₂.toks, rfl⟩, fun b o _ e => old3 b o e, by show s₂.heap.objs.size ≤ H3.objs.size; omega⟩
  have hst₅ : St 0 H3 := W.frame _ _ _ hst fun b _ o e => old3 b o e
  have hk : (compEnvC scope (cellsFrom (H2.objs.size + 1) scope.names cl) H2.objs.size env).scope.kind = .function := B.kind
  have hx : (compEnvC scope (cellsFrom (H2.objs.size + 1) scope.names cl) H2.objs.size env).kindOf x = some .local := lookup_relabel_local hxl
  have hy : (compEnvC scope (cellsFrom (H2.objs.size + 1) scope.names cl) H2.objs.size env).kindOf y = some .local := lookup_relabel_local hyl
  have ne : ∀ b : Nat, s₂.heap.objs.size ≤ b → b ∉ fp := fun b hb hm => by have := (hfp b hm).1; omega
  have hDC : (s₂.heap.objs.size : Nat) ≠ H2.objs.size := by omega
  have hDs : s₁.heap.objs.size ≤ s₂.heap.objs.size := us2
  have loop : codeAny (model prog w) A (.compLoop (.ListComp (.Name y py) [⟨.Name x px, i0, [], 0⟩, ⟨.Name y py', .Name x px', [], 0⟩] scope pos) 0 (.ref I) (.ref s₂.heap.objs.size) (compEnvC scope (cellsFrom (H2.objs.size + 1) scope.names cl) H2.objs.size env))
      (compPost (model prog w) A NoE none (fun v s₂ => Up s₁ s₂ ∧ Rep X s₂.heap (.list (lss.flatten.map Dt.nat)) v) (.ref s₂.heap.objs.size) H2.objs.size) { s₂ with heap := H3 } := by
    refine loop0 (fun k s' => ∃ i, Up s₁ s' ∧ St i s'.heap ∧ (∃ m, s'.heap.Ns H2.objs.size m) ∧ LsAt s'.heap s₂.heap.objs.size ((lss.take i).flatten.map Dt.nat) ∧ H3.objs.size ≤ s'.heap.objs.size ∧ i ≤ lss.length ∧ k = lss.length + 1 - i) (hs1 _) ?_ (lss.length + 1)
      ⟨0, u₅, hst₅, ⟨_, ns3⟩, by simpa using d3, Nat.le_refl _, Nat.zero_le _, rfl⟩
    rintro k s' ⟨i, u', st, ⟨m', hm'⟩, L', hz, hi, rfl⟩
    by_cases hlt : i < lss.length
    · refine any_size (W.item i _ _ _ hlt st fun v h₁ tk₁ hPv st₁ k₁ z₁ => ?_)
      have hCw : H2.objs.size ∉ wr := fun h => ne _ (by omega) (W.sub _ h)
      have hDw : s₂.heap.objs.size ∉ wr := fun h => ne _ (Nat.le_refl _) (W.sub _ h)
      have hm₁ : h₁.Ns H2.objs.size m' := hm'.at' fun o e => k₁ _ _ hCw e
      refine wpAny_assign_Name (wpAny_storeName_local hx hm₁ (fun h₂ hn₂ hs₂ => ?_) (by rw [hk]; rfl))
      refine wpAny_Name (wpAny_loadName_local hk hx hn₂ (v := v) (by simp) ?_) hdx
      have u₁ : Up s₁ { s' with heap := h₂, toks := tk₁ + 1 } := ((u'.up (X := fun b => b ∈ wr ∨ b = H2.objs.size)).trans ⟨⟨_, _, rfl⟩, fun b o q e => hs₂.extBut b o (fun q' => q (.inr q')) (k₁ b o (fun q' => q (.inl q')) e), Nat.le_trans z₁ (Nat.le_of_eq hs₂.1.symm)⟩).fresh fun b q => q.elim (hwr b) fun q => by rw [q]; omega
      obtain ⟨d, hd', Rv⟩ := hPv
      have hdl : d = .list (lss[i].map Dt.nat) := by
        rw [List.getElem?_map, List.getElem?_eq_getElem hlt] at hd'
        cases hd'; rfl
      subst hdl
      obtain ⟨al, vs, rfl, _, pl, l⟩ := (Rv.up u₁).list_inv
      have L₂ : LsAt h₂ s₂.heap.objs.size ((lss.take i).flatten.map Dt.nat) := L'.at fun o e => hs₂.extBut _ o hDC (k₁ _ _ hDw e)
      have st₂ : St (i + 1) h₂ := W.frame _ _ _ st₁ fun b hb o e => hs₂.extBut b o (fun q => ne b (by rw [q]; show s₂.heap.objs.size ≤ H2.objs.size; omega) hb) e
      have z₂ : H3.objs.size ≤ h₂.objs.size := Nat.le_trans hz (Nat.le_trans z₁ (Nat.le_of_eq hs₂.1.symm))
      have hal : al < s₁.heap.objs.size := by
        obtain ⟨al', vs', e', _, ⟨o, ho, _⟩, _⟩ := Rv.list_inv
        cases e'
        exact Heap.lt_size ho
      refine iter_list (s := { s' with heap := h₂, toks := tk₁ + 1 }) (ro := fun b => b = al) hh (But.refl _) pl (.inr rfl) fun I1 fp1 wr1 St1 s₄ W1 hst1 u₄ hwr1 hfp1 => ?_
      have e : vs.toArray.size = lss[i].length := by simp [l.length]
      rw [e] at W1
      have nfp : ∀ b : Nat, s₁.heap.objs.size ≤ b → b < h₂.objs.size → b ∉ fp1 := fun b h1 h2 hm => by
        rcases (hfp1 b hm).2 with q | q
        · exact absurd h2 (Nat.not_lt.mpr q)
        · exact absurd h1 (Nat.not_le.mpr (by rw [q]; exact hal))
      have lsum : ((lss.take (i + 1)).flatten).length ≤ lss.flatten.length := by
        conv => rhs; rw [← List.take_append_drop (i + 1) lss]
        rw [List.flatten_append, List.length_append]; omega
      have etake : (lss.take (i + 1)).flatten = (lss.take i).flatten ++ lss[i] := by
        rw [List.take_add_one, List.getElem?_eq_getElem hlt, List.flatten_append]; simp
      have inner : codeAny (model prog w) A (.compLoop (.ListComp (.Name y py) [⟨.Name x px, i0, [], 0⟩, ⟨.Name y py', .Name x px', [], 0⟩] scope pos) 1 (.ref I1) (.ref s₂.heap.objs.size) (compEnvC scope (cellsFrom (H2.objs.size + 1) scope.names cl) H2.objs.size env))
          (fun r s₅ => r = .ok .next ∧ ∃ m, m < lss.length + 1 - i ∧ ∃ i, Up s₁ s₅ ∧ St i s₅.heap ∧ (∃ m, s₅.heap.Ns H2.objs.size m) ∧ LsAt s₅.heap s₂.heap.objs.size ((lss.take i).flatten.map Dt.nat) ∧ H3.objs.size ≤ s₅.heap.objs.size ∧ i ≤ lss.length ∧ m = lss.length + 1 - i) s₄ := by
        refine inner2 (s₃ := { s' with heap := h₂, toks := tk₁ + 1 }) (C := H2.objs.size) (D := s₂.heap.objs.size) (l := lss[i]) (acc := (lss.take i).flatten) W1 ?_ hst1 u₄ hwr1 (nfp _ (by omega) (by omega)) (nfp _ (by omega) (by omega)) hDC hn₂ L₂ ?_ rfl hy hk hd fun s₅ m₅ b₅ hm₅ L₅ => ?_
        · intro j v' x' he hx'
          obtain ⟨d, hd2, R2⟩ := l.get (by simpa using he)
          rw [List.getElem?_map, hx'] at hd2
          cases hd2
          exact R2.int_inv
        · rw [etake, List.length_append] at lsum; omega
        · refine ⟨rfl, lss.length + 1 - (i + 1), by omega, i + 1, ?_, ?_, ⟨_, hm₅⟩, by rw [etake]; exact L₅, Nat.le_trans z₂ b₅.size, hlt, rfl⟩
          · exact ((u₁.up (X := fun b => b = H2.objs.size ∨ b = s₂.heap.objs.size)).trans b₅).fresh fun b q => by rcases q with q | q <;> rw [q] <;> omega
          · exact W.frame _ _ _ st₂ fun b hb o e => b₅.keep b o (fun q => by rcases q with q | q <;> exact ne b (by rw [q]; omega) hb) e
      exact start1 inner (W1.self 0 _ _ _ hst1 inner)
    · have e : i = lss.length := by omega
      subst e
      refine any_size (W.done _ _ _ st fun h₁ tk₁ k₁ z₁ => ?_)
      have hCw : H2.objs.size ∉ wr := fun h => ne _ (by omega) (W.sub _ h)
      have hDw : s₂.heap.objs.size ∉ wr := fun h => ne _ (Nat.le_refl _) (W.sub _ h)
      refine ⟨m', hm'.at' fun o e => k₁ _ _ hCw e, fun h' hs' => ⟨?_, ?_⟩⟩
      · exact ((u'.up (X := fun b => b ∈ wr ∨ b = H2.objs.size)).trans ⟨⟨_, _, rfl⟩, fun b o q e => hs'.extBut b o (fun q' => q (.inr q')) (k₁ b o (fun q' => q (.inl q')) e), Nat.le_trans z₁ (Nat.le_of_eq hs'.1.symm)⟩).fresh fun b q => q.elim (hwr b) fun q => by rw [q]; omega
      · rw [List.take_length] at L'
        obtain ⟨vs, p, r, im⟩ := L'
        refine .list (vs := vs) (fun q => absurd (hX _ q) (by have := u.size; omega)) ((p.at fun o e => hs'.extBut _ o hDC (k₁ _ _ hDw e)).isList) (r.imm im)
  exact codeAny_compStart_list loop (W.self 0 _ _ _ hst₅ loop)
end
end Mine

/-! Law5 -/
namespace Mine
theorem g_lad (w : World) : nsIn (KK w) mainGlobals "_law_ladders" = some (some (.ref 118)) := by kernel_rfl
theorem k_lad (w : World) : keepIn (KK w) (.ref 118) = true := by kernel_rfl
theorem g_flr (w : World) : nsIn (KK w) mainGlobals "_law_floors" = some (some (.ref 123)) := by kernel_rfl
theorem k_flr (w : World) : keepIn (KK w) (.ref 123) = true := by kernel_rfl
def abF (lt : Nat → Nat → Bool) (p : Nat) : List Nat := (List.range 6).filter (lt p)
theorem abF_lt (lt : Nat → Nat → Bool) : ∀ p, p < 6 → ∀ q ∈ abF lt p, q < 6 := fun p _ q hq => List.mem_range.mp (List.mem_filter.mp hq).1
def ladD (lss : List (List Nat)) : Dt := .list (lss.map fun l => .list (l.map Dt.nat))
theorem Stp.but {FR : List Addr} {T T' : Addr → Prop} {s s' : Shared} (x : Stp FR T s s') (h1 : ∀ b, T b → T' b) (h2 : ∀ b ∈ FR, T' b) : But T' s s' := ⟨x.same, fun b o n e => x.keep b o (fun q => n (h1 b q)) (fun q => n (h2 b q)) e, x.size⟩
section
variable {prog : Program} {w : World} {A : Around} {X : Addr → Prop} {s s₀ : Shared} {E : Value → Shared → Prop} {B : Heap} {a : Addr} {cd : Value} {ρ : Str → Option Dt} {lt : Nat → Nat → Bool}
theorem LW.base (W : LW w B s₀ X (lawEnv B.objs.size a cd) ρ s) : (∀ b ∈ frs [lawEnv B.objs.size a cd], b = B.objs.size) ∧ (∀ b ∈ frs [lawEnv B.objs.size a cd], X b) ∧ B.objs.size ≤ s.heap.objs.size ∧ s.heap.FunFrames {} [lawEnv B.objs.size a cd] ∧ ∀ y c, (lawEnv B.objs.size a cd).cells.lookup y = some c → c ∉ frs [lawEnv B.objs.size a cd] := by
  have e : frs [lawEnv B.objs.size a cd] = [B.objs.size] := rfl
  have h1 : ∀ b ∈ frs [lawEnv B.objs.size a cd], b = B.objs.size := fun b q => by rw [e] at q; exact List.mem_singleton.mp q
  refine ⟨h1, fun b q => (h1 b q) ▸ W.S.xl, Nat.le_of_lt (Nat.lt_of_le_of_lt (W.hx _ W.S.xl) (W.S.bd _ W.S.xl)), ?_, fun y c q r => W.S.apart y c q (h1 c r)⟩
  obtain ⟨m, hm⟩ := W.S.fr
  exact Heap.FunFrames.cons (fun q => nomatch q) rfl hm rfl trivial
/-- after a call that changed slots of the frame -/
theorem LW.slots {s' : Shared} (W : LW w B s₀ X (lawEnv B.objs.size a cd) ρ s) (st : Stp (frs [lawEnv B.objs.size a cd]) NoX s s') : LW w B s₀ X (lawEnv B.objs.size a cd) ρ s' := by
  obtain ⟨h1, h2, h3, h4, h5⟩ := W.base
  have b : But X s s' := st.but (fun _ q => q.elim) h2
  exact ⟨W.g.but b W.hx, W.bt.trans (b.mono W.hx), W.S.slots st h2 h5, W.hx⟩
theorem law_lads {Q : Flow → Shared → Prop} (hh : A.handled = none) (hroom : A.depth + 12 < recursionLimit) (hfr : A.frames = some [lawEnv B.objs.size a cd]) (W : LW w B s₀ X (lawEnv B.objs.size a cd) ρ s) (e2 : ρ "less" = some (lessD lt))
    (k : ∀ s' f, Lads (abF lt) 6 f → LW w B s₀ X (lawEnv B.objs.size a cd) (put ρ "ladders" (ladD (ladsF f))) s' → Q .next s') :
    wpAny (model prog w) A (exec (lawB 11) (lawEnv B.objs.size a cd)) Q E s := by
  have hc := W.S.has (x := "less") e2
  refine wpAny_Assign_Name (Call_Name rfl (name_glob W.g.g (g_lad w) (callWith_K (K := KK w) W.g.g.x (k_lad w) (spliced_cons (Ev.use (X := X) (d := aboveD (abF lt)) (ev_compA (List.range 6) (g := Dt.nat) (f := fun p => .list ((abF lt p).map Dt.nat)) (cellx := true) (cl := [("less", B.objs.size + 3)]) (by rfl) blk (srcD_range (n := 6) W.g.g rfl rfl rfl hh ev_int (by decide)) (by decide) fun C p s₃ hp u₃ H => ?_) W.S.bd (But.refl s) fun va s₂ u₂ _ Ra => spliced_nil ⟨(W.g.up u₂).g.x, ?_⟩)))))
  · have hp6 := List.mem_range.mp hp
    refine ev_comp (List.range 6) (g := Dt.nat) (f := Dt.nat) (lt p) (cellx := false) (cl := [("p", C + 1), ("less", B.objs.size + 3)]) (by rfl) blk (srcD_range (n := 6) (W.g.up u₃).g rfl rfl rfl hh ev_int (by decide)) (by decide) (fun C' q s₄ hq u₄ H' => ?_) (fun C' q s₄ hq _ u₄ H' => ev_name H')
    have hq6 := List.mem_range.mp hq
    have hL := hc.up u₃
    exact tsts_one (tst_val (ev_itemR (f := fun q => .bool (lt p q)) (ev_itemR0 (f := fun p => .list ((List.range 6).map fun q => .bool (lt p q))) (ev_name0 (hL.inn.up u₄).inn) (ev_name0 (H.up u₄).inn) hp6) (ev_name0 H') hq6))
  · have W₂ := W.up u₂
    obtain ⟨h1, h2, h3, h4, h5⟩ := W₂.base
    refine wpAny_mono (ladders_call (Y := X) (outer := [lawEnv B.objs.size a cd]) (E := E) (abF lt) (abF_lt lt) W₂.g hh hroom hfr h4 (fun b q => (h1 b q) ▸ Nat.le_refl _) h2 W₂.S.bd h3 Ra) (fun v s₃ h => ?_) fun _ _ q => q
    obtain ⟨f, hf, st, R⟩ := h
    have W₃ := W₂.slots st
    refine W₃.S.store (R.mono fun b o n e => ⟨e, fun q => n (W₂.S.bd b q)⟩) rfl (.inl rfl) fun s₄ b₄ S₄ => k s₄ f hf (W₃.fstep b₄ S₄)
theorem sorted_uniq {ns : List Int} (hp : ns.Perm [0, 1, 2, 3, 4, 5]) (hs : ns.Pairwise (· ≤ ·)) : ns = [0, 1, 2, 3, 4, 5] :=
  List.Perm.eq_of_pairwise (le := fun a b => a ≤ b) (fun a b _ _ h1 h2 => Int.le_antisymm h1 h2) hs (by decide) hp
theorem law_sorted {lss : List (List Nat)} {Q : Flow → Shared → Prop} (hh : A.handled = none) (hu : A.units + 10 < cLine) (W : LW w B s₀ X (lawEnv B.objs.size a cd) ρ s) (e1 : ρ "ladders" = some (ladD lss)) (hp : lss.flatten.Perm (List.range 6))
    (k : ∀ s', LW w B s₀ X (lawEnv B.objs.size a cd) ρ s' → Q .next s') :
    wpAny (model prog w) A (exec (lawB 12) (lawEnv B.objs.size a cd)) Q E s := by
  have hl : lss.flatten.length = 6 := by rw [hp.length_eq]; rfl
  refine st_if W.S (tst_cmp (ev_sorted (ns := lss.flatten.map fun i : Nat => (i : Int)) (ms := [0, 1, 2, 3, 4, 5]) W.g.g rfl rfl rfl (Ev.eq (ev_flat (cl := []) (lss := lss) hh (by rfl) blk rfl rfl (srcD_name hh (W.S.has (x := "ladders") e1)) (by omega)) (by rw [nats_ints])) (by rw [List.length_map]; omega) fun ns' q1 q2 => sorted_uniq (q1.trans (hp.map _)) q2) (ev_list (ds := [.int 0, .int 1, .int 2, .int 3, .int 4, .int 5]) (evs_cons ev_int (evs_cons ev_int (evs_cons ev_int (evs_cons ev_int (evs_cons ev_int (evs_cons ev_int evs_nil)))))) (by decide) rfl) (cmp_ne_same (by omega) rfl)) (fun q => nomatch q) fun _ s' u' S' => wpAny_execs_nil (k s' (W.up u'))
theorem law_rungs {lss : List (List Nat)} {Q : Flow → Shared → Prop} (hh : A.handled = none) (hu : A.units + 10 < cLine) (W : LW w B s₀ X (lawEnv B.objs.size a cd) ρ s) (e1 : ρ "ladders" = some (ladD lss)) (e2 : ρ "less" = some (lessD lt)) {m₁ m₂ : Int} (e3 : ρ "widest" = some (.int m₁)) (e4 : ρ "longest" = some (.int m₂))
    (h6 : ∀ l ∈ lss, l.length ≤ 6 ∧ ∀ x ∈ l, x < 6) (hch : ∀ l ∈ lss, ∀ (k : Nat) (h : k < l.length), ∀ p ∈ l.take k, lt p l[k] = true)
    (k : ∀ s' ρ', LW w B s₀ X (lawEnv B.objs.size a cd) ρ' s' → ρ' "ladders" = some (ladD lss) → ρ' "less" = some (lessD lt) → ρ' "widest" = some (.int m₁) → ρ' "longest" = some (.int m₂) → Q .next s') :
    wpAny (model prog w) A (exec (lawB 13) (lawEnv B.objs.size a cd)) Q E s := by
  obtain ⟨v, V, R⟩ := W.S.val "ladders" _ e1
  obtain ⟨D, vs, rfl, nD, pl, l⟩ := R.list_inv
  have hln : vs.toArray.size = lss.length := by have := l.length; rw [List.length_map] at this; simpa using this
  have Sr : ∀ p, Src prog w A (lawEnv B.objs.size a cd) (.Name "ladders" p) s (fun b => b = D) lss.length (fun i v => vs.toArray[i]? = some v) := by
    intro p Q' E' k'
    refine name_var V ?_
    refine iter_list (s := s) (ro := fun b => b = D) hh (But.refl s) pl (.inr rfl) fun I fp wr St s₂ W' hst u' hwr hfp => ?_
    rw [hln] at W'
    exact k' I fp wr St s₂ W' hst u' hwr hfp
  refine st_for W.S (Sr _) (fun b q => q ▸ nD) (fun i => .list ((lss.getD i []).map Dt.nat)) ?_ (.inr ⟨rfl, rfl⟩)
    (fun i ρ h => ρ "ladders" = some (ladD lss) ∧ ρ "less" = some (lessD lt) ∧ ρ "widest" = some (.int m₁) ∧ ρ "longest" = some (.int m₂)) (fun _ _ _ _ q _ => q) ⟨e1, e2, e3, e4⟩ ?_ ?_
  · intro i v hi hv
    obtain ⟨d, hd, R⟩ := l.get (by simpa using hv)
    rw [List.getElem?_map, List.getElem?_eq_getElem hi] at hd
    cases hd
    rw [show lss.getD i [] = lss[i] by simp [List.getD, List.getElem?_eq_getElem hi]]
    exact R
  · rintro X₁ i ρ' s₁ hX1 hX2 hi b₁ ⟨e1, e2, e3, e4⟩ S₁
    have hm : lss.getD i [] ∈ lss := by rw [show lss.getD i [] = lss[i] by simp [List.getD, List.getElem?_eq_getElem hi]]; exact List.getElem_mem hi
    generalize lss.getD i [] = ld at *
    have h6 := h6 ld hm
    have hch := hch ld hm
    have G₁ := W.g.but b₁ W.hx
    refine wpAny_execs_cons (st_forD (is := List.range ld.length) (g := Dt.nat) S₁ (srcD_range (n := ld.length) G₁.g rfl rfl rfl hh (Ev.eq (ev_len G₁.g rfl rfl rfl (ev_name0 (S₁.has (x := "ladder") rfl)) (by rw [List.length_map]; omega)) (by rw [List.length_map])) (by omega)) (fun _ => rfl) (.inr ⟨rfl, rfl⟩)
      (fun i ρ h => ρ "ladder" = some (.list (ld.map Dt.nat)) ∧ ρ "ladders" = some (ladD lss) ∧ ρ "less" = some (lessD lt) ∧ ρ "widest" = some (.int m₁) ∧ ρ "longest" = some (.int m₂)) (fun _ _ _ _ q _ => q) ⟨rfl, e1, e2, e3, e4⟩ ?_ ?_)
    · rintro X₂ i' j ρ₂ s₂ hX1' hX2' hj b₂ ⟨q0, q1, q2, q3, q4⟩ S₂
      have hjl : j < ld.length := by
        obtain ⟨h1, h2⟩ := List.getElem?_eq_some_iff.mp hj
        simp at h1 h2; omega
      have G₂ := G₁.but b₂ W.hx
      have hld := S₂.has (x := "ladder") q0
      have hls := S₂.has (x := "less") q2
      have hk := S₂.has (x := "k") (d := .nat j) rfl
      have tl : (ld.take j).length ≤ 6 := by rw [List.length_take]; omega
      refine wpAny_execs_cons (st_if (c := false) S₂ (Tst.eq (tst_cmp (ev_comp (ld.take j) (g := Dt.nat) (f := Dt.nat) (fun p => !lt p ld[j]) (cellx := false) (cl := [("less", B.objs.size + 3), ("ladder", B.objs.size + 7), ("k", B.objs.size + 1)]) (by rfl) blk (srcD_fresh hh (fun s₃ u₃ => ?_) ?_) (by unfold sizeLine; omega) (fun C p s₃ hp u₃ H => ?_) (fun C p s₃ hp _ u₃ H => ev_name H)) ev_nil (cmp_ne_nil (by omega))) ?_) (fun q => nomatch q) fun _ s₃ u₃ S₃ => wpAny_execs_nil (wpAny_execs_nil ⟨u₃.up, put ρ₂ "k" (.nat j), ⟨q0, q1, q2, q3, q4⟩, S₃⟩))
      · rw [nats_ints]
        exact Ev.eq (ev_slice (ns := ld.map fun i : Nat => (i : Int)) (ms := (ld.take j).map fun i : Nat => (i : Int)) (o₁ := none) (o₂ := some (j : Int)) (Ev.eq (ev_name0 (hld.up u₃)) (by rw [nats_ints])) evp_none (evp_some (ev_name0 (hk.up u₃))) (by rw [List.length_map]; unfold sizeLine; omega) fun vs h => by
          have := slice_ints_uptoW h (y := (j : Int)) (by omega)
          rwa [Int.toNat_natCast, ← List.map_take] at this) rfl
      · intro d hd
        obtain ⟨x, _, rfl⟩ := List.mem_map.mp hd
        rfl
      · have hp6 : p < 6 := h6.2 p (List.mem_of_mem_take hp)
        have hk6 : ld[j] < 6 := h6.2 _ (List.getElem_mem hjl)
        exact tsts_one (tst_not (tst_val (ev_itemR (f := fun q => .bool (lt p q)) (ev_itemR0 (f := fun p => .list ((List.range 6).map fun q => .bool (lt p q))) (ev_name0 (hls.up u₃).inn) (ev_name0 H) hp6) (ev_item0 (d := .nat ld[j]) (ev_name0 (hld.up u₃).inn) (ev_name0 (hk.up u₃).inn) (by omega) (by omega) (by simp [hjl])) hk6)))
      · rw [List.isEmpty_map, Bool.not_eq_false', List.isEmpty_iff, List.filter_eq_nil_iff]
        intro p hp
        simp [hch j hjl p hp]
    · rintro s₂ ρ₂ b₂ ⟨q0, q1, q2, q3, q4⟩ S₂
      exact wpAny_execs_nil ⟨b₂, ρ₂, ⟨q1, q2, q3, q4⟩, S₂⟩
  · rintro s' ρ' b' ⟨q1, q2, q3, q4⟩ S'
    exact k s' ρ' (W.step b' (fun _ q => q) S') q1 q2 q3 q4
end
end Mine

/-! Law6 -/
namespace Mine
structure SO (lt : Nat → Nat → Bool) : Prop where
  irr : ∀ i, lt i i = false
  tr : ∀ i j k, lt i j = true → lt j k = true → lt i k = true
structure PLaw (lt : Nat → Nat → Bool) (f : Nat → Option Nat) : Prop where
  perm : (ladsF f).flatten.Perm (List.range 6)
  six : ∀ l ∈ ladsF f, l.length ≤ 6 ∧ ∀ x ∈ l, x < 6
  chain : ∀ l ∈ ladsF f, ∀ (k : Nat) (h : k < l.length), ∀ p ∈ l.take k, lt p l[k] = true
  wide : ((ladsF f).length : Int) = bestF (antiF lt) 64
  long : ((floorsGo lt 6 (List.range 6) : Nat) : Int) = bestF (chainF lt) 64
theorem colLt_iff (x y : Int) : colLt x y = true ↔ ∀ k, k < 6 → colF (csOf x) ((1 + k : Nat) : Int) < colF (csOf y) ((1 + k : Nat) : Int) := by
  unfold colLt
  rw [List.isEmpty_iff, List.filter_eq_nil_iff]
  constructor
  · intro h k hk
    have := h k (List.mem_range.mpr hk)
    simpa using this
  · intro h k hk
    have := h k (List.mem_range.mp hk)
    simpa using this
theorem so_col (sd : Nat → Int) : SO fun i j => colLt (sd i) (sd j) where
  irr := fun i => by
    rw [← Bool.not_eq_true, colLt_iff]
    intro h
    have := h 0 (by decide)
    omega
  tr := fun i j k h1 h2 => by
    rw [colLt_iff] at h1 h2 ⊢
    intro q hq
    have := h1 q hq
    have := h2 q hq
    omega
section
variable {prog : Program} {w : World} {A : Around} {X : Addr → Prop} {s s₀ : Shared} {E : Value → Shared → Prop} {B : Heap} {a : Addr} {cd : Value} {ρ : Str → Option Dt} {lt : Nat → Nat → Bool}
theorem law_ret {lss : List (List Nat)} {Q : Flow → Shared → Prop} (hh : A.handled = none) (hroom : A.depth + 12 < recursionLimit) (hu : A.units + 10 < cLine) (hfr : A.frames = some [lawEnv B.objs.size a cd]) (W : LW w B s₀ X (lawEnv B.objs.size a cd) ρ s) (e1 : ρ "ladders" = some (ladD lss)) (e2 : ρ "less" = some (lessD lt)) {m₁ m₂ : Int} (e3 : ρ "widest" = some (.int m₁)) (e4 : ρ "longest" = some (.int m₂))
    (hl : lss.length ≤ 100) (h1 : (lss.length : Int) = m₁) (h2 : ((floorsGo lt 6 (List.range 6) : Nat) : Int) = m₂)
    (k : ∀ s', But (fun b : Nat => B.objs.size ≤ b) s₀ s' → GB w B s'.heap → Q (.ret (.bool true)) s') :
    wpAny (model prog w) A (exec (lawB 14) (lawEnv B.objs.size a cd)) Q E s := by
  refine wpAny_Return_some (BoolOp_and (Ev.use0 (ev_cmp (ev_len W.g.g rfl rfl rfl (ev_name0 (W.S.has (x := "ladders") e1)) (by rw [List.length_map]; omega)) (ev_name0 (W.S.has (x := "widest") e3)) cmp_eq) (But.refl s) fun v s₁ u₁ _ R => ?_))
  rw [R.bool_inv, List.length_map, h1]
  refine wpAny_truthy_bool ?_
  rw [beq_self_eq_true]
  simp only [if_true]
  have W₁ := W.up u₁
  refine BoolOp_one (wpAny_Compare1 ?_)
  obtain ⟨va, Va, Rva⟩ := W₁.S.val "less" _ e2
  refine Call_Name rfl (name_glob W₁.g.g (g_flr w) (callWith_K (K := KK w) W₁.g.g.x (k_flr w) (spliced_cons (name_var Va (spliced_nil ⟨W₁.g.g.x, ?_⟩)))))
  obtain ⟨h1, h2', h3, h4, h5⟩ := W₁.base
  refine wpAny_mono (floors_call (Y := X) (outer := [lawEnv B.objs.size a cd]) (E := E) lt W₁.g hh hroom hu hfr h4 (fun b q => (h1 b q) ▸ Nat.le_refl _) h2' W₁.S.bd h3 Rva) (fun v s₂ h => ?_) fun _ _ q => q
  obtain ⟨st, R₂⟩ := h
  have W₂ := W₁.slots st
  obtain ⟨t, rfl⟩ := R₂.int_inv
  obtain ⟨vb, Vb, Rvb⟩ := W₂.S.val "longest" _ e4
  obtain ⟨t', rfl⟩ := Rvb.int_inv
  refine name_var Vb (PyProof.Rows.eq_int ?_)
  rw [h2, beq_self_eq_true]
  exact k s₂ W₂.bt W₂.g
theorem law_body (P1 : ∀ x y : Int, ltW x y = colLt x y) (P2 : ∀ lt, SO lt → ∀ f, Lads (abF lt) 6 f → PLaw lt f) {ns : List Int} {Q : Flow → Shared → Prop} (hh : A.handled = none) (hroom : A.depth + 12 < recursionLimit) (hu : A.units + 10 < cLine) (hfr : A.frames = some [lawEnv B.objs.size a cd]) (W : LW w B s₀ X (lawEnv B.objs.size a cd) ρ s) (e1 : ρ "script" = some (.list (ns.map .int))) (hns : ns.length ≤ 63)
    (k : ∀ s', But (fun b : Nat => B.objs.size ≤ b) s₀ s' → GB w B s'.heap → Q (.ret (.bool true)) s') :
    wpAny (model prog w) A (execs (dBody (topS 11)) (lawEnv B.objs.size a cd)) Q E s := by
  show wpAny (model prog w) A (execs [lawB 0, lawB 1, lawB 2, lawB 3, lawB 4, lawB 5, lawB 6, lawB 7, lawB 8, lawB 9, lawB 10, lawB 11, lawB 12, lawB 13, lawB 14] (lawEnv B.objs.size a cd)) Q E s
  refine wpAny_execs_cons (law_seeds W fun s₁ as W₁ hF L₁ => ?_)
  refine wpAny_execs_cons (law_fill hh W₁ e1 hns rfl (.inr rfl) hF L₁ fun s₂ ρ₂ W₂ q₂ L₂ => ?_)
  obtain ⟨sd, L₂⟩ := L₂
  have hlt : ∀ i j, i < 6 → j < 6 → ltW (sd i) (sd j) = colLt (sd i) (sd j) := fun i j _ _ => P1 _ _
  have so : SO fun i j => ltW (sd i) (sd j) := by
    have e : (fun i j => ltW (sd i) (sd j)) = fun i j => colLt (sd i) (sd j) := by funext i j; exact P1 _ _
    rw [e]; exact so_col sd
  refine wpAny_execs_cons (law_texts hh hroom W₂ q₂ L₂ fun s₃ W₃ => ?_)
  refine wpAny_execs_cons (law_indents (sd := sd) hh hroom W₃ rfl fun s₄ W₄ => ?_)
  refine wpAny_execs_cons (law_less (sd := sd) hh hroom W₄ rfl fun s₅ W₅ => ?_)
  refine wpAny_execs_cons (law_columns (sd := sd) hh hroom W₅ rfl fun s₆ W₆ => ?_)
  refine wpAny_execs_cons (law_check (sd := sd) (lt := fun i j => ltW (sd i) (sd j)) hh hu W₆ rfl rfl hlt fun s₇ W₇ => ?_)
  refine wpAny_execs_cons (law_told (lt := fun i j => ltW (sd i) (sd j)) hh W₇ rfl fun s₈ W₈ => ?_)
  refine wpAny_execs_cons (st_assign (d := .int 0) W₈.S ev_int (.inl rfl) fun s₉ b₉ S₉ => ?_)
  have W₉ := W₈.fstep b₉ S₉
  refine wpAny_execs_cons (st_assign (d := .int 0) W₉.S ev_int (.inl rfl) fun sa ba Sa => ?_)
  have Wa := W₉.fstep ba Sa
  refine wpAny_execs_cons (law_choice (lt := fun i j => ltW (sd i) (sd j)) hh hu Wa rfl rfl rfl rfl fun sb ρb Wb l1 l2 l3 => ?_)
  refine wpAny_execs_cons (law_lads hh hroom hfr Wb l1 fun sc f hf Wc => ?_)
  have PL := P2 _ so f hf
  refine wpAny_execs_cons (law_sorted (lss := ladsF f) hh hu Wc rfl PL.perm fun sd' Wd => ?_)
  refine wpAny_execs_cons (law_rungs (lss := ladsF f) hh hu Wd rfl l1 l2 l3 PL.six PL.chain fun se ρe We r1 r2 r3 r4 => ?_)
  refine wpAny_execs_cons (law_ret hh hroom hu hfr We r1 r2 r3 r4 ?_ PL.wide PL.long fun s' b' g' => k s' b' g')
  unfold ladsF feetF
  rw [List.length_map]
  have := List.length_filter_le (fun x => (f x).isNone) (List.range 6)
  rw [List.length_range] at this
  omega
end
end Mine

/-! Fin0 -/
namespace Mine
theorem law_cells (L : Nat) : cellsFrom (L + 1) (dScope (topS 11)).names [] = ([("ladder", L + 7), ("choice", L + 6), ("told", L + 5), ("columns", L + 4), ("less", L + 3), ("indents", L + 2), ("k", L + 1)] : List (Str × Addr)) := by rfl
theorem cells_at {h₀ h : Heap} {L : Addr} {cm : Str → Option Value} : ∀ {cs : List (Str × Addr)} {cells : List (Addr × Obj)}, CellsAre cm cs cells → News h₀ L h cells → ∀ x c, (x, c) ∈ cs → ∃ v, h.IsCell c v
  | _, _, .nil, _, x, c, hm => nomatch hm
  | _, _, .cons (c := c') e r, N, x, c, hm => by
    rcases List.mem_cons.mp hm with q | q
    · cases q
      exact ⟨_, _, (N _ (List.mem_cons_self ..)).1, e⟩
    · exact cells_at r (fun p hp => N p (List.mem_cons_of_mem _ hp)) x c q
theorem law_start {B h₁ : Heap} {a la : Addr} {cd : Value} {m cm : Str → Option Value} {cells : List (Addr × Obj)} {vs : List Value} {ns : List Int} (hn : h₁.Ns B.objs.size m) (hm : m "script" = some (.ref la)) (N : News B B.objs.size h₁ cells) (X0 : CellsAre cm (cellsFrom (B.objs.size + 1) (dScope (topS 11)).names []) cells)
    (keep : ∀ b o, B.get? b = some o → h₁.get? b = some o) (hl : B.IsList la vs.toArray) (hi : IntsAre vs ns) :
    Sit (fun b : Nat => B.objs.size ≤ b ∧ b < h₁.objs.size) (fun b : Nat => B.objs.size ≤ b ∧ b < h₁.objs.size) (lawEnv B.objs.size a cd) (put (fun _ => none) "script" (.list (ns.map .int))) h₁ := by
  have ec : (lawEnv B.objs.size a cd).cells = ([("ladder", B.objs.size + 7), ("choice", B.objs.size + 6), ("told", B.objs.size + 5), ("columns", B.objs.size + 4), ("less", B.objs.size + 3), ("indents", B.objs.size + 2), ("k", B.objs.size + 1)] : List (Str × Addr)) := law_cells _
  rw [law_cells] at X0
  have ap : ((lawEnv B.objs.size a cd).cells).Pairwise fun x y => x.2 ≠ y.2 := by
    rw [ec]
    simp only [List.pairwise_cons, List.mem_cons, List.not_mem_nil, or_false, forall_eq_or_imp, forall_eq, List.Pairwise.nil, and_true]
    refine ⟨⟨?_, ?_, ?_, ?_, ?_, ?_⟩, ⟨?_, ?_, ?_, ?_, ?_⟩, ⟨?_, ?_, ?_, ?_⟩, ⟨?_, ?_, ?_⟩, ⟨?_, ?_⟩, ?_, ?_⟩ <;> first | (show (_ : Nat) ≠ _; omega) | (intro _ h; cases h)
  have up : ∀ x c, (lawEnv B.objs.size a cd).cells.lookup x = some c → B.objs.size < c ∧ ∃ v, h₁.IsCell c v := by
    intro x c e
    have hm := mem_of_lookup e
    rw [ec] at hm
    refine ⟨?_, cells_at X0 N x c hm⟩
    simp only [List.mem_cons, List.not_mem_nil, or_false, Prod.mk.injEq] at hm
    have : c = B.objs.size + 7 ∨ c = B.objs.size + 6 ∨ c = B.objs.size + 5 ∨ c = B.objs.size + 4 ∨ c = B.objs.size + 3 ∨ c = B.objs.size + 2 ∨ c = B.objs.size + 1 := by
      rcases hm with h | h | h | h | h | h | h
      · exact .inl h.2
      · exact .inr (.inl h.2)
      · exact .inr (.inr (.inl h.2))
      · exact .inr (.inr (.inr (.inl h.2)))
      · exact .inr (.inr (.inr (.inr (.inl h.2))))
      · exact .inr (.inr (.inr (.inr (.inr (.inl h.2)))))
      · exact .inr (.inr (.inr (.inr (.inr (.inr h.2)))))
    rcases this with h | h | h | h | h | h | h <;> (rw [h]; exact Nat.lt_add_of_pos_right (by decide))
  have hX : ∀ {v : Value} {d : Dt}, Rep NoX B d v → Rep (fun b : Nat => B.objs.size ≤ b ∧ b < h₁.objs.size) h₁ d v := fun R => R.mono fun b o _ e => ⟨keep b o e, fun q => absurd (Heap.lt_size e) (Nat.not_lt.mpr q.1)⟩
  refine ⟨⟨m, hn⟩, fun x c e => (up x c e).2, fun x y c e e' => name_of_addr ap (mem_of_lookup e) (mem_of_lookup e'), fun x c e => Nat.ne_of_gt (up x c e).1, ⟨Nat.le_refl _, hn.lt⟩, fun x c e => ⟨Nat.le_of_lt (up x c e).1, ?_⟩, fun _ q => q, fun _ q => q.2, fun x d e => ?_⟩
  · obtain ⟨v, o, ho, _⟩ := (up x c e).2
    exact Heap.lt_size ho
  · dsimp only [put] at e
    split at e
    · rename_i h
      cases e
      subst h
      exact ⟨.ref la, .inl ⟨rfl, m, hn, hm⟩, hX (.list (fun q => q) hl (.of_ints hi))⟩
    · cases e
end Mine

/-! Pl1 -/
namespace Mine
def textsN : Nat → List (List Nat)
  | 0 => [[]]
  | n + 1 => (textsN n).flatMap fun l => [32 :: l, 9 :: l]
def allT : List (List Nat) := textsN 0 ++ (textsN 1 ++ (textsN 2 ++ (textsN 3 ++ (textsN 4 ++ textsN 5))))
theorem mem_texts : ∀ (cs : List Nat), (∀ c ∈ cs, c = 32 ∨ c = 9) → cs ∈ textsN cs.length
  | [], _ => List.mem_singleton.mpr rfl
  | c :: cs, h => by
    have ih := mem_texts cs fun x hx => h x (List.mem_cons_of_mem _ hx)
    show c :: cs ∈ (textsN cs.length).flatMap fun l => [32 :: l, 9 :: l]
    rw [List.mem_flatMap]
    refine ⟨cs, ih, ?_⟩
    rcases h c (List.mem_cons_self ..) with rfl | rfl <;> simp
theorem cs_mem (x : Int) : csOf x ∈ allT := by
  have h := mem_texts (csOf x) (cs_sign x)
  have l := cs_len x
  unfold allT
  simp only [List.mem_append]
  have : (csOf x).length = 0 ∨ (csOf x).length = 1 ∨ (csOf x).length = 2 ∨ (csOf x).length = 3 ∨ (csOf x).length = 4 ∨ (csOf x).length = 5 := by omega
  rcases this with q | q | q | q | q | q <;> rw [q] at h <;> simp only [h, true_or, or_true]
def lessR (c d : List Nat) : Bool := lessF (wsRun c).n (wsRun c).nt (wsRun c).count (wsRun c).b (wsRun d).n (wsRun d).nt (wsRun d).count (wsRun d).b
def colR (c d : List Nat) : Bool := ((List.range 6).filter fun k => decide (colF d ((1 + k : Nat) : Int) ≤ colF c ((1 + k : Nat) : Int))).isEmpty
theorem pairs0 : ((textsN 0).all fun c => allT.all fun d => lessR c d == colR c d) = true := by decide +kernel
theorem pairs1 : ((textsN 1).all fun c => allT.all fun d => lessR c d == colR c d) = true := by decide +kernel
theorem pairs2 : ((textsN 2).all fun c => allT.all fun d => lessR c d == colR c d) = true := by decide +kernel
theorem pairs3 : ((textsN 3).all fun c => allT.all fun d => lessR c d == colR c d) = true := by decide +kernel
theorem pairs4 : ((textsN 4).all fun c => allT.all fun d => lessR c d == colR c d) = true := by decide +kernel
theorem pairs5a : (((textsN 5).take 8).all fun c => allT.all fun d => lessR c d == colR c d) = true := by decide +kernel
theorem pairs5b : ((((textsN 5).drop 8).take 8).all fun c => allT.all fun d => lessR c d == colR c d) = true := by decide +kernel
theorem pairs5c : ((((textsN 5).drop 16).take 8).all fun c => allT.all fun d => lessR c d == colR c d) = true := by decide +kernel
theorem pairs5d : (((textsN 5).drop 24).all fun c => allT.all fun d => lessR c d == colR c d) = true := by decide +kernel
theorem pairs_all : (allT.all fun c => allT.all fun d => lessR c d == colR c d) = true := by
  have e5 : textsN 5 = (textsN 5).take 8 ++ (((textsN 5).drop 8).take 8 ++ (((textsN 5).drop 16).take 8 ++ (textsN 5).drop 24)) := by
    conv => lhs; rw [← List.take_append_drop 8 (textsN 5)]
    conv => lhs; rw [← List.take_append_drop 8 ((textsN 5).drop 8)]
    rw [List.drop_drop]
    conv => lhs; rw [← List.take_append_drop 8 ((textsN 5).drop (8 + 8))]
    rw [List.drop_drop]
  have h5 : ((textsN 5).all fun c => allT.all fun d => lessR c d == colR c d) = true := by
    rw [e5]
    simp only [List.all_append, pairs5a, pairs5b, pairs5c, pairs5d, Bool.and_self]
  conv => lhs; unfold allT
  rw [List.all_append, List.all_append, List.all_append, List.all_append, List.all_append]
  show ((((textsN 0).all fun c => allT.all fun d => lessR c d == colR c d)) && _) = true
  rw [pairs0]
  show (true && (((textsN 1).all fun c => allT.all fun d => lessR c d == colR c d) && _)) = true
  rw [pairs1]
  show (true && (true && (((textsN 2).all fun c => allT.all fun d => lessR c d == colR c d) && _))) = true
  rw [pairs2]
  show (true && (true && (true && (((textsN 3).all fun c => allT.all fun d => lessR c d == colR c d) && _)))) = true
  rw [pairs3]
  show (true && (true && (true && (true && (((textsN 4).all fun c => allT.all fun d => lessR c d == colR c d) && ((textsN 5).all fun c => allT.all fun d => lessR c d == colR c d)))))) = true
  rw [pairs4, h5]
  rfl
theorem P1 (x y : Int) : ltW x y = colLt x y := by
  have h := List.all_eq_true.mp (List.all_eq_true.mp pairs_all _ (cs_mem x)) _ (cs_mem y)
  exact eq_of_beq h
end Mine

/-! Pl2 -/
namespace Mine
theorem JL.sub {ab : Nat → List Nat} {low : Nat} {hs : List Nat} {f f' : Nat → Option Nat} {t t' : List Nat} {b : Bool} (H : JL ab low hs f t b f' t') : ∀ x ∈ t, x ∈ t' := by
  induction H with
  | nil => exact fun _ h => h
  | seen _ _ ih => exact ih
  | free _ _ => exact fun x h => List.mem_append_left _ h
  | take _ _ _ ih => exact fun x h => ih x (List.mem_append_left _ h)
  | fail _ _ _ _ ih ih' => exact fun x h => ih' x (ih x (List.mem_append_left _ h))
theorem JL.no {ab : Nat → List Nat} {low : Nat} {hs : List Nat} {f f' : Nat → Option Nat} {t t' : List Nat} {b : Bool} (H : JL ab low hs f t b f' t') :
    b = false → f' = f ∧ (∀ h ∈ hs, h ∈ t') ∧ ∀ h ∈ t', h ∉ t → ∃ l, f h = some l ∧ ∀ q ∈ ab l, q ∈ t' := by
  induction H with
  | nil => exact fun _ => ⟨rfl, fun _ h => (nomatch h), fun h h1 h2 => absurd h1 h2⟩
  | seen ht H ih =>
    intro hb
    obtain ⟨h1, h2, h3⟩ := ih hb
    refine ⟨h1, fun x hx => ?_, h3⟩
    rcases List.mem_cons.mp hx with rfl | hx
    · exact H.sub _ ht
    · exact h2 x hx
  | free _ _ => exact fun h => nomatch h
  | take _ _ _ _ => exact fun h => nomatch h
  | @fail low h hs f t l f' t' b f'' t'' hn e H1 H2 ih1 ih2 =>
    intro hb
    obtain ⟨e1, a1, c1⟩ := ih1 rfl
    subst e1
    obtain ⟨e2, a2, c2⟩ := ih2 hb
    refine ⟨e2, fun x hx => ?_, fun x hx hxt => ?_⟩
    · rcases List.mem_cons.mp hx with rfl | hx
      · exact H2.sub _ (H1.sub _ (List.mem_append_right _ (List.mem_singleton.mpr rfl)))
      · exact a2 x hx
    · by_cases h1 : x ∈ t'
      · by_cases hxh : x = h
        · subst hxh
          exact ⟨l, e, fun q hq => H2.sub _ (a1 q hq)⟩
        · obtain ⟨l', e', k'⟩ := c1 x h1 fun q => by
            rcases List.mem_append.mp q with q | q
            · exact hxt q
            · exact hxh (List.mem_singleton.mp q)
          exact ⟨l', e', fun q hq => H2.sub _ (k' q hq)⟩
      · exact c2 x hx h1
/-- U is closed: its highs are joined, and what is above their lows is in it -/
def Clo (ab : Nat → List Nat) (f : Nat → Option Nat) (U : Nat → Prop) : Prop := ∀ h, U h → ∃ l, f h = some l ∧ ∀ q ∈ ab l, U q
theorem JL.stuck {ab : Nat → List Nat} {U : Nat → Prop} {low : Nat} {hs : List Nat} {f f' : Nat → Option Nat} {t t' : List Nat} {b : Bool} (H : JL ab low hs f t b f' t') : Clo ab f U → (∀ h ∈ hs, U h) → b = false := by
  induction H with
  | nil => exact fun _ _ => rfl
  | seen _ _ ih => exact fun C h => ih C fun x hx => h x (List.mem_cons_of_mem _ hx)
  | free hn e =>
    intro C h
    obtain ⟨l, q, _⟩ := C _ (h _ (List.mem_cons_self ..))
    rw [e] at q; cases q
  | take hn e H ih =>
    intro C h
    obtain ⟨l, q, k⟩ := C _ (h _ (List.mem_cons_self ..))
    rw [e] at q
    cases q
    exact absurd (ih C k) (by decide)
  | fail hn e H1 H2 ih1 ih2 =>
    intro C h
    obtain ⟨e1, _⟩ := H1.no rfl
    subst e1
    exact ih2 C fun x hx => h x (List.mem_cons_of_mem _ hx)
theorem JL.keepU {ab : Nat → List Nat} {U : Nat → Prop} {low : Nat} {hs : List Nat} {f f' : Nat → Option Nat} {t t' : List Nat} {b : Bool} (H : JL ab low hs f t b f' t') : Clo ab f U → ∀ h, U h → f' h = f h := by
  induction H with
  | nil => exact fun _ _ _ => rfl
  | seen _ _ ih => exact ih
  | @free low h hs f t hn e =>
    intro C x hx
    have : x ≠ h := fun q => by
      subst q
      obtain ⟨l, q, _⟩ := C _ hx
      rw [e] at q; cases q
    simp [updF, this]
  | @take low h hs f t l f' t' hn e H ih =>
    intro C x hx
    have : x ≠ h := fun q => by
      subst q
      obtain ⟨l', q, k⟩ := C _ hx
      rw [e] at q
      cases q
      exact absurd (H.stuck C k) (by decide)
    simp only [updF, if_neg this]
    exact ih C x hx
  | fail hn e H1 H2 ih1 ih2 =>
    intro C x hx
    obtain ⟨e1, _⟩ := H1.no rfl
    subst e1
    exact ih2 C x hx
/-- how often l is joined -/
def cnt (f : Nat → Option Nat) (l : Nat) : Nat := ((List.range 6).filter fun h => f h == some l).length
theorem filter_upd (P : Nat → Bool) (x : Nat) (v : Bool) : ∀ n, ((List.range n).filter fun h => if h = x then v else P h).length + (if x < n then (if P x then 1 else 0) else 0) = ((List.range n).filter P).length + (if x < n then (if v then 1 else 0) else 0)
  | 0 => by simp
  | n + 1 => by
    have ih := filter_upd P x v n
    rw [List.range_succ, List.filter_append, List.length_append, List.filter_append, List.length_append]
    rcases Nat.lt_trichotomy x n with h | h | h
    · have hne : n ≠ x := by omega
      simp only [List.filter_cons, List.filter_nil, hne, if_false, if_pos h, if_pos (show x < n + 1 by omega)] at ih ⊢
      split <;> simp_all <;> omega
    · subst h
      simp only [List.filter_cons, List.filter_nil, if_true, if_neg (Nat.lt_irrefl x), if_pos (Nat.lt_succ_self x)] at ih ⊢
      cases P x <;> cases v <;> simp at ih ⊢ <;> omega
    · have hne : n ≠ x := by omega
      simp only [List.filter_cons, List.filter_nil, hne, if_false, if_neg (show ¬ x < n by omega), if_neg (show ¬ x < n + 1 by omega)] at ih ⊢
      split <;> simp_all
theorem cnt_upd (f : Nat → Option Nat) {h : Nat} (low l : Nat) (hh : h < 6) : cnt (updF f h low) l + (if f h = some l then 1 else 0) = cnt f l + (if low = l then 1 else 0) := by
  have := filter_upd (fun h => f h == some l) h (some low == some l) 6
  simp only [if_pos hh] at this
  unfold cnt
  have e : ((List.range 6).filter fun h' => updF f h low h' == some l) = (List.range 6).filter fun h' => if h' = h then (some low == some l) else (f h' == some l) := by
    apply List.filter_congr
    intro x _
    unfold updF
    split <;> rfl
  rw [e]
  simpa using this
theorem JL.cnt {ab : Nat → List Nat} (hab : ∀ p, p < 6 → ∀ q ∈ ab p, q < 6) {low : Nat} {hs : List Nat} {f f' : Nat → Option Nat} {t t' : List Nat} {b : Bool} (H : JL ab low hs f t b f' t') :
    low < 6 → (∀ q ∈ hs, q < 6) → JOk f t → b = true → (∀ l, Mine.cnt f' l = Mine.cnt f l + (if low = l then 1 else 0)) ∧ ∀ h ∈ t, f' h = f h := by
  induction H with
  | nil => exact fun _ _ _ h => nomatch h
  | seen _ _ ih => exact fun h1 h2 J hb => ih h1 (fun q hq => h2 q (List.mem_cons_of_mem _ hq)) J hb
  | @free low h hs f t hn e =>
    intro h1 h2 J _
    have h6 := h2 h (List.mem_cons_self ..)
    refine ⟨fun l => ?_, fun x hx => ?_⟩
    · have := cnt_upd f low l h6
      rw [e] at this
      simpa using this
    · have : x ≠ h := fun q => hn (q ▸ hx)
      simp [updF, this]
  | @take low h hs f t l f' t' hn e H ih =>
    intro h1 h2 J _
    have h6 := h2 h (List.mem_cons_self ..)
    have hl := J.lt _ _ e
    obtain ⟨c, k⟩ := ih hl (hab _ hl) (J.app hn h6) rfl
    have eh : f' h = some l := (k h (List.mem_append_right _ (List.mem_singleton.mpr rfl))).trans e
    refine ⟨fun x => ?_, fun x hx => ?_⟩
    · have q := cnt_upd f' low x h6
      rw [eh, c x] at q
      by_cases hx : l = x
      · subst hx
        simp only [if_true] at q
        omega
      · have : ¬ (some l = some x) := fun q => hx (Option.some.inj q)
        simp only [if_neg hx, if_neg this] at q
        omega
    · have : x ≠ h := fun q => hn (q ▸ hx)
      simp only [updF, if_neg this]
      exact k x (List.mem_append_left _ hx)
  | @fail low h hs f t l f' t' b f'' t'' hn e H1 H2 ih1 ih2 =>
    intro h1 h2 J hb
    obtain ⟨e1, _⟩ := H1.no rfl
    have hl := J.lt _ _ e
    have J' := (H1.ok hab hl (hab _ hl) (J.app hn (h2 _ (List.mem_cons_self ..)))).1
    obtain ⟨c, k⟩ := ih2 h1 (fun q hq => h2 q (List.mem_cons_of_mem _ hq)) J' hb
    subst e1
    exact ⟨c, fun x hx => k x (H1.sub _ (List.mem_append_left _ hx))⟩
/-- all pairs are right -/
def Ok (lt : Nat → Nat → Bool) (f : Nat → Option Nat) : Prop := ∀ h l, f h = some l → h < 6 ∧ l < 6 ∧ lt l h = true
theorem JL.okF {lt : Nat → Nat → Bool} {low : Nat} {hs : List Nat} {f f' : Nat → Option Nat} {t t' : List Nat} {b : Bool} (H : JL (abF lt) low hs f t b f' t') : low < 6 → (∀ q ∈ hs, q < 6 ∧ lt low q = true) → Ok lt f → Ok lt f' := by
  have hab : ∀ l, ∀ q ∈ abF lt l, q < 6 ∧ lt l q = true := fun l q hq => ⟨List.mem_range.mp (List.mem_filter.mp hq).1, (List.mem_filter.mp hq).2⟩
  have up : ∀ {f : Nat → Option Nat} {h low : Nat}, Ok lt f → low < 6 → h < 6 → lt low h = true → Ok lt (updF f h low) := fun O h1 h2 h3 x l e => by
    unfold updF at e
    split at e
    · cases e; subst_vars; exact ⟨h2, h1, h3⟩
    · exact O x l e
  induction H with
  | nil => exact fun _ _ O => O
  | seen _ _ ih => exact fun h1 h2 O => ih h1 (fun q hq => h2 q (List.mem_cons_of_mem _ hq)) O
  | free hn e => exact fun h1 h2 O => up O h1 (h2 _ (List.mem_cons_self ..)).1 (h2 _ (List.mem_cons_self ..)).2
  | take hn e H ih => exact fun h1 h2 O => up (ih (O _ _ e).2.1 (hab _) O) h1 (h2 _ (List.mem_cons_self ..)).1 (h2 _ (List.mem_cons_self ..)).2
  | fail hn e H1 H2 ih1 ih2 => exact fun h1 h2 O => ih2 h1 (fun q hq => h2 q (List.mem_cons_of_mem _ hq)) (ih1 (O _ _ e).2.1 (hab _) O)
/-- what holds when all lows below n have been tried -/
structure Inv (lt : Nat → Nat → Bool) (n : Nat) (f : Nat → Option Nat) (U : Nat → Prop) : Prop where
  ok : Ok lt f
  c1 : ∀ l, cnt f l ≤ 1
  c0 : ∀ l, n ≤ l → cnt f l = 0
  clo : Clo (abF lt) f U
  un : ∀ l, l < n → cnt f l = 0 → ∀ h ∈ abF lt l, U h
theorem inv_of {lt : Nat → Nat → Bool} {n : Nat} {f : Nat → Option Nat} (H : Lads (abF lt) n f) : n ≤ 6 → ∃ U, Inv lt n f U := by
  induction H with
  | zero =>
    intro _
    have z : ∀ l, cnt (fun _ => none) l = 0 := fun l => by unfold cnt; rw [List.filter_eq_nil_iff.mpr]; rfl; intro _ _; simp
    exact ⟨fun _ => False, fun h l e => (nomatch e), fun l => by rw [z]; decide, fun l _ => z l, fun h q => q.elim, fun l hl => absurd hl (Nat.not_lt_zero _)⟩
  | @succ n f b f' t' K H ih =>
    intro hn
    obtain ⟨U, I⟩ := ih (by omega)
    have hab : ∀ q ∈ abF lt n, q < 6 ∧ lt n q = true := fun q hq => ⟨List.mem_range.mp (List.mem_filter.mp hq).1, (List.mem_filter.mp hq).2⟩
    have J : JOk f [] := ⟨fun i l e => (I.ok i l e).2.1, List.nodup_nil, fun x hx => (nomatch hx)⟩
    have O' := H.okF (by omega) hab I.ok
    cases b with
    | false =>
      obtain ⟨e, a, c⟩ := H.no rfl
      subst e
      refine ⟨fun h => U h ∨ h ∈ t', I.ok, I.c1, fun l hl => I.c0 l (by omega), fun h q => ?_, fun l hl h0 h hh => ?_⟩
      · rcases q with q | q
        · obtain ⟨l, e, k⟩ := I.clo h q
          exact ⟨l, e, fun x hx => .inl (k x hx)⟩
        · obtain ⟨l, e, k⟩ := c h q (fun x => nomatch x)
          exact ⟨l, e, fun x hx => .inr (k x hx)⟩
      · by_cases e : l = n
        · subst e; exact .inr (a h hh)
        · exact .inl (I.un l (by omega) h0 h hh)
    | true =>
      obtain ⟨c, _⟩ := H.cnt (abF_lt lt) (by omega) (fun q hq => (hab q hq).1) J rfl
      have ku := H.keepU I.clo
      refine ⟨U, O', fun l => ?_, fun l hl => ?_, fun h q => ?_, fun l hl h0 h hh => ?_⟩
      · rw [c l]
        split
        · rename_i e; subst e; rw [I.c0 _ (Nat.le_refl _)]; decide
        · exact I.c1 l
      · rw [c l, I.c0 l (by omega), if_neg (by omega)]
      · obtain ⟨l, e, k⟩ := I.clo h q
        exact ⟨l, (ku h q).trans e, k⟩
      · by_cases e : l = n
        · subst e; rw [c l, if_pos rfl] at h0; omega
        · rw [c l] at h0
          exact I.un l (by omega) (by omega) h hh
end Mine

/-! Pl3 -/
namespace Mine
def lad (f : Nat → Option Nat) : Nat → Nat → List Nat
  | 0, x => [x]
  | n + 1, x => x :: (match nxt f x with
    | none => []
    | some h => lad f n h)
theorem lad_head (f : Nat → Option Nat) (n x : Nat) : x ∈ lad f n x := by cases n <;> exact List.mem_cons_self ..
theorem lad_none {f : Nat → Option Nat} {n x : Nat} (h : nxt f x = none) : lad f (n + 1) x = [x] := by
  show x :: (match nxt f x with | none => [] | some h => lad f n h) = _; rw [h]
theorem lad_some {f : Nat → Option Nat} {n x h : Nat} (e : nxt f x = some h) : lad f (n + 1) x = x :: lad f n h := by
  show x :: (match nxt f x with | none => [] | some h => lad f n h) = _; rw [e]
theorem climb_lad (f : Nat → Option Nat) : ∀ (n : Nat) (l : List Nat) (x : Nat), climb f n (l ++ [x]) = l ++ lad f n x
  | 0, l, x => rfl
  | n + 1, l, x => by
    have e : (l ++ [x]).getLastD 0 = x := by simp
    cases h : nxt f x with
    | none => rw [climb_last f _ _ (by rw [e]; exact h), lad_none h]
    | some j => rw [climb_next f _ _ (by rw [e]; exact h), climb_lad f n, lad_some h, List.append_assoc]; rfl
theorem climb_eq (f : Nat → Option Nat) (x : Nat) : climb f 5 [x] = lad f 5 x := climb_lad f 5 [] x
section
variable {lt : Nat → Nat → Bool} {f : Nat → Option Nat} (so : SO lt) (ok : Ok lt f)
include so ok
theorem nxt_ok {x h : Nat} (e : nxt f x = some h) : h < 6 ∧ f h = some x ∧ lt x h = true := by
  obtain ⟨h1, h2, _⟩ := nxt_some e
  exact ⟨h1, h2, (ok _ _ h2).2.2⟩
theorem lad_up : ∀ (n x : Nat), ∀ y ∈ lad f n x, y = x ∨ lt x y = true
  | 0, x, y, hy => .inl (List.mem_singleton.mp hy)
  | n + 1, x, y, hy => by
    cases h : nxt f x with
    | none => rw [lad_none h] at hy; exact .inl (List.mem_singleton.mp hy)
    | some j =>
      rw [lad_some h] at hy
      rcases List.mem_cons.mp hy with q | q
      · exact .inl q
      · have hj := (nxt_ok so ok h).2.2
        rcases lad_up n j y q with r | r
        · exact .inr (r ▸ hj)
        · exact .inr (so.tr _ _ _ hj r)
theorem lad_chain : ∀ (n x : Nat), (lad f n x).Pairwise fun a b => lt a b = true
  | 0, x => List.pairwise_singleton _ _
  | n + 1, x => by
    cases h : nxt f x with
    | none => rw [lad_none h]; exact List.pairwise_singleton _ _
    | some j =>
      rw [lad_some h]
      refine List.pairwise_cons.mpr ⟨fun y hy => ?_, lad_chain n j⟩
      have hj := (nxt_ok so ok h).2.2
      rcases lad_up so ok n j y hy with r | r
      · exact r ▸ hj
      · exact so.tr _ _ _ hj r
theorem lad_six : ∀ (n x : Nat), x < 6 → ∀ y ∈ lad f n x, y < 6
  | 0, x, hx, y, hy => by rw [List.mem_singleton.mp hy]; exact hx
  | n + 1, x, hx, y, hy => by
    cases h : nxt f x with
    | none => rw [lad_none h] at hy; rw [List.mem_singleton.mp hy]; exact hx
    | some j =>
      rw [lad_some h] at hy
      rcases List.mem_cons.mp hy with q | q
      · rw [q]; exact hx
      · exact lad_six n j (nxt_ok so ok h).1 y q
theorem lad_down : ∀ (n x : Nat), ∀ y ∈ lad f n x, y = x ∨ ∃ z ∈ lad f n x, f y = some z
  | 0, x, y, hy => .inl (List.mem_singleton.mp hy)
  | n + 1, x, y, hy => by
    cases h : nxt f x with
    | none => rw [lad_none h] at hy; exact .inl (List.mem_singleton.mp hy)
    | some j =>
      rw [lad_some h] at hy ⊢
      rcases List.mem_cons.mp hy with q | q
      · exact .inl q
      · rcases lad_down n j y q with r | ⟨z, hz, e⟩
        · exact .inr ⟨x, List.mem_cons_self .., r ▸ (nxt_ok so ok h).2.1⟩
        · exact .inr ⟨z, List.mem_cons_of_mem _ hz, e⟩
omit ok
theorem chain_nodup {l : List Nat} (h : l.Pairwise fun a b => lt a b = true) : l.Nodup := h.imp fun {a b} q e => by subst e; rw [so.irr] at q; cases q
theorem above_lt {x h : Nat} (hh : h < 6) (e : lt x h = true) : ((List.range 6).filter (lt h)).length < ((List.range 6).filter (lt x)).length := by
  have nd : ((List.range 6).filter (lt h)).Nodup := List.Pairwise.filter _ List.nodup_range
  have := nodup_len (h :: (List.range 6).filter (lt h)) ((List.range 6).filter (lt x)) (List.nodup_cons.mpr ⟨fun q => absurd (List.mem_filter.mp q).2 (by rw [so.irr]; decide), nd⟩) fun y hy => by
    rcases List.mem_cons.mp hy with q | q
    · subst q; exact List.mem_filter.mpr ⟨List.mem_range.mpr hh, e⟩
    · obtain ⟨q1, q2⟩ := List.mem_filter.mp q
      exact List.mem_filter.mpr ⟨q1, so.tr _ _ _ e q2⟩
  simp only [List.length_cons] at this
  omega
theorem below_lt {z y : Nat} (hz : z < 6) (e : lt z y = true) : ((List.range 6).filter fun q => lt q z).length < ((List.range 6).filter fun q => lt q y).length := by
  have nd : ((List.range 6).filter fun q => lt q z).Nodup := List.Pairwise.filter _ List.nodup_range
  have := nodup_len (z :: (List.range 6).filter fun q => lt q z) ((List.range 6).filter fun q => lt q y) (List.nodup_cons.mpr ⟨fun q => absurd (List.mem_filter.mp q).2 (by rw [so.irr]; decide), nd⟩) fun x hx => by
    rcases List.mem_cons.mp hx with q | q
    · subst q; exact List.mem_filter.mpr ⟨List.mem_range.mpr hz, e⟩
    · obtain ⟨q1, q2⟩ := List.mem_filter.mp q
      exact List.mem_filter.mpr ⟨q1, so.tr _ _ _ q2 e⟩
  simp only [List.length_cons] at this
  omega
theorem above_five {x : Nat} (hx : x < 6) : ((List.range 6).filter (lt x)).length ≤ 5 := by
  have nd : ((List.range 6).filter (lt x)).Nodup := List.Pairwise.filter _ List.nodup_range
  have := nodup_len (x :: (List.range 6).filter (lt x)) (List.range 6) (List.nodup_cons.mpr ⟨fun q => absurd (List.mem_filter.mp q).2 (by rw [so.irr]; decide), nd⟩) fun y hy => by
    rcases List.mem_cons.mp hy with q | q
    · subst q; exact List.mem_range.mpr hx
    · exact (List.mem_filter.mp q).1
  simp at this
  omega
include ok
theorem lad_closed : ∀ (n x : Nat), ((List.range 6).filter (lt x)).length ≤ n → ∀ z ∈ lad f n x, ∀ h, nxt f z = some h → h ∈ lad f n x
  | 0, x, hn, z, hz, h, e => by
    rw [List.mem_singleton.mp hz] at e
    obtain ⟨h1, _, h3⟩ := nxt_ok so ok e
    have : 0 < ((List.range 6).filter (lt x)).length := List.length_pos_of_mem (List.mem_filter.mpr ⟨List.mem_range.mpr h1, h3⟩)
    omega
  | n + 1, x, hn, z, hz, h, e => by
    cases hx : nxt f x with
    | none =>
      rw [lad_none hx] at hz
      rw [List.mem_singleton.mp hz, hx] at e
      cases e
    | some j =>
      obtain ⟨h1, _, h3⟩ := nxt_ok so ok hx
      have := above_lt so h1 h3
      rw [lad_some hx] at hz ⊢
      rcases List.mem_cons.mp hz with q | q
      · rw [q, hx] at e
        cases e
        exact List.mem_cons_of_mem _ (lad_head f n h)
      · exact List.mem_cons_of_mem _ (lad_closed n j (by omega) z q h e)
end
section
variable {lt : Nat → Nat → Bool} {f : Nat → Option Nat} (so : SO lt) (ok : Ok lt f) (c1 : ∀ l, cnt f l ≤ 1)
include ok c1
theorem f_inj {h h' l : Nat} (e : f h = some l) (e' : f h' = some l) : h = h' := by
  rcases Nat.decEq h h' with q | q
  · have := nodup_len [h, h'] ((List.range 6).filter fun h => f h == some l) (by simp [q]) fun x hx => by
      simp only [List.mem_cons, List.not_mem_nil, or_false] at hx
      rcases hx with r | r
      · subst r; exact List.mem_filter.mpr ⟨List.mem_range.mpr (ok _ _ e).1, by simp [e]⟩
      · subst r; exact List.mem_filter.mpr ⟨List.mem_range.mpr (ok _ _ e').1, by simp [e']⟩
    have h1 := c1 l
    unfold cnt at h1
    simp only [List.length_cons, List.length_nil] at this
    omega
  · exact q
theorem nxt_eq {h l : Nat} (e : f h = some l) : nxt f l = some h := by
  cases q : nxt f l with
  | some j => rw [f_inj ok c1 (nxt_some q).2.1 e]
  | none =>
    unfold nxt at q
    rw [List.find?_eq_none] at q
    exact absurd (by simp [e]) (q h (List.mem_range.mpr (ok _ _ e).1))
include so
theorem cover : ∀ (n y : Nat), ((List.range 6).filter fun q => lt q y).length ≤ n → y < 6 → ∃ x ∈ feetF f, y ∈ lad f 5 x := by
  intro n
  induction n with
  | zero =>
    intro y hn hy
    cases e : f y with
    | none => exact ⟨y, List.mem_filter.mpr ⟨List.mem_range.mpr hy, by simp [e]⟩, lad_head ..⟩
    | some z =>
      obtain ⟨_, hz, hl⟩ := ok _ _ e
      have := below_lt so hz hl
      omega
  | succ n ih =>
    intro y hn hy
    cases e : f y with
    | none => exact ⟨y, List.mem_filter.mpr ⟨List.mem_range.mpr hy, by simp [e]⟩, lad_head ..⟩
    | some z =>
      obtain ⟨_, hz, hl⟩ := ok _ _ e
      have := below_lt so hz hl
      obtain ⟨x, hx, hm⟩ := ih z (by omega) hz
      exact ⟨x, hx, lad_closed so ok 5 x (above_five so (feet_lt f x hx)) z hm y (nxt_eq ok c1 e)⟩
omit c1
theorem apart : ∀ (n y : Nat), ((List.range 6).filter fun q => lt q y).length ≤ n → ∀ x ∈ feetF f, ∀ x' ∈ feetF f, y ∈ lad f 5 x → y ∈ lad f 5 x' → x = x' := by
  have foot : ∀ x ∈ feetF f, f x = none := fun x hx => by simpa using (List.mem_filter.mp hx).2
  intro n
  induction n with
  | zero =>
    intro y hn x hx x' hx' h h'
    have key : ∀ x ∈ feetF f, y ∈ lad f 5 x → y = x := fun x hx h => by
      rcases lad_down so ok 5 x y h with q | ⟨z, hz, e⟩
      · exact q
      · obtain ⟨_, hz6, hl⟩ := ok _ _ e
        have := below_lt so hz6 hl
        omega
    rw [← key x hx h, ← key x' hx' h']
  | succ n ih =>
    intro y hn x hx x' hx' h h'
    rcases lad_down so ok 5 x y h with q | ⟨z, hz, e⟩
    · rcases lad_down so ok 5 x' y h' with q' | ⟨z', hz', e'⟩
      · exact q.symm.trans q'
      · rw [q, foot x hx] at e'; cases e'
    · rcases lad_down so ok 5 x' y h' with q' | ⟨z', hz', e'⟩
      · rw [q', foot x' hx'] at e; cases e
      · rw [e] at e'
        cases e'
        obtain ⟨_, hz6, hl⟩ := ok _ _ e
        have := below_lt so hz6 hl
        exact ih z (by omega) x hx x' hx' hz hz'
end
theorem lads_eq (f : Nat → Option Nat) : ladsF f = (feetF f).map (lad f 5) := by
  unfold ladsF
  exact List.map_congr_left fun x _ => climb_eq f x
theorem lads_perm {lt : Nat → Nat → Bool} {f : Nat → Option Nat} (so : SO lt) (ok : Ok lt f) (c1 : ∀ l, cnt f l ≤ 1) : (ladsF f).flatten.Perm (List.range 6) := by
  rw [lads_eq]
  have nd : ((feetF f).map (lad f 5)).flatten.Nodup := by
    refine List.pairwise_flatten.mpr ⟨fun l hl => ?_, ?_⟩
    · obtain ⟨x, _, rfl⟩ := List.mem_map.mp hl
      exact chain_nodup so (lad_chain so ok 5 x)
    · rw [List.pairwise_map]
      exact (feet_nodup f).imp_of_mem fun {a b} ha hb hab x hx y hy e => hab (by subst e; exact apart so ok _ x (Nat.le_refl _) a ha b hb hx hy)
  rw [List.perm_ext_iff_of_nodup nd List.nodup_range]
  intro y
  rw [List.mem_range, List.mem_flatten]
  constructor
  · rintro ⟨l, hl, hy⟩
    obtain ⟨x, hx, rfl⟩ := List.mem_map.mp hl
    exact lad_six so ok 5 x (feet_lt f x hx) y hy
  · intro hy
    obtain ⟨x, hx, hm⟩ := cover so ok c1 _ y (Nat.le_refl _) hy
    exact ⟨_, List.mem_map.mpr ⟨x, hx, rfl⟩, hm⟩
theorem lads_six {lt : Nat → Nat → Bool} {f : Nat → Option Nat} (so : SO lt) (ok : Ok lt f) : ∀ l ∈ ladsF f, l.length ≤ 6 ∧ ∀ x ∈ l, x < 6 := by
  rw [lads_eq]
  intro l hl
  obtain ⟨x, hx, rfl⟩ := List.mem_map.mp hl
  have h6 := lad_six so ok 5 x (feet_lt f x hx)
  refine ⟨?_, h6⟩
  have := nodup_len _ (List.range 6) (chain_nodup so (lad_chain so ok 5 x)) fun y hy => List.mem_range.mpr (h6 y hy)
  simpa using this
theorem lads_chain {lt : Nat → Nat → Bool} {f : Nat → Option Nat} (so : SO lt) (ok : Ok lt f) : ∀ l ∈ ladsF f, ∀ (k : Nat) (h : k < l.length), ∀ p ∈ l.take k, lt p l[k] = true := by
  rw [lads_eq]
  intro l hl k h p hp
  obtain ⟨x, hx, rfl⟩ := List.mem_map.mp hl
  obtain ⟨i, hi, e⟩ := List.getElem_of_mem hp
  rw [List.length_take] at hi
  rw [List.getElem_take] at e
  have := List.pairwise_iff_getElem.mp (lad_chain so ok 5 x) i k (by omega) h (by omega)
  rwa [e] at this
end Mine

/-! Pl4 -/
namespace Mine
def mk6 (b0 b1 b2 b3 b4 b5 : Bool) : Nat := b0.toNat + 2 * b1.toNat + 4 * b2.toNat + 8 * b3.toNat + 16 * b4.toNat + 32 * b5.toNat
def pick6 (b0 b1 b2 b3 b4 b5 : Bool) (i : Nat) : Bool := [b0, b1, b2, b3, b4, b5].getD i false
theorem mask6 : ∀ b0 b1 b2 b3 b4 b5 : Bool, mk6 b0 b1 b2 b3 b4 b5 < 64 ∧ memF (mk6 b0 b1 b2 b3 b4 b5) = (List.range 6).filter (pick6 b0 b1 b2 b3 b4 b5) ∧
    ((mk6 b0 b1 b2 b3 b4 b5 : Nat) : Int) = (((List.range 6).filter (pick6 b0 b1 b2 b3 b4 b5)).map fun q : Nat => (2 : Int) ^ q).sum := by decide +kernel
theorem mask (P : Nat → Bool) : ∃ c, c < 64 ∧ memF c = (List.range 6).filter P ∧ (c : Int) = (((List.range 6).filter P).map fun q : Nat => (2 : Int) ^ q).sum := by
  have e : (List.range 6).filter P = (List.range 6).filter (pick6 (P 0) (P 1) (P 2) (P 3) (P 4) (P 5)) := by
    apply List.filter_congr
    intro x hx
    have : x = 0 ∨ x = 1 ∨ x = 2 ∨ x = 3 ∨ x = 4 ∨ x = 5 := by have := List.mem_range.mp hx; omega
    rcases this with rfl | rfl | rfl | rfl | rfl | rfl <;> rfl
  rw [e]
  exact ⟨_, mask6 _ _ _ _ _ _⟩
theorem mem_bits : ∀ c : Nat, c < 64 → memF c = (List.range 6).filter fun p => c.testBit p := by decide +kernel
def S6 (x : Nat → Bool) : Nat := (x 0).toNat + 2 * (x 1).toNat + 4 * (x 2).toNat + 8 * (x 3).toNat + 16 * (x 4).toNat + 32 * (x 5).toNat
theorem rep6 : ∀ c : Nat, c < 64 → c = S6 fun q => c.testBit q := by decide +kernel
theorem any6 (x : Nat → Bool) : (List.range 6).any x = (x 0 || (x 1 || (x 2 || (x 3 || (x 4 || (x 5 || false)))))) := rfl
theorem s0 : ∀ a b c d e f : Bool, (a.toNat + 2 * b.toNat + 4 * c.toNat + 8 * d.toNat + 16 * e.toNat + 32 * f.toNat != 0) = (a || (b || (c || (d || (e || (f || false)))))) := by decide +kernel
theorem s1 : ∀ a b c d e f : Bool, (List.range 6).all (fun p => !(pick6 a b c d e f p) || ((a.toNat + 2 * b.toNat + 4 * c.toNat + 8 * d.toNat + 16 * e.toNat + 32 * f.toNat != 2 ^ p) == (List.range 6).any fun q => q != p && pick6 a b c d e f q)) = true := by decide +kernel
theorem and_lt {m c : Nat} (hc : c < 64) : m &&& c < 64 := Nat.lt_of_le_of_lt Nat.and_le_right hc
theorem and6 {m c : Nat} (hc : c < 64) : m &&& c = S6 fun q => c.testBit q && m.testBit q := by
  conv => lhs; rw [rep6 (m &&& c) (and_lt hc)]
  congr 1
  funext q
  rw [Nat.testBit_and, Bool.and_comm]
theorem nat0 (m : Nat) (hm : m < 64) (c : Nat) (hc : c < 64) : (m &&& c != 0) = (List.range 6).any fun q => c.testBit q && m.testBit q := by
  rw [and6 hc, any6]
  exact s0 _ _ _ _ _ _
theorem split6 (a b : Nat → Bool) : S6 b = (S6 fun q => b q && a q) + S6 fun q => b q && !a q := by
  have h : ∀ q, (b q).toNat = (b q && a q).toNat + (b q && !a q).toNat := fun q => by cases a q <;> cases b q <;> rfl
  have h0 := h 0
  have h1 := h 1
  have h2 := h 2
  have h3 := h 3
  have h4 := h 4
  have h5 := h 5
  unfold S6
  dsimp only
  omega
theorem nat1 (m : Nat) (hm : m < 64) (c : Nat) (hc : c < 64) : ((List.range 6).all fun p => !(c.testBit p && !m.testBit p) || (((m &&& c) + 2 ^ p != c) == (List.range 6).any fun q => c.testBit q && (q != p && !m.testBit q))) = true := by
  rw [List.all_eq_true]
  intro p hp
  have e := split6 (fun q => m.testBit q) (fun q => c.testBit q)
  rw [← rep6 c hc, ← and6 hc] at e
  have e1 : ((m &&& c) + 2 ^ p != c) = ((S6 fun q => c.testBit q && !m.testBit q) != 2 ^ p) := by
    rw [Bool.eq_iff_iff, bne_iff_ne, bne_iff_ne]
    omega
  have h := List.all_eq_true.mp (s1 (c.testBit 0 && !m.testBit 0) (c.testBit 1 && !m.testBit 1) (c.testBit 2 && !m.testBit 2) (c.testBit 3 && !m.testBit 3) (c.testBit 4 && !m.testBit 4) (c.testBit 5 && !m.testBit 5)) p hp
  have pk : ∀ q, q < 6 → pick6 (c.testBit 0 && !m.testBit 0) (c.testBit 1 && !m.testBit 1) (c.testBit 2 && !m.testBit 2) (c.testBit 3 && !m.testBit 3) (c.testBit 4 && !m.testBit 4) (c.testBit 5 && !m.testBit 5) q = (c.testBit q && !m.testBit q) := by
    intro q hq
    have : q = 0 ∨ q = 1 ∨ q = 2 ∨ q = 3 ∨ q = 4 ∨ q = 5 := by omega
    rcases this with rfl | rfl | rfl | rfl | rfl | rfl <;> rfl
  rw [pk p (List.mem_range.mp hp)] at h
  have e2 : ((List.range 6).any fun q => q != p && pick6 (c.testBit 0 && !m.testBit 0) (c.testBit 1 && !m.testBit 1) (c.testBit 2 && !m.testBit 2) (c.testBit 3 && !m.testBit 3) (c.testBit 4 && !m.testBit 4) (c.testBit 5 && !m.testBit 5) q) = (List.range 6).any fun q => c.testBit q && (q != p && !m.testBit q) := by
    rw [Bool.eq_iff_iff, List.any_eq_true, List.any_eq_true]
    constructor
    · rintro ⟨q, hq, z⟩
      refine ⟨q, hq, ?_⟩
      rw [pk q (List.mem_range.mp hq)] at z
      revert z
      cases (q != p) <;> cases c.testBit q <;> cases m.testBit q <;> decide
    · rintro ⟨q, hq, z⟩
      refine ⟨q, hq, ?_⟩
      rw [pk q (List.mem_range.mp hq)]
      revert z
      cases (q != p) <;> cases c.testBit q <;> cases m.testBit q <;> decide
  rw [e2] at h
  rw [e1]
  exact h
theorem band_nat (m c : Nat) : Builtin.bitAnd (m : Int) (c : Int) = ((m &&& c : Nat) : Int) := rfl
theorem cont_bit {c q : Nat} (hc : c < 64) (hq : q < 6) : (memF c).contains q = c.testBit q := by
  rw [mem_bits c hc, Bool.eq_iff_iff, List.contains_iff_mem, List.mem_filter, List.mem_range]
  exact ⟨fun h => h.2, fun h => ⟨hq, h⟩⟩
theorem any_bit {c : Nat} (hc : c < 64) (g g' : Nat → Bool) (h : ∀ q, q < 6 → g q = g' q) : (memF c).any g = (List.range 6).any fun q => c.testBit q && g' q := by
  rw [mem_bits c hc, List.any_filter, Bool.eq_iff_iff, List.any_eq_true, List.any_eq_true]
  constructor
  · rintro ⟨q, hq, e⟩
    exact ⟨q, hq, by rw [← h q (List.mem_range.mp hq)]; exact e⟩
  · rintro ⟨q, hq, e⟩
    exact ⟨q, hq, by rw [h q (List.mem_range.mp hq)]; exact e⟩
theorem bits0 (m : Nat) (hm : m < 64) (c : Nat) (hc : c < 64) : (Builtin.bitAnd (m : Int) (c : Int) != 0) = (memF c).any fun q => (memF m).contains q := by
  rw [any_bit hc _ (fun q => m.testBit q) fun q hq => cont_bit hm hq, ← nat0 m hm c hc, band_nat, Bool.eq_iff_iff, bne_iff_ne, bne_iff_ne]
  omega
theorem bits1 (m : Nat) (hm : m < 64) (c : Nat) (hc : c < 64) : ((List.range 6).all fun p => !((memF c).contains p && !(memF m).contains p) || ((Builtin.bitAnd (m : Int) (c : Int) != (c : Int) - 2 ^ p) == (memF c).any fun q => (q != p && !(memF m).contains q))) = true := by
  rw [List.all_eq_true]
  intro p hp
  have h := List.all_eq_true.mp (nat1 m hm c hc) p hp
  have hp6 := List.mem_range.mp hp
  rw [cont_bit hc hp6, cont_bit hm hp6, any_bit hc _ (fun q => q != p && !m.testBit q) fun q hq => by rw [cont_bit hm hq], band_nat]
  have e : ((((m &&& c : Nat) : Int)) != (c : Int) - 2 ^ p) = ((m &&& c) + 2 ^ p != c) := by
    have e2 : ((2 ^ p : Nat) : Int) = (2 : Int) ^ p := by exact Int.natCast_pow 2 p
    rw [← e2, Bool.eq_iff_iff, bne_iff_ne, bne_iff_ne]
    omega
  rw [e]
  exact h
end Mine

/-! Pl5 -/
namespace Mine
theorem mem_six {c p : Nat} (h : p ∈ memF c) : p < 6 := List.mem_range.mp (List.mem_filter.mp h).1
theorem mem_nodup (c : Nat) : (memF c).Nodup := List.Pairwise.filter _ List.nodup_range
theorem told_mask (lt : Nat → Nat → Bool) (p : Nat) : ∃ m : Nat, m < 64 ∧ toldF lt p = (m : Int) ∧ ∀ q, q ∈ memF m ↔ q < 6 ∧ (lt p q = true ∨ lt q p = true) := by
  obtain ⟨m, h1, h2, h3⟩ := mask fun q => lt p q || lt q p
  refine ⟨m, h1, h3.symm, fun q => ?_⟩
  rw [h2, List.mem_filter, List.mem_range, Bool.or_eq_true]
theorem anti_iff (lt : Nat → Nat → Bool) {c : Nat} (hc : c < 64) : antiF lt c = true ↔ ∀ p ∈ memF c, ∀ q ∈ memF c, lt p q = false := by
  have key : ∀ p ∈ memF c, (Builtin.bitAnd (toldF lt p) (c : Int) != 0) = true ↔ ∃ q ∈ memF c, lt p q = true ∨ lt q p = true := by
    intro p hp
    obtain ⟨m, h1, h2, h3⟩ := told_mask lt p
    rw [h2, bits0 m h1 c hc, List.any_eq_true]
    constructor
    · rintro ⟨q, hq, e⟩
      exact ⟨q, hq, ((h3 q).mp (List.contains_iff_mem.mp e)).2⟩
    · rintro ⟨q, hq, e⟩
      exact ⟨q, hq, List.contains_iff_mem.mpr ((h3 q).mpr ⟨mem_six hq, e⟩)⟩
  unfold antiF
  rw [List.isEmpty_iff, List.filter_eq_nil_iff]
  constructor
  · intro h p hp q hq
    have := h p hp
    rw [key p hp] at this
    rw [← Bool.not_eq_true]
    exact fun e => this ⟨q, hq, .inl e⟩
  · intro h p hp e
    obtain ⟨q, hq, e⟩ := (key p hp).mp e
    rcases e with e | e
    · rw [h p hp q hq] at e; cases e
    · rw [h q hq p hp] at e; cases e
theorem chain_iff {lt : Nat → Nat → Bool} (so : SO lt) {c : Nat} (hc : c < 64) : chainF lt c = true ↔ ∀ p ∈ memF c, ∀ q ∈ memF c, q ≠ p → lt p q = true ∨ lt q p = true := by
  have key : ∀ p ∈ memF c, (Builtin.bitAnd (toldF lt p) (c : Int) != (c : Int) - 2 ^ p) = true ↔ ∃ q ∈ memF c, q ≠ p ∧ ¬ (lt p q = true ∨ lt q p = true) := by
    intro p hp
    obtain ⟨m, h1, h2, h3⟩ := told_mask lt p
    have hpm : p ∉ memF m := fun q => by
      have := ((h3 p).mp q).2
      rw [so.irr] at this
      rcases this with e | e <;> cases e
    have b := List.all_eq_true.mp (bits1 m h1 c hc) p (List.mem_range.mpr (mem_six hp))
    have e1 : (memF c).contains p = true := List.contains_iff_mem.mpr hp
    have e2 : (memF m).contains p = false := by rw [← Bool.not_eq_true]; exact fun q => hpm (List.contains_iff_mem.mp q)
    rw [e1, e2] at b
    have b' : (Builtin.bitAnd (m : Int) (c : Int) != (c : Int) - 2 ^ p) = (memF c).any fun q => (q != p && !(memF m).contains q) := by simpa using b
    rw [h2, b', List.any_eq_true]
    constructor
    · rintro ⟨q, hq, e⟩
      simp only [Bool.and_eq_true, bne_iff_ne, Bool.not_eq_true'] at e
      refine ⟨q, hq, e.1, fun r => ?_⟩
      have := List.contains_iff_mem.mpr ((h3 q).mpr ⟨mem_six hq, r⟩)
      rw [e.2] at this; cases this
    · rintro ⟨q, hq, e, r⟩
      refine ⟨q, hq, ?_⟩
      simp only [Bool.and_eq_true, bne_iff_ne, Bool.not_eq_true']
      refine ⟨e, ?_⟩
      rw [← Bool.not_eq_true]
      exact fun x => r ((h3 q).mp (List.contains_iff_mem.mp x)).2
  unfold chainF
  rw [List.isEmpty_iff, List.filter_eq_nil_iff]
  constructor
  · intro h p hp q hq hne
    have := h p hp
    rw [key p hp] at this
    exact Classical.byContradiction fun e => this ⟨q, hq, hne, e⟩
  · intro h p hp e
    obtain ⟨q, hq, hne, e⟩ := (key p hp).mp e
    exact e (h p hp q hq hne)
theorem best_le (ok : Nat → Bool) (m : Int) (hm : 0 ≤ m) : ∀ n, (∀ c, c < n → ok c = true → ((memF c).length : Int) ≤ m) → bestF ok n ≤ m
  | 0, _ => hm
  | n + 1, h => by
    rw [bestF_succ]
    have ih := best_le ok m hm n fun c hc => h c (by omega)
    unfold bestStep
    split
    · rename_i e
      have := h n (by omega) e
      split <;> omega
    · exact ih
theorem best_mono (ok : Nat → Bool) (n : Nat) : bestF ok n ≤ bestF ok (n + 1) := by
  rw [bestF_succ]
  unfold bestStep
  split
  · split <;> omega
  · exact Int.le_refl _
theorem best_ge (ok : Nat → Bool) {c : Nat} (hk : ok c = true) : ∀ n, c < n → ((memF c).length : Int) ≤ bestF ok n
  | n + 1, h => by
    by_cases e : c = n
    · subst e
      rw [bestF_succ]
      unfold bestStep
      rw [hk]
      simp only [if_true]
      split <;> omega
    · exact Int.le_trans (best_ge ok hk n (by omega)) (best_mono ok n)

/-! the width -/
theorem wide_le {lt : Nat → Nat → Bool} {f : Nat → Option Nat} (so : SO lt) (ok : Ok lt f) (c1 : ∀ l, cnt f l ≤ 1) {As : List Nat} (nd : As.Nodup) (h6 : ∀ x ∈ As, x < 6) (an : ∀ p ∈ As, ∀ q ∈ As, lt p q = false) : As.length ≤ (feetF f).length := by
  have ex : ∀ y, ∃ x, y < 6 → x ∈ feetF f ∧ y ∈ lad f 5 x := fun y => by
    by_cases h : y < 6
    · obtain ⟨x, h1, h2⟩ := cover so ok c1 _ y (Nat.le_refl _) h
      exact ⟨x, fun _ => ⟨h1, h2⟩⟩
    · exact ⟨0, fun q => absurd q h⟩
  let g : Nat → Nat := fun y => Classical.choose (ex y)
  have hg : ∀ y, y < 6 → g y ∈ feetF f ∧ y ∈ lad f 5 (g y) := fun y => Classical.choose_spec (ex y)
  have := nodup_len (As.map g) (feetF f) ?_ fun x hx => by
    obtain ⟨y, hy, rfl⟩ := List.mem_map.mp hx
    exact (hg y (h6 y hy)).1
  · rwa [List.length_map] at this
  · show List.Pairwise _ _
    rw [List.pairwise_map]
    refine nd.imp_of_mem fun {a b} ha hb hab e => ?_
    have h1 := (hg a (h6 a ha)).2
    have h2 := (hg b (h6 b hb)).2
    rw [e] at h1
    obtain ⟨i, hi, ei⟩ := List.getElem_of_mem h1
    obtain ⟨j, hj, ej⟩ := List.getElem_of_mem h2
    have pw := List.pairwise_iff_getElem.mp (lad_chain so ok 5 (g b))
    rcases Nat.lt_trichotomy i j with q | q | q
    · have := pw i j hi hj q
      rw [ei, ej, an a ha b hb] at this
      cases this
    · subst q; exact hab (ei.symm.trans ej)
    · have := pw j i hj hi q
      rw [ei, ej, an b hb a ha] at this
      cases this
open Classical in
theorem wide_ge {lt : Nat → Nat → Bool} {f : Nat → Option Nat} {U : Nat → Prop} (I : Inv lt 6 f U) : ∃ P : Nat → Bool, (∀ p q, p < 6 → q < 6 → P p = true → P q = true → lt p q = false) ∧ (feetF f).length ≤ ((List.range 6).filter P).length := by
  let Sx : Nat → Prop := fun x => cnt f x = 0 ∨ ∃ t, U t ∧ f t = some x
  refine ⟨fun x => decide (¬ U x ∧ Sx x), fun p q hp hq h1 h2 => ?_, ?_⟩
  · simp only [decide_eq_true_eq] at h1 h2
    rw [← Bool.not_eq_true]
    intro e
    have hm : q ∈ abF lt p := List.mem_filter.mpr ⟨List.mem_range.mpr hq, e⟩
    apply h2.1
    rcases h1.2 with z | ⟨t, ht, et⟩
    · exact I.un p hp z q hm
    · obtain ⟨l, el, k⟩ := I.clo t ht
      rw [et] at el
      cases el
      exact k q hm
  · let UU := (List.range 6).filter fun x => decide (U x)
    let N := (List.range 6).filter fun x => decide (¬ Sx x)
    let Mt := (List.range 6).filter fun x => (f x).isSome
    let hi : Nat → Nat := fun l => (nxt f l).getD 0
    have hN : ∀ l ∈ N, f (hi l) = some l ∧ ¬ U (hi l) := fun l hl => by
      have h := (List.mem_filter.mp hl).2
      simp only [decide_eq_true_eq] at h
      have hc : cnt f l ≠ 0 := fun z => h (.inl z)
      have : ∃ j, nxt f l = some j := by
        cases q : nxt f l with
        | some j => exact ⟨j, rfl⟩
        | none =>
          exfalso
          apply hc
          unfold nxt at q
          rw [List.find?_eq_none] at q
          unfold cnt
          rw [List.filter_eq_nil_iff.mpr]
          · rfl
          · intro x hx; exact q x hx
      obtain ⟨j, hj⟩ := this
      have e : hi l = j := by show (nxt f l).getD 0 = j; rw [hj]; rfl
      rw [e]
      have ej := (nxt_some hj).2.1
      exact ⟨ej, fun u => h (.inr ⟨j, u, ej⟩)⟩
    have ndr : ∀ P : Nat → Bool, ((List.range 6).filter P).Nodup := fun P => List.Pairwise.filter _ List.nodup_range
    have l1 : UU.length + N.length ≤ Mt.length := by
      have := nodup_len (UU ++ N.map hi) Mt ?_ ?_
      · simpa using this
      · rw [List.nodup_append]
        refine ⟨ndr _, ?_, ?_⟩
        · show List.Pairwise _ _
          rw [List.pairwise_map]
          exact (ndr _).imp_of_mem fun {a b} ha hb hab e => hab (by
            have h1 := (hN a ha).1
            have h2 := (hN b hb).1
            rw [e, h2] at h1
            cases h1; rfl)
        · intro x hx y hy e
          obtain ⟨l, hl, rfl⟩ := List.mem_map.mp hy
          have h := (List.mem_filter.mp hx).2
          simp only [decide_eq_true_eq] at h
          exact (hN l hl).2 (e ▸ h)
      · intro x hx
        rcases List.mem_append.mp hx with q | q
        · obtain ⟨q1, q2⟩ := List.mem_filter.mp q
          simp only [decide_eq_true_eq] at q2
          obtain ⟨l, e, _⟩ := I.clo x q2
          exact List.mem_filter.mpr ⟨q1, by rw [e]; rfl⟩
        · obtain ⟨l, hl, rfl⟩ := List.mem_map.mp q
          have e := (hN l hl).1
          exact List.mem_filter.mpr ⟨List.mem_range.mpr (I.ok _ _ e).1, by rw [e]; rfl⟩
    have l2 : (feetF f).length + Mt.length ≤ 6 := by
      have := nodup_len (feetF f ++ Mt) (List.range 6) ?_ ?_
      · simpa using this
      · rw [List.nodup_append]
        refine ⟨feet_nodup f, ndr _, fun x hx y hy e => ?_⟩
        have h1 := (List.mem_filter.mp hx).2
        have h2 := (List.mem_filter.mp hy).2
        subst e
        cases q : f x with
        | none => rw [q] at h2; cases h2
        | some l => rw [q] at h1; cases h1
      · intro x hx
        rcases List.mem_append.mp hx with q | q
        · exact (List.mem_filter.mp q).1
        · exact (List.mem_filter.mp q).1
    have l3 : 6 ≤ ((List.range 6).filter fun x => decide (¬ U x ∧ Sx x)).length + (UU.length + N.length) := by
      have := nodup_len (List.range 6) (((List.range 6).filter fun x => decide (¬ U x ∧ Sx x)) ++ (UU ++ N)) List.nodup_range fun x hx => by
        by_cases hu : U x
        · exact List.mem_append_right _ (List.mem_append_left _ (List.mem_filter.mpr ⟨hx, by simpa using hu⟩))
        · by_cases hs : Sx x
          · exact List.mem_append_left _ (List.mem_filter.mpr ⟨hx, by simp only [decide_eq_true_eq]; exact ⟨hu, hs⟩⟩)
          · exact List.mem_append_right _ (List.mem_append_right _ (List.mem_filter.mpr ⟨hx, by simp only [decide_eq_true_eq]; exact hs⟩))
      simpa using this
    omega
theorem wide_eq {lt : Nat → Nat → Bool} {f : Nat → Option Nat} {U : Nat → Prop} (so : SO lt) (I : Inv lt 6 f U) : ((ladsF f).length : Int) = bestF (antiF lt) 64 := by
  have e : (ladsF f).length = (feetF f).length := by unfold ladsF; rw [List.length_map]
  rw [e]
  apply Int.le_antisymm
  · obtain ⟨P, h1, h2⟩ := wide_ge I
    obtain ⟨c, hc, hm, _⟩ := mask P
    have ha : antiF lt c = true := (anti_iff lt hc).mpr fun p hp q hq => by
      rw [hm] at hp hq
      obtain ⟨p1, p2⟩ := List.mem_filter.mp hp
      obtain ⟨q1, q2⟩ := List.mem_filter.mp hq
      exact h1 p q (List.mem_range.mp p1) (List.mem_range.mp q1) p2 q2
    have := best_ge (antiF lt) ha 64 hc
    rw [hm] at this
    omega
  · refine best_le _ _ (by omega) 64 fun c hc ha => ?_
    have := wide_le so I.ok I.c1 (mem_nodup c) (fun x hx => mem_six hx) ((anti_iff lt hc).mp ha)
    omega
end Mine

/-! Pl6 -/
namespace Mine
theorem floor_mem {lt : Nat → Nat → Bool} {left : List Nat} {p : Nat} : p ∈ floorF lt left ↔ p ∈ left ∧ ∀ q ∈ left, lt q p = false := by
  unfold floorF
  rw [List.mem_filter, List.isEmpty_iff, List.filter_eq_nil_iff]
  simp only [Bool.not_eq_true]
def restF (lt : Nat → Nat → Bool) (left : List Nat) : List Nat := left.filter fun p => !(floorF lt left).contains p
theorem rest_mem {lt : Nat → Nat → Bool} {left : List Nat} {p : Nat} : p ∈ restF lt left ↔ p ∈ left ∧ p ∉ floorF lt left := by
  unfold restF
  rw [List.mem_filter, Bool.not_eq_true', ← Bool.not_eq_true, List.contains_iff_mem]
theorem go_succ (lt : Nat → Nat → Bool) (n : Nat) {left : List Nat} (h : left ≠ []) : floorsGo lt (n + 1) left = 1 + floorsGo lt n (restF lt left) := by
  show (if left.isEmpty = true then 0 else 1 + floorsGo lt n (restF lt left)) = _
  rw [if_neg (by rw [List.isEmpty_iff]; exact h)]
theorem low_ex {lt : Nat → Nat → Bool} (so : SO lt) {left : List Nat} (nd : left.Nodup) : ∀ (n x : Nat), (left.filter fun q => lt q x).length ≤ n → x ∈ left → ∃ y ∈ floorF lt left, y = x ∨ lt y x = true := by
  intro n
  induction n with
  | zero =>
    intro x hn hx
    refine ⟨x, floor_mem.mpr ⟨hx, fun q hq => ?_⟩, .inl rfl⟩
    rw [← Bool.not_eq_true]
    intro e
    have := List.length_pos_of_mem (List.mem_filter.mpr ⟨hq, e⟩ : q ∈ left.filter fun q => lt q x)
    omega
  | succ n ih =>
    intro x hn hx
    by_cases h : ∀ q ∈ left, lt q x = false
    · exact ⟨x, floor_mem.mpr ⟨hx, h⟩, .inl rfl⟩
    · have : ∃ q, q ∈ left ∧ lt q x = true := Classical.byContradiction fun e => h fun q hq => by
        rw [← Bool.not_eq_true]; exact fun r => e ⟨q, hq, r⟩
      obtain ⟨q, hq, e⟩ := this
      have lt1 : (left.filter fun r => lt r q).length + 1 ≤ (left.filter fun r => lt r x).length := by
        have := nodup_len (q :: left.filter fun r => lt r q) (left.filter fun r => lt r x) (List.nodup_cons.mpr ⟨fun z => absurd (List.mem_filter.mp z).2 (by rw [so.irr]; decide), List.Pairwise.filter _ nd⟩) fun r hr => by
          rcases List.mem_cons.mp hr with z | z
          · subst z; exact List.mem_filter.mpr ⟨hq, e⟩
          · obtain ⟨z1, z2⟩ := List.mem_filter.mp z
            exact List.mem_filter.mpr ⟨z1, so.tr _ _ _ z2 e⟩
        simpa using this
      obtain ⟨y, hy, r⟩ := ih q (by omega) hq
      refine ⟨y, hy, .inr ?_⟩
      rcases r with r | r
      · exact r ▸ e
      · exact so.tr _ _ _ r e
theorem go_ge {lt : Nat → Nat → Bool} (so : SO lt) : ∀ (n : Nat) (left : List Nat), left.Nodup → left.length ≤ n → ∀ C : List Nat, C.Nodup → (∀ x ∈ C, x ∈ left) → (∀ p ∈ C, ∀ q ∈ C, q ≠ p → lt p q = true ∨ lt q p = true) → C.length ≤ floorsGo lt n left := by
  intro n
  induction n with
  | zero =>
    intro left nd hl C nC hC hc
    have := nodup_len C left nC hC
    omega
  | succ n ih =>
    intro left nd hl C nC hC hc
    by_cases h0 : left = []
    · subst h0
      have := nodup_len C [] nC hC
      simp at this
      rw [this]; exact Nat.zero_le _
    · rw [go_succ lt n h0]
      obtain ⟨x, hx⟩ := List.exists_mem_of_ne_nil left h0
      obtain ⟨y, hy, _⟩ := low_ex so nd _ x (Nat.le_refl _) hx
      have hrl : (restF lt left).length + 1 ≤ left.length := by
        have := nodup_len (y :: restF lt left) left (List.nodup_cons.mpr ⟨fun z => (rest_mem.mp z).2 hy, List.Pairwise.filter _ nd⟩) fun r hr => by
          rcases List.mem_cons.mp hr with z | z
          · subst z; exact (floor_mem.mp hy).1
          · exact (rest_mem.mp z).1
        simpa using this
      have ih := ih (restF lt left) (List.Pairwise.filter _ nd) (by omega) (C.filter fun p => !(floorF lt left).contains p) (List.Pairwise.filter _ nC)
        (fun x hx => by
          obtain ⟨h1, h2⟩ := List.mem_filter.mp hx
          rw [Bool.not_eq_true', ← Bool.not_eq_true, List.contains_iff_mem] at h2
          exact rest_mem.mpr ⟨hC x h1, h2⟩)
        fun p hp q hq => hc p (List.mem_filter.mp hp).1 q (List.mem_filter.mp hq).1
      have one : (C.filter fun p => (floorF lt left).contains p).length ≤ 1 := by
        cases e : C.filter fun p => (floorF lt left).contains p with
        | nil => exact Nat.zero_le _
        | cons a l => cases l with
          | nil => exact Nat.le_refl _
          | cons b l =>
            exfalso
            have nd' : (C.filter fun p => (floorF lt left).contains p).Nodup := List.Pairwise.filter _ nC
            rw [e] at nd'
            have hab : a ≠ b := by
              have := (List.nodup_cons.mp nd').1
              intro q; subst q; exact this (List.mem_cons_self ..)
            have ha : a ∈ C.filter fun p => (floorF lt left).contains p := by rw [e]; exact List.mem_cons_self ..
            have hb : b ∈ C.filter fun p => (floorF lt left).contains p := by rw [e]; exact List.mem_cons_of_mem _ (List.mem_cons_self ..)
            obtain ⟨a1, a2⟩ := List.mem_filter.mp ha
            obtain ⟨b1, b2⟩ := List.mem_filter.mp hb
            have fa := floor_mem.mp (List.contains_iff_mem.mp a2)
            have fb := floor_mem.mp (List.contains_iff_mem.mp b2)
            rcases hc a a1 b b1 (Ne.symm hab) with r | r
            · rw [fb.2 a fa.1] at r; cases r
            · rw [fa.2 b fb.1] at r; cases r
      have := nodup_len C ((C.filter fun p => (floorF lt left).contains p) ++ C.filter fun p => !(floorF lt left).contains p) nC fun x hx => by
        cases q : (floorF lt left).contains x with
        | true => exact List.mem_append_left _ (List.mem_filter.mpr ⟨hx, q⟩)
        | false => exact List.mem_append_right _ (List.mem_filter.mpr ⟨hx, by rw [q]; rfl⟩)
      rw [List.length_append] at this
      omega
theorem go_ex {lt : Nat → Nat → Bool} (so : SO lt) : ∀ (n : Nat) (left : List Nat), left.Nodup → ∃ C : List Nat, (C.Pairwise fun a b => lt a b = true) ∧ (∀ x ∈ C, x ∈ left) ∧ C.length = floorsGo lt n left := by
  intro n
  induction n with
  | zero => exact fun left _ => ⟨[], List.Pairwise.nil, fun _ h => (nomatch h), rfl⟩
  | succ n ih =>
    intro left nd
    by_cases h0 : left = []
    · subst h0; exact ⟨[], List.Pairwise.nil, fun _ h => (nomatch h), rfl⟩
    · rw [go_succ lt n h0]
      obtain ⟨C, h1, h2, h3⟩ := ih (restF lt left) (List.Pairwise.filter _ nd)
      cases C with
      | nil =>
        obtain ⟨x, hx⟩ := List.exists_mem_of_ne_nil left h0
        obtain ⟨y, hy, _⟩ := low_ex so nd _ x (Nat.le_refl _) hx
        refine ⟨[y], List.pairwise_singleton _ _, fun z hz => ?_, by rw [← h3]; rfl⟩
        rw [List.mem_singleton.mp hz]
        exact (floor_mem.mp hy).1
      | cons c cs =>
        have hc := rest_mem.mp (h2 c (List.mem_cons_self ..))
        obtain ⟨y, hy, r⟩ := low_ex so nd _ c (Nat.le_refl _) hc.1
        have hyc : lt y c = true := by
          rcases r with r | r
          · exact absurd (r ▸ hy) hc.2
          · exact r
        refine ⟨y :: c :: cs, List.pairwise_cons.mpr ⟨fun z hz => ?_, h1⟩, fun z hz => ?_, by rw [List.length_cons, h3]; omega⟩
        · rcases List.mem_cons.mp hz with q | q
          · exact q ▸ hyc
          · exact so.tr _ _ _ hyc ((List.pairwise_cons.mp h1).1 z q)
        · rcases List.mem_cons.mp hz with q | q
          · rw [q]; exact (floor_mem.mp hy).1
          · exact (rest_mem.mp (h2 z q)).1
theorem long_eq {lt : Nat → Nat → Bool} (so : SO lt) : ((floorsGo lt 6 (List.range 6) : Nat) : Int) = bestF (chainF lt) 64 := by
  apply Int.le_antisymm
  · obtain ⟨C, h1, h2, h3⟩ := go_ex so 6 (List.range 6) List.nodup_range
    obtain ⟨c, hc, hm, _⟩ := mask fun x => C.contains x
    have inC : ∀ p, p ∈ memF c → p ∈ C := fun p hp => by
      rw [hm] at hp
      exact List.contains_iff_mem.mp (List.mem_filter.mp hp).2
    have hch : chainF lt c = true := (chain_iff so hc).mpr fun p hp q hq hne => by
      obtain ⟨i, hi, ei⟩ := List.getElem_of_mem (inC p hp)
      obtain ⟨j, hj, ej⟩ := List.getElem_of_mem (inC q hq)
      have pw := List.pairwise_iff_getElem.mp h1
      rcases Nat.lt_trichotomy i j with r | r | r
      · have := pw i j hi hj r
        rw [ei, ej] at this
        exact .inl this
      · subst r; exact absurd (ej.symm.trans ei) hne
      · have := pw j i hj hi r
        rw [ei, ej] at this
        exact .inr this
    have l := nodup_len C (memF c) (chain_nodup so h1) fun x hx => by
      rw [hm]
      exact List.mem_filter.mpr ⟨h2 x hx, List.contains_iff_mem.mpr hx⟩
    have := best_ge (chainF lt) hch 64 hc
    omega
  · refine best_le _ _ (by omega) 64 fun c hc ha => ?_
    have := go_ge so 6 (List.range 6) List.nodup_range (by decide) (memF c) (mem_nodup c) (fun x hx => List.mem_range.mpr (mem_six hx)) ((chain_iff so hc).mp ha)
    omega
theorem P2 (lt : Nat → Nat → Bool) (so : SO lt) (f : Nat → Option Nat) (H : Lads (abF lt) 6 f) : PLaw lt f := by
  obtain ⟨U, I⟩ := inv_of H (Nat.le_refl _)
  exact ⟨lads_perm so I.ok I.c1, lads_six so I.ok, lads_chain so I.ok, wide_eq so I, long_eq so⟩
end Mine

/-! Fin1 -/
namespace Mine
set_option maxHeartbeats 4000000 in
theorem fin (P1 : ∀ x y : Int, ltW x y = colLt x y) (P2 : ∀ lt, SO lt → ∀ f, Lads (abF lt) 6 f → PLaw lt f) : PySem.Challenge.rw_mj0182_01.Holds := by
  refine hd (by
    k_go0
    rename_i w s₀ s₁ mg mb G Y fa o pm doc ho hg KX X V GL T Bt TE TW w16 w15 M w14 w13 hcd ns hs hlay0 hL1 hr1 hl2 w11 w10 la vs w7 hL ra w1 r0 hI hr hc1 hc2 K0 hD h₁ tk₁ F o6 o5 o4 o3 o2 o1 o0 l5 l4 l3 l2 l1 l0 r5 N0 X0
    have Gl₀ : Gl w s₁.heap := ⟨KX, ⟨_, GL.g⟩, ⟨_, GL.b, GL.builtins⟩, GL.nolimit⟩
    have S := law_start (a := fa) (cd := .ref w14) F.ns (by rfl) N0 X0 F.keep hL hI
    have W : LW w s₁.heap { s₁ with heap := h₁, toks := tk₁ } (fun b : Nat => s₁.heap.objs.size ≤ b ∧ b < h₁.objs.size) (lawEnv s₁.heap.objs.size fa (.ref w14)) (put (fun _ => none) "script" (.list (ns.map .int))) { s₁ with heap := h₁, toks := tk₁ } := ⟨⟨Gl₀, F.keep⟩, But.refl _, S, fun b q => q.1⟩
    refine law_body (a := fa) (cd := .ref w14) P1 P2 (ns := ns) rfl (by show 1 + claimMargin + 1 + 12 < recursionLimit; decide) (by show 4 + 3 + 10 < cLine; decide) rfl W rfl (by omega) fun s' b' g' => ?_
    obtain ⟨hh', tk', e'⟩ := b'.same
    refine ⟨.inl ⟨.bool true, .bool true, [], rfl, fun cls => rfl, .bool true, (by kernel_rfl), fun _ => ⟨List.nodup_nil, fun _ q => nomatch q⟩⟩, g'.le, by rw [e'], by rw [e']; exact hg⟩)
end Mine

theorem PySem.Challenge.cw_mj0182_01_holds : PySem.Challenge.rw_mj0182_01.Holds := by
  exact Mine.fin Mine.P1 Mine.P2
