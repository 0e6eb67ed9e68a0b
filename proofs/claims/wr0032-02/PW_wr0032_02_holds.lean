import PyProof.Rows.All
import Wide.All
import OpenK.AllK
import Wide.FinOn
import PySem.Challenge.RW_wr0032_02
open PySem PySem.W PyProof.Rows
set_option Elab.async false
set_option linter.unusedVariables false
set_option linter.unusedSimpArgs false
set_option maxRecDepth 100000
set_option maxHeartbeats 8000000
namespace Mine

theorem runs_toks {M : Model} {Γ : Ctx} {p : Pos} {t : Sem Fin} {fs : List Frame} {s : Shared} {e : End} {s' : Shared} (h : Runs M Γ p t fs s e s') : s.toks ≤ s'.toks := by
  induction h <;> first | exact Nat.le_refl _ | ((try simp only [Shared.setGen] at *); (try dsimp only at *); omega)

theorem wakes_toks {M : Model} {Γ : Ctx} {p : Pos} {g : Nat} {r : Resume} {s s' : Shared} {res : GenResult} (h : Wakes M Γ p g r s res s') : s.toks ≤ s'.toks := by
  unfold Wakes at h
  split at h
  · cases h
  · split at h
    · obtain ⟨e₁, s₁, a, _, _, rfl⟩ := h; exact (runs_toks a : (s.setGen g .running).toks ≤ _)
    · obtain ⟨_, rfl⟩ := h; exact Nat.le_refl _
    · obtain ⟨_, rfl⟩ := h; exact Nat.le_refl _
  · obtain ⟨e₁, s₁, a, _, _, rfl⟩ := h; exact (runs_toks a : (s.setGen g .running).toks ≤ _)
  · obtain ⟨_, rfl⟩ := h; exact Nat.le_refl _
  · obtain ⟨_, rfl⟩ := h; exact Nat.le_refl _

theorem wp_toks {α : Type} (M : Model) (Γ : Ctx) (k : Nat) (Q : α → Pos → Shared → Prop) (E : Value → Pos → Shared → Prop) (t : Sem α) :
    ∀ (p : Pos) (s : Shared), k ≤ s.toks → Sem.wp M Γ t (fun a p s' => k ≤ s'.toks → Q a p s') (fun e p s' => k ≤ s'.toks → E e p s') p s → Sem.wp M Γ t Q E p s := by
  induction t with
  | pure a => intro p s hk h; rw [Sem.wp] at h ⊢; exact h hk
  | raise a => intro p s hk h; rw [Sem.wp] at h ⊢; exact h hk
  | call c hh g l kk ih =>
    intro p s hk h
    rw [Sem.wp] at h ⊢
    obtain ⟨r, s', hr, hR⟩ := h
    exact ⟨r, s', hr, ih r p s' (Nat.le_trans hk (runs_toks hr)) hR⟩
  | resume g r l kk ih =>
    intro p s hk h
    rw [Sem.wp] at h ⊢
    obtain ⟨res, s', hr, hR⟩ := h
    exact ⟨res, s', hr, ih res p s' (Nat.le_trans hk (wakes_toks hr)) hR⟩
  | load a part kk ih => intro p s hk h; rw [Sem.wp] at h ⊢; obtain ⟨o, e, h⟩ := h; exact ⟨o, e, ih o p s hk h⟩
  | update a part f kk ih => intro p s hk h; rw [Sem.wp] at h ⊢; exact ⟨h.1, ih () p _ hk h.2⟩
  | genState g kk ih => intro p s hk h; rw [Sem.wp] at h ⊢; obtain ⟨o, e, h⟩ := h; exact ⟨o, e, ih _ p s hk h⟩
  | choose src n kk ih => intro p s hk h; rw [Sem.wp] at h ⊢; exact ⟨h.1, ih _ p _ hk h.2⟩
  | fresh kk ih => intro p s hk h; rw [Sem.wp] at h ⊢; exact ih _ p _ (Nat.le_succ_of_le hk) h
  | _ => intro p s hk h; simp only [Sem.wp] at h ⊢; first | done | exact h | (rename_i ih; exact ih _ _ _ hk h)

/-- tokens only grow -/
theorem tk_ {α : Type} {M : Model} {A : Around} {s : Shared} {t : Sem α} {Q : α → Shared → Prop} {E : Value → Shared → Prop} (h : wpAny M A t (fun a s' => s.toks ≤ s'.toks → Q a s') E s) : wpAny M A t Q E s :=
  fun Γ p hΓ => wp_toks M Γ s.toks _ _ t p s (Nat.le_refl _) (Sem.wp_mono M Γ t (fun a p s' x => x) (fun e p s' x (_ : s.toks ≤ s'.toks) => x) p s (h Γ p hΓ))

/-! suspended generators hold nothing open -/
theorem bare_set {a : Array GenState} {g : Nat} {x : GenState} (h : AllBare a) (hx : x.bare = true) : AllBare (a.setIfInBounds g x) := by
  intro y hy
  obtain ⟨i, hi, rfl⟩ := Array.mem_iff_getElem.mp hy
  rw [Array.getElem_setIfInBounds (by simpa using hi)]
  split
  · exact hx
  · exact h _ (Array.getElem_mem (by simpa using hi))

theorem runs_bare {M : Model} {Γ : Ctx} {p : Pos} {t : Sem Fin} {fs : List Frame} {s : Shared} {e : End} {s' : Shared} (h : Runs M Γ p t fs s e s') : AllBare s.gens → AllBare s'.gens := by
  induction h with
  | newGen _ ih => exact fun h => ih (AllBare.push h rfl)
  | call _ _ ih1 ih2 => exact fun h => ih2 (ih1 h)
  | resumeFresh _ _ hq _ ih1 ih2 => exact fun h => ih2 (bare_set (ih1 (bare_set h rfl)) (End.bare_of_quiet hq))
  | resumeSuspended _ _ hq _ ih1 ih2 => exact fun h => ih2 (bare_set (ih1 (bare_set h rfl)) (End.bare_of_quiet hq))
  | resumeThrowFresh _ _ ih => exact fun h => ih (bare_set h rfl)
  | segRet _ _ ih1 ih2 => exact fun h => ih2 (ih1 h)
  | segGen _ _ ih1 ih2 => exact fun h => ih2 (bare_set (ih1 h) rfl)
  | segSuspGen _ _ hq _ ih1 ih2 => exact fun h => ih2 (bare_set (ih1 h) (End.bare_of_quiet hq))
  | _ => first | exact id | (rename_i ih; exact ih)

theorem wakes_bare {M : Model} {Γ : Ctx} {p : Pos} {g : Nat} {r : Resume} {s s' : Shared} {res : GenResult} (h : Wakes M Γ p g r s res s') : AllBare s.gens → AllBare s'.gens := by
  unfold Wakes at h
  split at h
  · cases h
  · split at h
    · obtain ⟨e₁, s₁, a, hq, _, rfl⟩ := h; exact fun b => bare_set (runs_bare a (bare_set b rfl)) (End.bare_of_quiet hq)
    · obtain ⟨_, rfl⟩ := h; exact id
    · obtain ⟨_, rfl⟩ := h; exact fun b => bare_set b rfl
  · obtain ⟨e₁, s₁, a, hq, _, rfl⟩ := h; exact fun b => bare_set (runs_bare a (bare_set b rfl)) (End.bare_of_quiet hq)
  · obtain ⟨_, rfl⟩ := h; exact id
  · obtain ⟨_, rfl⟩ := h; exact id

theorem wp_bare {α : Type} (M : Model) (Γ : Ctx) (Q : α → Pos → Shared → Prop) (E : Value → Pos → Shared → Prop) (t : Sem α) :
    ∀ (p : Pos) (s : Shared), AllBare s.gens → Sem.wp M Γ t (fun a p s' => AllBare s'.gens → Q a p s') (fun e p s' => AllBare s'.gens → E e p s') p s → Sem.wp M Γ t Q E p s := by
  induction t with
  | pure a => intro p s hk h; rw [Sem.wp] at h ⊢; exact h hk
  | raise a => intro p s hk h; rw [Sem.wp] at h ⊢; exact h hk
  | call c hh g l kk ih =>
    intro p s hk h
    rw [Sem.wp] at h ⊢
    obtain ⟨r, s', hr, hR⟩ := h
    exact ⟨r, s', hr, ih r p s' (runs_bare hr hk) hR⟩
  | resume g r l kk ih =>
    intro p s hk h
    rw [Sem.wp] at h ⊢
    obtain ⟨res, s', hr, hR⟩ := h
    exact ⟨res, s', hr, ih res p s' (wakes_bare hr hk) hR⟩
  | load a part kk ih => intro p s hk h; rw [Sem.wp] at h ⊢; obtain ⟨o, e, h⟩ := h; exact ⟨o, e, ih o p s hk h⟩
  | update a part f kk ih => intro p s hk h; rw [Sem.wp] at h ⊢; exact ⟨h.1, ih () p _ hk h.2⟩
  | genState g kk ih => intro p s hk h; rw [Sem.wp] at h ⊢; obtain ⟨o, e, h⟩ := h; exact ⟨o, e, ih _ p s hk h⟩
  | choose src n kk ih => intro p s hk h; rw [Sem.wp] at h ⊢; exact ⟨h.1, ih _ p _ hk h.2⟩
  | newGen c kk ih => intro p s hk h; rw [Sem.wp] at h ⊢; exact ih _ p _ (AllBare.push hk rfl) h
  | _ => intro p s hk h; simp only [Sem.wp] at h ⊢; first | done | exact h | (rename_i ih; exact ih _ _ _ hk h)

theorem bare_ {α : Type} {M : Model} {A : Around} {s : Shared} {t : Sem α} {Q : α → Shared → Prop} {E : Value → Shared → Prop} (h : wpAny M A t (fun a s' => (AllBare s.gens → AllBare s'.gens) → Q a s') E s) : wpAny M A t Q E s := by
  intro Γ p hΓ
  by_cases hb : AllBare s.gens
  · exact wp_bare M Γ _ _ t p s hb (Sem.wp_mono M Γ t (fun a p s' x (y : AllBare s'.gens) => x fun _ => y) (fun e p s' x (_ : AllBare s'.gens) => x) p s (h Γ p hΓ))
  · exact Sem.wp_mono M Γ t (fun a p s' x => x fun q => absurd q hb) (fun e p s' x => x) p s (h Γ p hΓ)
end Mine

namespace Mine

inductive V where
  | non | bool (b : Bool) | int (i : Int) | str (l : List Nat) | byt (l : List UInt8)
  | tup (l : List V) | lst (l : List V) | rng (a b : Int)

inductive R where | val (v : V) | new (l : List V) | own (l : List V)
inductive S where | unb | val (v : V) | own (l : List V) | pin (v : V) (u : Value)

mutual
noncomputable def RV (h : Heap) (N : Addr → Prop) : V → Value → Prop
  | .non, u => u = .none
  | .bool b, u => u = .bool b
  | .int i, u => ∃ t, u = .int i t
  | .str l, u => ∃ t, u = .str ⟨l.toArray⟩ t
  | .byt l, u => ∃ t, u = .bytes l.toArray t
  | .tup l, u => ∃ a us, u = .ref a ∧ ¬ N a ∧ h.IsTuple a (List.toArray us) ∧ RVs h N l us
  | .lst l, u => ∃ a us, u = .ref a ∧ ¬ N a ∧ h.PlainList a (List.toArray us) ∧ RVs h N l us
  | .rng x y, u => ∃ a t1 t2 t3, u = .ref a ∧ ¬ N a ∧ IsRange h a x y 1 t1 t2 t3
noncomputable def RVs (h : Heap) (N : Addr → Prop) : List V → List Value → Prop
  | [], us => us = []
  | v :: vs, us => ∃ u us', us = u :: us' ∧ RV h N v u ∧ RVs h N vs us'
end

noncomputable def Moves (h h' : Heap) (N N' : Addr → Prop) : Prop := ∀ b o, h.get? b = some o → ¬ N b → h'.get? b = some o ∧ ¬ N' b

mutual
theorem RV.mono {h h' : Heap} {N N' : Addr → Prop} (hk : Moves h h' N N') : ∀ {v u}, RV h N v u → RV h' N' v u
  | .non, _, x => x
  | .bool _, _, x => x
  | .int _, _, x => x
  | .str _, _, x => x
  | .byt _, _, x => x
  | .tup l, u, x => by
    unfold RV at x ⊢
    obtain ⟨a, us, e, n, ⟨o, ho, r⟩, z⟩ := x
    exact ⟨a, us, e, (hk a o ho n).2, ⟨o, (hk a o ho n).1, r⟩, RVs.mono hk z⟩
  | .lst l, u, x => by
    unfold RV at x ⊢
    obtain ⟨a, us, e, n, ⟨o, ho⟩, z⟩ := x
    exact ⟨a, us, e, (hk a _ ho n).2, ⟨o, (hk a _ ho n).1⟩, RVs.mono hk z⟩
  | .rng p q, u, x => by
    unfold RV at x ⊢
    obtain ⟨a, t1, t2, t3, e, n, z⟩ := x
    exact ⟨a, t1, t2, t3, e, (hk a _ z n).2, (hk a _ z n).1⟩
theorem RVs.mono {h h' : Heap} {N N' : Addr → Prop} (hk : Moves h h' N N') : ∀ {vs us}, RVs h N vs us → RVs h' N' vs us
  | [], _, x => x
  | v :: vs, us, x => by
    unfold RVs at x ⊢
    obtain ⟨u, us', e, y, z⟩ := x
    exact ⟨u, us', e, RV.mono hk y, RVs.mono hk z⟩
end

theorem RVs.length {h : Heap} {N : Addr → Prop} : ∀ {vs us}, RVs h N vs us → us.length = vs.length
  | [], us, x => by unfold RVs at x; subst x; rfl
  | v :: vs, us, x => by
    unfold RVs at x
    obtain ⟨u, us', e, _, z⟩ := x
    subst e; simp [RVs.length z]
theorem RVs.get {h : Heap} {N : Addr → Prop} : ∀ {vs us} (i : Nat) {v}, RVs h N vs us → vs[i]? = some v → ∃ u, us[i]? = some u ∧ RV h N v u
  | [], us, i, v, x, e => by simp at e
  | w :: vs, us, i, v, x, e => by
    unfold RVs at x
    obtain ⟨u, us', rfl, y, z⟩ := x
    cases i with
    | zero => simp at e; subst e; exact ⟨u, by simp, y⟩
    | succ i => simp at e; obtain ⟨u', e', r⟩ := RVs.get i z e; exact ⟨u', by simpa using e', r⟩
theorem RVs.append {h : Heap} {N : Addr → Prop} : ∀ {vs us vs' us'}, RVs h N vs us → RVs h N vs' us' → RVs h N (vs ++ vs') (us ++ us')
  | [], us, vs', us', x, y => by unfold RVs at x; subst x; simpa using y
  | w :: vs, us, vs', us', x, y => by
    unfold RVs at x
    obtain ⟨u, us₀, rfl, a, z⟩ := x
    show RVs h N (w :: (vs ++ vs')) (u :: (us₀ ++ us'))
    unfold RVs
    exact ⟨u, _, rfl, a, z.append y⟩
theorem RVs.cons {h : Heap} {N : Addr → Prop} {v u vs us} (a : RV h N v u) (b : RVs h N vs us) : RVs h N (v :: vs) (u :: us) := by
  unfold RVs; exact ⟨u, us, rfl, a, b⟩
theorem RVs.nil {h : Heap} {N : Addr → Prop} : RVs h N [] [] := by unfold RVs; rfl
structure Cx where
  prog : Program
  w : World
  base : Heap
  Px : Addr → Prop
  mg : Str → Option Value
  mb : Str → Option Value
abbrev Cx.M (C : Cx) : Model := model C.prog C.w

structure Gs (C : Cx) (N : Addr → Prop) (h : Heap) : Prop where
  keep : ∀ b o, C.base.get? b = some o → ¬ C.Px b → h.get? b = some o
  nb : ∀ a, N a → C.base.get? a = none ∨ C.Px a
  ex : ∀ a, N a → ∃ o, h.get? a = some o

structure Cx.Ok (C : Cx) : Prop where
  g : C.base.Ns mainGlobals C.mg
  gp : ¬ C.Px mainGlobals
  b : C.base.Ns builtinsNs C.mb
  bp : ¬ C.Px builtinsNs
  lim : C.base.NoLimit
  lp : ¬ C.Px cStatics

noncomputable def Rm (n : Nat) (A : Around) : Prop := A.handled = none ∧ A.depth + n < recursionLimit ∧ A.units + 10 * n < cLine

/-- generators: those that stand are left alone -/
noncomputable def GB (a b : Array GenState) : Prop := (AllBare a → AllBare b) ∧ ∀ (g : Nat) (x : GenState), a[g]? = some x → b[g]? = some x
theorem GB.refl (a : Array GenState) : GB a a := ⟨id, fun _ _ e => e⟩
theorem GB.trans {a b c : Array GenState} (x : GB a b) (y : GB b c) : GB a c := ⟨fun h => y.1 (x.1 h), fun g v e => y.2 g v (x.2 g v e)⟩

structure Ext (s s' : Shared) : Prop where
  keep : ∀ b o, s.heap.get? b = some o → s'.heap.get? b = some o
  os : s'.os = s.os
  bare : GB s.gens s'.gens
  tk : s.toks ≤ s'.toks

theorem Ext.refl (s : Shared) : Ext s s := ⟨fun _ _ e => e, rfl, GB.refl _, Nat.le_refl _⟩
theorem Ext.trans {a b c : Shared} (x : Ext a b) (y : Ext b c) : Ext a c := ⟨fun p o e => y.keep p o (x.keep p o e), y.os.trans x.os, x.bare.trans y.bare, Nat.le_trans x.tk y.tk⟩
theorem Ext.toks (s : Shared) (k : Nat) (hk : s.toks ≤ k := by first | exact Nat.le_succ _ | exact Nat.le_refl _ | omega) : Ext s { s with toks := k } := ⟨fun _ _ e => e, rfl, GB.refl _, hk⟩
theorem Ext.push (s : Shared) (o : Obj) (k : Nat) (hk : s.toks ≤ k := by first | exact Nat.le_refl _ | omega) : Ext s { s with heap := s.heap.push o, toks := k } := ⟨fun _ _ e => Heap.get?_push_of_some _ e, rfl, GB.refl _, hk⟩
theorem Ext.heap {s : Shared} {h' : Heap} (k : Nat) (hk : ∀ b o, s.heap.get? b = some o → h'.get? b = some o) (ht : s.toks ≤ k := by first | exact Nat.le_refl _ | omega) : Ext s { s with heap := h', toks := k } := ⟨hk, rfl, GB.refl _, ht⟩

noncomputable def NX (X O : Addr → Prop) : Addr → Prop := fun a => X a ∨ O a

theorem Ext.moves {s s' : Shared} (x : Ext s s') (N : Addr → Prop) : Moves s.heap s'.heap N N := fun b o e n => ⟨x.keep b o e, n⟩

theorem Gs.ext {C : Cx} {N : Addr → Prop} {s s' : Shared} (g : Gs C N s.heap) (x : Ext s s') : Gs C N s'.heap :=
  ⟨fun b o e n => x.keep b o (g.keep b o e n), g.nb, fun a n => let ⟨o, e⟩ := g.ex a n; ⟨o, x.keep _ _ e⟩⟩

noncomputable def RR (h₀ h : Heap) (N O : Addr → Prop) (u : Value) : R → Prop
  | .val v => RV h N v u
  | .new l => ∃ a us, u = .ref a ∧ h₀.get? a = none ∧ h.PlainList a (List.toArray us) ∧ RVs h (fun b => N b ∨ b = a) l us
  | .own l => ∃ a us, u = .ref a ∧ O a ∧ h.PlainList a (List.toArray us) ∧ RVs h N l us

theorem RR.ext {h₀ : Heap} {s s' : Shared} {N O : Addr → Prop} {u : Value} : ∀ {r : R}, RR h₀ s.heap N O u r → Ext s s' → RR h₀ s'.heap N O u r
  | .val v, x, y => RV.mono (y.moves N) x
  | .new l, ⟨a, us, e, f, ⟨n, p⟩, z⟩, y => ⟨a, us, e, f, ⟨n, y.keep _ _ p⟩, RVs.mono (y.moves _) z⟩
  | .own l, ⟨a, us, e, f, ⟨n, p⟩, z⟩, y => ⟨a, us, e, f, ⟨n, y.keep _ _ p⟩, RVs.mono (y.moves _) z⟩
theorem none_of {h₀ h₁ : Heap} {a : Addr} (hk : ∀ b o, h₀.get? b = some o → h₁.get? b = some o) (f : h₁.get? a = none) : h₀.get? a = none := by
  cases q : h₀.get? a with
  | none => rfl
  | some o => rw [hk a o q] at f; cases f
theorem RR.base {h₀ h₁ h : Heap} {N O : Addr → Prop} {u : Value} (hk : ∀ b o, h₀.get? b = some o → h₁.get? b = some o) : ∀ {r : R}, RR h₁ h N O u r → RR h₀ h N O u r
  | .val v, x => x
  | .new l, ⟨a, us, e, f, p, z⟩ => ⟨a, us, e, none_of hk f, p, z⟩
  | .own l, x => x

/-- the items of a list, whosever it is -/
noncomputable def R.items : R → Option (List V)
  | .val (.lst l) => some l
  | .new l => some l
  | .own l => some l
  | _ => none
theorem RR.items {h₀ h : Heap} {N O : Addr → Prop} {u : Value} : ∀ {r : R} {l : List V}, RR h₀ h N O u r → r.items = some l →
    ∃ a us, u = .ref a ∧ h.PlainList a (List.toArray us) ∧ RVs h N l us
  | .val (.lst l'), l, x, e => by
    simp [R.items] at e; subst e
    unfold RR RV at x
    obtain ⟨a, us, e, _, p, z⟩ := x
    exact ⟨a, us, e, p, z⟩
  | .new l', l, x, e => by
    simp [R.items] at e; subst e
    obtain ⟨a, us, e, _, p, z⟩ := x
    exact ⟨a, us, e, p, RVs.mono (fun b o e n => ⟨e, fun n' => n (.inl n')⟩) z⟩
  | .own l', l, x, e => by
    simp [R.items] at e; subst e
    obtain ⟨a, us, e, _, p, z⟩ := x
    exact ⟨a, us, e, p, z⟩
  | .val .non, l, x, e => by simp [R.items] at e
  | .val (.bool _), l, x, e => by simp [R.items] at e
  | .val (.int _), l, x, e => by simp [R.items] at e
  | .val (.str _), l, x, e => by simp [R.items] at e
  | .val (.byt _), l, x, e => by simp [R.items] at e
  | .val (.tup _), l, x, e => by simp [R.items] at e
  | .val (.rng _ _), l, x, e => by simp [R.items] at e

/-- what may be kept -/
noncomputable def R.fz : R → Option V
  | .val v => some v
  | .new l => some (.lst l)
  | .own _ => none
theorem RR.fz {h₀ h : Heap} {N O : Addr → Prop} {u : Value} (hn : ∀ a, N a → ∃ o, h₀.get? a = some o) : ∀ {r : R} {v : V}, RR h₀ h N O u r → r.fz = some v → RV h N v u
  | .val v', v, x, e => by simp [R.fz] at e; subst e; exact x
  | .new l, v, x, e => by
    simp [R.fz] at e; subst e
    obtain ⟨a, us, e, f, p, z⟩ := x
    unfold RV
    refine ⟨a, us, e, fun n => ?_, p, RVs.mono (fun b o e n => ⟨e, fun n' => n (.inl n')⟩) z⟩
    obtain ⟨o, q⟩ := hn a n
    rw [f] at q; cases q
  | .own l, v, x, e => by simp [R.fz] at e

structure FD where
  env : Env
  vs : List Str
  ws : List Str
  t0 : Nat

noncomputable def VarAt (env : Env) (h : Heap) (x : Str) (val : Option Value) : Prop :=
  (env.kindOf x = some .local ∧ ∃ m, h.Ns env.locals m ∧ m x = val) ∨
  (env.kindOf x = some .cell ∧ ∃ c, env.cells.lookup x = some c ∧ h.IsCell c val) ∨
  (env.kindOf x = some .free ∧ (x == ("__classdict__" : Str)) = false ∧ ∃ c, env.cells.lookup x = some c ∧ h.IsCell c val)

noncomputable def SRel (h : Heap) (N O : Addr → Prop) (a : Addr) (val : Option Value) : S → Prop
  | .unb => val = none
  | .val v => ∃ u, val = some u ∧ RV h N v u
  | .own l => ∃ us, val = some (.ref a) ∧ O a ∧ h.PlainList a (List.toArray us) ∧ RVs h N l us
  | .pin v u => val = some u ∧ RV h N v u

structure Fm (C : Cx) (F : FD) (X O : Addr → Prop) (s : Shared) (σ : List S) (ow : Nat → Addr) : Prop where
  gs : Gs C (NX X O) s.heap
  xo : ∀ a, X a → ¬ O a
  ol : O F.env.locals
  oc : ∀ x ∈ F.ws, ∀ c, F.env.cells.lookup x = some c → O c
  nd : F.vs.Nodup
  ci : ∀ x ∈ F.vs, ∀ y ∈ F.vs, ∀ c, F.env.cells.lookup x = some c → F.env.cells.lookup y = some c → x = y
  ln : ∃ m, s.heap.Ns F.env.locals m
  cn : ∀ x ∈ F.vs, ∀ c, F.env.cells.lookup x = some c → ∃ v, s.heap.IsCell c v
  wv : ∀ x ∈ F.ws, x ∈ F.vs
  wf : ∀ x ∈ F.ws, F.env.kindOf x ≠ some .free
  kind : F.env.scope.kind = .function
  gl : F.env.globals = mainGlobals
  bl : F.env.builtins = builtinsNs
  len : σ.length = F.vs.length
  var : ∀ i x y, F.vs[i]? = some x → σ[i]? = some y → ∃ val, VarAt F.env s.heap x val ∧ SRel s.heap (NX X O) O (ow i) val y
  inj : ∀ i j l l', σ[i]? = some (.own l) → σ[j]? = some (.own l') → ow i = ow j → i = j
  tp : F.t0 ≤ s.toks
  ot : ∀ a o fs, O a → s.heap.get? a = some o → o.data ≠ .fields fs

theorem Heap.IsCell.keeps' {h h' : Heap} {c : Addr} {v : Option Value} (x : h.IsCell c v) (hk : ∀ o, h.get? c = some o → h'.get? c = some o) : h'.IsCell c v :=
  let ⟨o, e, r⟩ := x; ⟨o, hk o e, r⟩

theorem VarAt.ext {env : Env} {s s' : Shared} {x : Str} {val : Option Value} (v : VarAt env s.heap x val) (y : Ext s s') : VarAt env s'.heap x val := by
  rcases v with ⟨k, m, n, e⟩ | ⟨k, c, l, e⟩ | ⟨k, d, c, l, e⟩
  · exact .inl ⟨k, m, n.keeps y.keep, e⟩
  · exact .inr (.inl ⟨k, c, l, Heap.IsCell.keeps' e (y.keep c)⟩)
  · exact .inr (.inr ⟨k, d, c, l, Heap.IsCell.keeps' e (y.keep c)⟩)

theorem SRel.ext {s s' : Shared} {N O : Addr → Prop} {a : Addr} {val : Option Value} : ∀ {y : S}, SRel s.heap N O a val y → Ext s s' → SRel s'.heap N O a val y
  | .unb, x, _ => x
  | .val _, ⟨u, e, r⟩, y => ⟨u, e, RV.mono (y.moves _) r⟩
  | .own _, ⟨us, e, o, ⟨n, p⟩, r⟩, y => ⟨us, e, o, ⟨n, y.keep _ _ p⟩, RVs.mono (y.moves _) r⟩
  | .pin _ _, ⟨e, r⟩, y => ⟨e, RV.mono (y.moves _) r⟩

theorem Fm.ext {C : Cx} {F : FD} {X O : Addr → Prop} {s s' : Shared} {σ : List S} {ow : Nat → Addr} (f : Fm C F X O s σ ow) (y : Ext s s') : Fm C F X O s' σ ow :=
  ⟨f.gs.ext y, f.xo, f.ol, f.oc, f.nd, f.ci, let ⟨m, q⟩ := f.ln; ⟨m, q.keeps y.keep⟩, fun x hx c hc => let ⟨v, q⟩ := f.cn x hx c hc; ⟨v, Heap.IsCell.keeps' q (y.keep c)⟩, f.wv, f.wf, f.kind, f.gl, f.bl, f.len, fun i x z hx hz => let ⟨val, a, b⟩ := f.var i x z hx hz; ⟨val, a.ext y, b.ext y⟩, f.inj, Nat.le_trans f.tp y.tk, fun a o fs h e => by
    obtain ⟨o', e'⟩ := f.gs.ex a (.inr h)
    have := y.keep a o' e'
    rw [e] at this; cases this
    exact f.ot a o fs h e'⟩

/-- an expression -/
noncomputable def Ev (C : Cx) (X O : Addr → Prop) (A : Around) (s : Shared) (m : Sem Value) (r : R) : Prop :=
  ∀ (Q : Value → Shared → Prop) (E : Value → Shared → Prop), (∀ v s', Ext s s' → RR s.heap s'.heap (NX X O) O v r → Q v s') → wpAny C.M A m Q E s

noncomputable def SE (C : Cx) (F : FD) (n : Nat) (e : Expr) (f : List S → Option R) : Prop :=
  ∀ A s X O σ ow r, Rm n A → Fm C F X O s σ ow → f σ = some r → Ev C X O A s (eval e F.env) r

/-- a test -/
noncomputable def ST (C : Cx) (F : FD) (n : Nat) (e : Expr) (f : List S → Option Bool) : Prop :=
  ∀ A s X O σ ow b, Rm n A → Fm C F X O s σ ow → f σ = some b →
    ∀ (Q : Bool → Shared → Prop) (E : Value → Shared → Prop), (∀ s', Ext s s' → Q b s') → wpAny C.M A (isTrue e F.env (eval e F.env)) Q E s

inductive Fl where | next | brk | cont | ret (v : V)

noncomputable def FR (h : Heap) (N : Addr → Prop) : Fl → Flow → Prop
  | .next, f => f = .next
  | .brk, f => f = .brk
  | .cont, f => f = .cont
  | .ret v, f => ∃ u, f = .ret u ∧ RV h N v u

structure Stp (O O' : Addr → Prop) (s s' : Shared) : Prop where
  keep : ∀ b o, s.heap.get? b = some o → ¬ O b → s'.heap.get? b = some o
  own : ∀ a, O' a → O a ∨ s.heap.get? a = none
  there : ∀ b o, s.heap.get? b = some o → ∃ o', s'.heap.get? b = some o'
  os : s'.os = s.os
  bare : GB s.gens s'.gens
  tk : s.toks ≤ s'.toks

theorem Stp.refl (O : Addr → Prop) (s : Shared) : Stp O O s s := ⟨fun _ _ e _ => e, fun _ h => .inl h, fun _ o e => ⟨o, e⟩, rfl, GB.refl _, Nat.le_refl _⟩
theorem Stp.ofExt {O : Addr → Prop} {s s' : Shared} (x : Ext s s') : Stp O O s s' := ⟨fun b o e _ => x.keep b o e, fun _ h => .inl h, fun b o e => ⟨o, x.keep b o e⟩, x.os, x.bare, x.tk⟩
theorem Stp.trans {O O' O'' : Addr → Prop} {a b c : Shared} (x : Stp O O' a b) (y : Stp O' O'' b c) : Stp O O'' a c :=
  ⟨fun p o e n => y.keep p o (x.keep p o e n) fun h => (x.own p h).elim n fun q => (by rw [e] at q; cases q),
   fun p h => (y.own p h).elim (x.own p) fun q => .inr (by
     cases z : a.heap.get? p with
     | none => rfl
     | some o =>
       obtain ⟨o', e⟩ := x.there p o z
       rw [e] at q; cases q),
   fun p o e => let ⟨o', e'⟩ := x.there p o e; y.there p o' e',
   y.os.trans x.os, x.bare.trans y.bare, Nat.le_trans x.tk y.tk⟩

/-- a run of statements -/
noncomputable def Ex (C : Cx) (F : FD) (X O : Addr → Prop) (A : Around) (s : Shared) (m : Sem Flow) (fl : Fl) (σ' : List S) : Prop :=
  ∀ (Q : Flow → Shared → Prop) (E : Value → Shared → Prop), (∀ f s' O' ow', Stp O O' s s' → Fm C F X O' s' σ' ow' → FR s'.heap (NX X O') fl f → Q f s') → wpAny C.M A m Q E s

noncomputable def SS (C : Cx) (F : FD) (n : Nat) (st : Stmt) (f : List S → Option (Fl × List S)) : Prop :=
  ∀ A s X O σ ow fl σ', Rm n A → Fm C F X O s σ ow → f σ = some (fl, σ') → Ex C F X O A s (exec st F.env) fl σ'
noncomputable def SB (C : Cx) (F : FD) (n : Nat) (sts : List Stmt) (f : List S → Option (Fl × List S)) : Prop :=
  ∀ A s X O σ ow fl σ', Rm n A → Fm C F X O s σ ow → f σ = some (fl, σ') → Ex C F X O A s (execs sts F.env) fl σ'

end Mine

namespace Mine

section
variable {C : Cx} {F : FD} {X O : Addr → Prop} {s : Shared} {σ : List S} {ow : Nat → Addr}

theorem PlainList.ne_ns {h : Heap} {a b : Addr} {its m} (p : h.PlainList a its) (n : h.Ns b m) : a ≠ b := by
  rintro rfl
  obtain ⟨k, e⟩ := p
  obtain ⟨o, es, ep, e', d, _⟩ := n
  rw [e] at e'; cases e'; cases d
theorem PlainList.ne_cell {h : Heap} {a b : Addr} {its v} (p : h.PlainList a its) (n : h.IsCell b v) : a ≠ b := by
  rintro rfl
  obtain ⟨k, e⟩ := p
  obtain ⟨o, e', d⟩ := n
  rw [e] at e'; cases e'; cases d
theorem Ns.ne_cell {h : Heap} {a b : Addr} {m v} (p : h.Ns a m) (n : h.IsCell b v) : a ≠ b := by
  rintro rfl
  obtain ⟨o, es, ep, e', d, _⟩ := p
  obtain ⟨o', e'', d'⟩ := n
  rw [e'] at e''; cases e''; rw [d] at d'; cases d'
theorem IsCell.sameBut {h h' : Heap} {c p : Addr} {v} (x : h.IsCell c v) (sb : Heap.SameBut p h h') (n : c ≠ p) : h'.IsCell c v :=
  let ⟨o, e, r⟩ := x; ⟨o, (sb.2 c n).trans e, r⟩
theorem PlainList.sameBut {h h' : Heap} {c p : Addr} {v} (x : h.PlainList c v) (sb : Heap.SameBut p h h') (n : c ≠ p) : h'.PlainList c v :=
  let ⟨o, e⟩ := x; ⟨o, (sb.2 c n).trans e⟩

theorem VarAt.list_ne {h : Heap} {env : Env} {x val a its} (v : VarAt env h x val) (p : h.PlainList a its) {h' : Heap} (sb : Heap.SameBut a h h') : VarAt env h' x val := by
  rcases v with ⟨k, m, n, e⟩ | ⟨k, c, l, e⟩ | ⟨k, d, c, l, e⟩
  · exact .inl ⟨k, m, n.sameBut sb (PlainList.ne_ns p n).symm, e⟩
  · exact .inr (.inl ⟨k, c, l, IsCell.sameBut e sb (PlainList.ne_cell p e).symm⟩)
  · exact .inr (.inr ⟨k, d, c, l, IsCell.sameBut e sb (PlainList.ne_cell p e).symm⟩)

theorem there_of_same {h h' : Heap} {p : Addr} (sb : Heap.SameBut p h h') (hp : ∃ o, h'.get? p = some o) : ∀ b o, h.get? b = some o → ∃ o', h'.get? b = some o' := by
  intro b o e
  by_cases hb : b = p
  · subst hb; exact hp
  · exact ⟨o, (sb.2 b hb).trans e⟩

theorem Stp.same {p : Addr} {h' : Heap} (tk : Nat) (ht : s.toks ≤ tk) (op : O p) (sb : Heap.SameBut p s.heap h') (hp : ∃ o, h'.get? p = some o) : Stp O O s { s with heap := h', toks := tk } :=
  ⟨fun b o e n => (sb.2 b (fun q => n (q ▸ op))).trans e, fun _ h => .inl h, there_of_same sb hp, rfl, GB.refl _, ht⟩

theorem ot_same {p : Addr} {h h' : Heap} {O : Addr → Prop} (ot : ∀ a o fs, O a → h.get? a = some o → o.data ≠ .fields fs) (sb : Heap.SameBut p h h') (hp : ∀ o, h'.get? p = some o → ∀ {fs}, o.data ≠ .fields fs)
    {a : Addr} {o : Obj} {fs : Array Value} (ha : O a) (e : h'.get? a = some o) : o.data ≠ .fields fs := by
  by_cases q : a = p
  · subst q; exact hp o e
  · exact ot a o fs ha ((sb.2 a q).symm.trans e)

theorem moves_same {p : Addr} {h h' : Heap} {N : Addr → Prop} (op : N p) (sb : Heap.SameBut p h h') : Moves h h' N N :=
  fun b o e n => ⟨(sb.2 b (fun q => n (q ▸ op))).trans e, n⟩

/-- the list that a variable owns is changed in place -/
theorem Fm.mut (f : Fm C F X O s σ ow) {i l l' us' h'} (tk : Nat) (ht : s.toks ≤ tk) (hi : σ[i]? = some (.own l)) (sb : Heap.SameBut (ow i) s.heap h') (p : h'.PlainList (ow i) (List.toArray us'))
    (r : RVs s.heap (NX X O) l' us') : Fm C F X O { s with heap := h', toks := tk } (σ.set i (.own l')) ow ∧ Stp O O s { s with heap := h', toks := tk } := by
  have hlt : i < σ.length := by
    obtain ⟨q, _⟩ := List.getElem?_eq_some_iff.mp hi; exact q
  obtain ⟨x, hx⟩ : ∃ x, F.vs[i]? = some x := ⟨_, List.getElem?_eq_getElem (f.len ▸ hlt)⟩
  obtain ⟨val, va, us, e, oa, pl, rl⟩ := f.var i x _ hx hi
  have hp : ∃ o, h'.get? (ow i) = some o := let ⟨n, e⟩ := p; ⟨_, e⟩
  have mv : Moves s.heap h' (NX X O) (NX X O) := moves_same (.inr oa) sb
  refine ⟨⟨⟨fun b o e n => ?_, f.gs.nb, fun a n => ?_⟩, f.xo, f.ol, f.oc, f.nd, f.ci, let ⟨m, q⟩ := f.ln; ⟨m, q.sameBut sb (PlainList.ne_ns pl q).symm⟩, fun x hx c hc => let ⟨v, q⟩ := f.cn x hx c hc; ⟨v, IsCell.sameBut q sb (PlainList.ne_cell pl q).symm⟩, f.wv, f.wf, f.kind, f.gl, f.bl, by rw [List.length_set]; exact f.len, fun j z y hz hy => ?_, fun j k l1 l2 hj hk e => ?_, Nat.le_trans f.tp ht, fun a o fs ha e => ot_same f.ot sb (fun o e => let ⟨n, q⟩ := p; by rw [q] at e; cases e; intro q; cases q) ha e⟩, Stp.same tk ht oa sb hp⟩
  · refine (sb.2 b fun q => ?_).trans (f.gs.keep b o e n)
    rcases f.gs.nb b (.inr (q ▸ oa)) with z | z
    · rw [e] at z; cases z
    · exact n z
  · obtain ⟨o, e⟩ := f.gs.ex a n
    exact there_of_same sb hp a o e
  · by_cases hji : j = i
    · subst hji
      rw [List.getElem?_set_self hlt] at hy
      cases hy
      rw [hx] at hz; cases hz
      exact ⟨val, va.list_ne pl sb, us', e, oa, p, RVs.mono mv r⟩
    · rw [List.getElem?_set_ne (Ne.symm hji)] at hy
      obtain ⟨val', va', sr⟩ := f.var j z y hz hy
      refine ⟨val', va'.list_ne pl sb, ?_⟩
      cases y with
      | unb => exact sr
      | val v => obtain ⟨u, e, r⟩ := sr; exact ⟨u, e, RV.mono mv r⟩
      | pin v u => exact ⟨sr.1, RV.mono mv sr.2⟩
      | own l2 =>
        obtain ⟨us2, e2, o2, p2, r2⟩ := sr
        exact ⟨us2, e2, o2, PlainList.sameBut p2 sb (fun q => hji (f.inj j i l2 l hy hi q)), RVs.mono mv r2⟩
  · have ex : ∀ (k : Nat) (l2 : List V), (σ.set i (S.own l'))[k]? = some (S.own l2) → ∃ l3, σ[k]? = some (S.own l3) := by
      intro k l2 h
      by_cases hk : k = i
      · subst hk; exact ⟨l, hi⟩
      · rw [List.getElem?_set_ne (Ne.symm hk)] at h; exact ⟨l2, h⟩
    obtain ⟨_, a⟩ := ex j l1 hj
    obtain ⟨_, b⟩ := ex k l2 hk
    exact f.inj j k _ _ a b e

/-- an owned list is given up: it will not be changed again -/
theorem Fm.frz (f : Fm C F X O s σ ow) {i l} (hi : σ[i]? = some (.own l)) :
    Fm C F X (fun b => O b ∧ b ≠ ow i) s (σ.set i (.val (.lst l))) ow ∧ Stp O (fun b => O b ∧ b ≠ ow i) s s := by
  have hlt : i < σ.length := by
    obtain ⟨q, _⟩ := List.getElem?_eq_some_iff.mp hi; exact q
  obtain ⟨x, hx⟩ : ∃ x, F.vs[i]? = some x := ⟨_, List.getElem?_eq_getElem (f.len ▸ hlt)⟩
  obtain ⟨val, va, us, e, oa, pl, rl⟩ := f.var i x _ hx hi
  have sub : ∀ a, NX X (fun b => O b ∧ b ≠ ow i) a → NX X O a := fun a h => h.imp id (·.1)
  have mv : Moves s.heap s.heap (NX X O) (NX X (fun b => O b ∧ b ≠ ow i)) := fun b o e n => ⟨e, fun h => n (sub b h)⟩
  refine ⟨⟨⟨f.gs.keep, fun a n => f.gs.nb a (sub a n), fun a n => f.gs.ex a (sub a n)⟩, fun a h q => f.xo a h q.1, ⟨f.ol, let ⟨m, q⟩ := f.ln; (PlainList.ne_ns pl q).symm⟩, fun x hx c hc => ⟨f.oc x hx c hc, let ⟨v, q⟩ := f.cn x (f.wv x hx) c hc; (PlainList.ne_cell pl q).symm⟩, f.nd, f.ci, f.ln, f.cn, f.wv, f.wf, f.kind, f.gl, f.bl, by rw [List.length_set]; exact f.len, fun j z y hz hy => ?_, fun j k l1 l2 hj hk e => ?_, f.tp, fun a o fs h e => f.ot a o fs h.1 e⟩,
    ⟨fun _ _ e _ => e, fun a h => .inl h.1, fun _ o e => ⟨o, e⟩, rfl, GB.refl _, Nat.le_refl _⟩⟩
  · by_cases hji : j = i
    · subst hji
      rw [List.getElem?_set_self hlt] at hy
      cases hy
      rw [hx] at hz; cases hz
      refine ⟨val, va, _, e, ?_⟩
      unfold RV
      exact ⟨_, us, rfl, fun n => n.elim (fun q => f.xo _ q oa) (fun q => q.2 rfl), pl, RVs.mono mv rl⟩
    · rw [List.getElem?_set_ne (Ne.symm hji)] at hy
      obtain ⟨val', va', sr⟩ := f.var j z y hz hy
      refine ⟨val', va', ?_⟩
      cases y with
      | unb => exact sr
      | val v => obtain ⟨u, e, r⟩ := sr; exact ⟨u, e, RV.mono mv r⟩
      | pin v u => exact ⟨sr.1, RV.mono mv sr.2⟩
      | own l2 =>
        obtain ⟨us2, e2, o2, p2, r2⟩ := sr
        exact ⟨us2, e2, ⟨o2, fun q => hji (f.inj j i l2 l hy hi q)⟩, p2, RVs.mono mv r2⟩
  · have ex : ∀ (k : Nat) (l2 : List V), (σ.set i (S.val (.lst l)))[k]? = some (S.own l2) → σ[k]? = some (S.own l2) := by
      intro k l2 h
      by_cases hk : k = i
      · subst hk; rw [List.getElem?_set_self hlt] at h; cases h
      · rw [List.getElem?_set_ne (Ne.symm hk)] at h; exact h
    exact f.inj j k _ _ (ex j l1 hj) (ex k l2 hk) e

/-- the frame learns of a new list that nothing else knows -/
theorem Fm.grow {s₀ : Shared} (f : Fm C F X O s₀ σ ow) (y : Ext s₀ s) {a : Addr} (ha : s₀.heap.get? a = none) (hb : ∃ o, s.heap.get? a = some o) (hnf : ∀ o fs, s.heap.get? a = some o → o.data ≠ .fields fs) :
    Fm C F X (fun b => O b ∨ b = a) s σ ow ∧ Stp O (fun b => O b ∨ b = a) s₀ s := by
  have mv : Moves s₀.heap s.heap (NX X O) (NX X (fun b => O b ∨ b = a)) := fun b o e n => ⟨y.keep b o e, fun h => by
    rcases h with h | h | h
    · exact n (.inl h)
    · exact n (.inr h)
    · subst h; rw [ha] at e; cases e⟩
  have g := f.ext y
  refine ⟨⟨⟨g.gs.keep, fun b n => ?_, fun b n => ?_⟩, fun b h q => ?_, .inl f.ol, fun x hx c hc => .inl (f.oc x hx c hc), f.nd, f.ci, g.ln, g.cn, f.wv, f.wf, f.kind, f.gl, f.bl, f.len, fun j z w hz hw => ?_, f.inj, g.tp, fun b o fs h e => h.elim (fun h => g.ot b o fs h e) (fun h => by subst h; exact hnf o fs e)⟩,
    ⟨fun b o e _ => y.keep b o e, fun b h => h.imp id (fun (q : b = a) => q ▸ ha), fun b o e => ⟨o, y.keep b o e⟩, y.os, y.bare, y.tk⟩⟩
  · rcases n with n | n | n
    · exact f.gs.nb b (.inl n)
    · exact f.gs.nb b (.inr n)
    · subst n
      by_cases hp : C.Px b
      · exact .inr hp
      · refine .inl ?_
        cases q : C.base.get? b with
        | none => rfl
        | some o => rw [f.gs.keep b o q hp] at ha; cases ha
  · rcases n with n | n | n
    · exact g.gs.ex b (.inl n)
    · exact g.gs.ex b (.inr n)
    · subst n; exact hb
  · rcases q with q | q
    · exact f.xo b h q
    · subst q
      obtain ⟨o, e⟩ := f.gs.ex b (.inl h)
      rw [ha] at e; cases e
  · obtain ⟨val, va, sr⟩ := f.var j z w hz hw
    refine ⟨val, va.ext y, ?_⟩
    cases w with
    | unb => exact sr
    | val v => obtain ⟨u, e, r⟩ := sr; exact ⟨u, e, RV.mono mv r⟩
    | pin v u => exact ⟨sr.1, RV.mono mv sr.2⟩
    | own l2 =>
      obtain ⟨us2, e2, o2, ⟨n, p2⟩, r2⟩ := sr
      exact ⟨us2, e2, .inl o2, ⟨n, y.keep _ _ p2⟩, RVs.mono mv r2⟩

/-- a name is bound -/
theorem Fm.put (f : Fm C F X O s σ ow) {i x u p h'} (tk : Nat) (ht : s.toks ≤ tk) {w : S} {a : Addr} (hx : F.vs[i]? = some x) (op : O p) (sb : Heap.SameBut p s.heap h') (np : ∀ its, ¬ s.heap.PlainList p its)
    (hp : ∃ o, h'.get? p = some o) (hnf : ∀ o, h'.get? p = some o → ∀ {fs}, o.data ≠ .fields fs) (hv : VarAt F.env h' x (some u)) (ho : ∀ z ∈ F.vs, z ≠ x → ∀ val, VarAt F.env s.heap z val → VarAt F.env h' z val)
    (hl : ∃ m, h'.Ns F.env.locals m) (hc : ∀ x ∈ F.vs, ∀ c, F.env.cells.lookup x = some c → ∃ v, h'.IsCell c v)
    (hw : SRel s.heap (NX X O) O a (some u) w) (hf : ∀ l, w = .own l → ∀ j l', j ≠ i → σ[j]? = some (.own l') → ow j ≠ a) :
    Fm C F X O { s with heap := h', toks := tk } (σ.set i w) (fun j => if j = i then a else ow j) ∧ Stp O O s { s with heap := h', toks := tk } := by
  have hlt : i < σ.length := by
    obtain ⟨q, _⟩ := List.getElem?_eq_some_iff.mp hx; rw [f.len]; exact q
  have mv : Moves s.heap h' (NX X O) (NX X O) := moves_same (.inr op) sb
  have keepRel : ∀ {val w' a'}, SRel s.heap (NX X O) O a' val w' → SRel h' (NX X O) O a' val w' := by
    intro val w' a' sr
    cases w' with
    | unb => exact sr
    | val v => obtain ⟨u, e, r⟩ := sr; exact ⟨u, e, RV.mono mv r⟩
    | pin v u => exact ⟨sr.1, RV.mono mv sr.2⟩
    | own l2 =>
      obtain ⟨us2, e2, o2, p2, r2⟩ := sr
      exact ⟨us2, e2, o2, PlainList.sameBut p2 sb (fun q => np _ (q ▸ p2)), RVs.mono mv r2⟩
  refine ⟨⟨⟨fun b o e n => ?_, f.gs.nb, fun b n => ?_⟩, f.xo, f.ol, f.oc, f.nd, f.ci, hl, hc, f.wv, f.wf, f.kind, f.gl, f.bl, by rw [List.length_set]; exact f.len, fun j z y hz hy => ?_, fun j k l1 l2 hj hk e => ?_, Nat.le_trans f.tp ht, fun a o fs ha e => ot_same f.ot sb hnf ha e⟩, Stp.same tk ht op sb hp⟩
  · refine (sb.2 b fun q => ?_).trans (f.gs.keep b o e n)
    rcases f.gs.nb b (.inr (q ▸ op)) with z | z
    · rw [e] at z; cases z
    · exact n z
  · obtain ⟨o, e⟩ := f.gs.ex b n
    exact there_of_same sb hp b o e
  · by_cases hji : j = i
    · subst hji
      rw [List.getElem?_set_self hlt] at hy
      cases hy
      rw [hx] at hz; cases hz
      refine ⟨some u, hv, ?_⟩
      rw [if_pos rfl]
      exact keepRel hw
    · rw [List.getElem?_set_ne (Ne.symm hji)] at hy
      obtain ⟨val', va', sr⟩ := f.var j z y hz hy
      refine ⟨val', ho z (List.mem_of_getElem? hz) (fun q => hji ?_) val' va', ?_⟩
      · subst q
        obtain ⟨hj', _⟩ := List.getElem?_eq_some_iff.mp hz
        exact (List.getElem?_inj hj' f.nd).mp (hz.trans hx.symm)
      · rw [if_neg hji]; exact keepRel sr
  · by_cases hji : j = i
    · by_cases hki : k = i
      · rw [hji, hki]
      · rw [if_pos hji, if_neg hki] at e
        subst hji
        rw [List.getElem?_set_self hlt] at hj
        rw [List.getElem?_set_ne (Ne.symm hki)] at hk
        cases hj
        exact absurd e.symm (hf _ rfl k l2 hki hk)
    · rw [List.getElem?_set_ne (Ne.symm hji)] at hj
      by_cases hki : k = i
      · rw [if_neg hji, if_pos hki] at e
        subst hki
        rw [List.getElem?_set_self hlt] at hk
        cases hk
        exact absurd e (hf _ rfl j l1 hji hj)
      · rw [List.getElem?_set_ne (Ne.symm hki)] at hk
        rw [if_neg hji, if_neg hki] at e
        exact f.inj j k _ _ hj hk e

/-- storeName, whatever is stored -/
theorem store_X (f : Fm C F X O s σ ow) {A : Around} {i x u} {w : S} {a : Addr} (hx : F.vs[i]? = some x) (hxw : x ∈ F.ws)
    (hi : ∃ y, σ[i]? = some y)
    (hw : SRel s.heap (NX X O) O a (some u) w) (hf : ∀ l, w = .own l → ∀ j l', j ≠ i → σ[j]? = some (.own l') → ow j ≠ a)
    {Q : Unit → Shared → Prop} {E : Value → Shared → Prop} (h : ∀ s' ow', Stp O O s s' → Fm C F X O s' (σ.set i w) ow' → (∃ p, Heap.SameBut p s.heap s'.heap ∧ (p = F.env.locals ∨ F.env.cells.lookup x = some p)) → Q () s') :
    wpAny C.M A (storeName F.env x u) Q E s := by
  obtain ⟨y, hy⟩ := hi
  obtain ⟨val, va, sr⟩ := f.var i x y hx hy
  rcases va with ⟨k, m, n, e⟩ | ⟨k, c, l, e⟩ | ⟨k, d, c, l, e⟩
  · refine wpAny_storeName_local k n (fun h' n' sb => ?_) (by rw [f.kind]; rfl)
    have q := f.put (s.toks + 1) (Nat.le_succ _) (w := w) (a := a) hx f.ol sb (fun its p => PlainList.ne_ns p n rfl) (let ⟨o, es, ep, e, _⟩ := n'; ⟨o, e⟩) (fun o e => let ⟨o', es, ep, e', d, _⟩ := n'; by rw [e'] at e; cases e; rw [d]; intro q; cases q) (.inl ⟨k, _, n', by simp⟩)
      (fun z hz nz val va => ?_) ⟨_, n'⟩ (fun z hz c hc => let ⟨v, q⟩ := f.cn z hz c hc; ⟨v, IsCell.sameBut q sb (Ns.ne_cell n q).symm⟩) hw hf
    · exact h _ _ q.2 q.1 ⟨_, sb, .inl rfl⟩
    · rcases va with ⟨k', m', n'', e'⟩ | ⟨k', c, l, e'⟩ | ⟨k', d, c, l, e'⟩
      · refine .inl ⟨k', _, n', ?_⟩
        simp only [nz, if_false]
        rw [Heap.Ns.agree n n'']; exact e'
      · exact .inr (.inl ⟨k', c, l, IsCell.sameBut e' sb (Ns.ne_cell n e').symm⟩)
      · exact .inr (.inr ⟨k', d, c, l, IsCell.sameBut e' sb (Ns.ne_cell n e').symm⟩)
  · refine wpAny_storeName_cell f.kind k l e (fun h' c' sb => ?_)
    obtain ⟨mL, nL⟩ := f.ln
    have q := f.put s.toks (Nat.le_refl _) (w := w) (a := a) hx (f.oc x hxw c l) sb (fun its p => PlainList.ne_cell p e rfl) (let ⟨o, e, _⟩ := c'; ⟨o, e⟩) (fun o e => let ⟨o', e', d⟩ := c'; by rw [e'] at e; cases e; rw [d]; intro q; cases q) (.inr (.inl ⟨k, c, l, c'⟩))
      (fun z hz nz val va => ?_) ⟨mL, nL.sameBut sb (Ns.ne_cell nL e)⟩ (fun z hz c₂ hc => ?_) hw hf
    · exact h _ _ q.2 q.1 ⟨_, sb, .inr l⟩
    · have ne : ∀ c₂, F.env.cells.lookup z = some c₂ → c₂ ≠ c := fun c₂ l₂ q => nz (f.ci z hz x (List.mem_of_getElem? hx) c (q ▸ l₂) l)
      rcases va with ⟨k', m', n'', e'⟩ | ⟨k', c₂, l₂, e'⟩ | ⟨k', d, c₂, l₂, e'⟩
      · exact .inl ⟨k', m', n''.sameBut sb (Ns.ne_cell n'' e), e'⟩
      · exact .inr (.inl ⟨k', c₂, l₂, IsCell.sameBut e' sb (ne c₂ l₂)⟩)
      · exact .inr (.inr ⟨k', d, c₂, l₂, IsCell.sameBut e' sb (ne c₂ l₂)⟩)
    · by_cases q : c₂ = c
      · subst q; exact ⟨_, c'⟩
      · obtain ⟨v, r⟩ := f.cn z hz c₂ hc
        exact ⟨v, IsCell.sameBut r sb q⟩
  · exact absurd k (f.wf x hxw)

theorem store_ (f : Fm C F X O s σ ow) {A : Around} {i x u} {w : S} {a : Addr} (hx : F.vs[i]? = some x) (hxw : x ∈ F.ws)
    (hi : ∃ y, σ[i]? = some y)
    (hw : SRel s.heap (NX X O) O a (some u) w) (hf : ∀ l, w = .own l → ∀ j l', j ≠ i → σ[j]? = some (.own l') → ow j ≠ a)
    {Q : Unit → Shared → Prop} {E : Value → Shared → Prop} (h : ∀ s' ow', Stp O O s s' → Fm C F X O s' (σ.set i w) ow' → Q () s') :
    wpAny C.M A (storeName F.env x u) Q E s :=
  store_X f hx hxw hi hw hf fun s' ow' a b _ => h s' ow' a b

theorem Fm.has (f : Fm C F X O s σ ow) {i : Nat} {x : Str} (hx : F.vs[i]? = some x) : ∃ y, σ[i]? = some y := by
  obtain ⟨q, _⟩ := List.getElem?_eq_some_iff.mp hx
  exact ⟨_, List.getElem?_eq_getElem (f.len ▸ q)⟩

theorem Fm.not_free (f : Fm C F X O s σ ow) {x} (k : F.env.kindOf x = some .local ∨ F.env.kindOf x = some .cell) : F.env.kindOf x ≠ some .free := by
  rcases k with k | k <;> (rw [k]; intro h; cases h)

/-- a kept value is stored -/
theorem store_val (f : Fm C F X O s σ ow) {A : Around} {i x u v} (hx : F.vs[i]? = some x) (hxw : x ∈ F.ws)
    (hv : RV s.heap (NX X O) v u) {Q : Unit → Shared → Prop} {E : Value → Shared → Prop} (h : ∀ s' ow', Stp O O s s' → Fm C F X O s' (σ.set i (.val v)) ow' → Q () s') :
    wpAny C.M A (storeName F.env x u) Q E s :=
  store_ f (a := 0) (w := .val v) hx hxw (f.has hx) ⟨u, rfl, hv⟩ (fun l e => by cases e) h

theorem store_valX (f : Fm C F X O s σ ow) {A : Around} {i x u v} (hx : F.vs[i]? = some x) (hxw : x ∈ F.ws)
    (hv : RV s.heap (NX X O) v u) {Q : Unit → Shared → Prop} {E : Value → Shared → Prop} (h : ∀ s' ow', Stp O O s s' → Fm C F X O s' (σ.set i (.val v)) ow' → (∃ p, Heap.SameBut p s.heap s'.heap ∧ (p = F.env.locals ∨ F.env.cells.lookup x = some p)) → Q () s') :
    wpAny C.M A (storeName F.env x u) Q E s :=
  store_X f (a := 0) (w := .val v) hx hxw (f.has hx) ⟨u, rfl, hv⟩ (fun l e => by cases e) h

/-- a new list is stored: the name owns it -/
theorem store_own {s₀ : Shared} (f : Fm C F X O s₀ σ ow) (y : Ext s₀ s) {A : Around} {i x u l} (hx : F.vs[i]? = some x) (hxw : x ∈ F.ws)
    (hv : RR s₀.heap s.heap (NX X O) O u (.new l)) {Q : Unit → Shared → Prop} {E : Value → Shared → Prop} (h : ∀ s' O' ow', Stp O O' s₀ s' → Fm C F X O' s' (σ.set i (.own l)) ow' → Q () s') :
    wpAny C.M A (storeName F.env x u) Q E s := by
  obtain ⟨a, us, rfl, ha, p, r⟩ := hv
  obtain ⟨g, st⟩ := f.grow y ha (let ⟨n, e⟩ := p; ⟨_, e⟩) (fun o fs e => let ⟨n, e'⟩ := p; by rw [e'] at e; cases e; intro q; cases q)
  refine store_ g (a := a) (w := .own l) hx hxw (g.has hx) ⟨us, rfl, .inr rfl, p, RVs.mono (fun b o e n => ⟨e, fun q => n ?_⟩) r⟩ (fun l' e j l'' hj hs q => ?_) fun s' ow' st' f' => h s' _ ow' (st.trans st') f'
  · rcases q with q | q | q
    · exact .inl (.inl q)
    · exact .inl (.inr q)
    · exact .inr q
  · obtain ⟨z, hz⟩ : ∃ z, F.vs[j]? = some z := by
      obtain ⟨w, _⟩ := List.getElem?_eq_some_iff.mp hs
      exact ⟨_, List.getElem?_eq_getElem (f.len ▸ w)⟩
    obtain ⟨val, va, us2, e2, o2, ⟨n2, p2⟩, r2⟩ := f.var j z _ hz hs
    rw [q, ha] at p2; cases p2
end
end Mine

namespace Mine

/-! iterators -/
noncomputable def byV (c : UInt8) : V := .int (c.toNat : Int)
noncomputable def chV (c : Nat) : V := .str [c]
noncomputable def rngL : Int → Nat → List V
  | _, 0 => []
  | a, n + 1 => .int a :: rngL (a + 1) n

noncomputable def It (h : Heap) (N O : Addr → Prop) (it : Addr) (vs : List V) : Prop :=
  (∃ l us i, h.IsListIter it l i ∧ ¬ O l ∧ l ≠ it ∧ h.PlainList l (List.toArray us) ∧ RVs h N vs (us.drop i)) ∨
  (∃ l us i, h.IsTupleIter it l i ∧ ¬ O l ∧ l ≠ it ∧ h.IsTuple l (List.toArray us) ∧ RVs h N vs (us.drop i)) ∨
  (∃ x k, IsRangeIter h it x (k : Nat) 1 ∧ vs = rngL x k) ∨
  (∃ b t i, KBw.IsBytesIter h it (List.toArray b) t i ∧ vs = (b.drop i).map byV) ∨
  (∃ x t i, h.IsStrIter it "str_ascii_iterator" ⟨List.toArray x⟩ t i ∧ vs = (x.drop i).map chV)

theorem RVs.drop {h : Heap} {N : Addr → Prop} {v vs us i} (x : RVs h N (v :: vs) (List.drop i us)) : ∃ u, us[i]? = some u ∧ RV h N v u ∧ RVs h N vs (us.drop (i + 1)) := by
  unfold RVs at x
  obtain ⟨u, us', e, y, z⟩ := x
  have h1 : us[i]? = some u := by
    have := congrArg (fun l => l[0]?) e
    simpa using this
  refine ⟨u, h1, y, ?_⟩
  have : us.drop (i + 1) = us' := by
    have := congrArg List.tail e
    simpa using this
  rw [this]; exact z
theorem drop_nil_get {α} {l : List α} {i : Nat} (h : l.drop i = []) : l[i]? = none := by
  have := List.drop_eq_nil_iff.mp h
  exact List.getElem?_eq_none this
theorem drop_cons_get {α} {l : List α} {i : Nat} {c} {r} (h : l.drop i = c :: r) : l[i]? = some c ∧ l.drop (i + 1) = r := by
  constructor
  · have := congrArg (fun l => l[0]?) h
    simpa using this
  · have := congrArg List.tail h
    simpa using this

section
variable {C : Cx} {A : Around} {s : Shared} {N O : Addr → Prop} {it : Addr}

theorem It.item {v vs} (hit : It s.heap N O it (v :: vs)) (hN : N it) {Q : Option Value → Shared → Prop} {E : Value → Shared → Prop}
    (h : ∀ u h' tk, s.toks ≤ tk → Heap.SameBut it s.heap h' → (∃ o, h'.get? it = some o) → It h' N O it vs → RV h' N v u → Q (some u) { s with heap := h', toks := tk }) : wpAny C.M A (pyNext (.ref it)) Q E s := by
  rcases hit with ⟨l, us, i, h1, h2, h3, h4, h5⟩ | ⟨l, us, i, h1, h2, h3, h4, h5⟩ | ⟨x, k, h1, h2⟩ | ⟨b, t, i, h1, h2⟩ | ⟨x, t, i, h1, h2⟩
  · obtain ⟨u, e, r, rs⟩ := h5.drop
    refine wpAny_pyNext_list_item h1 h4.isList (x := u) (by simpa using e) (fun h' h1' sb => ?_)
    exact h u h' s.toks (Nat.le_refl _) sb (let ⟨o, e, _⟩ := h1'; ⟨o, e⟩) (.inl ⟨l, us, i + 1, h1', h2, h3, PlainList.sameBut h4 sb h3, RVs.mono (moves_same hN sb) rs⟩) (RV.mono (moves_same hN sb) r)
  · obtain ⟨u, e, r, rs⟩ := h5.drop
    refine wpAny_pyNext_tuple_item h1 h4 (x := u) (by simpa using e) (fun h' h1' sb => ?_)
    exact h u h' s.toks (Nat.le_refl _) sb (let ⟨o, e, _⟩ := h1'; ⟨o, e⟩) (.inr (.inl ⟨l, us, i + 1, h1', h2, h3, h4.extBut sb.extBut h3, RVs.mono (moves_same hN sb) rs⟩)) (RV.mono (moves_same hN sb) r)
  · cases k with
    | zero => cases h2
    | succ k =>
      unfold rngL at h2
      injection h2 with e1 e2
      subst e1 e2
      refine wpAny_pyNext_range_item h1 (by omega) (fun h' h1' sb => ?_)
      refine h _ h' (s.toks + 1) (Nat.le_succ _) sb ⟨_, h1'⟩ (.inr (.inr (.inl ⟨x + 1, k, ?_, rfl⟩))) (by unfold RV; exact ⟨_, rfl⟩)
      have : (((k + 1 : Nat) : Int) - 1) = (k : Nat) := by omega
      rw [this] at h1'; exact h1'
  · cases hb : b.drop i with
    | nil => rw [hb] at h2; cases h2
    | cons c r =>
      rw [hb] at h2
      simp only [List.map_cons] at h2
      injection h2 with e1 e2
      subst e1 e2
      obtain ⟨g1, g2⟩ := drop_cons_get hb
      refine KBw.next_item h1 (c := c) (by simpa using g1) (fun h' h1' sb => ?_)
      exact h _ h' (s.toks + 1) (Nat.le_succ _) sb (let ⟨o, e, _⟩ := h1'; ⟨o, e⟩) (.inr (.inr (.inr (.inl ⟨b, t, i + 1, h1', by rw [g2]⟩)))) (by unfold byV RV; exact ⟨_, rfl⟩)
  · cases hb : x.drop i with
    | nil => rw [hb] at h2; cases h2
    | cons c r =>
      rw [hb] at h2
      simp only [List.map_cons] at h2
      injection h2 with e1 e2
      subst e1 e2
      obtain ⟨g1, g2⟩ := drop_cons_get hb
      refine wpAny_pyNext_ascii_item h1 (c := c) (by simpa using g1) (fun h' h1' sb => ?_)
      exact h _ h' (s.toks + 1) (Nat.le_succ _) sb (let ⟨o, e, _⟩ := h1'; ⟨o, e⟩) (.inr (.inr (.inr (.inr ⟨x, t, i + 1, h1', by rw [g2]⟩)))) (by unfold chV RV; exact ⟨_, rfl⟩)

theorem It.done (hh : A.handled = none) (hit : It s.heap N O it []) {Q : Option Value → Shared → Prop} {E : Value → Shared → Prop}
    (h : ∀ h', Heap.ExtBut it s.heap h' → Q none { s with heap := h' }) : wpAny C.M A (pyNext (.ref it)) Q E s := by
  rcases hit with ⟨l, us, i, h1, h2, h3, h4, h5⟩ | ⟨l, us, i, h1, h2, h3, h4, h5⟩ | ⟨x, k, h1, h2⟩ | ⟨b, t, i, h1, h2⟩ | ⟨x, t, i, h1, h2⟩
  · unfold RVs at h5
    exact wpAny_pyNext_list_end hh h1 h4.isList (by have := drop_nil_get h5; simpa using this) h
  · unfold RVs at h5
    exact wpAny_pyNext_tuple_end hh h1 h4 (by have := drop_nil_get h5; simpa using this) h
  · cases k with
    | zero => exact wpAny_pyNext_range_end hh h1 (by omega) h
    | succ k => cases h2
  · have := List.map_eq_nil_iff.mp h2.symm
    exact KBw.next_end hh h1 (by have := drop_nil_get this; simpa using this) h
  · have := List.map_eq_nil_iff.mp h2.symm
    exact wpAny_pyNext_ascii_end hh h1 (by have := drop_nil_get this; simpa using this) h

/-- steps that leave the iterator and what it walks alone -/
theorem It.moves {h h' : Heap} {N N' O O' : Addr → Prop} {vs} (hit : It h N O it vs) (mv : Moves h h' N N') (hk : ∀ b o, h.get? b = some o → ¬ O b → h'.get? b = some o)
    (ho : ∀ b o, h.get? b = some o → ¬ O b → ¬ O' b) (hi : ¬ O it) : It h' N' O' it vs := by
  rcases hit with ⟨l, us, i, ⟨o, h1, r⟩, h2, h3, ⟨n, h4⟩, h5⟩ | ⟨l, us, i, ⟨o, h1, r⟩, h2, h3, ⟨n, h4, r4⟩, h5⟩ | ⟨x, k, h1, h2⟩ | ⟨b, t, i, ⟨o, h1, r⟩, h2⟩ | ⟨x, t, i, ⟨o, h1, r⟩, h2⟩
  · exact .inl ⟨l, us, i, ⟨o, hk _ _ h1 hi, r⟩, ho _ _ h4 h2, h3, ⟨n, hk _ _ h4 h2⟩, RVs.mono mv h5⟩
  · exact .inr (.inl ⟨l, us, i, ⟨o, hk _ _ h1 hi, r⟩, ho _ _ h4 h2, h3, ⟨n, hk _ _ h4 h2, r4⟩, RVs.mono mv h5⟩)
  · exact .inr (.inr (.inl ⟨x, k, hk _ _ h1 hi, h2⟩))
  · exact .inr (.inr (.inr (.inl ⟨b, t, i, ⟨o, hk _ _ h1 hi, r⟩, h2⟩)))
  · exact .inr (.inr (.inr (.inr ⟨x, t, i, ⟨o, hk _ _ h1 hi, r⟩, h2⟩)))

/-- what a loop may run over (owned lists: in an expression alone) -/
noncomputable def V.iter : V → Option (List V)
  | .lst l => some l
  | .tup l => some l
  | .rng a b => if (-1000000 ≤ a ∧ a.toNat ≤ 1000000) ∧ -1000000 ≤ b ∧ b.toNat ≤ 1000000 then some (rngL a (b - a).toNat) else none
  | .byt l => some (l.map byV)
  | .str l => if l.all (· < 128) then some (l.map chV) else none
  | _ => none
noncomputable def R.iter : R → Option (List V)
  | .val v => v.iter
  | .new l => some l
  | .own _ => none
noncomputable def R.iterB : R → Option (List V)
  | .val v => v.iter
  | .new l => some l
  | .own l => some l

theorem RV.iter {v : V} {u : Value} {vs : List V} (x : RV s.heap N v u) (e : v.iter = some vs) (hO : ∀ b o, s.heap.get? b = some o → ¬ N b → ¬ O b) {Q : Value → Shared → Prop} {E : Value → Shared → Prop}
    (h : ∀ o, It (s.heap.push o) (fun b => N b ∨ b = s.heap.objs.size) O s.heap.objs.size vs → (∃ fs, o.data = .fields fs) → o.isFreed = false → Q (.ref s.heap.objs.size) { s with heap := s.heap.push o }) : wpAny C.M A (pyIter u) Q E s := by
  have fresh : ∀ {b o}, s.heap.get? b = some o → b ≠ s.heap.objs.size := fun e => Nat.ne_of_lt (Heap.lt_size e)
  have mv : ∀ o, Moves s.heap (s.heap.push o) N (fun b => N b ∨ b = s.heap.objs.size) := fun o b ob e n => ⟨Heap.get?_push_of_some _ e, fun q => q.elim n (fresh e)⟩
  cases v with
  | non => cases e
  | bool => cases e
  | int => cases e
  | str l =>
    unfold RV at x
    obtain ⟨t, rfl⟩ := x
    simp only [V.iter] at e
    split at e
    · rename_i hl
      cases e
      refine wpAny_pyIter_ascii (by simpa using hl) (h _ (.inr (.inr (.inr (.inr ⟨l, t, 0, ⟨_, Heap.get?_push_size _ rfl, rfl, rfl⟩, by simp⟩)))) ⟨_, rfl⟩ rfl)
    · cases e
  | byt l =>
    unfold RV at x
    obtain ⟨t, rfl⟩ := x
    cases e
    exact KBw.pyIter_bytes (h _ (.inr (.inr (.inr (.inl ⟨l, t, 0, ⟨_, Heap.get?_push_size _ rfl, rfl, rfl⟩, by simp⟩)))) ⟨_, rfl⟩ rfl)
  | tup l =>
    unfold RV at x
    obtain ⟨a, us, rfl, na, ⟨o, ho, r⟩, z⟩ := x
    cases e
    exact wpAny_pyIter_tuple ⟨o, ho, r⟩ (h _ (.inr (.inl ⟨a, us, 0, ⟨_, Heap.get?_push_size _ rfl, rfl, rfl⟩, hO _ _ ho na, fresh ho, ⟨o, Heap.get?_push_of_some _ ho, r⟩, by simpa using RVs.mono (mv _) z⟩)) ⟨_, rfl⟩ rfl)
  | lst l =>
    unfold RV at x
    obtain ⟨a, us, rfl, na, ⟨n, ho⟩, z⟩ := x
    cases e
    exact wpAny_pyIter_list (Heap.PlainList.isList ⟨n, ho⟩) (h _ (.inl ⟨a, us, 0, ⟨_, Heap.get?_push_size _ rfl, rfl, rfl⟩, hO _ _ ho na, fresh ho, ⟨n, Heap.get?_push_of_some _ ho⟩, by simpa using RVs.mono (mv _) z⟩) ⟨_, rfl⟩ rfl)
  | rng p q =>
    unfold RV at x
    obtain ⟨a, t1, t2, t3, rfl, na, ho⟩ := x
    simp only [V.iter] at e
    split at e
    · rename_i hb
      cases e
      refine wpAny_pyIter_range ho ?_ (h _ (.inr (.inr (.inl ⟨p, (q - p).toNat, ?_, rfl⟩))) ⟨_, rfl⟩ rfl)
      · exact small_one (by omega) (by omega) (by omega) (by omega)
      · have := Heap.get?_push_size s.heap (o := { cls := Value.type "range_iterator", data := Data.fields #[rawInt p, rawInt (Builtin.Range.rangeSize p q 1), rawInt 1] }) rfl
        rw [rangeSize_one] at this ⊢
        have e : (((q - p).toNat : Nat) : Int) = (if p < q then q - p else 0) := by split <;> omega
        rw [e]; exact this
    · cases e

theorem RR.iter {h₀ : Heap} {r : R} {u : Value} {vs : List V} (x : RR h₀ s.heap N O u r) (e : r.iter = some vs) (hO : ∀ b, O b → N b) (hN : ∀ a, N a → ∃ o, h₀.get? a = some o) {Q : Value → Shared → Prop} {E : Value → Shared → Prop}
    (h : ∀ o, It (s.heap.push o) (fun b => N b ∨ b = s.heap.objs.size) O s.heap.objs.size vs → (∃ fs, o.data = .fields fs) → o.isFreed = false → Q (.ref s.heap.objs.size) { s with heap := s.heap.push o }) : wpAny C.M A (pyIter u) Q E s := by
  cases r with
  | val v => exact RV.iter x e (fun b _ _ nb q => nb (hO b q)) h
  | new l =>
    obtain ⟨a, us, rfl, na, ⟨n, ho⟩, z⟩ := x
    cases e
    have fresh : ∀ {b o}, s.heap.get? b = some o → b ≠ s.heap.objs.size := fun e => Nat.ne_of_lt (Heap.lt_size e)
    refine wpAny_pyIter_list (Heap.PlainList.isList ⟨n, ho⟩) (h _ (.inl ⟨a, us, 0, ⟨_, Heap.get?_push_size _ rfl, rfl, rfl⟩, fun q => ?_, fresh ho, ⟨n, Heap.get?_push_of_some _ ho⟩, ?_⟩) ⟨_, rfl⟩ rfl)
    · obtain ⟨o, e⟩ := hN a (hO a q)
      rw [na] at e; cases e
    · simpa using RVs.mono (fun b ob e n => ⟨Heap.get?_push_of_some _ e, fun q => q.elim (fun q => n (.inl q)) (fresh e)⟩) z
  | own l => cases e

/-- where nothing that stands is changed, owned lists may be walked too -/
theorem RR.iterB {h₀ : Heap} {r : R} {u : Value} {vs : List V} (x : RR h₀ s.heap N O u r) (e : r.iterB = some vs) {Q : Value → Shared → Prop} {E : Value → Shared → Prop}
    (h : ∀ o, It (s.heap.push o) (fun b => N b ∨ b = s.heap.objs.size) (fun b => s.heap.get? b = none ∧ b ≠ s.heap.objs.size) s.heap.objs.size vs → (∃ fs, o.data = .fields fs) → o.isFreed = false → Q (.ref s.heap.objs.size) { s with heap := s.heap.push o }) : wpAny C.M A (pyIter u) Q E s := by
  have fresh : ∀ {b o}, s.heap.get? b = some o → b ≠ s.heap.objs.size := fun e => Nat.ne_of_lt (Heap.lt_size e)
  have lst : ∀ {a us n l}, s.heap.get? a = some { cls := .type "list", data := .seq (List.toArray us) n } → RVs s.heap N l us → l = vs → u = .ref a → wpAny C.M A (pyIter u) Q E s := by
    intro a us n l ho z el eu
    subst el eu
    refine wpAny_pyIter_list (Heap.PlainList.isList ⟨n, ho⟩) (h _ (.inl ⟨a, us, 0, ⟨_, Heap.get?_push_size _ rfl, rfl, rfl⟩, fun q => ?_, fresh ho, ⟨n, Heap.get?_push_of_some _ ho⟩, ?_⟩) ⟨_, rfl⟩ rfl)
    · have q' : s.heap.get? a = none := q.1
      rw [ho] at q'; cases q'
    · simpa using RVs.mono (fun b ob e n => ⟨Heap.get?_push_of_some _ e, fun q => q.elim n (fresh e)⟩) z
  cases r with
  | val v => exact RV.iter x e (fun b o e _ q => by have q := q.1; rw [e] at q; cases q) h
  | new l =>
    obtain ⟨a, us, rfl, na, ⟨n, ho⟩, z⟩ := x
    cases e
    exact lst ho (RVs.mono (fun b o e n => ⟨e, fun q => n (.inl q)⟩) z) rfl rfl
  | own l =>
    obtain ⟨a, us, rfl, na, ⟨n, ho⟩, z⟩ := x
    cases e
    exact lst ho z rfl rfl

/-- an iterator is its own iterator -/
theorem It.self {vs} (hit : It s.heap N O it vs) {Q : Value → Shared → Prop} {E : Value → Shared → Prop} (h : Q (.ref it) s) : wpAny C.M A (pyIter (.ref it)) Q E s := by
  rcases hit with ⟨l, us, i, h1, h2, h3, h4, h5⟩ | ⟨l, us, i, h1, h2, h3, h4, h5⟩ | ⟨x, k, h1, h2⟩ | ⟨b, t, i, h1, h2⟩ | ⟨x, t, i, h1, h2⟩
  · exact wpAny_pyIter_listiter h1 h
  · exact wpAny_pyIter_tupleiter h1 h
  · exact wpAny_pyIter_rangeiter h1 h
  · exact KBw.pyIter_self h1 h
  · exact wpAny_pyIter_striter_ascii h1 h
theorem It.fields {h : Heap} {vs} (hit : It h N O it vs) : ∃ ob fs, h.get? it = some ob ∧ ob.data = .fields fs := by
  rcases hit with ⟨l, us, i, ⟨o, h1, _, r⟩, _⟩ | ⟨l, us, i, ⟨o, h1, _, r⟩, _⟩ | ⟨x, k, h1, h2⟩ | ⟨b, t, i, ⟨o, h1, _, r⟩, h2⟩ | ⟨x, t, i, ⟨o, h1, _, r⟩, h2⟩
  · exact ⟨o, _, h1, r⟩
  · exact ⟨o, _, h1, r⟩
  · exact ⟨_, _, h1, rfl⟩
  · exact ⟨o, _, h1, r⟩
  · exact ⟨o, _, h1, r⟩

end

section
variable {C : Cx} {F : FD} {X O : Addr → Prop} {s : Shared} {σ : List S} {ow : Nat → Addr}

theorem Fm.addX {s' : Shared} (f : Fm C F X O s σ ow) (y : Ext s s') {a : Addr} (ha : s.heap.get? a = none) (hb : ∃ o, s'.heap.get? a = some o) : Fm C F (fun b => X b ∨ b = a) O s' σ ow := by
  have mv : Moves s.heap s'.heap (NX X O) (NX (fun b => X b ∨ b = a) O) := fun b o e n => ⟨y.keep b o e, fun h => by
    rcases h with (h | h) | h
    · exact n (.inl h)
    · subst h; rw [ha] at e; cases e
    · exact n (.inr h)⟩
  have g := f.ext y
  refine ⟨⟨g.gs.keep, fun b n => ?_, fun b n => ?_⟩, fun b h q => ?_, f.ol, f.oc, f.nd, f.ci, g.ln, g.cn, f.wv, f.wf, f.kind, f.gl, f.bl, f.len, fun j z w hz hw => ?_, f.inj, g.tp, g.ot⟩
  · rcases n with (n | n) | n
    · exact f.gs.nb b (.inl n)
    · subst n
      by_cases hp : C.Px b
      · exact .inr hp
      · refine .inl ?_
        cases q : C.base.get? b with
        | none => rfl
        | some o => rw [f.gs.keep b o q hp] at ha; cases ha
    · exact f.gs.nb b (.inr n)
  · rcases n with (n | n) | n
    · exact g.gs.ex b (.inl n)
    · subst n; exact hb
    · exact g.gs.ex b (.inr n)
  · rcases h with h | h
    · exact f.xo b h q
    · subst h
      obtain ⟨o, e⟩ := f.gs.ex b (.inr q)
      rw [ha] at e; cases e
  · obtain ⟨val, va, sr⟩ := f.var j z w hz hw
    refine ⟨val, va.ext y, ?_⟩
    cases w with
    | unb => exact sr
    | val v => obtain ⟨u, e, r⟩ := sr; exact ⟨u, e, RV.mono mv r⟩
    | pin v u => exact ⟨sr.1, RV.mono mv sr.2⟩
    | own l2 =>
      obtain ⟨us2, e2, o2, ⟨n, p2⟩, r2⟩ := sr
      exact ⟨us2, e2, o2, ⟨n, y.keep _ _ p2⟩, RVs.mono mv r2⟩

/-- some foreign objects (no cells) are changed, or go -/
theorem Fm.otherS {X' Z : Addr → Prop} (f : Fm C F X' O s σ ow) {h' : Heap} (tk : Nat) (ht : s.toks ≤ tk) (xi : ∀ b, Z b → X' b) (sub : ∀ b, X b → X' b) (hk : ∀ b o, ¬ Z b → s.heap.get? b = some o → h'.get? b = some o)
    (ncl : ∀ {a v}, s.heap.IsCell a v → ¬ Z a) (hx : ∀ b, X b → ¬ Z b ∨ ∃ o, h'.get? b = some o) : Fm C F X O { s with heap := h', toks := tk } σ ow := by
  have nns : ¬ Z F.env.locals := fun e => f.xo _ (xi _ e) f.ol
  have cell : ∀ {c v}, s.heap.IsCell c v → h'.IsCell c v := fun x => Heap.IsCell.keeps' x fun o e => hk _ _ (ncl x) e
  have no : ∀ {b}, O b → ¬ Z b := fun o z => f.xo _ (xi _ z) o
  have mv : Moves s.heap h' (NX X' O) (NX X O) := fun b ob e n => ⟨hk b ob (fun q => n (.inl (xi b q))) e, fun q => n (q.imp (sub b) id)⟩
  have nsk : ∀ {m}, s.heap.Ns F.env.locals m → h'.Ns F.env.locals m := fun n => n.at fun o e => hk _ _ nns e
  refine ⟨⟨fun b ob e n => hk b ob (fun q => ?_) (f.gs.keep b ob e n), fun b n => f.gs.nb b (n.imp (sub b) id), fun b n => ?_⟩, fun b h q => f.xo b (sub b h) q, f.ol, f.oc, f.nd, f.ci,
    let ⟨m, q⟩ := f.ln; ⟨m, nsk q⟩, fun x hx c hc => let ⟨v, q⟩ := f.cn x hx c hc; ⟨v, cell q⟩, f.wv, f.wf, f.kind, f.gl, f.bl, f.len, fun j z w hz hw => ?_, f.inj, Nat.le_trans f.tp ht, fun a o fs ha e => by
      obtain ⟨o', e'⟩ := f.gs.ex a (.inr ha)
      have e2 := hk a o' (no ha) e'
      have e3 : h'.get? a = some o := e
      rw [e2] at e3; cases e3
      exact f.ot a _ fs ha e'⟩
  · rcases f.gs.nb b (.inl (xi b q)) with z | z
    · rw [e] at z; cases z
    · exact n z
  · by_cases hb : Z b
    · rcases n with n | n
      · exact (hx b n).elim (fun q => absurd hb q) id
      · exact absurd hb (no n)
    · obtain ⟨ob, e⟩ := f.gs.ex b (n.imp (sub b) id)
      exact ⟨ob, hk b ob hb e⟩
  · obtain ⟨val, va, sr⟩ := f.var j z w hz hw
    refine ⟨val, ?_, ?_⟩
    · rcases va with ⟨k, m, n, e⟩ | ⟨k, c, l, e⟩ | ⟨k, d, c, l, e⟩
      · exact .inl ⟨k, m, nsk n, e⟩
      · exact .inr (.inl ⟨k, c, l, cell e⟩)
      · exact .inr (.inr ⟨k, d, c, l, cell e⟩)
    · cases w with
      | unb => exact sr
      | val v => obtain ⟨u, e, r⟩ := sr; exact ⟨u, e, RV.mono mv r⟩
      | pin v u => exact ⟨sr.1, RV.mono mv sr.2⟩
      | own l2 =>
        obtain ⟨us2, e2, o2, ⟨n, p2⟩, r2⟩ := sr
        exact ⟨us2, e2, o2, ⟨n, hk _ _ (no o2) p2⟩, RVs.mono mv r2⟩

/-- a foreign object (neither a table of names nor a cell) is changed, or goes -/
theorem Fm.otherG {X' : Addr → Prop} (f : Fm C F X' O s σ ow) {it : Addr} {h' : Heap} (tk : Nat) (ht : s.toks ≤ tk) (xi : X' it) (sub : ∀ b, X b → X' b) (hk : Heap.ExtBut it s.heap h')
    (ncl : ∀ {a v}, s.heap.IsCell a v → a ≠ it) (hx : ∀ b, X b → b ≠ it ∨ ∃ o, h'.get? it = some o) : Fm C F X O { s with heap := h', toks := tk } σ ow := by
  have nns : F.env.locals ≠ it := fun e => f.xo it xi (e ▸ f.ol)
  have cell : ∀ {c v}, s.heap.IsCell c v → h'.IsCell c v := fun x => Heap.IsCell.keeps' x fun o e => hk _ _ (ncl x) e
  have no : ¬ O it := f.xo it xi
  have mv : Moves s.heap h' (NX X' O) (NX X O) := fun b ob e n => ⟨hk b ob (fun q => n (q ▸ .inl xi)) e, fun q => n (q.imp (sub b) id)⟩
  refine ⟨⟨fun b ob e n => hk b ob (fun q => ?_) (f.gs.keep b ob e n), fun b n => f.gs.nb b (n.imp (sub b) id), fun b n => ?_⟩, fun b h q => f.xo b (sub b h) q, f.ol, f.oc, f.nd, f.ci,
    let ⟨m, q⟩ := f.ln; ⟨m, q.extBut hk nns⟩, fun x hx c hc => let ⟨v, q⟩ := f.cn x hx c hc; ⟨v, cell q⟩, f.wv, f.wf, f.kind, f.gl, f.bl, f.len, fun j z w hz hw => ?_, f.inj, Nat.le_trans f.tp ht, fun a o fs ha e => by
      obtain ⟨o', e'⟩ := f.gs.ex a (.inr ha)
      have e2 := hk a o' (fun q => no (q ▸ ha)) e'
      have e3 : h'.get? a = some o := e
      rw [e2] at e3; cases e3
      exact f.ot a _ fs ha e'⟩
  · subst q
    rcases f.gs.nb b (.inl xi) with z | z
    · rw [e] at z; cases z
    · exact n z
  · by_cases hb : b = it
    · subst hb
      rcases n with n | n
      · exact (hx b n).elim (fun q => absurd rfl q) id
      · exact absurd n no
    · obtain ⟨ob, e⟩ := f.gs.ex b (n.imp (sub b) id)
      exact ⟨ob, hk b ob hb e⟩
  · obtain ⟨val, va, sr⟩ := f.var j z w hz hw
    refine ⟨val, ?_, ?_⟩
    · rcases va with ⟨k, m, n, e⟩ | ⟨k, c, l, e⟩ | ⟨k, d, c, l, e⟩
      · exact .inl ⟨k, m, n.extBut hk nns, e⟩
      · exact .inr (.inl ⟨k, c, l, cell e⟩)
      · exact .inr (.inr ⟨k, d, c, l, cell e⟩)
    · cases w with
      | unb => exact sr
      | val v => obtain ⟨u, e, r⟩ := sr; exact ⟨u, e, RV.mono mv r⟩
      | pin v u => exact ⟨sr.1, RV.mono mv sr.2⟩
      | own l2 =>
        obtain ⟨us2, e2, o2, ⟨n, p2⟩, r2⟩ := sr
        exact ⟨us2, e2, o2, ⟨n, hk _ _ (fun q => no (q ▸ o2)) p2⟩, RVs.mono mv r2⟩

/-- a foreign object (an iterator) moves on, or goes -/
theorem Fm.other {X' : Addr → Prop} (f : Fm C F X' O s σ ow) {it : Addr} {h' : Heap} (tk : Nat) (ht : s.toks ≤ tk) (xi : X' it) (sub : ∀ b, X b → X' b) (hk : Heap.ExtBut it s.heap h')
    (hi : ∃ o fs, s.heap.get? it = some o ∧ o.data = .fields fs) (hx : ∀ b, X b → b ≠ it ∨ ∃ o, h'.get? it = some o) : Fm C F X O { s with heap := h', toks := tk } σ ow := by
  obtain ⟨o, fs, ho, hd⟩ := hi
  refine f.otherG tk ht xi sub hk ?_ hx
  · rintro a v ⟨o', e, d⟩ rfl
    rw [ho] at e; cases e; rw [hd] at d; cases d

theorem Fm.subX {X' : Addr → Prop} (f : Fm C F X' O s σ ow) (sub : ∀ b, X b → X' b) : Fm C F X O s σ ow := by
  have mv : Moves s.heap s.heap (NX X' O) (NX X O) := fun b o e n => ⟨e, fun q => n (q.imp (sub b) id)⟩
  refine ⟨⟨f.gs.keep, fun b n => f.gs.nb b (n.imp (sub b) id), fun b n => f.gs.ex b (n.imp (sub b) id)⟩, fun b h q => f.xo b (sub b h) q, f.ol, f.oc, f.nd, f.ci, f.ln, f.cn, f.wv, f.wf, f.kind, f.gl, f.bl, f.len, fun j z w hz hw => ?_, f.inj, f.tp, f.ot⟩
  obtain ⟨val, va, sr⟩ := f.var j z w hz hw
  refine ⟨val, va, ?_⟩
  cases w with
  | unb => exact sr
  | val v => obtain ⟨u, e, r⟩ := sr; exact ⟨u, e, RV.mono mv r⟩
  | pin v u => exact ⟨sr.1, RV.mono mv sr.2⟩
  | own l2 =>
    obtain ⟨us2, e2, o2, p2, r2⟩ := sr
    exact ⟨us2, e2, o2, p2, RVs.mono mv r2⟩

theorem Stp.moves {O' : Addr → Prop} {s' : Shared} (y : Stp O O' s s') : Moves s.heap s'.heap (NX X O) (NX X O') :=
  fun b o e n => ⟨y.keep b o e fun q => n (.inr q), fun q => n (q.imp id fun q => (y.own b q).elim id fun z => by rw [e] at z; cases z)⟩
end
end Mine

namespace Mine

section
variable {C : Cx} {F : FD} {n : Nat}

noncomputable def rd (i : Nat) (σ : List S) : Option R := match σ[i]? with
  | some (.val v) => some (.val v)
  | some (.own l) => some (.own l)
  | some (.pin v _) => some (.val v)
  | _ => none

theorem loadName_ {A : Around} {s : Shared} {X O : Addr → Prop} {σ : List S} {ow : Nat → Addr} (f : Fm C F X O s σ ow) {i : Nat} {x : Str} {r : R} (hx : F.vs[i]? = some x) (hr : rd i σ = some r)
    {Q : Value → Shared → Prop} {E : Value → Shared → Prop} (h : ∀ u, RR s.heap s.heap (NX X O) O u r → Q u s) : wpAny C.M A (loadName F.env x) Q E s := by
  obtain ⟨y, hy⟩ := f.has hx
  obtain ⟨val, va, sr⟩ := f.var i x y hx hy
  obtain ⟨u, rfl, hu⟩ : ∃ u, val = some u ∧ RR s.heap s.heap (NX X O) O u r := by
    unfold rd at hr
    rw [hy] at hr
    cases y with
    | unb => cases hr
    | val v => cases hr; obtain ⟨u, e, z⟩ := sr; exact ⟨u, e, z⟩
    | pin v u => cases hr; exact ⟨u, sr.1, sr.2⟩
    | own l => cases hr; obtain ⟨us, e, o, p, z⟩ := sr; exact ⟨_, e, _, us, rfl, o, p, z⟩
  rcases va with ⟨k, m, ns, e⟩ | ⟨k, c, l, e⟩ | ⟨k, d, c, l, e⟩
  · exact wpAny_loadName_local f.kind k ns e (h u hu)
  · exact wpAny_loadName_cell f.kind k l e (h u hu)
  · exact wpAny_loadName_free f.kind k l e (h u hu) d

theorem eVar (i : Nat) {x : Str} {pos : Pos} (hx : F.vs[i]? = some x) (hd : (x == ("__debug__" : Str)) = false) : SE C F n (.Name x pos) (rd i) :=
  fun A s X O σ ow r hA f hr Q E h => wpAny_Name (loadName_ f hx hr fun u hu => h u s (Ext.refl s) hu) hd

theorem eInt (i : Int) {k : Nat} {pos : Pos} : SE C F n (.Constant (.int i) k pos) (fun _ => some (.val (.int i))) :=
  fun A s X O σ ow r hA f hr Q E h => by
    cases hr
    exact wpAny_Constant_int (h _ _ (Ext.toks s _) (by unfold RR RV; exact ⟨_, rfl⟩))
theorem eStr {x : Str} (l : List Nat) {k : Nat} {pos : Pos} (hx : x = ⟨l.toArray⟩) : SE C F n (.Constant (.str x) k pos) (fun _ => some (.val (.str l))) :=
  fun A s X O σ ow r hA f hr Q E h => by
    cases hr
    exact wpAny_Constant_str (h _ _ (Ext.toks s _) (by unfold RR RV; exact ⟨_, by rw [hx]⟩))
theorem eNone {k : Nat} {pos : Pos} : SE C F n (.Constant .none k pos) (fun _ => some (.val .non)) :=
  fun A s X O σ ow r hA f hr Q E h => by
    cases hr
    exact wpAny_Constant_none (h _ _ (Ext.refl s) (by unfold RR RV; rfl))
theorem eBool (b : Bool) {k : Nat} {pos : Pos} : SE C F n (.Constant (.bool b) k pos) (fun _ => some (.val (.bool b))) :=
  fun A s X O σ ow r hA f hr Q E h => by
    cases hr
    exact wpAny_Constant_bool (h _ _ (Ext.refl s) (by unfold RR RV; rfl))
theorem eByt {b : List UInt8} {k : Nat} {pos : Pos} : SE C F n (.Constant (.bytes b) k pos) (fun _ => some (.val (.byt b))) :=
  fun A s X O σ ow r hA f hr Q E h => by
    cases hr
    show wpAny C.M A (mkTextBytes b.toArray) Q E s
    exact fun Γ p hΓ => h _ _ (Ext.toks s _) (by unfold RR RV; exact ⟨_, rfl⟩)

/-- what holds between two operands evaluated one after the other -/
noncomputable def OpB (C : Cx) (n : Nat) (m : Value → Value → Sem Value) (g : R → R → Option R) : Prop :=
  ∀ A s h₀ X O u v a b r, Rm n A → Gs C (NX X O) h₀ → (∀ b o, h₀.get? b = some o → s.heap.get? b = some o) → RR h₀ s.heap (NX X O) O u a → RR h₀ s.heap (NX X O) O v b → g a b = some r → Ev C X O A s (m u v) r

/-- an evaluation behind another -/
theorem Ev.then {A : Around} {s s' : Shared} {X O : Addr → Prop} {m : Sem Value} {r : R} (x : Ext s s') (e : Ev C X O A s' m r) {Q : Value → Shared → Prop} {E : Value → Shared → Prop}
    (h : ∀ v s'', Ext s s'' → RR s.heap s''.heap (NX X O) O v r → Q v s'') : wpAny C.M A m Q E s' :=
  e Q E fun v s'' y z => h v s'' (x.trans y) (RR.base x.keep z)

theorem eBin {op : Operator} {l r : Expr} {pos : Pos} {f1 f2 : List S → Option R} {g : R → R → Option R} (hg : OpB C n (binaryOp op) g) (hl : SE C F n l f1) (hr : SE C F n r f2) :
    SE C F n (.BinOp l op r pos) (fun σ => match f1 σ, f2 σ with | some a, some b => g a b | _, _ => none) :=
  fun A s X O σ ow r hA f e Q E h => by
    cases e1 : f1 σ with
    | none => simp [e1] at e
    | some a =>
      cases e2 : f2 σ with
      | none => simp [e1, e2] at e
      | some b =>
        simp only [e1, e2] at e
        refine wpAny_BinOp (hl A s X O σ ow a hA f e1 _ E fun u s1 x1 r1 => ?_)
        refine hr A s1 X O σ ow b hA (f.ext x1) e2 _ E fun v s2 x2 r2 => ?_
        exact Ev.then (x1.trans x2) (hg A s2 s.heap X O u v a b _ hA f.gs (fun b o e => x2.keep b o (x1.keep b o e)) (r1.ext x2) (RR.base x1.keep r2) e) h

theorem eCmp {op : CmpOp} {l r : Expr} {pos : Pos} {f1 f2 : List S → Option R} {g : R → R → Option R} (hg : OpB C n (compareOp op) g) (hl : SE C F n l f1) (hr : SE C F n r f2) (hb : behindInMarks op r = false) :
    SE C F n (.Compare l [op] [r] pos) (fun σ => match f1 σ, f2 σ with | some a, some b => g a b | _, _ => none) :=
  fun A s X O σ ow r hA f e Q E h => by
    cases e1 : f1 σ with
    | none => simp [e1] at e
    | some a =>
      cases e2 : f2 σ with
      | none => simp [e1, e2] at e
      | some b =>
        simp only [e1, e2] at e
        refine wpAny_Compare1 (hl A s X O σ ow a hA f e1 _ E fun u s1 x1 r1 => ?_) hb
        refine hr A s1 X O σ ow b hA (f.ext x1) e2 _ E fun v s2 x2 r2 => ?_
        exact Ev.then (x1.trans x2) (hg A s2 s.heap X O u v a b _ hA f.gs (fun b o e => x2.keep b o (x1.keep b o e)) (r1.ext x2) (RR.base x1.keep r2) e) h

noncomputable def boolR : R → Option Bool
  | .val (.bool b) => some b
  | _ => none
theorem RR.bool {h₀ h : Heap} {N O : Addr → Prop} {u : Value} : ∀ {r : R} {b : Bool}, RR h₀ h N O u r → boolR r = some b → u = .bool b
  | .val (.bool b'), b, x, e => by cases e; unfold RR RV at x; exact x
  | .val .non, b, x, e => by cases e
  | .val (.int _), b, x, e => by cases e
  | .val (.str _), b, x, e => by cases e
  | .val (.byt _), b, x, e => by cases e
  | .val (.tup _), b, x, e => by cases e
  | .val (.lst _), b, x, e => by cases e
  | .val (.rng _ _), b, x, e => by cases e
  | .new _, b, x, e => by cases e
  | .own _, b, x, e => by cases e

theorem tCmp {op : CmpOp} {l r : Expr} {pos : Pos} {f1 f2 : List S → Option R} {g : R → R → Option R} (hg : OpB C n (compareOp op) g) (hl : SE C F n l f1) (hr : SE C F n r f2) (hb : behindInMarks op r = false) :
    ST C F n (.Compare l [op] [r] pos) (fun σ => match f1 σ, f2 σ with | some a, some b => (g a b).bind boolR | _, _ => none) :=
  fun A s X O σ ow bo hA f e Q E h => by
    cases e1 : f1 σ with
    | none => simp [e1] at e
    | some a =>
      cases e2 : f2 σ with
      | none => simp [e1, e2] at e
      | some b =>
        simp only [e1, e2] at e
        obtain ⟨r, eg, er⟩ := Option.bind_eq_some_iff.mp e
        refine wpAny_isTrue_Compare1 (hl A s X O σ ow a hA f e1 _ E fun u s1 x1 r1 => ?_) hb
        refine hr A s1 X O σ ow b hA (f.ext x1) e2 _ E fun v s2 x2 r2 => ?_
        refine Ev.then (x1.trans x2) (hg A s2 s.heap X O u v a b _ hA f.gs (fun b o e => x2.keep b o (x1.keep b o e)) (r1.ext x2) (RR.base x1.keep r2) eg) fun c s3 x3 r3 => ?_
        rw [r3.bool er]
        exact wpAny_truthy_bool (h s3 x3)

/-- the truth of a value -/
noncomputable def truth : R → Option Bool
  | .val (.bool b) => some b
  | .val (.int i) => some (i != 0)
  | .val (.str l) => if l.length ≤ 1048576 then some (!l.isEmpty) else none
  | _ => none

theorem truthy_ {A : Around} {s : Shared} {h₀ : Heap} {N O : Addr → Prop} {u : Value} {b : Bool} : ∀ {r : R}, RR h₀ s.heap N O u r → truth r = some b → ∀ {Q : Bool → Shared → Prop} {E : Value → Shared → Prop}, (∀ k, Q b { s with toks := k }) → wpAny C.M A (truthy u) Q E s
  | .val (.bool b'), x, e, Q, E, h => by cases e; unfold RR RV at x; subst x; exact wpAny_truthy_bool (h s.toks)
  | .val (.int i), x, e, Q, E, h => by
    cases e; unfold RR RV at x; obtain ⟨t, rfl⟩ := x
    exact truthy_int (h s.toks)
  | .val (.str l), x, e, Q, E, h => by
    simp only [truth] at e
    split at e
    · rename_i hl
      cases e; unfold RR RV at x; obtain ⟨t, rfl⟩ := x
      refine KXt.truthy (b := !l.isEmpty) ?_ (by simp [PySem.Str.length]; omega) h
      cases l <;> simp [PySem.Str.length] <;> omega
    · cases e
  | .val .non, x, e, _, _, _ => by cases e
  | .val (.byt _), x, e, _, _, _ => by cases e
  | .val (.tup _), x, e, _, _, _ => by cases e
  | .val (.lst _), x, e, _, _, _ => by cases e
  | .val (.rng _ _), x, e, _, _, _ => by cases e
  | .new _, x, e, _, _, _ => by cases e
  | .own _, x, e, _, _, _ => by cases e

theorem tVal {e : Expr} {f1 : List S → Option R} (he : SE C F n e f1) (hw : ∀ whole, isTrue e F.env whole = (do let v ← whole; standAt e.pos; holding [v] (truthy v))) :
    ST C F n e (fun σ => (f1 σ).bind truth) :=
  fun A s X O σ ow bo hA f ee Q E h => by
    obtain ⟨r, e1, e2⟩ := Option.bind_eq_some_iff.mp ee
    refine wpAny_isTrue_value (he A s X O σ ow r hA f e1 _ E fun u s1 x1 r1 => ?_) (hw _)
    exact tk_ (truthy_ r1 e2 fun k hk => h _ (x1.trans (Ext.toks s1 k hk)))

theorem tNot {e : Expr} {pos : Pos} {f1 : List S → Option Bool} (he : ST C F n e f1) : ST C F n (.UnaryOp .Not e pos) (fun σ => (f1 σ).map (!·)) :=
  fun A s X O σ ow bo hA f ee Q E h => by
    obtain ⟨b, e1, rfl⟩ := Option.map_eq_some_iff.mp ee
    exact wpAny_isTrue_Not (he A s X O σ ow b hA f e1 _ E fun s1 x1 => h s1 x1)

noncomputable def SA (C : Cx) (F : FD) (n : Nat) (op : BoolOp) (es : List Expr) (f : List S → Option Bool) : Prop :=
  ∀ A s X O σ ow b, Rm n A → Fm C F X O s σ ow → f σ = some b →
    ∀ (Q : Bool → Shared → Prop) (E : Value → Shared → Prop), (∀ s', Ext s s' → Q b s') → wpAny C.M A (allTrue op es F.env) Q E s

theorem aNilAnd : SA C F n .And [] (fun _ => some true) := fun A s X O σ ow b hA f e Q E h => by cases e; exact wpAny_allTrue_And_nil (h s (Ext.refl s))
theorem aAnd {e : Expr} {es : List Expr} {f1 f2 : List S → Option Bool} (h1 : ST C F n e f1) (h2 : SA C F n .And es f2) :
    SA C F n .And (e :: es) (fun σ => match f1 σ with | some true => f2 σ | x => x) :=
  fun A s X O σ ow b hA f e Q E h => by
    cases e1 : f1 σ with
    | none => simp [e1] at e
    | some b1 =>
      refine wpAny_allTrue_And_cons (h1 A s X O σ ow b1 hA f e1 _ E fun s1 x1 => ?_)
      cases b1 with
      | false => simp [e1] at e; subst e; exact h s1 x1
      | true =>
        simp only [e1] at e
        exact h2 A s1 X O σ ow b hA (f.ext x1) e Q E fun s2 x2 => h s2 (x1.trans x2)
theorem tBool {op : BoolOp} {es : List Expr} {pos : Pos} {f1 : List S → Option Bool} (he : SA C F n op es f1) : ST C F n (.BoolOp op es pos) f1 :=
  fun A s X O σ ow b hA f e Q E h => wpAny_isTrue_BoolOp (he A s X O σ ow b hA f e Q E h)

theorem eIf {t a b : Expr} {pos : Pos} {ft : List S → Option Bool} {fa fb : List S → Option R} (ht : ST C F n t ft) (ha : SE C F n a fa) (hb : SE C F n b fb) :
    SE C F n (.IfExp t a b pos) (fun σ => match ft σ with | some true => fa σ | some false => fb σ | none => none) :=
  fun A s X O σ ow r hA f e Q E h => by
    cases e1 : ft σ with
    | none => simp [e1] at e
    | some b1 =>
      refine wpAny_IfExp (ht A s X O σ ow b1 hA f e1 _ E fun s1 x1 => ?_)
      cases b1 with
      | true => simp only [e1] at e; exact Ev.then x1 (ha A s1 X O σ ow r hA (f.ext x1) e) h
      | false => simp only [e1] at e; exact Ev.then x1 (hb A s1 X O σ ow r hA (f.ext x1) e) h

/-! lists of expressions -/
noncomputable def SL (C : Cx) (F : FD) (n : Nat) (es : List Expr) (f : List S → Option (List V)) : Prop :=
  ∀ (pos : Pos) A s X O σ ow vs, Rm n A → Fm C F X O s σ ow → f σ = some vs →
    ∀ (Q : List Value → Shared → Prop) (E : Value → Shared → Prop), (∀ us s', Ext s s' → RVs s'.heap (NX X O) vs us → Q us s') → wpAny C.M A (spliced (backTo pos (starEach es F.env))) Q E s
theorem lNil : SL C F n [] (fun _ => some []) := fun pos A s X O σ ow vs hA f e Q E h => by
  cases e
  exact Calls.spliced_nil (h [] s (Ext.refl s) RVs.nil)
theorem lCons {e : Expr} {es : List Expr} {f1 : List S → Option R} {f2 : List S → Option (List V)} (hs : ∀ env, starEach (e :: es) env = (false, eval e env) :: starEach es env) (h1 : SE C F n e f1) (h2 : SL C F n es f2) :
    SL C F n (e :: es) (fun σ => match (f1 σ).bind R.fz, f2 σ with | some v, some vs => some (v :: vs) | _, _ => none) := fun pos A s X O σ ow vs hA f e Q E h => by
  cases e1 : (f1 σ).bind R.fz with
  | none => simp [e1] at e
  | some v =>
    cases e2 : f2 σ with
    | none => simp [e1, e2] at e
    | some vs' =>
      simp only [e1, e2] at e
      cases e
      obtain ⟨r, er, ef⟩ := Option.bind_eq_some_iff.mp e1
      rw [hs]
      refine Calls.spliced_cons (h1 A s X O σ ow r hA f er _ E fun u s1 x1 r1 => ?_)
      refine h2 pos A s1 X O σ ow vs' hA (f.ext x1) e2 _ E fun us s2 x2 r2 => ?_
      exact h _ s2 (x1.trans x2) (RVs.cons (RV.mono (x2.moves _) (r1.fz f.gs.ex ef)) r2)

theorem newL {A : Around} {s : Shared} {X O : Addr → Prop} {vs : List V} {us : List Value} (z : RVs s.heap (NX X O) vs us) (hl : us.length ≤ 16777216) (k : Nat) (hk : s.toks ≤ k := by exact Nat.le_refl _) :
    Ext s { s with heap := s.heap.push { cls := Value.type "list", data := Data.seq us.toArray }, toks := k } ∧
    RR s.heap (s.heap.push { cls := Value.type "list", data := Data.seq us.toArray }) (NX X O) O (.ref s.heap.objs.size) (.new vs) := by
  refine ⟨Ext.push s _ k hk, s.heap.objs.size, us, rfl, ?_, ⟨0, Heap.get?_push_size _ rfl⟩, RVs.mono (fun b o e nb => ⟨Heap.get?_push_of_some _ e, fun q => q.elim nb fun q => ?_⟩) z⟩
  · cases q : s.heap.get? s.heap.objs.size with
    | none => rfl
    | some o => exact absurd (Heap.lt_size q) (Nat.lt_irrefl _)
  · exact absurd q (Nat.ne_of_lt (Heap.lt_size e))

theorem fresh_none (h : Heap) : h.get? h.objs.size = none := by
  cases q : h.get? h.objs.size with
  | none => rfl
  | some o => exact absurd (Heap.lt_size q) (Nat.lt_irrefl _)

theorem eList {es : List Expr} {pos : Pos} {f1 : List S → Option (List V)} (h1 : SL C F n es f1) :
    SE C F n (.List es pos) (fun σ => match f1 σ with | some vs => if vs.length ≤ 1048576 then some (.new vs) else none | none => none) := fun A s X O σ ow r hA f e Q E h => by
  cases e1 : f1 σ with
  | none => simp [e1] at e
  | some vs =>
    simp only [e1] at e
    split at e
    · rename_i hl
      cases e
      refine wpAny_List (h1 pos A s X O σ ow vs hA f e1 _ E fun us s1 x1 z => ?_)
      have hl' : us.length ≤ 16777216 := by rw [RVs.length z]; omega
      refine ⟨by rw [sizeLine_eq]; exact hl', ?_⟩
      have := newL (A := A) z hl' s1.toks
      exact h _ _ (x1.trans this.1) (RR.base x1.keep this.2)
    · cases e
theorem eTup {es : List Expr} {k : Nat} {pos : Pos} {f1 : List S → Option (List V)} (h1 : SL C F n es f1) :
    SE C F n (.Tuple es k pos) (fun σ => match f1 σ with | some vs => if vs.length ≤ 1048576 then some (.val (.tup vs)) else none | none => none) := fun A s X O σ ow r hA f e Q E h => by
  cases e1 : f1 σ with
  | none => simp [e1] at e
  | some vs =>
    simp only [e1] at e
    split at e
    · rename_i hl
      cases e
      refine wpAny_Tuple (h1 pos A s X O σ ow vs hA f e1 _ E fun us s1 x1 z => ?_)
      have hl' : us.length ≤ 16777216 := by rw [RVs.length z]; omega
      refine ⟨by rw [sizeLine_eq]; exact hl', ?_⟩
      refine h _ _ (x1.trans (Ext.push s1 _ s1.toks)) ?_
      unfold RR RV
      refine ⟨_, us, rfl, fun q => ?_, ⟨_, Heap.get?_push_size _ rfl, rfl, 0, rfl⟩, RVs.mono (fun b o e nb => ⟨Heap.get?_push_of_some _ e, nb⟩) z⟩
      obtain ⟨o, e⟩ := (f.ext x1).gs.ex _ q
      rw [fresh_none] at e; cases e
    · cases e

end
end Mine

namespace Mine

section
variable {C : Cx} {F : FD} {n : Nat}

abbrev SF := List S → Option (Fl × List S)

theorem sAssign (i : Nat) {x : Str} {p' : Pos} {value : Expr} {pos : Pos} {f1 : List S → Option R} (hx : F.vs[i]? = some x) (hw : x ∈ F.ws) (h1 : SE C F n value f1)
    (hs : swapsWith value (some (.Name x p')) pos.line F.env = pure false) :
    SS C F n (.Assign [.Name x p'] value pos) (fun σ => match (f1 σ).bind R.fz with | some v => some (.next, σ.set i (.val v)) | none => none) := fun A s X O σ ow fl σ' hA f e Q E h => by
  cases e1 : (f1 σ).bind R.fz with
  | none => simp [e1] at e
  | some v =>
    simp only [e1] at e
    cases e
    obtain ⟨r, er, ef⟩ := Option.bind_eq_some_iff.mp e1
    refine wpAny_Assign_Name (h1 A s X O σ ow r hA f er _ E fun u s1 x1 r1 => ?_) hs
    exact store_val (f.ext x1) hx hw (r1.fz f.gs.ex ef) fun s2 ow2 st f2 => h _ s2 O ow2 ((Stp.ofExt x1).trans st) f2 rfl

theorem sOwn (i : Nat) {x : Str} {p' : Pos} {value : Expr} {pos : Pos} {f1 : List S → Option R} (hx : F.vs[i]? = some x) (hw : x ∈ F.ws) (h1 : SE C F n value f1)
    (hs : swapsWith value (some (.Name x p')) pos.line F.env = pure false) :
    SS C F n (.Assign [.Name x p'] value pos) (fun σ => match f1 σ with | some (.new l) => some (.next, σ.set i (.own l)) | _ => none) := fun A s X O σ ow fl σ' hA f e Q E h => by
  cases e1 : f1 σ with
  | none => simp [e1] at e
  | some r =>
    cases r with
    | val v => simp [e1] at e
    | own v => simp [e1] at e
    | new l =>
      simp only [e1] at e
      cases e
      refine wpAny_Assign_Name (h1 A s X O σ ow _ hA f e1 _ E fun u s1 x1 r1 => ?_) hs
      exact store_own f x1 hx hw r1 fun s2 O2 ow2 st f2 => h _ s2 O2 ow2 st f2 rfl

theorem sAug (i : Nat) {x : Str} {p' : Pos} {op : Operator} {value : Expr} {pos : Pos} {f1 : List S → Option R} {g : R → R → Option R} (hx : F.vs[i]? = some x) (hw : x ∈ F.ws)
    (hg : OpB C n (inplaceOp op) g) (h1 : SE C F n value f1) :
    SS C F n (.AugAssign (.Name x p') op value pos) (fun σ => match rd i σ, f1 σ with | some a, some b => (match (g a b).bind R.fz with | some v => some (.next, σ.set i (.val v)) | none => none) | _, _ => none) :=
  fun A s X O σ ow fl σ' hA f e Q E h => by
  cases e0 : rd i σ with
  | none => simp [e0] at e
  | some a =>
    cases e1 : f1 σ with
    | none => simp [e0, e1] at e
    | some b =>
      simp only [e0, e1] at e
      cases e2 : (g a b).bind R.fz with
      | none => simp [e2] at e
      | some v =>
        simp only [e2] at e
        cases e
        obtain ⟨r, er, ef⟩ := Option.bind_eq_some_iff.mp e2
        refine wpAny_AugAssign_Name (loadName_ f hx e0 fun u ru => ?_)
        refine h1 A s X O σ ow b hA f e1 _ E fun u2 s1 x1 r1 => ?_
        refine hg A s1 s.heap X O u u2 a b r hA f.gs x1.keep (ru.ext x1) r1 er _ E fun u3 s2 x2 r2 => ?_
        exact store_val ((f.ext x1).ext x2) hx hw (r2.fz (f.ext x1).gs.ex ef) fun s3 ow3 st f3 => h _ s3 O ow3 (((Stp.ofExt x1).trans (Stp.ofExt x2)).trans st) f3 rfl

theorem sIf {t : Expr} {b e : List Stmt} {pos : Pos} {ft : List S → Option Bool} {fb fe : SF} (ht : ST C F n t ft) (hb : SB C F n b fb) (he : SB C F n e fe) :
    SS C F n (.If t b e pos) (fun σ => match ft σ with | some true => fb σ | some false => fe σ | none => none) := fun A s X O σ ow fl σ' hA f e' Q E h => by
  cases e1 : ft σ with
  | none => simp [e1] at e'
  | some b1 =>
    refine wpAny_If (ht A s X O σ ow b1 hA f e1 _ E fun s1 x1 => ?_)
    cases b1 with
    | true =>
      simp only [e1] at e'
      exact hb A s1 X O σ ow fl σ' hA (f.ext x1) e' Q E fun f2 s2 O2 ow2 st => h f2 s2 O2 ow2 ((Stp.ofExt x1).trans st)
    | false =>
      simp only [e1] at e'
      exact he A s1 X O σ ow fl σ' hA (f.ext x1) e' Q E fun f2 s2 O2 ow2 st => h f2 s2 O2 ow2 ((Stp.ofExt x1).trans st)

theorem sRet {e : Expr} {pos : Pos} {f1 : List S → Option R} (h1 : SE C F n e f1) :
    SS C F n (.Return (some e) pos) (fun σ => match (f1 σ).bind R.fz with | some v => some (.ret v, σ) | none => none) := fun A s X O σ ow fl σ' hA f e' Q E h => by
  cases e1 : (f1 σ).bind R.fz with
  | none => simp [e1] at e'
  | some v =>
    simp only [e1] at e'
    cases e'
    obtain ⟨r, er, ef⟩ := Option.bind_eq_some_iff.mp e1
    exact wpAny_Return_some (h1 A s X O σ ow r hA f er _ E fun u s1 x1 r1 => h _ s1 O ow (Stp.ofExt x1) (f.ext x1) ⟨u, rfl, r1.fz f.gs.ex ef⟩)

theorem sAssert {t : Expr} {msg : Option Expr} {pos : Pos} {ft : List S → Option Bool} (ht : ST C F n t ft) : SS C F n (.Assert t msg pos) (fun σ => match ft σ with | some true => some (.next, σ) | _ => none) :=
  fun A s X O σ ow fl σ' hA f e' Q E h => by
  cases e1 : ft σ with
  | none => simp [e1] at e'
  | some b =>
    cases b with
    | false => simp [e1] at e'
    | true =>
      simp only [e1] at e'
      cases e'
      exact wpAny_Assert_holds (ht A s X O σ ow true hA f e1 _ E fun s1 x1 => ⟨rfl, h _ s1 O ow (Stp.ofExt x1) (f.ext x1) rfl⟩)

theorem bNil : SB C F n [] (fun σ => some (.next, σ)) := fun A s X O σ ow fl σ' hA f e' Q E h => by
  cases e'
  exact wpAny_execs_nil (h _ s O ow (Stp.refl O s) f rfl)

theorem bCons {st : Stmt} {rest : List Stmt} {f1 f2 : SF} (h1 : SS C F n st f1) (h2 : SB C F n rest f2) :
    SB C F n (st :: rest) (fun σ => match f1 σ with | some (.next, σ') => f2 σ' | x => x) := fun A s X O σ ow fl σ' hA f e' Q E h => by
  cases e1 : f1 σ with
  | none => simp [e1] at e'
  | some p =>
    obtain ⟨fl1, σ1⟩ := p
    refine wpAny_execs_cons (h1 A s X O σ ow fl1 σ1 hA f e1 _ E fun f1 s1 O1 ow1 st1 fm1 fr1 => ?_)
    cases fl1 with
    | next =>
      unfold FR at fr1; subst fr1
      simp only [e1] at e'
      exact h2 A s1 X O1 σ1 ow1 fl σ' hA fm1 e' Q E fun f2 s2 O2 ow2 st2 => h f2 s2 O2 ow2 (st1.trans st2)
    | brk => unfold FR at fr1; subst fr1; simp only [e1] at e'; cases e'; exact h _ s1 O1 ow1 st1 fm1 rfl
    | cont => unfold FR at fr1; subst fr1; simp only [e1] at e'; cases e'; exact h _ s1 O1 ow1 st1 fm1 rfl
    | ret v => obtain ⟨u, rfl, rv⟩ := fr1; simp only [e1] at e'; cases e'; exact h _ s1 O1 ow1 st1 fm1 ⟨u, rfl, rv⟩

/-- a list is given up ahead of a run of statements -/
theorem bFrz (i : Nat) {sts : List Stmt} {f1 : SF} (h1 : SB C F n sts f1) : SB C F n sts (fun σ => match σ[i]? with | some (.own l) => f1 (σ.set i (.val (.lst l))) | _ => none) := fun A s X O σ ow fl σ' hA f e' Q E h => by
  cases e1 : σ[i]? with
  | none => simp [e1] at e'
  | some y =>
    cases y with
    | unb => simp [e1] at e'
    | val v => simp [e1] at e'
    | pin v u => simp [e1] at e'
    | own l =>
      simp only [e1] at e'
      obtain ⟨f2, st⟩ := f.frz e1
      exact h1 A s X _ _ ow fl σ' hA f2 e' Q E fun f3 s3 O3 ow3 st3 => h f3 s3 O3 ow3 (st.trans st3)

noncomputable def forL (fb : SF) (i : Nat) : List V → SF
  | [], σ => some (.next, σ)
  | v :: vs, σ => match fb (σ.set i (.val v)) with
    | some (.next, σ') => forL fb i vs σ'
    | some (.cont, σ') => forL fb i vs σ'
    | some (.brk, σ') => some (.next, σ')
    | some (.ret w, σ') => some (.ret w, σ')
    | none => none

theorem Stp.skip {O O1 : Addr → Prop} {s s' : Shared} {it : Addr} {h' : Heap} (st : Stp O O1 s s') (tk : Nat) (htk : s'.toks ≤ tk) (ha : s.heap.get? it = none) (hk : Heap.ExtBut it s'.heap h')
    (ht : ∀ b o, b ≠ it → s'.heap.get? b = some o → ∃ o', h'.get? b = some o') : Stp O O1 s { s' with heap := h', toks := tk } := by
  have ne : ∀ {b o}, s.heap.get? b = some o → b ≠ it := fun e q => by rw [q, ha] at e; cases e
  exact ⟨fun b o e n => hk b o (ne e) (st.keep b o e n), st.own, fun b o e => let ⟨o', e'⟩ := st.there b o e; ht b o' (ne e) e', st.os, st.bare, Nat.le_trans st.tk htk⟩

theorem sFor (i : Nat) {x : Str} {px : Pos} {iter : Expr} {body : List Stmt} {pos : Pos} {fi : List S → Option R} {fb : SF} (hx : F.vs[i]? = some x) (hw : x ∈ F.ws) (hi : SE C F n iter fi) (hb : SB C F n body fb)
    (hs : ∀ v, foldedSetIterable iter F.env v = pure v) :
    SS C F n (.For (.Name x px) iter body [] pos) (fun σ => match (fi σ).bind R.iter with | some vs => forL fb i vs σ | none => none) := fun A s X O σ ow fl σ' hA f e Q E h => by
  cases e1 : (fi σ).bind R.iter with
  | none => simp [e1] at e
  | some vs =>
    simp only [e1] at e
    obtain ⟨r, er, ei⟩ := Option.bind_eq_some_iff.mp e1
    refine wpAny_For (hi A s X O σ ow r hA f er _ E fun u s1 x1 r1 => ?_) hs
    refine RR.iter (N := NX X O) (O := O) r1 ei (fun b q => .inr q) f.gs.ex fun o hit hfs hfr => ?_
    have hnone : s1.heap.get? s1.heap.objs.size = none := fresh_none _
    have hnone0 : s.heap.get? s1.heap.objs.size = none := none_of x1.keep hnone
    generalize hit0 : s1.heap.objs.size = it at *
    have y2 : Ext s1 { s1 with heap := s1.heap.push o } := Ext.push s1 o s1.toks
    have hob : (s1.heap.push o).get? it = some o := by rw [← hit0]; exact Heap.get?_push_size _ hfr
    have f2 : Fm C F (fun b => X b ∨ b = it) O { s1 with heap := s1.heap.push o } σ ow := (f.ext x1).addX y2 hnone ⟨o, hob⟩
    have sw : ∀ {hh : Heap} {O1 : Addr → Prop}, Moves hh hh (fun b => NX X O1 b ∨ b = it) (NX (fun b => X b ∨ b = it) O1) := fun b o e nb => ⟨e, fun q => nb (q.elim (fun q => q.elim (fun q => .inl (.inl q)) .inr) (fun q => .inl (.inr q)))⟩
    have noit : ¬ O it := f2.xo it (.inr rfl)
    refine codeAny_forLoop_any (fun k s' => ∃ vs' σ1 O1 ow1, k = vs'.length ∧ It s'.heap (NX (fun b => X b ∨ b = it) O1) O1 it vs' ∧ Fm C F (fun b => X b ∨ b = it) O1 s' σ1 ow1 ∧ Stp O O1 s s' ∧
      (∃ ob fs, s'.heap.get? it = some ob ∧ ob.data = .fields fs) ∧ forL fb i vs' σ1 = some (fl, σ')) ?_ vs.length
      ⟨vs, σ, O, ow, rfl, hit.moves sw (fun _ _ e _ => e) (fun _ _ _ q => q) noit, f2, (Stp.ofExt x1).trans (Stp.ofExt y2), ⟨o, hfs.choose, hob, hfs.choose_spec⟩, e⟩
    rintro k s' ⟨vs', σ1, O1, ow1, rfl, hit1, f', st, hob1, e'⟩
    have noit1 : ¬ O1 it := f'.xo it (.inr rfl)
    cases vs' with
    | nil =>
      unfold forL at e'; cases e'
      refine It.done hA.1 hit1 fun h' hk => wpAny_execs_nil ?_
      refine h .next _ O1 ow1 (st.skip s'.toks (Nat.le_refl _) hnone0 hk fun b o nb e => ⟨o, hk b o nb e⟩) (f'.other s'.toks (Nat.le_refl _) (.inr rfl) (fun b q => .inl q) hk hob1 fun b q => .inl fun z => ?_) rfl
      obtain ⟨o, e⟩ := f.gs.ex b (.inl q)
      rw [z, hnone0] at e; cases e
    | cons v vs1 =>
      refine It.item hit1 (.inl (.inr rfl)) fun u h' tk htk sb hex hit2 rv => ?_
      have f3 : Fm C F (fun b => X b ∨ b = it) O1 { s' with heap := h', toks := tk } σ1 ow1 := f'.other tk htk (.inr rfl) (fun b q => q) sb.extBut hob1 fun b q => .inr hex
      have st3 : Stp O O1 s { s' with heap := h', toks := tk } := st.skip tk htk hnone0 sb.extBut fun b o nb e => ⟨o, (sb.2 b nb).trans e⟩
      refine wpAny_pure (wpAny_assign_Name (store_val f3 hx hw rv fun s2 ow2 st2 f4 => ?_))
      have hob3 : ∃ ob fs, h'.get? it = some ob ∧ ob.data = .fields fs := by
        rcases hit2 with ⟨l, us, i, ⟨o, h1, _, r⟩, _⟩ | ⟨l, us, i, ⟨o, h1, _, r⟩, _⟩ | ⟨x, k, h1, h2⟩ | ⟨b, t, i, ⟨o, h1, _, r⟩, h2⟩ | ⟨x, t, i, ⟨o, h1, _, r⟩, h2⟩
        · exact ⟨o, _, h1, r⟩
        · exact ⟨o, _, h1, r⟩
        · exact ⟨_, _, h1, rfl⟩
        · exact ⟨o, _, h1, r⟩
        · exact ⟨o, _, h1, r⟩
      unfold forL at e'
      have step : ∀ {s3 O3}, Stp O1 O3 s2 s3 → It s3.heap (NX (fun b => X b ∨ b = it) O3) O3 it vs1 ∧ (∃ ob fs, s3.heap.get? it = some ob ∧ ob.data = .fields fs) := by
        intro s3 O3 st3'
        have st4 := st2.trans st3'
        refine ⟨hit2.moves st4.moves (fun b o e nb => st4.keep b o e nb) (fun b o e nb q => (st4.own b q).elim nb fun z => by rw [e] at z; cases z) noit1, ?_⟩
        obtain ⟨ob, fs, e1, e2⟩ := hob3
        exact ⟨ob, fs, st4.keep _ _ e1 noit1, e2⟩
      cases e2 : fb (σ1.set i (.val v)) with
      | none => simp [e2] at e'
      | some p =>
        obtain ⟨fl1, σ2⟩ := p
        refine hb A s2 _ O1 _ ow2 fl1 σ2 hA f4 e2 _ _ fun f5 s3 O3 ow3 st5 fm5 fr5 => ?_
        have stt : Stp O O3 s s3 := (st3.trans st2).trans st5
        cases fl1 with
        | next =>
          unfold FR at fr5; subst fr5
          simp only [e2] at e'
          exact ⟨vs1.length, by simp, vs1, σ2, O3, ow3, rfl, (step st5).1, fm5, stt, (step st5).2, e'⟩
        | cont =>
          unfold FR at fr5; subst fr5
          simp only [e2] at e'
          exact ⟨vs1.length, by simp, vs1, σ2, O3, ow3, rfl, (step st5).1, fm5, stt, (step st5).2, e'⟩
        | brk =>
          unfold FR at fr5; subst fr5
          simp only [e2] at e'
          cases e'
          exact h .next s3 O3 ow3 stt (fm5.subX fun b q => .inl q) rfl
        | ret w =>
          obtain ⟨u5, rfl, rv5⟩ := fr5
          simp only [e2] at e'
          cases e'
          exact h _ s3 O3 ow3 stt (fm5.subX fun b q => .inl q) ⟨u5, rfl, RV.mono (fun b o e nb => ⟨e, fun q => nb (q.imp .inl id)⟩) rv5⟩

noncomputable def whileF (ft : List S → Option Bool) (fb : SF) : Nat → SF
  | 0, _ => none
  | k + 1, σ => match ft σ with
    | some false => some (.next, σ)
    | some true => (match fb σ with
      | some (.next, σ') => whileF ft fb k σ'
      | some (.cont, σ') => whileF ft fb k σ'
      | some (.brk, σ') => some (.next, σ')
      | some (.ret w, σ') => some (.ret w, σ')
      | none => none)
    | none => none

theorem sWhile (k : Nat) {t : Expr} {body : List Stmt} {pos : Pos} {ft : List S → Option Bool} {fb : SF} (ht : ST C F n t ft) (hb : SB C F n body fb) :
    SS C F n (.While t body [] pos) (whileF ft fb k) := fun A s X O σ ow fl σ' hA f e Q E h => by
  refine wpAny_While (codeAny_whileLoop (fun j s' => ∃ σ1 O1 ow1, Fm C F X O1 s' σ1 ow1 ∧ Stp O O1 s s' ∧ whileF ft fb j σ1 = some (fl, σ')) ?_ k ⟨σ, O, ow, f, Stp.refl O s, e⟩)
  rintro j s' ⟨σ1, O1, ow1, f', st, e'⟩
  cases j with
  | zero => cases e'
  | succ j =>
    unfold whileF at e'
    cases e1 : ft σ1 with
    | none => simp [e1] at e'
    | some b =>
      refine ht A s' X O1 σ1 ow1 b hA f' e1 _ _ fun s2 x2 => ?_
      cases b with
      | false =>
        simp only [e1] at e'
        cases e'
        exact wpAny_execs_nil (h .next s2 O1 ow1 (st.trans (Stp.ofExt x2)) (f'.ext x2) rfl)
      | true =>
        simp only [e1] at e'
        cases e2 : fb σ1 with
        | none => simp [e2] at e'
        | some p =>
          obtain ⟨fl1, σ2⟩ := p
          simp only [if_true]
          refine hb A s2 X O1 σ1 ow1 fl1 σ2 hA (f'.ext x2) e2 _ _ fun f5 s3 O3 ow3 st5 fm5 fr5 => ?_
          have stt : Stp O O3 s s3 := (st.trans (Stp.ofExt x2)).trans st5
          cases fl1 with
          | next => unfold FR at fr5; subst fr5; simp only [e2] at e'; exact ⟨j, Nat.lt_succ_self j, σ2, O3, ow3, fm5, stt, e'⟩
          | cont => unfold FR at fr5; subst fr5; simp only [e2] at e'; exact ⟨j, Nat.lt_succ_self j, σ2, O3, ow3, fm5, stt, e'⟩
          | brk => unfold FR at fr5; subst fr5; simp only [e2] at e'; cases e'; exact h .next s3 O3 ow3 stt fm5 rfl
          | ret w => obtain ⟨u5, rfl, rv5⟩ := fr5; simp only [e2] at e'; cases e'; exact h _ s3 O3 ow3 stt fm5 ⟨u5, rfl, rv5⟩
end
end Mine

namespace Mine

section
variable {C : Cx} {n : Nat}

theorem RR.int {h₀ h : Heap} {N O : Addr → Prop} {u : Value} {i : Int} (x : RR h₀ h N O u (.val (.int i))) : ∃ t, u = .int i t := by unfold RR RV at x; exact x
theorem RR.str {h₀ h : Heap} {N O : Addr → Prop} {u : Value} {l : List Nat} (x : RR h₀ h N O u (.val (.str l))) : ∃ t, u = .str ⟨l.toArray⟩ t := by unfold RR RV at x; exact x
theorem RR.byt {h₀ h : Heap} {N O : Addr → Prop} {u : Value} {l : List UInt8} (x : RR h₀ h N O u (.val (.byt l))) : ∃ t, u = .bytes l.toArray t := by unfold RR RV at x; exact x
theorem RR.bool' {h₀ h : Heap} {N O : Addr → Prop} {u : Value} {b : Bool} (x : RR h₀ h N O u (.val (.bool b))) : u = .bool b := by unfold RR RV at x; exact x
theorem rInt {h₀ h : Heap} {N O : Addr → Prop} (i : Int) (t : Tok) : RR h₀ h N O (.int i t) (.val (.int i)) := by unfold RR RV; exact ⟨t, rfl⟩
theorem rStr {h₀ h : Heap} {N O : Addr → Prop} (l : List Nat) (t : Tok) : RR h₀ h N O (.str ⟨l.toArray⟩ t) (.val (.str l)) := by unfold RR RV; exact ⟨t, rfl⟩
theorem rByt {h₀ h : Heap} {N O : Addr → Prop} (l : List UInt8) (t : Tok) : RR h₀ h N O (.bytes l.toArray t) (.val (.byt l)) := by unfold RR RV; exact ⟨t, rfl⟩
theorem rBool {h₀ h : Heap} {N O : Addr → Prop} (b : Bool) : RR h₀ h N O (.bool b) (.val (.bool b)) := by unfold RR RV; rfl
/-! ints -/
noncomputable def i2 (f : Int → Int → Option Int) : R → R → Option R
  | .val (.int a), .val (.int b) => (f a b).map fun c => .val (.int c)
  | _, _ => none
theorem op_i2 {m : Value → Value → Sem Value} {f : Int → Int → Option Int}
    (h : ∀ (A : Around) (s : Shared) (E : Value → Shared → Prop) (a b c : Int) (t u : Tok) (Q : Value → Shared → Prop), f a b = some c → (∀ v k, Q (.int c v) { s with toks := k }) → wpAny C.M A (m (.int a t) (.int b u)) Q E s) : OpB C n m (i2 f) := by
  intro A s h₀ X O u v a b r hA hG hk ra rb e
  unfold i2 at e
  split at e
  · rename_i a b
    obtain ⟨c, ec, rfl⟩ := Option.map_eq_some_iff.mp e
    obtain ⟨t, rfl⟩ := ra.int
    obtain ⟨t', rfl⟩ := rb.int
    exact fun Q E hq => tk_ (h A s E a b c t t' _ ec fun v k hk => hq _ _ (Ext.toks s k hk) (rInt c v))
  · cases e

noncomputable def subR := i2 fun a b => some (a - b)
noncomputable def fdivR := i2 fun a b => if b ≠ 0 ∧ b.natAbs < 18446744073709551616 then some (a.fdiv b) else none
noncomputable def modR := i2 fun a b => if b ≠ 0 then some (a.fmod b) else none
noncomputable def powR := i2 fun a b => if (0 ≤ b ∧ b ≤ 1000) ∧ a.natAbs < 18446744073709551616 then some (a ^ b.toNat) else none

theorem o_sub : OpB C n (binaryOp .Sub) subR := op_i2 fun A s E a b c t u Q e h => by cases e; exact sub_int (h _ _)
theorem o_isub : OpB C n (inplaceOp .Sub) subR := op_i2 fun A s E a b c t u Q e h => by cases e; exact isub_int (h _ _)
theorem o_fdiv : OpB C n (binaryOp .FloorDiv) fdivR := op_i2 fun A s E a b c t u Q e h => by
  split at e
  · rename_i hb
    cases e
    refine floordiv_int hb.1 (h _ _) (.inl ?_)
    unfold Builtin.divisionGoesByPylong
    have : b.natAbs.log2 < 64 := by
      rw [Nat.log2_lt (by omega)]; omega
    have hn : (b == 0) = false := by simpa using hb.1
    simp only [hn]
    simp
    intro h1
    omega
  · cases e
theorem o_mod : OpB C n (binaryOp .Mod) modR := op_i2 fun A s E a b c t u Q e h => by
  split at e
  · rename_i hb
    cases e
    exact mod_int' hb (h _ _)
  · cases e
theorem o_pow : OpB C n (binaryOp .Pow) powR := op_i2 fun A s E a b c t u Q e h => by
  split at e
  · rename_i hb
    cases e
    have hbits : Builtin.Int.intBits a ≤ 64 := intBits_le_64 (by omega) (by omega)
    refine pow_int hb.1.1 ?_ (h _ _)
    have h1 : ((Builtin.Int.intBits a : Nat) : Int) ≤ 64 := by exact_mod_cast hbits
    have h2 : ((Builtin.Int.intBits a : Nat) : Int) * b ≤ 64 * 1000 := Int.mul_le_mul h1 hb.1.2 hb.1.1 (by omega)
    omega
  · cases e

noncomputable def addR : R → R → Option R
  | .val (.int a), .val (.int b) => some (.val (.int (a + b)))
  | .val (.str a), .val (.str b) => if a.length + b.length ≤ 1048576 then some (.val (.str (a ++ b))) else none
  | .val (.byt a), .val (.byt b) => if a.length + b.length ≤ 1048576 then some (.val (.byt (a ++ b))) else none
  | a, b => match a.items, b.items with
    | some l, some m => if l.length + m.length ≤ 1048576 then some (.new (l ++ m)) else none
    | _, _ => none

theorem o_add : OpB C n (binaryOp .Add) addR := by
  intro A s h₀ X O u v a b r hA hG hk ra rb e Q E h
  unfold addR at e
  split at e
  · cases e
    obtain ⟨t, rfl⟩ := ra.int
    obtain ⟨t', rfl⟩ := rb.int
    exact add_int (h _ _ (Ext.toks s _) (rInt _ _))
  · rename_i a b
    split at e
    · rename_i hl
      cases e
      obtain ⟨t, rfl⟩ := ra.str
      obtain ⟨t', rfl⟩ := rb.str
      refine tk_ (add_str (fun t'' k hk => h _ _ (Ext.toks s k hk) ?_) (by rw [sizeLine_eq]; simp [PySem.Str.length]; omega))
      have : ((⟨a.toArray⟩ : Str) ++ ⟨b.toArray⟩) = ⟨(a ++ b).toArray⟩ := by
        apply PySem.Str.ext'; simp [PySem.Str.cps_append]
      rw [this]; exact rStr _ _
    · cases e
  · rename_i a b
    split at e
    · rename_i hl
      cases e
      obtain ⟨t, rfl⟩ := ra.byt
      obtain ⟨t', rfl⟩ := rb.byt
      refine tk_ (KBa.add_K (ks := KBw.bInts a.toArray) (ls := KBw.bInts b.toArray) rfl rfl (by simp [KBw.bInts]; omega) (fun t'' k _ hk => h _ _ (Ext.toks s k hk) ?_))
      have : (a.toArray ++ b.toArray) = (a ++ b).toArray := by simp
      rw [this]; exact rByt _ _
    · cases e
  · split at e
    · rename_i l m el em
      split at e
      · rename_i hl
        cases e
        obtain ⟨p, us, rfl, ⟨n1, p1⟩, z1⟩ := ra.items el
        obtain ⟨q, ws, rfl, ⟨n2, p2⟩, z2⟩ := rb.items em
        have hlen : us.length + ws.length ≤ 16777216 := by rw [RVs.length z1, RVs.length z2]; omega
        refine P.add_list p1 p2 ?_ (by rw [sizeLine_eq]; simpa using hlen)
        have e3 : us.toArray ++ ws.toArray = (us ++ ws).toArray := by simp
        rw [e3]
        have := newL (A := A) (s := s) (X := X) (O := O) (z1.append z2) (by simpa using hlen) s.toks
        exact h _ _ this.1 this.2
      · cases e
    · cases e

noncomputable def iaddR : R → R → Option R
  | .val (.int a), .val (.int b) => some (.val (.int (a + b)))
  | .val (.str a), .val (.str b) => if a.length + b.length ≤ 1048576 then some (.val (.str (a ++ b))) else none
  | _, _ => none
theorem o_iadd : OpB C n (inplaceOp .Add) iaddR := by
  intro A s h₀ X O u v a b r hA hG hk ra rb e Q E h
  unfold iaddR at e
  split at e
  · cases e
    obtain ⟨t, rfl⟩ := ra.int
    obtain ⟨t', rfl⟩ := rb.int
    exact iadd_int (h _ _ (Ext.toks s _) (rInt _ _))
  · rename_i a b
    split at e
    · rename_i hl
      cases e
      obtain ⟨t, rfl⟩ := ra.str
      obtain ⟨t', rfl⟩ := rb.str
      refine tk_ (iadd_str (fun t'' k hk => h _ _ (Ext.toks s k hk) ?_) (by rw [sizeLine_eq]; simp [PySem.Str.length]; omega))
      have : ((⟨a.toArray⟩ : Str) ++ ⟨b.toArray⟩) = ⟨(a ++ b).toArray⟩ := by
        apply PySem.Str.ext'; simp [PySem.Str.cps_append]
      rw [this]; exact rStr _ _
    · cases e
  · cases e

noncomputable def repL {α : Type} (k : Nat) (l : List α) : List α := (List.replicate k l).flatten
noncomputable def mulR : R → R → Option R
  | .val (.int a), .val (.int b) => if a.natAbs < 18446744073709551616 ∨ b.natAbs < 18446744073709551616 then some (.val (.int (a * b))) else none
  | .val (.str l), .val (.int k) => if -1000000 ≤ k ∧ k.toNat ≤ 1000000 ∧ l.length * k.toNat ≤ 1048576 then some (.val (.str (repL k.toNat l))) else none
  | a, .val (.int k) => match a.items with
    | some l => if -1000000 ≤ k ∧ k.toNat ≤ 1000000 ∧ l.length * k.toNat ≤ 1048576 then some (.new (repL k.toNat l)) else none
    | none => none
  | _, _ => none

theorem foldl_app {α : Type} : ∀ (k : Nat) (l : Array α) (acc : Array α), (List.foldl (fun x1 x2 => x1 ++ x2) acc (List.replicate k l)).toList = acc.toList ++ repL k l.toList
  | 0, l, acc => by simp [repL]
  | k + 1, l, acc => by
    rw [List.replicate_succ, List.foldl_cons, foldl_app k l]
    simp [repL, List.replicate_succ]

theorem RVs.rep {h : Heap} {N : Addr → Prop} {vs us} (x : RVs h N vs us) : ∀ k, RVs h N (repL k vs) (repL k us)
  | 0 => by simp [repL, RVs.nil]
  | k + 1 => by
    unfold repL
    rw [List.replicate_succ, List.replicate_succ, List.flatten_cons, List.flatten_cons]
    exact x.append (RVs.rep x k)
theorem repL_length {α : Type} (l : List α) : ∀ k, (repL k l).length = l.length * k
  | 0 => by simp [repL]
  | k + 1 => by
    have := repL_length l k
    unfold repL at this ⊢
    rw [List.replicate_succ, List.flatten_cons, List.length_append, this, Nat.mul_succ, Nat.add_comm]


theorem txt_mul (l : List Nat) (k : Int) : PySem.Txt.mul ⟨l.toArray⟩ k = ⟨(repL k.toNat l).toArray⟩ := by
  unfold PySem.Txt.mul
  split
  · have : k.toNat = 0 := by omega
    rw [this]; simp [repL, PySem.Str.empty]
  · split
    · rename_i h1 h2
      simp only [Bool.or_eq_true, beq_iff_eq] at h2
      rcases h2 with h2 | h2
      · subst h2; simp [repL]
      · have : l = [] := by simpa [PySem.Str.length] using h2
        subst this; simp [repL]
    · apply PySem.Str.ext'
      apply Array.ext'
      rw [foldl_app]
      simp

theorem mulList_ {A : Around} {s : Shared} {p : Addr} {us : List Value} {m : Nat} {k : Int} {t : Tok} (p1 : IsL s.heap p us.toArray m) (h1 : -1000000 ≤ k) (h2 : k ≤ 1000000) (h3 : us.length * k.toNat ≤ 1048576)
    {Q : Value → Shared → Prop} {E : Value → Shared → Prop} (h : Q (.ref s.heap.objs.size) { s with heap := s.heap.push { cls := .type "list", data := .seq (repL k.toNat us).toArray } }) :
    wpAny C.M A (binaryOp .Mult (.ref p) (.int k t)) Q E s := by
  refine wpAny_binaryOp_repeat_ref (T := "list") (U := "int") (by decide) ⟨_, p1, rfl⟩ (fun s' => typeIs_int s' k t) noFill_list_mul PySem.F.fills_int_mul PySem.F.slot_int_rmul repeat_list PySem.F.slot_int_index.lookup ?_
  refine call_meets PySem.F.slot_int_rmul (typeIs_int s k t) PySem.F.entry_int_rmul (PySem.F.args_int_rmul_2 _ _) (int___rmul___int_list k t p us.toArray m) ⟨p1, rfl, ⟨_, p1, rfl⟩, ?_⟩
  refine call_meets PySem.F.slot_list_mul ⟨_, p1, rfl⟩ PySem.F.entry_list_mul (PySem.F.args_list_mul_2 _ _) (AutoListH.list___mul___list_int_3 p us.toArray m k t (by simp [Builtin.List.listFitsIndex]; omega) (by simp; omega) (by simp [Builtin.List.listTooLong, sizeLine]; omega)) ⟨p1, ?_⟩
  have e : (List.foldl (fun x1 x2 => x1 ++ x2) #[] (List.replicate (if us.toArray.isEmpty = true then 0 else k.toNat) us.toArray)) = (repL k.toNat us).toArray := by
    apply Array.ext'
    rw [foldl_app]
    cases us with
    | nil => simp [repL]
    | cons => simp
  rw [e]; exact h

theorem o_mul : OpB C n (binaryOp .Mult) mulR := by
  intro A s h₀ X O u v a b r hA hG hk ra rb e Q E h
  unfold mulR at e
  split at e
  · rename_i a b
    split at e
    · rename_i hb
      cases e
      obtain ⟨t, rfl⟩ := ra.int
      obtain ⟨t', rfl⟩ := rb.int
      refine mul_int (h _ _ (Ext.toks s _) (rInt _ _)) ?_
      rcases hb with hb | hb
      · exact IntMulOk.of_left (intBits_le_64 (by omega) (by omega))
      · exact IntMulOk.of_right (intBits_le_64 (by omega) (by omega))
    · cases e
  · rename_i l k
    split at e
    · rename_i hb
      cases e
      obtain ⟨t, rfl⟩ := ra.str
      obtain ⟨t', rfl⟩ := rb.int
      refine tk_ (SB.mul ⟨by simp; omega, fun h1 _ => ?_, fun h1 _ => ?_⟩ (fun t'' j hj => h _ _ (Ext.toks s j hj) (by rw [txt_mul]; exact rStr _ _)))
      · have hk1 : 1 ≤ k := by omega
        have hl : l.length * k.toNat ≤ 1048576 := hb.2.2
        have : l.length ≤ 1048576 := Nat.le_trans (Nat.le_mul_of_pos_right _ (by omega)) hl
        have h3 : (1048576 : Int) ≤ (2 ^ 63 - 1) / k := by
          rw [Int.le_ediv_iff_mul_le (by omega)]
          have : (1048576 : Int) * k ≤ 1048576 * 1000000 := by omega
          omega
        generalize (2 ^ 63 - 1) / k = d at h3
        simp [PySem.Str.length]
        omega
      · simp [Builtin.Str.tooLong, PySem.Str.length, sizeLine]
        omega
    · cases e
  · rename_i hno
    rename Int => k
    split at e
    · rename_i l el
      split at e
      · rename_i hb
        cases e
        obtain ⟨p, us, rfl, ⟨m, p1⟩, z1⟩ := ra.items el
        obtain ⟨t', rfl⟩ := rb.int
        have hl := RVs.length z1
        refine mulList_ p1 hb.1 (by have := hb.2.1; omega) (by rw [hl]; exact hb.2.2) ?_
        have := newL (A := A) (s := s) (X := X) (O := O) (z1.rep k.toNat) (by rw [repL_length, hl]; omega) s.toks
        exact h _ _ this.1 this.2
      · cases e
    · cases e
  · cases e

/-! comparisons of ints -/
noncomputable def c2 (f : Int → Int → Bool) : R → R → Option R
  | .val (.int a), .val (.int b) => some (.val (.bool (f a b)))
  | _, _ => none
theorem op_c2 {m : Value → Value → Sem Value} {f : Int → Int → Bool}
    (h : ∀ (A : Around) (s : Shared) (E : Value → Shared → Prop) (a b : Int) (t u : Tok) (Q : Value → Shared → Prop), (∀ k, Q (.bool (f a b)) { s with toks := k }) → wpAny C.M A (m (.int a t) (.int b u)) Q E s) : OpB C n m (c2 f) := by
  intro A s h₀ X O u v a b r hA hG hk ra rb e
  unfold c2 at e
  split at e
  · rename_i a b
    cases e
    obtain ⟨t, rfl⟩ := ra.int
    obtain ⟨t', rfl⟩ := rb.int
    exact fun Q E hq => tk_ (h A s E a b t t' _ fun k hk => hq _ _ (Ext.toks s k hk) (rBool _))
  · cases e
noncomputable def ltR := c2 fun a b => decide (a < b)
noncomputable def leR := c2 fun a b => decide (a ≤ b)
noncomputable def gtR := c2 fun a b => decide (b < a)
noncomputable def geR := c2 fun a b => decide (b ≤ a)
theorem o_lt : OpB C n (compareOp .Lt) ltR := op_c2 fun A s E a b t u Q h => lt_int (h s.toks)
theorem o_le : OpB C n (compareOp .LtE) leR := op_c2 fun A s E a b t u Q h => le_int (h s.toks)
theorem o_gt : OpB C n (compareOp .Gt) gtR := op_c2 fun A s E a b t u Q h => gt_int (h s.toks)
theorem o_ge : OpB C n (compareOp .GtE) geR := op_c2 fun A s E a b t u Q h => ge_int (h s.toks)

/-! is, is not: a bool or None beside anything plain -/
noncomputable def isB : R → R → Option Bool
  | .val (.bool a), .val (.bool b) => some (a == b)
  | .val .non, .val .non => some true
  | .val (.int _), .val .non => some false
  | _, _ => none
noncomputable def isR (a b : R) : Option R := (isB a b).map fun c => .val (.bool c)
noncomputable def isNotR (a b : R) : Option R := (isB a b).map fun c => .val (.bool (!c))
theorem vbeq (a b : Bool) : ((Value.bool a == Value.bool b) : Bool) = (a == b) := by cases a <;> cases b <;> decide
theorem o_is : OpB C n (compareOp .Is) isR := by
  intro A s h₀ X O u v a b r hA hG hk ra rb e Q E h
  obtain ⟨c, ec, rfl⟩ := Option.map_eq_some_iff.mp e
  unfold isB at ec
  split at ec
  · cases ec
    rw [ra.bool', rb.bool']
    refine wpAny_is_plain rfl ?_
    rw [vbeq]; exact h _ s (Ext.refl s) (rBool _)
  · cases ec
    unfold RR RV at ra rb
    subst ra rb
    exact is_none (h _ s (Ext.refl s) (rBool _))
  · cases ec
    obtain ⟨t, rfl⟩ := ra.int
    unfold RR RV at rb
    subst rb
    exact is_none (h _ s (Ext.refl s) (rBool _))
  · cases ec
theorem o_isNot : OpB C n (compareOp .IsNot) isNotR := by
  intro A s h₀ X O u v a b r hA hG hk ra rb e Q E h
  obtain ⟨c, ec, rfl⟩ := Option.map_eq_some_iff.mp e
  unfold isB at ec
  split at ec
  · cases ec
    rw [ra.bool', rb.bool']
    refine wpAny_isNot_plain rfl ?_
    rw [vbeq]; exact h _ s (Ext.refl s) (rBool _)
  · cases ec
    unfold RR RV at ra rb
    subst ra rb
    exact isNot_none (h _ s (Ext.refl s) (rBool _))
  · cases ec
    obtain ⟨t, rfl⟩ := ra.int
    unfold RR RV at rb
    subst rb
    exact isNot_none (h _ s (Ext.refl s) (rBool _))
  · cases ec
end
end Mine

namespace Mine

section
variable {C : Cx} {n : Nat}

theorem RR.tup {h₀ h : Heap} {N O : Addr → Prop} {u : Value} {l : List V} (x : RR h₀ h N O u (.val (.tup l))) : ∃ a us, u = .ref a ∧ h.IsTuple a (List.toArray us) ∧ RVs h N l us := by
  unfold RR RV at x
  obtain ⟨a, us, e, _, p, z⟩ := x
  exact ⟨a, us, e, p, z⟩

/-! one item -/
noncomputable def idxR : R → R → Option R
  | .val (.str l), .val (.int i) => if l.length ≤ 1048576 then (seqIndex? i l.length).bind fun k => l[k]?.map fun c => .val (.str [c]) else none
  | .val (.tup l), .val (.int i) => if -1000000 ≤ i ∧ i.toNat ≤ 1000000 then (seqIndex? i l.length).bind fun k => l[k]?.map fun v => .val v else none
  | a, .val (.int i) => match a.items with
    | some l => if -1000000 ≤ i ∧ i.toNat ≤ 1000000 then (seqIndex? i l.length).bind fun k => l[k]?.map fun v => .val v else none
    | none => none
  | _, _ => none

theorem seqIndex_cases {i : Int} {m k : Nat} (e : seqIndex? i m = some k) : (0 ≤ i ∧ i < m ∧ k = i.toNat) ∨ (i < 0 ∧ -(m : Int) ≤ i ∧ k = (i + m).toNat) := by
  unfold seqIndex? at e
  by_cases hi : i < 0
  · simp only [hi, if_true] at e
    split at e
    · rename_i h
      simp at h
      cases e
      exact .inr ⟨hi, by omega, rfl⟩
    · cases e
  · simp only [hi, if_false] at e
    split at e
    · rename_i h
      simp at h
      cases e
      exact .inl ⟨by omega, h.2, rfl⟩
    · cases e

theorem tail_idx {A : Around} {s : Shared} {h₀ : Heap} {X O : Addr → Prop} {value slice : Expr} {u v : Value} {a b r : R} (ra : RR h₀ s.heap (NX X O) O u a) (rb : RR h₀ s.heap (NX X O) O v b) (e : idxR a b = some r)
    (hs : ∀ o i, subscripted slice false o i = operate [o, i] (getItem o i)) : Ev C X O A s (subscriptTail value slice u v) r := by
  intro Q E h
  unfold idxR at e
  split at e
  · rename_i l i
    split at e
    · rename_i hl
      obtain ⟨k, ek, e⟩ := Option.bind_eq_some_iff.mp e
      obtain ⟨c, ec, rfl⟩ := Option.map_eq_some_iff.mp e
      obtain ⟨t, rfl⟩ := ra.str
      obtain ⟨t', rfl⟩ := rb.int
      have hk := seqIndex_cases ek
      have hf : fitsSsize i = true := by simp [fitsSsize]; omega
      have hc : Txt.charAt ⟨l.toArray⟩ i = some c := by
        unfold Txt.charAt
        have : (⟨l.toArray⟩ : Str).length = l.length := by simp [PySem.Str.length]
        rw [this, ek]
        simpa using ec
      obtain ⟨T, id, h1, h2, h3⟩ := SB.item (prog := C.prog) (w := C.w) (A := A) (E := E) (s := s) (x := ⟨l.toArray⟩) (t := t) (u := t') (i := i) (Q := Q) hf (by rw [hc]; rfl) (by
        have : Txt.item ⟨l.toArray⟩ i = ⟨[c].toArray⟩ := by unfold Txt.item; rw [hc]; rfl
        rw [this]
        exact h _ _ (Ext.toks s _) (rStr _ _))
      exact tail_any h2 h1 h3 (hs _ _)
    · cases e
  · rename_i l i
    split at e
    · rename_i hl
      obtain ⟨k, ek, e⟩ := Option.bind_eq_some_iff.mp e
      obtain ⟨x, ex, rfl⟩ := Option.map_eq_some_iff.mp e
      obtain ⟨p, us, rfl, ht, z⟩ := ra.tup
      obtain ⟨t', rfl⟩ := rb.int
      obtain ⟨w, ew, rw_⟩ := z.get k ex
      exact tail_any (T := "tuple") ht.typeIs PySem.F.slot_tuple_getitem.lookup (getItem_tuple ht (by omega) (by omega) (by rw [List.size_toArray, RVs.length z]; exact ek) (by simpa using ew) (h w s (Ext.refl s) rw_)) (hs _ _)
    · cases e
  · rename_i hno
    rename Int => i
    split at e
    · rename_i l el
      split at e
      · rename_i hl
        obtain ⟨k, ek, e⟩ := Option.bind_eq_some_iff.mp e
        obtain ⟨x, ex, rfl⟩ := Option.map_eq_some_iff.mp e
        obtain ⟨p, us, rfl, p1, z⟩ := ra.items el
        obtain ⟨t', rfl⟩ := rb.int
        obtain ⟨w, ew, rw_⟩ := z.get k ex
        have hlen := RVs.length z
        refine tail_any (T := "list") p1.isList.typeIs slot_list_getitem.lookup ?_ (hs _ _)
        rcases seqIndex_cases ek with ⟨a1, a2, a3⟩ | ⟨a1, a2, a3⟩
        · exact wpAny_getItem_list p1.isList a1 (by omega) (by rw [← a3]; simpa using ew) (h w s (Ext.refl s) rw_)
        · refine wpAny_getItem_list_neg p1.isList a1 (by simp; omega) (by omega) ?_ (h w s (Ext.refl s) rw_)
          have : (i + ((us.toArray.size : Nat) : Int)).toNat = k := by simp; omega
          rw [this]; simpa using ew
      · cases e
    · cases e
  · cases e

theorem eIdx {F : FD} {value slice : Expr} {pos : Pos} {f1 f2 : List S → Option R} (h1 : SE C F n value f1) (h2 : SE C F n slice f2) (hs : ∀ o i, subscripted slice false o i = operate [o, i] (getItem o i)) :
    SE C F n (.Subscript value slice pos) (fun σ => match f1 σ, f2 σ with | some a, some b => idxR a b | _, _ => none) :=
  fun A s X O σ ow r hA f e Q E h => by
    cases e1 : f1 σ with
    | none => simp [e1] at e
    | some a =>
      cases e2 : f2 σ with
      | none => simp [e1, e2] at e
      | some b =>
        simp only [e1, e2] at e
        refine Subscript_ (h1 A s X O σ ow a hA f e1 _ E fun u s1 x1 r1 => ?_)
        refine h2 A s1 X O σ ow b hA (f.ext x1) e2 _ E fun v s2 x2 r2 => ?_
        exact Ev.then (x1.trans x2) (tail_idx (r1.ext x2) (RR.base x1.keep r2) e hs) h

/-! slices -/
noncomputable def slL {α : Type} (l : List α) (lo hi : Option Int) : List α := (l.drop (lo.elim 0 (clipAt l.length))).take (hi.elim l.length (clipAt l.length) - lo.elim 0 (clipAt l.length))
noncomputable def slR (a : R) (lo hi : Option Int) : Option R := match a with
  | .val (.str l) => if l.length ≤ 1048576 then some (.val (.str (slL l lo hi))) else none
  | .val (.byt l) => if l.length ≤ 1048576 then some (.val (.byt (slL l lo hi))) else none
  | a => match a.items with
    | some l => if l.length ≤ 1048576 then some (.new (slL l lo hi)) else none
    | none => none

noncomputable def SP (C : Cx) (F : FD) (n : Nat) (e : Option Expr) (f : List S → Option (Option Int)) : Prop :=
  ∀ A s X O σ ow k, Rm n A → Fm C F X O s σ ow → f σ = some k →
    ∀ (Q : Value → Shared → Prop) (E : Value → Shared → Prop), (∀ v s', Ext s s' → IsPart v k → Q v s') → wpAny C.M A (evalPart e F.env) Q E s
theorem pNone {F : FD} : SP C F n none (fun _ => some none) := fun A s X O σ ow k hA f e Q E h => by
  cases e
  exact wpAny_evalPart_none (h _ s (Ext.refl s) .none)
theorem pSome {F : FD} {e : Expr} {f1 : List S → Option R} (h1 : SE C F n e f1) : SP C F n (some e) (fun σ => match f1 σ with | some (.val (.int i)) => some (some i) | _ => none) := fun A s X O σ ow k hA f e Q E h => by
  simp only at e
  split at e
  · rename_i i e1
    cases e
    refine wpAny_evalPart_some (h1 A s X O σ ow _ hA f e1 _ E fun v s1 x1 r1 => ?_)
    obtain ⟨t, rfl⟩ := r1.int
    exact h _ s1 x1 (.int i t)
  · cases e

theorem RVs.take' {h : Heap} {N : Addr → Prop} : ∀ {vs us} (k : Nat), RVs h N vs us → RVs h N (vs.take k) (us.take k)
  | [], us, k, x => by unfold RVs at x; subst x; simp [RVs.nil]
  | v :: vs, us, 0, x => by simp [RVs.nil]
  | v :: vs, us, k + 1, x => by
    unfold RVs at x
    obtain ⟨u, us', rfl, y, z⟩ := x
    exact RVs.cons y (z.take' k)
theorem RVs.drop' {h : Heap} {N : Addr → Prop} : ∀ {vs us} (k : Nat), RVs h N vs us → RVs h N (vs.drop k) (us.drop k)
  | [], us, k, x => by unfold RVs at x; subst x; simp [RVs.nil]
  | v :: vs, us, 0, x => x
  | v :: vs, us, k + 1, x => by
    unfold RVs at x
    obtain ⟨u, us', rfl, y, z⟩ := x
    exact z.drop' k
theorem RVs.sl {h : Heap} {N : Addr → Prop} {vs us} (x : RVs h N vs us) (lo hi : Option Int) : RVs h N (slL vs lo hi) (slL us lo hi) := by
  unfold slL
  rw [RVs.length x]
  exact (x.drop' _).take' _
theorem slL_le {α : Type} (l : List α) (lo hi : Option Int) : (slL l lo hi).length ≤ l.length := by
  unfold slL; simp; omega

theorem slicePicked_idx (l : List Nat) (lo hi : Option (Int × Tok)) : slicePicked ⟨l.toArray⟩ lo hi none =
    (List.range ((hi.map (·.1)).elim l.length (clipAt l.length) - (lo.map (·.1)).elim 0 (clipAt l.length))).map ((lo.map (·.1)).elim 0 (clipAt l.length) + ·) := by
  unfold slicePicked
  have h1 : Builtin.Str.strSliceIndices (lo.map (·.1)) (hi.map (·.1)) ((Option.map (fun x : Int × Tok => x.1) none).getD 1) (⟨l.toArray⟩ : Str).length =
    sliceRange (sliceBounds (lo.map (·.1)) (hi.map (·.1)) none l.length).1 (sliceBounds (lo.map (·.1)) (hi.map (·.1)) none l.length).2.1 (sliceBounds (lo.map (·.1)) (hi.map (·.1)) none l.length).2.2 := by
    cases lo <;> cases hi <;> rfl
  rw [h1, sliceBounds_plain]
  simp only [sliceRange_one]
theorem slicePicked_eq (l : List Nat) (lo hi : Option (Int × Tok)) : (slicePicked ⟨l.toArray⟩ lo hi none).filterMap ((⟨l.toArray⟩ : Str).cps[·]?) = slL l (lo.map (·.1)) (hi.map (·.1)) := by
  rw [slicePicked_idx, pick_run]
  rfl
theorem clipAt_le (m : Nat) (i : Int) : clipAt m i ≤ m := by unfold clipAt; omega
theorem slL_whole {α : Type} (l : List α) (lo hi : Option Int) (h : hi.elim l.length (clipAt l.length) - lo.elim 0 (clipAt l.length) = l.length) : slL l lo hi = l := by
  unfold slL
  have hb : hi.elim l.length (clipAt l.length) ≤ l.length := by
    cases hi with
    | none => exact Nat.le_refl _
    | some i => exact clipAt_le _ _
  rw [h]
  by_cases ha : lo.elim 0 (clipAt l.length) = 0
  · rw [ha]; simp
  · have : l.length = 0 := by omega
    have : l = [] := by simpa using this
    subst this; simp

theorem part_of {v : Value} {k : Option Int} (h : IsPart v k) : ∃ p : Option (Int × Tok), v = partValue p ∧ p.map (·.1) = k := by
  cases h with
  | none => exact ⟨none, rfl, rfl⟩
  | int i t => exact ⟨some (i, t), rfl, rfl⟩

theorem tail_sl {A : Around} {s : Shared} {h₀ : Heap} {X O : Addr → Prop} {value lower upper : _} {p : Pos} {u vl vu : Value} {a r : R} {lo hi : Option Int} (ra : RR h₀ s.heap (NX X O) O u a) (hl : IsPart vl lo) (hu : IsPart vu hi) (e : slR a lo hi = some r)
    {Q : Value → Shared → Prop} {E : Value → Shared → Prop} (h : ∀ v s'', Ext s s'' → RR s.heap s''.heap (NX X O) O v r → Q v s'') :
    wpAny C.M A (subscriptTail value (.Slice lower upper none p) u (.ref s.heap.objs.size)) Q E { s with heap := s.heap.push { cls := .type "slice", data := .fields #[vl, vu, .none] } } := by
  have y : Ext s { s with heap := s.heap.push { cls := .type "slice", data := .fields #[vl, vu, .none] } } := Ext.push s _ s.toks
  have hsub : ∀ o i, subscripted (.Slice lower upper none p) false o i = operate [i, o] (getItem o i) := fun _ _ => rfl
  unfold slR at e
  split at e
  · rename_i l
    split at e
    · rename_i hlen
      cases e
      obtain ⟨t, rfl⟩ := ra.str
      obtain ⟨p1, rfl, e1⟩ := part_of hl
      obtain ⟨p2, rfl, e2⟩ := part_of hu
      refine tail_any (T := "str") (typeIs_str _ _ _) PySem.F.slot_str_getitem.lookup (wpAny_getItem_str_slice (l := p1) (u := p2) (st := none) ⟨_, Heap.get?_push_size _ rfl, rfl, rfl⟩ rfl ?_) (hsub _ _)
      unfold sliceMade
      have hp := slicePicked_eq l p1 p2
      have hq := slicePicked_idx l p1 p2
      rw [e1, e2] at hp hq
      split
      · rename_i hc
        have hc' : (slicePicked ⟨l.toArray⟩ p1 p2 none).length = l.length := by
          simpa [PySem.Str.length] using hc
        rw [hq] at hc'
        have : slL l lo hi = l := slL_whole l lo hi (by simpa using hc')
        rw [this] at h
        exact h _ _ y (rStr _ _)
      · rw [hp]
        refine ⟨?_, ?_⟩
        · have := slL_le l lo hi
          rw [sizeLine_eq]; simp [PySem.Str.length]; omega
        · exact h _ _ (y.trans (Ext.toks _ _)) (rStr _ _)
    · cases e
  · rename_i l
    split at e
    · rename_i hlen
      cases e
      obtain ⟨t, rfl⟩ := ra.byt
      have hp : KBy.picked l.toArray lo hi = (slL l lo hi).toArray := by
        rw [KBc.picked_eq]
        unfold slL
        simp
      refine tail_any (T := "bytes") (typeIs_bytes _ _ _) FB.slot_bytes_getitem.lookup (tk_ (getItem_meets (typeIs_bytes _ _ _) (by decide) FB.slot_bytes_getitem FB.entry_bytes_getitem (FB.args_bytes_getitem_2 _ _) (KBc.meets_slice2 l.toArray t _ hl hu)
        ⟨Heap.IsSliceOf.new _ _ _ _, ?_, fun t' k hk => ?_⟩)) (hsub _ _)
      · have := slL_le l lo hi
        rw [hp, sizeLine_eq]; simp; omega
      · rw [hp]
        exact h _ _ (y.trans (Ext.toks _ _ hk)) (rByt _ _)
    · cases e
  · split at e
    · rename_i l el
      split at e
      · rename_i hlen
        cases e
        have ra' := ra.ext y
        obtain ⟨q, us, rfl, p1, z⟩ := ra'.items el
        have hlz := RVs.length z
        refine tail_any (T := "list") p1.isList.typeIs slot_list_getitem.lookup (wpAny_getItem_list_slice p1.isList (Heap.IsSliceOf.new _ _ _ _) hl hu .none (by simp) ?_ (by rw [sizeLine_eq]; simp; omega)) (hsub _ _)
        have hp : slicePick us.toArray lo hi none = (slL us lo hi).toArray := by
          rw [slicePick_plain]
          unfold slL
          simp
        rw [hp]
        have := newL (A := A) (X := X) (O := O) (z.sl lo hi) (by have := slL_le us lo hi; omega) s.toks
        exact h _ _ (y.trans this.1) (RR.base y.keep this.2)
      · cases e
    · cases e

theorem eSlice {F : FD} {value : Expr} {lower upper : Option Expr} {p pos : Pos} {f1 : List S → Option R} {fl fu : List S → Option (Option Int)} (h1 : SE C F n value f1) (hl : SP C F n lower fl) (hu : SP C F n upper fu) :
    SE C F n (.Subscript value (.Slice lower upper none p) pos) (fun σ => match f1 σ, fl σ, fu σ with | some a, some lo, some hi => slR a lo hi | _, _, _ => none) :=
  fun A s X O σ ow r hA f e Q E h => by
    cases e1 : f1 σ with
    | none => simp [e1] at e
    | some a =>
      cases e2 : fl σ with
      | none => simp [e1, e2] at e
      | some lo =>
        cases e3 : fu σ with
        | none => simp [e1, e2, e3] at e
        | some hi =>
          simp only [e1, e2, e3] at e
          refine Subscript_ (h1 A s X O σ ow a hA f e1 _ E fun u s1 x1 r1 => ?_)
          refine wpAny_Slice (hl A s1 X O σ ow lo hA (f.ext x1) e2 _ E fun vl s2 x2 i2 => ?_)
          refine hu A s2 X O σ ow hi hA ((f.ext x1).ext x2) e3 _ E fun vu s3 x3 i3 => ?_
          refine wpAny_evalPart_none ?_
          exact tail_sl ((r1.ext x2).ext x3) i2 i3 e fun v s4 x4 r4 => h v s4 (((x1.trans x2).trans x3).trans x4) (RR.base (((x1.trans x2).trans x3)).keep r4)

/-- every so many -/
noncomputable def stepL {α : Type} (l : List α) (lo st : Int) : List α :=
  (sliceRange (sliceBounds (some lo) none (some st) l.length).1 (sliceBounds (some lo) none (some st) l.length).2.1 (sliceBounds (some lo) none (some st) l.length).2.2).filterMap (l[·]?)
theorem RVs.pick {h : Heap} {N : Addr → Prop} {vs us} (x : RVs h N vs us) : ∀ ks : List Nat, RVs h N (ks.filterMap (vs[·]?)) (ks.filterMap (us[·]?))
  | [] => by simp [RVs.nil]
  | k :: ks => by
    cases e : vs[k]? with
    | none =>
      have : us[k]? = none := by
        rw [List.getElem?_eq_none_iff] at e ⊢
        rw [RVs.length x]; exact e
      simp only [List.filterMap_cons, e, this]
      exact x.pick ks
    | some v =>
      obtain ⟨u, eu, r⟩ := x.get k e
      simp only [List.filterMap_cons, e, eu]
      exact RVs.cons r (x.pick ks)
theorem RVs.step {h : Heap} {N : Addr → Prop} {vs us} (x : RVs h N vs us) (lo st : Int) : RVs h N (stepL vs lo st) (stepL us lo st) := by
  unfold stepL
  rw [RVs.length x]
  exact x.pick _
theorem stepL_pick (us : List Value) (lo st : Int) : slicePick us.toArray (some lo) none (some st) = (stepL us lo st).toArray := by
  unfold slicePick stepL
  simp

theorem eStep {F : FD} {value lower st : Expr} {p pos : Pos} {f1 fl fs : List S → Option R} (h1 : SE C F n value f1) (hl : SE C F n lower fl) (hs : SE C F n st fs) :
    SE C F n (.Subscript value (.Slice (some lower) none (some st) p) pos) (fun σ => match f1 σ, fl σ, fs σ with
      | some a, some (.val (.int lo)), some (.val (.int st)) => (match a.items with | some l => if l.length ≤ 1048576 ∧ st ≠ 0 then some (.new (stepL l lo st)) else none | none => none)
      | _, _, _ => none) :=
  fun A s X O σ ow r hA f e Q E h => by
    simp only at e
    split at e
    · rename_i a lo k e1 e2 e3
      split at e
      · rename_i l el
        split at e
        · rename_i hlen
          cases e
          refine Subscript_ (h1 A s X O σ ow a hA f e1 _ E fun u s1 x1 r1 => ?_)
          refine wpAny_Slice (wpAny_evalPart_some (hl A s1 X O σ ow _ hA (f.ext x1) e2 _ E fun vl s2 x2 r2 => ?_))
          refine wpAny_evalPart_none (wpAny_evalPart_some (hs A s2 X O σ ow _ hA ((f.ext x1).ext x2) e3 _ E fun vs s3 x3 r3 => ?_))
          obtain ⟨t2, rfl⟩ := r2.int
          obtain ⟨t3, rfl⟩ := r3.int
          have y : Ext s3 { s3 with heap := s3.heap.push { cls := .type "slice", data := .fields #[.int lo t2, .none, .int k t3] } } := Ext.push s3 _ s3.toks
          have ra' := (((r1.ext x2).ext x3).ext y)
          obtain ⟨q, us, rfl, p1, z⟩ := ra'.items el
          have hlz := RVs.length z
          refine tail_any (T := "list") p1.isList.typeIs slot_list_getitem.lookup (wpAny_getItem_list_slice p1.isList (Heap.IsSliceOf.new _ _ _ _) (.int lo t2) .none (.int k t3) (by simpa using hlen.2) ?_ (by rw [sizeLine_eq]; simp; omega)) (ops := [.ref q, .ref s3.heap.objs.size]) rfl
          have hsz : (stepL us lo k).length ≤ 16777216 := by
            have := slicePick_size_le us.toArray (some lo) none (some k)
            rw [stepL_pick] at this
            simp at this
            omega
          rw [stepL_pick]
          have := newL (A := A) (X := X) (O := O) (z.step lo k) hsz s3.toks
          exact h _ _ ((((x1.trans x2).trans x3).trans y).trans this.1) (RR.base (((x1.trans x2).trans x3).trans y).keep this.2)
        · cases e
      · cases e
    · cases e
end
end Mine

namespace Mine

section
variable {C : Cx} {n : Nat}

noncomputable def RRs (h₀ h : Heap) (N O : Addr → Prop) : List R → List Value → Prop
  | [], us => us = []
  | r :: rs, us => ∃ u us', us = u :: us' ∧ RR h₀ h N O u r ∧ RRs h₀ h N O rs us'
theorem RRs.ext {h₀ : Heap} {s s' : Shared} {N O : Addr → Prop} (y : Ext s s') : ∀ {rs us}, RRs h₀ s.heap N O rs us → RRs h₀ s'.heap N O rs us
  | [], _, x => x
  | r :: rs, us, ⟨u, us', e, a, b⟩ => ⟨u, us', e, a.ext y, RRs.ext y b⟩
theorem RRs.base {h₀ h₁ h : Heap} {N O : Addr → Prop} (hk : ∀ b o, h₀.get? b = some o → h₁.get? b = some o) : ∀ {rs us}, RRs h₁ h N O rs us → RRs h₀ h N O rs us
  | [], _, x => x
  | r :: rs, us, ⟨u, us', e, a, b⟩ => ⟨u, us', e, RR.base hk a, RRs.base hk b⟩

/-- arguments -/
noncomputable def SLr (C : Cx) (F : FD) (n : Nat) (es : List Expr) (f : List S → Option (List R)) : Prop :=
  ∀ (pos : Pos) A s X O σ ow rs, Rm n A → Fm C F X O s σ ow → f σ = some rs →
    ∀ (Q : List Value → Shared → Prop) (E : Value → Shared → Prop), (∀ us s', Ext s s' → RRs s.heap s'.heap (NX X O) O rs us → Q us s') → wpAny C.M A (spliced (backTo pos (starEach es F.env))) Q E s
theorem aNil {F : FD} : SLr C F n [] (fun _ => some []) := fun pos A s X O σ ow vs hA f e Q E h => by
  cases e
  exact Calls.spliced_nil (h [] s (Ext.refl s) rfl)
theorem aCons {F : FD} {e : Expr} {es : List Expr} {f1 : List S → Option R} {f2 : List S → Option (List R)} (hs : ∀ env, starEach (e :: es) env = (false, eval e env) :: starEach es env) (h1 : SE C F n e f1) (h2 : SLr C F n es f2) :
    SLr C F n (e :: es) (fun σ => match f1 σ, f2 σ with | some r, some rs => some (r :: rs) | _, _ => none) := fun pos A s X O σ ow vs hA f e Q E h => by
  cases e1 : f1 σ with
  | none => simp [e1] at e
  | some r =>
    cases e2 : f2 σ with
    | none => simp [e1, e2] at e
    | some rs =>
      simp only [e1, e2] at e
      cases e
      rw [hs]
      refine Calls.spliced_cons (h1 A s X O σ ow r hA f e1 _ E fun u s1 x1 r1 => ?_)
      refine h2 pos A s1 X O σ ow rs hA (f.ext x1) e2 _ E fun us s2 x2 r2 => ?_
      exact h _ s2 (x1.trans x2) ⟨u, us, rfl, r1.ext x2, RRs.base x1.keep r2⟩

/-- what a built-in gives -/
noncomputable def BF (C : Cx) (n : Nat) (fv : Value) (g : List R → Option R) : Prop :=
  ∀ A s h₀ X O us rs r, Rm n A → Gs C (NX X O) h₀ → (∀ b o, h₀.get? b = some o → s.heap.get? b = some o) → RRs h₀ s.heap (NX X O) O rs us → g rs = some r → Ev C X O A s (call fv us) r

/-- a global name -/
theorem ldG (hC : C.Ok) {F : FD} {A : Around} {s : Shared} {X O : Addr → Prop} {σ : List S} {ow : Nat → Addr} (f : Fm C F X O s σ ow) {x : Str} {pos : Pos} {v : Value} (hk : F.env.kindOf x = some .globalImplicit) (hd : (x == ("__debug__" : Str)) = false)
    (hv : C.mg x = some v ∨ (C.mg x = none ∧ C.mb x = some v)) {Q : Value → Shared → Prop} {E : Value → Shared → Prop} (h : Q v s) : wpAny C.M A (eval (.Name x pos) F.env) Q E s := by
  refine wpAny_Name ?_ hd
  have hg : s.heap.Ns mainGlobals C.mg := hC.g.at fun o e => f.gs.keep _ _ e hC.gp
  have hb : s.heap.Ns builtinsNs C.mb := hC.b.at fun o e => f.gs.keep _ _ e hC.bp
  have key : wpAny C.M A (loadGlobal F.env x) Q E s := by
    unfold loadGlobal
    rw [f.gl, f.bl]
    refine wpAny_bind (wpAny_nsGet hg ?_)
    rcases hv with hv | ⟨hn, hv⟩
    · rw [hv]; exact wpAny_pure h
    · rw [hn]
      refine wpAny_bind (wpAny_nsGet hb ?_)
      rw [hv]; exact wpAny_pure h
  unfold loadName
  rw [f.kind]
  simp only [ScopeKind.isAnnotationScope, Bool.false_and, Bool.false_eq_true, if_false]
  rw [show F.env.blockKind = .function from by unfold Env.blockKind; rw [f.kind]; rfl, hk]
  exact key

noncomputable def Fv : Value → Prop
  | .builtin _ => True
  | .type _ => True
  | _ => False

theorem eCallB (hC : C.Ok) {F : FD} {x : Str} {p pos : Pos} {e : Expr} {es : List Expr} {fv : Value} {g : List R → Option R} {f1 : List S → Option (List R)} (hv : Fv fv) (hk : F.env.kindOf x = some .globalImplicit) (hd : (x == ("__debug__" : Str)) = false)
    (hn : C.mg x = none) (hb : C.mb x = some fv) (hg : BF C n fv g) (h1 : SLr C F n (e :: es) f1) (hs : ∀ env, starEach (e :: es) env = (false, eval e env) :: starEach es env) (hp : ∀ pos env, (backTo pos (starEach es env)).any (·.1) = false) :
    SE C F n (.Call (.Name x p) (e :: es) [] pos) (fun σ => match f1 σ with | some rs => g rs | none => none) := fun A s X O σ ow r hA f er Q E h => by
  cases e1 : f1 σ with
  | none => simp [e1] at er
  | some rs =>
    simp only [e1] at er
    refine wpAny_Call_NameR (ldG hC f hk hd (.inr ⟨hn, hb⟩) ?_)
    have fin : wpAny C.M A (spliced (backTo pos (starEach (e :: es) F.env))) (fun us s' => wpAny C.M A (call fv us) Q E s') E s :=
      h1 pos A s X O σ ow rs hA f e1 _ E fun us s1 x1 r1 => Ev.then x1 (hg A s1 s.heap X O us rs r hA f.gs x1.keep r1 er) h
    rw [hs] at fin ⊢
    have hp' : ((backTo pos ((false, eval e F.env) :: starEach es F.env)).any (·.1)) = false := by
      show (false || (backTo pos (starEach es F.env)).any (·.1)) = false
      rw [hp]; rfl
    cases fv with
    | builtin id => exact Calls.callWith_builtin hp' (Calls.evalArgs_plain fin)
    | type T => exact PySem.callWith_type hp' (Calls.evalArgs_plain fin)
    | _ => exact hv.elim

/-- a method of a built-in type -/
structure Meth (T : String) (name : Str) (id : String) : Prop where
  plain : PlainAttrs T
  slot : Slot T name id
  desc : typeOf (.builtin id) = pure (.type "method_descriptor")

noncomputable def tyR : R → Option String
  | .val (.str _) => some "str"
  | .val (.lst _) => some "list"
  | .new _ => some "list"
  | .own _ => some "list"
  | _ => none
theorem RR.ty {h₀ : Heap} {s : Shared} {N O : Addr → Prop} {u : Value} {r : R} {T : String} (x : RR h₀ s.heap N O u r) (e : tyR r = some T) : s.TypeIs u T ∧ ∀ a, u = .ref a → ∃ ob, s.heap.get? a = some ob ∧ ob.dict = none := by
  have list : ∀ {l}, r.items = some l → T = "list" → s.TypeIs u T ∧ ∀ a, u = .ref a → ∃ ob, s.heap.get? a = some ob ∧ ob.dict = none := by
    intro l el eT
    subst eT
    obtain ⟨a, us, rfl, p, z⟩ := x.items el
    refine ⟨p.isList.typeIs, fun b eb => ?_⟩
    cases eb
    obtain ⟨k, e⟩ := p
    exact ⟨_, e, rfl⟩
  unfold tyR at e
  split at e
  · cases e
    obtain ⟨t, rfl⟩ := x.str
    exact ⟨typeIs_str _ _ _, fun a h => by cases h⟩
  · cases e; exact list rfl rfl
  · cases e; exact list rfl rfl
  · cases e; exact list rfl rfl
  · cases e

theorem eMeth {F : FD} {o e : Expr} {es : List Expr} {name : Str} {T id : String} {apos pos : Pos} {g : List R → Option R} {f0 : List S → Option R} {f1 : List S → Option (List R)} (hm : Meth T name id)
    (hbase : attributeBase o name F.env (eval o F.env) = eval o F.env) (hline : (apos.endLine == pos.line) = true)
    (hfew : ((((backTo pos (starEach (e :: es) F.env)).all fun x => !x.fst) && (backToKw pos (keywordEach [] F.env)).all fun x => x.fst.isSome) && decide (((e :: es).length + ([] : List Keyword).length + if ([] : List Keyword).isEmpty = true then 0 else 1) < 30)) = true)
    (hg : BF C n (.builtin id) g) (h0 : SE C F n o f0) (h1 : SLr C F n (e :: es) f1) (hs : ∀ env, starEach (e :: es) env = (false, eval e env) :: starEach es env) (hp : ∀ pos env, (backTo pos (starEach es env)).any (·.1) = false) :
    SE C F n (.Call (.Attribute o name apos) (e :: es) [] pos) (fun σ => match f0 σ, f1 σ with | some a, some rs => if tyR a = some T then g (a :: rs) else none | _, _ => none) := fun A s X O σ ow r hA f er Q E h => by
  cases e0 : f0 σ with
  | none => simp [e0] at er
  | some a =>
    cases e1 : f1 σ with
    | none => simp [e0, e1] at er
    | some rs =>
      simp only [e0, e1] at er
      split at er
      · rename_i ht
        refine wpAny_Call_method_lateS hbase hfew hline (h0 A s X O σ ow a hA f e0 _ E fun u s1 x1 r1 => ?_)
        obtain ⟨t1, t2⟩ := r1.ty ht
        refine ⟨T, id, hm.plain, hm.slot, hm.desc, t1, t2, ?_⟩
        have fin : wpAny C.M A (spliced (backTo pos (starEach (e :: es) F.env))) (fun us s' => wpAny C.M A (call (.builtin id) (u :: us)) Q E s') E s1 :=
          h1 pos A s1 X O σ ow rs hA (f.ext x1) e1 _ E fun us s2 x2 r2 => Ev.then (x1.trans x2) (hg A s2 s.heap X O (u :: us) (a :: rs) r hA f.gs (x1.trans x2).keep ⟨u, us, rfl, r1.ext x2, RRs.base x1.keep r2⟩ er) h
        rw [hs] at fin ⊢
        have hp' : ((backTo pos ((false, eval e F.env) :: starEach es F.env)).any (·.1)) = false := by
          show (false || (backTo pos (starEach es F.env)).any (·.1)) = false
          rw [hp]; rfl
        exact Calls.callWith_builtin hp' (Calls.evalArgs_plain fin)
      · cases er

/-- a function of the text -/
structure FnOk (C : Cx) (n : Nat) (x : Str) (f : List V → Option V) : Prop where
  is : ∃ fa o fd, C.mg x = some (.ref fa) ∧ C.base.get? fa = some o ∧ ¬ C.Px fa ∧ o.data = .func fd ∧
    ∀ A s N us vs r, Rm n A → Gs C N s.heap → RVs s.heap N vs us → f vs = some r →
      ∀ (Q : Value → Shared → Prop) (E : Value → Shared → Prop), (∀ v s', Ext s s' → RV s'.heap N r v → Q v s') → wpAny C.M A (call (.ref fa) us) Q E s

theorem Rm.le {m k : Nat} {A : Around} (h : Rm k A) (hm : m ≤ k) : Rm m A := ⟨h.1, by have := h.2.1; omega, by have := h.2.2; omega⟩

theorem eFn (hC : C.Ok) {F : FD} {m : Nat} {x : Str} {p pos : Pos} {e : Expr} {es : List Expr} {g : List V → Option V} {f1 : List S → Option (List V)} (hm : m ≤ n) (hk : F.env.kindOf x = some .globalImplicit) (hd : (x == ("__debug__" : Str)) = false)
    (hg : FnOk C m x g) (h1 : SL C F n (e :: es) f1) (hs : ∀ env, starEach (e :: es) env = (false, eval e env) :: starEach es env) :
    SE C F n (.Call (.Name x p) (e :: es) [] pos) (fun σ => match f1 σ with | some vs => (g vs).map .val | none => none) := fun A s X O σ ow r hA f er Q E h => by
  cases e1 : f1 σ with
  | none => simp [e1] at er
  | some vs =>
    simp only [e1] at er
    obtain ⟨v, ev, rfl⟩ := Option.map_eq_some_iff.mp er
    obtain ⟨fa, o, fd, h2, h3, h4, h5, h6⟩ := hg.is
    refine wpAny_Call_NameR (ldG hC f hk hd (.inl h2) ?_)
    refine PyProof.Rows.callWith_def h5 (h1 pos A s X O σ ow vs hA f e1 _ E fun us s1 x1 r1 => ⟨(f.ext x1).gs.keep _ _ h3 h4, ?_⟩) (hs _)
    exact h6 A s1 (NX X O) us vs v (hA.le hm) (f.ext x1).gs r1 ev Q E fun u s2 x2 r2 => h u s2 (x1.trans x2) r2

/-- a body makes a contract -/
noncomputable def padU (k : Nat) (vs : List V) : List S := vs.map .val ++ List.replicate k .unb
theorem RVs.zip_lookup {h : Heap} {N : Addr → Prop} : ∀ {ps : List Str} {vs us}, RVs h N vs us → ps.length = vs.length → ps.Nodup → ∀ (i : Nat) (x : Str) (v : V), ps[i]? = some x → vs[i]? = some v → ∃ u, (ps.zip us).lookup x = some u ∧ RV h N v u
  | [], _, _, _, _, _, i, x, v, hx, _ => by simp at hx
  | q :: ps, [], _, _, hl, _, i, x, v, _, _ => by simp at hl
  | q :: ps, w :: vs, us, z, hl, hn, i, x, v, hx, hv => by
    unfold RVs at z
    obtain ⟨u, us', rfl, a, b⟩ := z
    rw [List.nodup_cons] at hn
    cases i with
    | zero =>
      simp at hx hv
      subst hx hv
      exact ⟨u, by simp, a⟩
    | succ i =>
      simp at hx hv
      have hne : x ≠ q := fun e => hn.1 (e ▸ List.mem_of_getElem? hx)
      obtain ⟨u', e', r⟩ := RVs.zip_lookup b (by simpa using hl) hn.2 i x v hx hv
      refine ⟨u', ?_, r⟩
      rw [List.zip_cons_cons, List.lookup_cons]
      have : (x == q) = false := by simpa using hne
      rw [this]; exact e'
theorem lookup_none_of {α β} [BEq α] [LawfulBEq α] : ∀ {l : List (α × β)} {x : α}, x ∉ l.map (·.1) → l.lookup x = none
  | [], x, _ => rfl
  | (a, b) :: l, x, h => by
    simp only [List.map_cons, List.mem_cons, not_or] at h
    rw [List.lookup_cons]
    have : (x == a) = false := by simpa using h.1
    rw [this]; exact lookup_none_of h.2
theorem lookup_reverse {α β} [BEq α] [LawfulBEq α] {l : List (α × β)} (hn : (l.map (·.1)).Nodup) (x : α) : l.reverse.lookup x = l.lookup x := by
  induction l with
  | nil => rfl
  | cons p l ih =>
    obtain ⟨a, b⟩ := p
    simp only [List.map_cons, List.nodup_cons] at hn
    rw [List.reverse_cons, List.lookup_append, ih hn.2, List.lookup_cons]
    by_cases hx : x = a
    · subst hx
      rw [lookup_none_of hn.1]; simp
    · have : (x == a) = false := by simpa using hx
      cases e : l.lookup x <;> simp [List.lookup_cons, this, e]

theorem mkFn (hC : C.Ok) {n : Nat} {d : DefRec} {ps : List Str} {loc : List Str} {fb : SF} {fa : Addr} {o : Obj} {pm cd doc : Value}
    (h1 : C.mg d.name = some (.ref fa)) (h2 : C.base.get? fa = some o) (h3 : ¬ C.Px fa) (h4 : o.data = .func (Calls.docDef d.name d.params d.body d.scope pm cd doc)) (h5 : C.base.CodeRec cd d.name) (h6 : ∀ c, cd = .ref c → ¬ C.Px c)
    (hbind : ∀ us : List Value, us.length = ps.length → bindArgs (Calls.docDef d.name d.params d.body d.scope pm cd doc) ⟨us, []⟩ = pure (ps.zip us))
    (hps : ps ≠ []) (hnd : (ps ++ loc).Nodup) (hloc : ∀ x ∈ ps ++ loc, d.scope.names.lookup x = some .local)
    (hco : d.scope.isCoroutine = false) (hgen : d.scope.isGenerator = false) (hkind : d.scope.kind = .function) (hcell : ∀ x ∈ d.scope.names, x.2 ≠ .cell)
    (hb : ∀ L, SB C ⟨envOf d.name d.scope L fa cd, ps ++ loc, ps ++ loc, 1⟩ n d.body fb) :
    FnOk C (n + 1) d.name (fun vs => if vs.length = ps.length then (match fb (padU loc.length vs) with | some (.ret v, _) => some v | some (.next, _) => some .non | _ => none) else none) := by
  refine ⟨fa, o, _, h1, h2, h3, h4, fun A s N us vs r hA hG z er Q E hQ => ?_⟩
  split at er
  · rename_i hlen
    have hlu : us.length = ps.length := by rw [RVs.length z]; exact hlen
    have hlim : s.heap.NoLimit := let ⟨mc, a, b⟩ := hC.lim; ⟨mc, a.at fun o e => hG.keep _ _ e hC.lp, b⟩
    have hcd : s.heap.CodeRec cd d.name := let ⟨c, o, vs, t, e, e1, e2⟩ := h5; ⟨c, o, vs, t, e, hG.keep _ _ e1 (h6 c e), e2⟩
    have hzl : (ps.zip us).map (·.1) = ps := by rw [List.map_fst_zip]; omega
    refine wpAny_call (call_plain_ret (by have := hA.2.1; omega) (hG.keep _ _ h2 h3) h4 hlim hcd (hbind us hlu) (fun x hx => ?_) (fun h₁ Fr1 => ?_) hco hgen hkind hcell)
    · have : x.1 ∈ (ps.zip us).map (·.1) := List.mem_map_of_mem hx
      rw [hzl] at this
      exact hloc _ (List.mem_append_left _ this)
    · generalize hL : s.heap.objs.size = L at *
      have hpsn : ps.Nodup := (List.nodup_append.mp hnd).1
      obtain ⟨fl, σ', ef⟩ : ∃ fl σ', fb (padU loc.length vs) = some (fl, σ') := by
        cases e : fb (padU loc.length vs) with
        | none => simp [e] at er
        | some p => exact ⟨p.1, p.2, rfl⟩
      have fresh : ∀ {b o}, s.heap.get? b = some o → b ≠ L := fun e => hL ▸ Nat.ne_of_lt (Heap.lt_size e)
      have hLnone : s.heap.get? L = none := hL ▸ fresh_none _
      have mv : Moves s.heap h₁ N (NX N fun a => a = L) := fun b o e nb => ⟨Fr1.keep b o e, fun q => q.elim nb (fresh e)⟩
      have z1 := RVs.mono mv z
      have hF : Fm C ⟨envOf d.name d.scope L fa cd, ps ++ loc, ps ++ loc, 1⟩ N (fun a => a = L) { s with heap := h₁, toks := s.toks + (ps.zip us).length } (padU loc.length vs) (fun _ => 0) := by
        refine ⟨⟨fun b o e nb => Fr1.keep b o (hG.keep b o e nb), fun a q => ?_, fun a q => ?_⟩, fun a q => ?_, rfl, fun x hx c hc => ?_, hnd, fun x hx y hy c hc => ?_, ⟨_, Fr1.ns⟩, fun x hx c hc => ?_, fun x hx => hx, fun x hx q => ?_, hkind, rfl, rfl, ?_, fun i x y hx hy => ?_, fun i j l l' hi => ?_, ?_, fun a o fs q e => ?_⟩
        · rcases q with q | q
          · exact hG.nb a q
          · subst q
            by_cases hp : C.Px a
            · exact .inr hp
            · refine .inl ?_
              cases w : C.base.get? a with
              | none => rfl
              | some o => exact absurd rfl (fresh (hG.keep _ _ w hp))
        · rcases q with q | q
          · obtain ⟨o, e⟩ := hG.ex a q
            exact ⟨o, Fr1.keep _ _ e⟩
          · subst q
            obtain ⟨o, es, ep, e, _⟩ := Fr1.ns
            exact ⟨o, e⟩
        · obtain ⟨o, e⟩ := hG.ex a q
          exact fresh e
        · cases hc
        · cases hc
        · cases hc
        · have : (envOf d.name d.scope L fa cd).kindOf x = some .local := hloc x hx
          rw [this] at q; cases q
        · simp [padU, hlen]
        · refine ⟨_, .inl ⟨hloc x (List.mem_of_getElem? hx), _, Fr1.ns, rfl⟩, ?_⟩
          rw [lookup_reverse (by rw [hzl]; exact hpsn)]
          unfold padU at hy
          by_cases hi : i < vs.length
          · rw [List.getElem?_append_left (by simpa using hi)] at hy
            rw [List.getElem?_append_left (by omega)] at hx
            rw [List.getElem?_map] at hy
            obtain ⟨v, ev, rfl⟩ := Option.map_eq_some_iff.mp hy
            obtain ⟨u, eu, ru⟩ := z1.zip_lookup hlen.symm hpsn i x v hx ev
            exact ⟨u, eu, ru⟩
          · rw [List.getElem?_append_right (by simpa using hi)] at hy
            rw [List.getElem?_append_right (by omega)] at hx
            have : y = .unb := by
              have := List.mem_of_getElem? hy
              exact (List.mem_replicate.mp this).2
            subst this
            refine lookup_none_of ?_
            rw [hzl]
            intro hm
            exact (List.nodup_append.mp hnd).2.2 x hm x (List.mem_of_getElem? hx) rfl
        · unfold padU at hi
          have := List.mem_of_getElem? hi
          rcases List.mem_append.mp this with h | h
          · obtain ⟨v, _, e⟩ := List.mem_map.mp h; cases e
          · have := (List.mem_replicate.mp h).2; cases this
        · show 1 ≤ s.toks + (ps.zip us).length
          have h0 : 0 < ps.length := List.length_pos_iff.mpr hps
          have : (ps.zip us).length = ps.length := by rw [List.length_zip]; omega
          omega
        · subst q
          obtain ⟨o', es, ep, e', d, _⟩ := Fr1.ns
          have e2 : h₁.get? a = some o := e
          rw [e'] at e2; cases e2
          rw [d]; intro q; cases q
      refine hb L (A.deeper (envOf d.name d.scope L fa cd)) _ N (fun a => a = L) _ _ fl σ' ⟨hA.1, ?_, ?_⟩ hF ef _ _ fun f5 s' O' ow' st fm fr => ?_
      · show A.depth + 1 + n < recursionLimit
        have := hA.2.1; omega
      · show A.units + 3 + 10 * n < cLine
        have := hA.2.2; omega
      have xt : Ext s s' := ⟨fun b o e => st.keep b o (Fr1.keep b o e) (fresh e), st.os, st.bare, Nat.le_trans (Nat.le_add_right _ _) st.tk⟩
      have back : Moves s'.heap s'.heap (NX N O') N := fun b o e nb => ⟨e, fun q => nb (.inl q)⟩
      cases fl with
      | next =>
        unfold FR at fr; subst fr
        simp only [ef] at er
        cases er
        exact hQ _ s' xt (by unfold RV; rfl)
      | ret v =>
        obtain ⟨u, rfl, rv⟩ := fr
        simp only [ef] at er
        cases er
        exact hQ _ s' xt (RV.mono back rv)
      | brk => simp [ef] at er
      | cont => simp [ef] at er
  · cases er
end
end Mine

namespace Mine

section
variable {C : Cx} {F : FD} {n : Nat}

noncomputable def getOwn (i : Nat) (σ : List S) : Option (List V) := match σ[i]? with
  | some (.own l) => some l
  | _ => none
theorem getOwn_rd {i : Nat} {σ : List S} {l : List V} (h : getOwn i σ = some l) : rd i σ = some (.own l) ∧ σ[i]? = some (.own l) := by
  unfold getOwn at h
  split at h
  · rename_i e; cases h; exact ⟨by unfold rd; rw [e], e⟩
  · cases h

/-- the list that a variable owns, at hand -/
theorem own_at {s : Shared} {X O : Addr → Prop} {σ : List S} {ow : Nat → Addr} (f : Fm C F X O s σ ow) {i : Nat} {x : Str} {l : List V} (hx : F.vs[i]? = some x) (hi : σ[i]? = some (.own l)) :
    ∃ us, s.heap.PlainList (ow i) (List.toArray us) ∧ RVs s.heap (NX X O) l us := by
  obtain ⟨val, va, us, e, o, p, z⟩ := f.var i x _ hx hi
  exact ⟨us, p, z⟩
theorem load_own {A : Around} {s : Shared} {X O : Addr → Prop} {σ : List S} {ow : Nat → Addr} (f : Fm C F X O s σ ow) {i : Nat} {x : Str} {l : List V} (hx : F.vs[i]? = some x) (hi : σ[i]? = some (.own l))
    {Q : Value → Shared → Prop} {E : Value → Shared → Prop} (h : Q (.ref (ow i)) s) : wpAny C.M A (loadName F.env x) Q E s := by
  obtain ⟨val, va, us, e, o, p, z⟩ := f.var i x _ hx hi
  rcases va with ⟨k, m, ns, e'⟩ | ⟨k, c, l', e'⟩ | ⟨k, d, c, l', e'⟩
  · exact wpAny_loadName_local f.kind k ns (e'.trans e) h
  · exact wpAny_loadName_cell f.kind k l' (e ▸ e') h
  · exact wpAny_loadName_free f.kind k l' (e ▸ e') h d

theorem sAppend (i : Nat) {x : Str} {px apos pos cpos : Pos} {e : Expr} {f1 : List S → Option R} (hx : F.vs[i]? = some x) (hd : (x == ("__debug__" : Str)) = false) (h1 : SE C F n e f1) (hi : interactive F.env = false) (hline : (apos.endLine == cpos.line) = true)
    (hs : ∀ env, starEach [e] env = [(false, eval e env)]) :
    SS C F n (.Expr (.Call (.Attribute (.Name x px) (PySem.Str.ofString "append") apos) [e] [] cpos) pos) (fun σ => match getOwn i σ, (f1 σ).bind R.fz with | some l, some v => if l.length ≤ 1048576 then some (.next, σ.set i (.own (l ++ [v]))) else none | _, _ => none) :=
  fun A s X O σ ow fl σ' hA f er Q E h => by
    cases e0 : getOwn i σ with
    | none => simp [e0] at er
    | some l =>
      cases e1 : (f1 σ).bind R.fz with
      | none => simp [e0, e1] at er
      | some v =>
        simp only [e0, e1] at er
        split at er
        · rename_i hl
          cases er
          obtain ⟨r, er, ef⟩ := Option.bind_eq_some_iff.mp e1
          obtain ⟨_, hi'⟩ := getOwn_rd e0
          obtain ⟨us0, p0, _⟩ := own_at f hx hi'
          refine wpAny_Expr_any (wpAny_Call_append rfl ?_ hline ?_ (wpAny_Name (load_own f hx hi' ⟨ow i, us0.toArray, rfl, ?_, ?_⟩) hd)) hi rfl
          · rw [hs]; rfl
          · rw [hs]; rfl
          · obtain ⟨m, e⟩ := p0; exact ⟨_, m, e, rfl, rfl, rfl⟩
          · refine h1 A s X O σ ow r hA f er _ E fun u s1 x1 r1 => ?_
            have g := f.ext x1
            obtain ⟨us, p, z⟩ := own_at g hx hi'
            have hlen := RVs.length z
            refine wpAny_list_append_plain p (fun h' p' sb => ?_) (by rw [sizeLine_eq]; simp; omega)
            have p'' : h'.PlainList (ow i) (us ++ [u]).toArray := by simpa using p'
            obtain ⟨g2, st⟩ := g.mut s1.toks (Nat.le_refl _) hi' sb p'' (z.append (RVs.cons (r1.fz f.gs.ex ef) RVs.nil))
            exact h .next _ O ow ((Stp.ofExt x1).trans st) g2 rfl
        · cases er

theorem sDelItem (i : Nat) {x : Str} {px p' pos : Pos} {ie : Expr} {f2 : List S → Option R} (hx : F.vs[i]? = some x) (hd : (x == ("__debug__" : Str)) = false) (h2 : SE C F n ie f2) :
    SS C F n (.Delete [.Subscript (.Name x px) ie p'] pos) (fun σ => match getOwn i σ, f2 σ with
      | some l, some (.val (.int k)) => if -1000000 ≤ k ∧ k.toNat ≤ 1000000 ∧ l.length ≤ 1048576 then (match seqIndex? k l.length with | some j => some (.next, σ.set i (.own (l.eraseIdx j))) | none => none) else none
      | _, _ => none) :=
  fun A s X O σ ow fl σ' hA f er Q E h => by
    simp only at er
    split at er
    · rename_i l k e0 e2
      split at er
      · rename_i hk
        split at er
        · rename_i j ej
          cases er
          obtain ⟨_, hi'⟩ := getOwn_rd e0
          refine wpAny_Delete (wpAny_deleteEach_cons (wpAny_delete_Subscript (wpAny_Name (load_own f hx hi' ?_) hd)))
          refine h2 A s X O σ ow _ hA f e2 _ E fun ku s1 x1 r1 => ?_
          obtain ⟨t, rfl⟩ := r1.int
          have g := f.ext x1
          obtain ⟨us, p, z⟩ := own_at g hx hi'
          have hlen := RVs.length z
          refine wpAny_delItem_plain p (by simp [Builtin.List.listFitsIndex]; omega) (k := j) (by rw [List.size_toArray, hlen]; exact ej) (fun h' p' sb => wpAny_deleteEach_nil ?_) (by rw [sizeLine_eq]; simp; omega)
          have p'' : h'.PlainList (ow i) (us.eraseIdx j).toArray := by simpa using p'
          have z' : RVs s1.heap (NX X O) (l.eraseIdx j) (us.eraseIdx j) := by
            rw [List.eraseIdx_eq_take_drop_succ, List.eraseIdx_eq_take_drop_succ]
            exact (z.take' j).append (z.drop' (j + 1))
          obtain ⟨g2, st⟩ := g.mut s1.toks (Nat.le_refl _) hi' sb p'' z'
          exact h .next _ O ow ((Stp.ofExt x1).trans st) g2 rfl
        · cases er
      · cases er
    · cases er

theorem sTry {body : List Stmt} {h₀ : ExceptHandler} {hs : List ExceptHandler} {pos : Pos} {fb : SF} (hb : SB C F n body fb) : SS C F n (.Try body (h₀ :: hs) [] [] pos) fb :=
  fun A s X O σ ow fl σ' hA f er Q E h => by
    refine wpAny_Try_except (hb A s X O σ ow fl σ' hA f er _ _ fun f5 s' O' ow' st fm fr => ?_)
    cases fl with
    | next => unfold FR at fr; subst fr; exact wpAny_execs_nil (h .next s' O' ow' st fm rfl)
    | brk => unfold FR at fr; subst fr; exact h _ s' O' ow' st fm rfl
    | cont => unfold FR at fr; subst fr; exact h _ s' O' ow' st fm rfl
    | ret v => obtain ⟨u, rfl, rv⟩ := fr; exact h _ s' O' ow' st fm ⟨u, rfl, rv⟩

/-! unpacking -/
theorem Ext.skip {s s' : Shared} {it : Addr} {h' : Heap} (y : Ext s s') (tk : Nat) (htk : s'.toks ≤ tk) (ha : s.heap.get? it = none) (hk : Heap.ExtBut it s'.heap h') : Ext s { s' with heap := h', toks := tk } :=
  ⟨fun b o e => hk b o (fun q => by rw [q, ha] at e; cases e) (y.keep b o e), y.os, y.bare, Nat.le_trans y.tk htk⟩

/-- all but the iterator stands -/
structure But (it : Addr) (s s' : Shared) : Prop where
  keep : ∀ b o, b ≠ it → s.heap.get? b = some o → s'.heap.get? b = some o
  os : s'.os = s.os
  bare : GB s.gens s'.gens
  tk : s.toks ≤ s'.toks
theorem But.refl (it : Addr) (s : Shared) : But it s s := ⟨fun _ _ _ e => e, rfl, GB.refl _, Nat.le_refl _⟩
theorem But.trans {it : Addr} {a b c : Shared} (x : But it a b) (y : But it b c) : But it a c := ⟨fun p o n e => y.keep p o n (x.keep p o n e), y.os.trans x.os, x.bare.trans y.bare, Nat.le_trans x.tk y.tk⟩
theorem But.moves {it : Addr} {s s' : Shared} {N : Addr → Prop} (hN : N it) (x : But it s s') : Moves s.heap s'.heap N N := fun b o e n => ⟨x.keep b o (fun q => n (q ▸ hN)) e, n⟩
theorem But.ext {it : Addr} {s s' : Shared} (x : But it s s') {s₀ : Shared} (y : Ext s₀ s) (ha : s₀.heap.get? it = none) : Ext s₀ s' :=
  ⟨fun b o e => x.keep b o (fun q => by rw [q, ha] at e; cases e) (y.keep b o e), x.os.trans y.os, y.bare.trans x.bare, Nat.le_trans y.tk x.tk⟩

theorem draw_ {A : Around} {N O : Addr → Prop} {it : Addr} (hN : N it) : ∀ {vs : List V} {s : Shared}, It s.heap N O it vs → ∀ {Q : List Value → Shared → Prop} {E : Value → Shared → Prop},
    (∀ us s', But it s s' → It s'.heap N O it [] → RVs s'.heap N vs us → Q us s') → wpAny C.M A (draw (.ref it) vs.length) Q E s
  | [], s, hit, Q, E, h => wpAny_pure (h [] s (But.refl it s) hit RVs.nil)
  | v :: vs, s, hit, Q, E, h => by
    show wpAny C.M A (pyNext (.ref it) >>= fun r => match r with | none => pure [] | some v => holding [v] (draw (.ref it) vs.length) >>= fun r => pure (v :: r)) Q E s
    refine wpAny_bind (It.item hit hN fun u h' tk htk sb hex hit' rv => ?_)
    refine wpAny_bind (wpAny_holding (draw_ hN (s := { s with heap := h', toks := tk }) hit' fun us s' y' hit'' rvs => wpAny_pure (h _ s' ?_ hit'' (RVs.cons (RV.mono (y'.moves hN) rv) rvs))))
    exact But.trans (b := { s with heap := h', toks := tk }) ⟨fun b o nb e => sb.extBut b o nb e, rfl, GB.refl _, htk⟩ y'

theorem unpackItems_ {A : Around} (hA : A.handled = none) {s₀ s : Shared} {N O : Addr → Prop} {u : Value} {r : R} {vs : List V} {T id : String} (hO : ∀ b, O b → N b) (hN : ∀ a, N a → ∃ o, s₀.heap.get? a = some o) (hk : Ext s₀ s) (x : RR s₀.heap s.heap N O u r) (e : r.iter = some vs)
    (hT : s.TypeIs u T) (slot : Slot T "__iter__" id) {Q : List Value → Shared → Prop} {E : Value → Shared → Prop}
    (h : ∀ us s', Ext s s' → RVs s'.heap N vs us → Q us s') : wpAny C.M A (unpackItems u vs.length none) Q E s := by
  unfold unpackItems
  refine wpAny_bind ?_
  unfold notIterableAtAll
  refine wpAny_bind (wpAny_specialOf hT slot.lookup ?_)
  refine wpAny_pure ?_
  show wpAny C.M A (holding [u] (pyIter u) >>= _) Q E s
  refine wpAny_bind (wpAny_holding (RR.iter x e hO hN fun o hit hfs hfr => ?_))
  have hnone : s.heap.get? s.heap.objs.size = none := fresh_none _
  have y1 : Ext s { s with heap := s.heap.push o } := Ext.push s o s.toks
  generalize s.heap.objs.size = it at *
  refine wpAny_bind (wpAny_holding (draw_ (.inr rfl) hit fun us s' y' hit' rvs => ?_))
  have hlen := RVs.length rvs
  have : ¬ us.length < vs.length := by omega
  simp only [this, if_false]
  refine wpAny_bind (wpAny_holding (It.done hA hit' fun h' hk' => ?_))
  simp only [Option.isSome_none, Bool.false_eq_true, if_false]
  refine wpAny_pure (h us _ ((y'.ext y1 hnone).skip _ (Nat.le_refl _) hnone hk') ?_)
  refine RVs.mono (fun b ob e n => ⟨hk' b ob (fun q => n (.inr q)) e, fun q => n (.inl q)⟩) rvs

noncomputable def elems : R → Option (List V)
  | .val (.lst l) => some l
  | .val (.tup l) => some l
  | .new l => some l
  | _ => none
theorem elems_iter : ∀ {r : R} {l : List V}, elems r = some l → r.iter = some l
  | .val (.lst _), _, e => e
  | .val (.tup _), _, e => e
  | .new _, _, e => e
  | .own _, _, e => by cases e
  | .val .non, _, e => by cases e
  | .val (.bool _), _, e => by cases e
  | .val (.int _), _, e => by cases e
  | .val (.str _), _, e => by cases e
  | .val (.byt _), _, e => by cases e
  | .val (.rng _ _), _, e => by cases e
theorem elems_ty {h₀ : Heap} {s : Shared} {N O : Addr → Prop} {u : Value} {r : R} {l : List V} (x : RR h₀ s.heap N O u r) (e : elems r = some l) : ∃ T id, s.TypeIs u T ∧ Slot T "__iter__" id := by
  unfold elems at e
  split at e
  · obtain ⟨a, us, rfl, p, z⟩ := x.items rfl
    exact ⟨"list", _, p.isList.typeIs, slot_list_iter⟩
  · obtain ⟨a, us, rfl, p, z⟩ := x.tup
    exact ⟨"tuple", _, p.typeIs, slot_tuple_iter⟩
  · obtain ⟨a, us, rfl, p, z⟩ := x.items rfl
    exact ⟨"list", _, p.isList.typeIs, slot_list_iter⟩
  · cases e

theorem sUnpack2 (i j : Nat) {x y : Str} {px py tp pos : Pos} {k : Nat} {value : Expr} {f1 : List S → Option R} (hx : F.vs[i]? = some x) (hxw : x ∈ F.ws) (hy : F.vs[j]? = some y) (hyw : y ∈ F.ws) (h1 : SE C F n value f1)
    (hs1 : swapsWithSole [.Tuple [.Name x px, .Name y py] k tp] value pos.line F.env = pure false) (hs2 : swappedStores [.Tuple [.Name x px, .Name y py] k tp] value F.env = pure none) :
    SS C F n (.Assign [.Tuple [.Name x px, .Name y py] k tp] value pos) (fun σ => match (f1 σ).bind elems with | some [a, b] => some (.next, (σ.set i (.val a)).set j (.val b)) | _ => none) :=
  fun A s X O σ ow fl σ' hA f er Q E h => by
    simp only at er
    split at er
    · rename_i a b e1
      cases er
      obtain ⟨r, er, ee⟩ := Option.bind_eq_some_iff.mp e1
      refine wpAny_Assign_stores (h1 A s X O σ ow r hA f er _ E fun u s1 x1 r1 => ?_) hs1 hs2
      show wpAny C.M A (assign (.Tuple [.Name x px, .Name y py] k tp) F.env u) _ E s1
      show wpAny C.M A (standAt tp >>= fun _ => (holding [u] (unpackItems u 2 none) >>= fun us => assignInOrder [assign (.Name x px) F.env, assign (.Name y py) F.env] us)) _ E s1
      obtain ⟨T, id, hT, slot⟩ := elems_ty r1 ee
      refine wpAny_bind (wpAny_standAt (wpAny_bind (wpAny_holding (unpackItems_ (vs := [a, b]) hA.1 (fun b q => .inr q) f.gs.ex x1 r1 (elems_iter ee) hT slot fun us s2 x2 z => ?_))))
      unfold RVs at z
      obtain ⟨u1, us', rfl, z1, z⟩ := z
      unfold RVs at z
      obtain ⟨u2, us'', rfl, z2, z⟩ := z
      unfold RVs at z
      subst z
      refine wpAny_assignInOrder_more (wpAny_assign_Name (store_val ((f.ext x1).ext x2) hx hxw z1 fun s3 ow3 st3 f3 => ?_))
      refine wpAny_assignInOrder_more (wpAny_assign_Name (store_val f3 hy hyw (RV.mono st3.moves z2) fun s4 ow4 st4 f4 => ?_))
      exact wpAny_pure (h .next s4 O ow4 ((((Stp.ofExt x1).trans (Stp.ofExt x2)).trans st3).trans st4) f4 rfl)
    · cases er

theorem sSwap2 (i j : Nat) {x y : Str} {px py tp pos : Pos} {k : Nat} {value : Expr} {f1 : List S → Option R} (hx : F.vs[i]? = some x) (hxw : x ∈ F.ws) (hy : F.vs[j]? = some y) (hyw : y ∈ F.ws) (h1 : SE C F n value f1)
    (hs1 : swapsWithSole [.Tuple [.Name x px, .Name y py] k tp] value pos.line F.env = pure false) (hs2 : swappedStores [.Tuple [.Name x px, .Name y py] k tp] value F.env = pure (some [x, y])) :
    SS C F n (.Assign [.Tuple [.Name x px, .Name y py] k tp] value pos) (fun σ => match (f1 σ).bind elems with | some [a, b] => some (.next, (σ.set j (.val b)).set i (.val a)) | _ => none) :=
  fun A s X O σ ow fl σ' hA f er Q E h => by
    simp only at er
    split at er
    · rename_i a b e1
      cases er
      obtain ⟨r, er, ee⟩ := Option.bind_eq_some_iff.mp e1
      show wpAny C.M A (standAt pos >>= fun _ => (swapsWithSole [.Tuple [.Name x px, .Name y py] k tp] value pos.line F.env >>= fun q => if q = true then _ else
        (eval value F.env >>= fun v => (swappedStores [.Tuple [.Name x px, .Name y py] k tp] value F.env >>= fun sw => assignStores F.env v sw _)))) _ E s
      rw [hs1, hs2]
      refine wpAny_bind (wpAny_standAt (wpAny_bind (wpAny_pure ?_)))
      simp only [Bool.false_eq_true, if_false]
      refine wpAny_bind (h1 A s X O σ ow r hA f er _ E fun u s1 x1 r1 => wpAny_bind (wpAny_pure ?_))
      obtain ⟨T, id, hT, slot⟩ := elems_ty r1 ee
      show wpAny C.M A (rule "assign.swapped-stores" >>= fun _ => (unpackItems u 2 none >>= fun us => (assignInOrder [bindName F.env y, bindName F.env x] us.reverse >>= fun _ => pure Flow.next))) _ E s1
      refine wpAny_bind (wpAny_rule (wpAny_bind (unpackItems_ (vs := [a, b]) hA.1 (fun b q => .inr q) f.gs.ex x1 r1 (elems_iter ee) hT slot fun us s2 x2 z => ?_)))
      unfold RVs at z
      obtain ⟨u1, us', rfl, z1, z⟩ := z
      unfold RVs at z
      obtain ⟨u2, us'', rfl, z2, z⟩ := z
      unfold RVs at z
      subst z
      refine wpAny_bind (wpAny_assignInOrder_more (wpAny_bindName (store_val ((f.ext x1).ext x2) hy hyw z2 fun s3 ow3 st3 f3 => ?_)))
      refine wpAny_assignInOrder_more (wpAny_bindName (store_val f3 hx hxw (RV.mono st3.moves z1) fun s4 ow4 st4 f4 => ?_))
      exact wpAny_pure (wpAny_pure (h .next s4 O ow4 ((((Stp.ofExt x1).trans (Stp.ofExt x2)).trans st3).trans st4) f4 rfl))
    · cases er
end
end Mine

namespace Mine

theorem toList_inj {us us' : List Value} {n n' : Nat} {c c' : Value} (h : some ({ cls := c, data := Data.seq (List.toArray us) n } : Obj) = some { cls := c', data := Data.seq (List.toArray us') n' }) : us = us' := by
  injection h with h
  injection h with h1 h2 h3
  injection h3 with h4 h5
  simpa using h4

mutual
theorem RV.uniq {h : Heap} {N : Addr → Prop} : ∀ {v v' : V} {u : Value}, RV h N v u → RV h N v' u → v = v'
  | .non, v', u, x, y => by
    unfold RV at x; subst x
    cases v' <;> unfold RV at y <;> first | rfl | (cases y; done) | (obtain ⟨_, y⟩ := y; cases y; done) | (obtain ⟨_, _, y, _⟩ := y; cases y; done) | (obtain ⟨_, _, _, _, y, _⟩ := y; cases y)
  | .bool b, v', u, x, y => by
    unfold RV at x; subst x
    cases v' <;> unfold RV at y <;> first | (injection y with y; rw [y]; done) | (cases y; done) | (obtain ⟨_, y⟩ := y; cases y; done) | (obtain ⟨_, _, y, _⟩ := y; cases y; done) | (obtain ⟨_, _, _, _, y, _⟩ := y; cases y)
  | .int i, v', u, x, y => by
    unfold RV at x; obtain ⟨t, rfl⟩ := x
    cases v' <;> unfold RV at y <;> first | (cases y; done) | (obtain ⟨_, y⟩ := y; injection y with y; rw [y]; done) | (obtain ⟨_, y⟩ := y; cases y; done) | (obtain ⟨_, _, y, _⟩ := y; cases y; done) | (obtain ⟨_, _, _, _, y, _⟩ := y; cases y)
  | .str l, v', u, x, y => by
    unfold RV at x; obtain ⟨t, rfl⟩ := x
    cases v' <;> unfold RV at y <;> first | (cases y; done) | (obtain ⟨_, y⟩ := y; injection y with y; injection y with y; have := congrArg Array.toList y; simp at this; rw [this]; done) | (obtain ⟨_, y⟩ := y; cases y; done) | (obtain ⟨_, _, y, _⟩ := y; cases y; done) | (obtain ⟨_, _, _, _, y, _⟩ := y; cases y)
  | .byt l, v', u, x, y => by
    unfold RV at x; obtain ⟨t, rfl⟩ := x
    cases v' <;> unfold RV at y <;> first | (cases y; done) | (obtain ⟨_, y⟩ := y; injection y with y; have := congrArg Array.toList y; simp at this; rw [this]; done) | (obtain ⟨_, y⟩ := y; cases y; done) | (obtain ⟨_, _, y, _⟩ := y; cases y; done) | (obtain ⟨_, _, _, _, y, _⟩ := y; cases y)
  | .tup l, v', u, x, y => by
    unfold RV at x
    obtain ⟨a, us, rfl, n, ⟨o, ho, hc, k, hd⟩, z⟩ := x
    cases v' with
    | tup l' =>
      unfold RV at y
      obtain ⟨a', us', e, n', ⟨o', ho', hc', k', hd'⟩, z'⟩ := y
      cases e
      rw [ho] at ho'; cases ho'
      rw [hd] at hd'
      injection hd' with e1 e2
      have e1 : us = us' := by simpa using e1
      subst e1
      rw [RVs.uniq z z']
    | lst l' =>
      unfold RV at y
      obtain ⟨a', us', e, n', ⟨k', p⟩, z'⟩ := y
      cases e
      rw [ho] at p; cases p
      simp at hc
    | rng p q =>
      unfold RV at y
      obtain ⟨a', t1, t2, t3, e, n', p⟩ := y
      cases e
      have p' : h.get? a = some _ := p
      rw [ho] at p'; cases p'
      simp at hc
    | non => unfold RV at y; cases y
    | bool => unfold RV at y; cases y
    | int => unfold RV at y; obtain ⟨_, y⟩ := y; cases y
    | str => unfold RV at y; obtain ⟨_, y⟩ := y; cases y
    | byt => unfold RV at y; obtain ⟨_, y⟩ := y; cases y
  | .lst l, v', u, x, y => by
    unfold RV at x
    obtain ⟨a, us, rfl, n, ⟨k, ho⟩, z⟩ := x
    cases v' with
    | tup l' =>
      unfold RV at y
      obtain ⟨a', us', e, n', ⟨o', ho', hc', k', hd'⟩, z'⟩ := y
      cases e
      rw [ho] at ho'; cases ho'
      simp at hc'
    | lst l' =>
      unfold RV at y
      obtain ⟨a', us', e, n', ⟨k', p⟩, z'⟩ := y
      cases e
      rw [ho] at p
      have e1 := toList_inj p
      subst e1
      rw [RVs.uniq z z']
    | rng p q =>
      unfold RV at y
      obtain ⟨a', t1, t2, t3, e, n', p⟩ := y
      cases e
      have p' : h.get? a = some _ := p
      rw [ho] at p'; simp at p'
    | non => unfold RV at y; cases y
    | bool => unfold RV at y; cases y
    | int => unfold RV at y; obtain ⟨_, y⟩ := y; cases y
    | str => unfold RV at y; obtain ⟨_, y⟩ := y; cases y
    | byt => unfold RV at y; obtain ⟨_, y⟩ := y; cases y
  | .rng p q, v', u, x, y => by
    unfold RV at x
    obtain ⟨a, t1, t2, t3, rfl, n, ho⟩ := x
    have ho' : h.get? a = some _ := ho
    cases v' with
    | tup l' =>
      unfold RV at y
      obtain ⟨a', us', e, n', ⟨o', hq, hc', k', hd'⟩, z'⟩ := y
      cases e
      rw [ho'] at hq; cases hq
      simp at hc'
    | lst l' =>
      unfold RV at y
      obtain ⟨a', us', e, n', ⟨k', p⟩, z'⟩ := y
      cases e
      rw [ho'] at p; simp at p
    | rng p' q' =>
      unfold RV at y
      obtain ⟨a', t1', t2', t3', e, n', p⟩ := y
      cases e
      have p' : h.get? a = some _ := p
      rw [ho'] at p'
      injection p' with p'
      injection p' with e1 e2 e3
      injection e3 with e3
      simp at e3
      obtain ⟨⟨e1, _⟩, ⟨e2, _⟩, _⟩ := e3
      rw [e1, e2]
    | non => unfold RV at y; cases y
    | bool => unfold RV at y; cases y
    | int => unfold RV at y; obtain ⟨_, y⟩ := y; cases y
    | str => unfold RV at y; obtain ⟨_, y⟩ := y; cases y
    | byt => unfold RV at y; obtain ⟨_, y⟩ := y; cases y
theorem RVs.uniq {h : Heap} {N : Addr → Prop} : ∀ {vs vs' : List V} {us : List Value}, RVs h N vs us → RVs h N vs' us → vs = vs'
  | [], vs', us, x, y => by
    unfold RVs at x; subst x
    cases vs' with
    | nil => rfl
    | cons => unfold RVs at y; obtain ⟨_, _, e, _⟩ := y; cases e
  | v :: vs, vs', us, x, y => by
    unfold RVs at x
    obtain ⟨u, us₀, rfl, a, b⟩ := x
    cases vs' with
    | nil => unfold RVs at y; cases y
    | cons v' vs' =>
      unfold RVs at y
      obtain ⟨u', us', e, a', b'⟩ := y
      cases e
      rw [RV.uniq a a', RVs.uniq b b']
end

/-! equality -/
noncomputable def allO : List (Option Bool) → Option Bool
  | [] => some true
  | some b :: r => (allO r).map (b && ·)
  | none :: _ => none
noncomputable def veq : Nat → V → V → Option Bool
  | _, .int a, .int b => some (a == b)
  | _, .str a, .str b => some (a == b)
  | _, .bool a, .bool b => some (a == b)
  | _, .byt a, .byt b => some (a == b)
  | k + 1, .lst a, .lst b => if a.length = b.length then allO (List.zipWith (veq k) a b) else some false
  | k + 1, .tup a, .tup b => if a.length = b.length then allO (List.zipWith (veq k) a b) else none
  | _, _, _ => none

theorem allO_spec : ∀ {xs : List (Option Bool)} {c : Bool}, allO xs = some c → (∀ j (h : j < xs.length), ∃ b, xs[j] = some b) ∧ c = (List.range xs.length).all (fun j => (xs[j]?.bind id).getD false)
  | [], c, h => by cases h; exact ⟨fun j h => absurd h (Nat.not_lt_zero _), rfl⟩
  | some b :: r, c, h => by
    unfold allO at h
    obtain ⟨c', e, rfl⟩ := Option.map_eq_some_iff.mp h
    obtain ⟨h1, h2⟩ := allO_spec e
    refine ⟨fun j hj => ?_, ?_⟩
    · cases j with
      | zero => exact ⟨b, rfl⟩
      | succ j => exact h1 j (by simpa using hj)
    · rw [List.length_cons, List.range_succ_eq_map, List.all_cons, List.all_map, h2]
      simp [Function.comp_def]
  | none :: _, c, h => by cases h

theorem allO_all {xs : List (Option Bool)} {c : Bool} (h : allO xs = some c) (ht : ∀ x ∈ xs, ∀ b, x = some b → b = true) : c = true := by
  induction xs generalizing c with
  | nil => cases h; rfl
  | cons x xs ih =>
    cases x with
    | none => cases h
    | some b =>
      unfold allO at h
      obtain ⟨c', e, rfl⟩ := Option.map_eq_some_iff.mp h
      rw [ih e (fun x hx => ht x (List.mem_cons_of_mem _ hx)), ht (some b) (List.mem_cons_self ..) b rfl]; rfl

theorem zip_same_mem {f : V → V → Option Bool} : ∀ {l : List V} {x : Option Bool}, x ∈ List.zipWith f l l → ∃ a, x = f a a
  | [], x, h => by simp at h
  | a :: l, x, h => by
    rw [List.zipWith_cons_cons] at h
    rcases List.mem_cons.mp h with h | h
    · exact ⟨a, h⟩
    · exact zip_same_mem h

theorem veq_self : ∀ (k : Nat) (v : V) (c : Bool), veq k v v = some c → c = true := by
  intro k
  induction k with
  | zero => intro v c h; cases v <;> simp [veq] at h <;> first | exact h | exact h.symm
  | succ k ih =>
    intro v c h
    cases v with
    | lst l =>
      simp only [veq, if_true] at h
      exact allO_all h fun x hx b e => by obtain ⟨a, ea⟩ := zip_same_mem hx; exact ih a b (ea ▸ e)
    | tup l =>
      simp only [veq, if_true] at h
      exact allO_all h fun x hx b e => by obtain ⟨a, ea⟩ := zip_same_mem hx; exact ih a b (ea ▸ e)
    | _ => simp [veq] at h <;> first | exact h | exact h.symm

theorem beq_eq_decide' (a b : List UInt8) : ((a == b) : Bool) = decide (a.toArray.toList = b.toArray.toList) := by
  rw [Bool.eq_iff_iff]; simp

theorem str_beq (a b : List Nat) : ((⟨a.toArray⟩ : Str) == ⟨b.toArray⟩) = (a == b) := by
  rw [Bool.eq_iff_iff]
  simp

theorem zip_get {f : V → V → Option Bool} {l m : List V} {j : Nat} {b : Bool} (h : (List.zipWith f l m)[j]? = some (some b)) : ∃ x y, l[j]? = some x ∧ m[j]? = some y ∧ f x y = some b := by
  rw [List.getElem?_zipWith] at h
  cases e1 : l[j]? with
  | none => simp [e1] at h
  | some x =>
    cases e2 : m[j]? with
    | none => simp [e1, e2] at h
    | some y => simp [e1, e2] at h; exact ⟨x, y, rfl, rfl, h⟩

/-- equality of the items, and of what they are items of -/
theorem rc_items {A : Around} {s : Shared} {N : Addr → Prop} {k : Nat} {l m : List V} {us ws : List Value} {c : Bool} (zl : RVs s.heap N l us) (zm : RVs s.heap N m ws) (hlen : l.length = m.length)
    (e : allO (List.zipWith (veq k) l m) = some c) (ih : ∀ {a b : V} {u v : Value} {c : Bool}, RV s.heap N a u → RV s.heap N b v → veq k a b = some c → SeqAt.EqAt A.in1 s u v c) :
    ∃ f : Nat → Bool, c = (List.range us.toArray.size).all f ∧ ∀ j (h1 : j < us.toArray.size) (h2 : j < ws.toArray.size), SeqAt.EqAt A.in1 s us.toArray[j] ws.toArray[j] (f j) := by
  obtain ⟨h1, h2⟩ := allO_spec e
  have e1 := RVs.length zl
  have e2 := RVs.length zm
  have hz : (List.zipWith (veq k) l m).length = us.length := by rw [List.length_zipWith]; omega
  refine ⟨_, by rw [h2, hz]; rfl, fun j hj hj2 => ?_⟩
  have hj1 : j < us.length := by simpa using hj
  have hj2 : j < ws.length := by simpa using hj2
  obtain ⟨b, eb⟩ := h1 j (by omega)
  have eb' : (List.zipWith (veq k) l m)[j]? = some (some b) := by rw [List.getElem?_eq_getElem (by omega), eb]
  obtain ⟨x, y, ex, ey, exy⟩ := zip_get eb'
  rw [eb']
  obtain ⟨u, eu, ru⟩ := zl.get j ex
  obtain ⟨v, ev, rv⟩ := zm.get j ey
  have eu' : us[j] = u := by rw [List.getElem?_eq_getElem hj1] at eu; injection eu
  have ev' : ws[j] = v := by rw [List.getElem?_eq_getElem hj2] at ev; injection ev
  have := ih ru rv exy
  simpa [eu', ev'] using this

theorem eqAt_ : ∀ (k : Nat) {A : Around} {s : Shared} {N : Addr → Prop} {a b : V} {u v : Value} {c : Bool}, RV s.heap N a u → RV s.heap N b v → veq k a b = some c → A.units + k < cLine → SeqAt.EqAt A s u v c := by
  intro k
  induction k with
  | zero =>
    intro A s N a b u v c ra rb e hu
    cases a <;> cases b <;> simp only [veq] at e <;> first | (cases e; done) | skip
    · cases e; unfold RV at ra rb; subst ra rb; exact SeqAt.EqAt.bool_bool _ _
    · cases e; unfold RV at ra rb; obtain ⟨t, rfl⟩ := ra; obtain ⟨t', rfl⟩ := rb; exact SeqAt.EqAt.int_int _ _ _ _
    · cases e; unfold RV at ra rb; obtain ⟨t, rfl⟩ := ra; obtain ⟨t', rfl⟩ := rb; rw [← str_beq]; exact SeqAt.EqAt.str_str _ _ _ _
    · cases e; unfold RV at ra rb; obtain ⟨t, rfl⟩ := ra; obtain ⟨t', rfl⟩ := rb; exact fun prog w E Q h => eqBool_bytes (by rw [← beq_eq_decide']; exact h)
  | succ k ih =>
    intro A s N a b u v c ra rb e hu
    have ih' : ∀ {a b : V} {u v : Value} {c : Bool}, RV s.heap N a u → RV s.heap N b v → veq k a b = some c → SeqAt.EqAt A.in1 s u v c := fun p q e => ih p q e (by show A.units + 1 + k < cLine; omega)
    cases a <;> cases b <;> simp only [veq] at e <;> first | (cases e; done) | skip
    · cases e; unfold RV at ra rb; subst ra rb; exact SeqAt.EqAt.bool_bool _ _
    · cases e; unfold RV at ra rb; obtain ⟨t, rfl⟩ := ra; obtain ⟨t', rfl⟩ := rb; exact SeqAt.EqAt.int_int _ _ _ _
    · cases e; unfold RV at ra rb; obtain ⟨t, rfl⟩ := ra; obtain ⟨t', rfl⟩ := rb; rw [← str_beq]; exact SeqAt.EqAt.str_str _ _ _ _
    · cases e; unfold RV at ra rb; obtain ⟨t, rfl⟩ := ra; obtain ⟨t', rfl⟩ := rb; exact fun prog w E Q h => eqBool_bytes (by rw [← beq_eq_decide']; exact h)
    · rename_i l m
      have keep := ra
      have keep2 := rb
      unfold RV at ra rb
      obtain ⟨p, us, rfl, np, hp, zp⟩ := ra
      obtain ⟨q, ws, rfl, nq, hq, zq⟩ := rb
      split at e
      · rename_i hlen
        by_cases hpq : p = q
        · subst hpq
          have := RV.uniq keep keep2
          cases this
          rw [allO_all e fun x hx b e => by obtain ⟨a, ea⟩ := zip_same_mem hx; exact veq_self k a b (ea ▸ e)]
          exact SeqAt.EqAt.same _
        · obtain ⟨f, rfl, hf⟩ := rc_items zp zq hlen e ih'
          refine SeqAt.EqAt.of_refs hpq ?_
          have := SeqAt.RcAt.tuples hp hq (by omega) hf
          have hsz : us.length = ws.length := by rw [RVs.length zp, RVs.length zq, hlen]
          simpa [hsz] using this
      · cases e
    · rename_i l m
      have keep := ra
      have keep2 := rb
      unfold RV at ra rb
      obtain ⟨p, us, rfl, np, hp, zp⟩ := ra
      obtain ⟨q, ws, rfl, nq, hq, zq⟩ := rb
      split at e
      · rename_i hlen
        by_cases hpq : p = q
        · subst hpq
          have := RV.uniq keep keep2
          cases this
          rw [allO_all e fun x hx b e => by obtain ⟨a, ea⟩ := zip_same_mem hx; exact veq_self k a b (ea ▸ e)]
          exact SeqAt.EqAt.same _
        · obtain ⟨f, rfl, hf⟩ := rc_items zp zq hlen e ih'
          exact SeqAt.EqAt.of_refs hpq (SeqAt.RcAt.lists hp.isList hq.isList (by simp [RVs.length zp, RVs.length zq, hlen]) (by omega) hf)
      · rename_i hlen
        cases e
        by_cases hpq : p = q
        · subst hpq
          have := RV.uniq keep keep2
          cases this
          exact absurd rfl hlen
        · exact SeqAt.EqAt.of_refs hpq (SeqAt.RcAt.lists_lengths hp.isList hq.isList (by simp [RVs.length zp, RVs.length zq, hlen]) (by omega))

theorem rcAt_ (k : Nat) {A : Around} {s : Shared} {N : Addr → Prop} {a b : V} {u v : Value} {c : Bool} (ra : RV s.heap N a u) (rb : RV s.heap N b v) (e : veq (k + 1) a b = some c) (hu : A.units + k + 1 < cLine) : SeqAt.RcAt A s u v c ∧ SeqAt.RcNeAt A s u v (!c) := by
  have ih' : ∀ {a b : V} {u v : Value} {c : Bool}, RV s.heap N a u → RV s.heap N b v → veq k a b = some c → SeqAt.EqAt A.in1 s u v c := fun p q e => eqAt_ k p q e (by show A.units + 1 + k < cLine; omega)
  cases a <;> cases b <;> simp only [veq] at e <;> first | (cases e; done) | skip
  · cases e; unfold RV at ra rb; subst ra rb; exact ⟨SeqAt.RcAt.bool_bool _ _, SeqAt.RcNeAt.bool_bool _ _⟩
  · cases e; unfold RV at ra rb; obtain ⟨t, rfl⟩ := ra; obtain ⟨t', rfl⟩ := rb; exact ⟨SeqAt.RcAt.int_int _ _ _ _, SeqAt.RcNeAt.int_int _ _ _ _⟩
  · cases e; unfold RV at ra rb; obtain ⟨t, rfl⟩ := ra; obtain ⟨t', rfl⟩ := rb; rw [← str_beq]; exact ⟨SeqAt.RcAt.str_str _ _ _ _, SeqAt.RcNeAt.str_str _ _ _ _⟩
  · cases e; unfold RV at ra rb; obtain ⟨t, rfl⟩ := ra; obtain ⟨t', rfl⟩ := rb
    exact ⟨fun prog w E Q h => eq_bytes h, fun prog w E Q h => ne_bytes h⟩
  · rename_i l m
    unfold RV at ra rb
    obtain ⟨p, us, rfl, np, hp, zp⟩ := ra
    obtain ⟨q, ws, rfl, nq, hq, zq⟩ := rb
    split at e
    · rename_i hlen
      obtain ⟨f, rfl, hf⟩ := rc_items zp zq hlen e ih'
      have hsz : us.length = ws.length := by rw [RVs.length zp, RVs.length zq, hlen]
      have h1 := SeqAt.RcAt.tuples hp hq (by omega) hf
      have h2 := SeqAt.RcNeAt.tuples hp hq (by omega) hf
      exact ⟨by simpa [hsz] using h1, by simpa [hsz] using h2⟩
    · cases e
  · rename_i l m
    unfold RV at ra rb
    obtain ⟨p, us, rfl, np, hp, zp⟩ := ra
    obtain ⟨q, ws, rfl, nq, hq, zq⟩ := rb
    split at e
    · rename_i hlen
      obtain ⟨f, rfl, hf⟩ := rc_items zp zq hlen e ih'
      have hsz : us.toArray.size = ws.toArray.size := by simp [RVs.length zp, RVs.length zq, hlen]
      exact ⟨SeqAt.RcAt.lists hp.isList hq.isList hsz (by omega) hf, SeqAt.RcNeAt.lists hp.isList hq.isList hsz (by omega) hf⟩
    · rename_i hlen
      cases e
      have hsz : (us.toArray.size != ws.toArray.size) = true := by simp [RVs.length zp, RVs.length zq, hlen]
      exact ⟨SeqAt.RcAt.lists_lengths hp.isList hq.isList hsz (by omega), SeqAt.RcNeAt.lists_lengths hp.isList hq.isList hsz (by omega)⟩

noncomputable def R.asV : R → V
  | .val v => v
  | .new l => .lst l
  | .own l => .lst l
theorem RR.asV {h₀ h : Heap} {N O : Addr → Prop} {u : Value} : ∀ {r : R}, RR h₀ h N O u r → RV h (fun _ => False) r.asV u
  | .val v, x => RV.mono (fun b o e n => ⟨e, id⟩) x
  | .new l, x => by obtain ⟨a, us, e, p, z⟩ := x.items (l := l) rfl; unfold R.asV RV; exact ⟨a, us, e, id, p, RVs.mono (fun b o e n => ⟨e, id⟩) z⟩
  | .own l, x => by obtain ⟨a, us, e, p, z⟩ := x.items (l := l) rfl; unfold R.asV RV; exact ⟨a, us, e, id, p, RVs.mono (fun b o e n => ⟨e, id⟩) z⟩

noncomputable def eqR (a b : R) : Option R := (veq 5 a.asV b.asV).map fun c => .val (.bool c)
noncomputable def neR (a b : R) : Option R := (veq 5 a.asV b.asV).map fun c => .val (.bool (!c))
section
variable {C : Cx} {n : Nat}
theorem o_eq : OpB C (n + 1) (compareOp .Eq) eqR := by
  intro A s h₀ X O u v a b r hA hG hk ra rb e Q E h
  obtain ⟨c, ec, rfl⟩ := Option.map_eq_some_iff.mp e
  have hu := hA.2.2
  exact (rcAt_ 4 ra.asV rb.asV ec (by omega)).1 _ _ E Q (h _ s (Ext.refl s) (rBool _))
theorem o_ne : OpB C (n + 1) (compareOp .NotEq) neR := by
  intro A s h₀ X O u v a b r hA hG hk ra rb e Q E h
  obtain ⟨c, ec, rfl⟩ := Option.map_eq_some_iff.mp e
  have hu := hA.2.2
  exact (rcAt_ 4 ra.asV rb.asV ec (by omega)).2 _ _ E Q (h _ s (Ext.refl s) (rBool _))
end
end Mine

namespace Mine

/-! occurrences, over lists -/
noncomputable def occG (x y : List Nat) (hi limit : Nat) : List Nat → Nat → Nat → List Nat
  | [], _, _ => []
  | i :: l, free, k => if ((k < limit ∧ free ≤ i) ∧ i + y.length ≤ hi) ∧ ((x.drop i).take y.length == y) = true then i :: occG x y hi limit l (i + y.length) (k + 1) else occG x y hi limit l free k
noncomputable def occL (x y : List Nat) (lo hi limit : Nat) : List Nat := occG x y hi limit (List.range' lo (hi + 1 - lo)) lo 0

theorem occG_eq (x y : List Nat) (hi limit : Nat) : ∀ (l : List Nat) (free : Nat) (acc : Array Nat),
    (forIn l (acc, free) (StrLaws.occBody ⟨x.toArray⟩ ⟨y.toArray⟩ hi limit)).run.fst.toList = acc.toList ++ occG x y hi limit l free acc.size
  | [], free, acc => by simp [occG]
  | i :: l, free, acc => by
    have e : Builtin.Str.subAt (⟨x.toArray⟩ : Str) ⟨y.toArray⟩ i = ((x.drop i).take y.length == y) := by rw [StrLaws.subAt_eq]; simp [PySem.Str.length]
    have e2 : (⟨y.toArray⟩ : Str).length = y.length := by simp [PySem.Str.length]
    rw [List.forIn_cons]
    unfold occG
    by_cases h : ((acc.size < limit ∧ free ≤ i) ∧ i + y.length ≤ hi) ∧ ((x.drop i).take y.length == y) = true
    · have hb : StrLaws.occBody ⟨x.toArray⟩ ⟨y.toArray⟩ hi limit i (acc, free) = pure (.yield (acc.push i, i + y.length)) := by
        unfold StrLaws.occBody
        rw [e, e2]
        exact if_pos h
      rw [if_pos h, hb]
      have := occG_eq x y hi limit l (i + y.length) (acc.push i)
      simpa using this
    · have hb : StrLaws.occBody ⟨x.toArray⟩ ⟨y.toArray⟩ hi limit i (acc, free) = pure (.yield (acc, free)) := by
        unfold StrLaws.occBody
        rw [e, e2]
        exact if_neg h
      rw [if_neg h, hb]
      exact occG_eq x y hi limit l free acc
theorem occ_L (x y : List Nat) (lo hi limit : Nat) : Builtin.Str.occurrences (⟨x.toArray⟩ : Str) ⟨y.toArray⟩ lo hi limit = occL x y lo hi limit := by
  rw [StrLaws.occ_eq, occG_eq]; simp [occL]

/-! membership -/
noncomputable def anyO : List (Option Bool) → Option Bool
  | [] => some false
  | some b :: r => (anyO r).map (b || ·)
  | none :: _ => none

open Classical in
noncomputable def eqW (s : Shared) (k : Nat) (x : V) (y : Value) : Bool := decide (∃ v, RV s.heap (fun _ => False) v y ∧ veq k v x = some true)
open Classical in
theorem eqW_eq {s : Shared} {k : Nat} {x v : V} {y : Value} {c : Bool} (r : RV s.heap (fun _ => False) v y) (e : veq k v x = some c) : eqW s k x y = c := by
  unfold eqW
  cases c with
  | true => exact decide_eq_true ⟨v, r, e⟩
  | false =>
    refine decide_eq_false fun ⟨v', r', e'⟩ => ?_
    have := RV.uniq r r'
    subst this
    rw [e] at e'; cases e'
theorem any_eqW {s : Shared} {k : Nat} {x : V} : ∀ {l : List V} {us : List Value} {c : Bool}, RVs s.heap (fun _ => False) l us → anyO (l.map (veq k · x)) = some c → us.any (eqW s k x) = c
  | [], us, c, z, e => by unfold RVs at z; subst z; cases e; rfl
  | v :: l, us, c, z, e => by
    unfold RVs at z
    obtain ⟨u, us', rfl, r, z⟩ := z
    rw [List.map_cons] at e
    cases e1 : veq k v x with
    | none => rw [e1] at e; cases e
    | some b =>
      rw [e1] at e
      unfold anyO at e
      obtain ⟨c', e2, rfl⟩ := Option.map_eq_some_iff.mp e
      rw [List.any_cons, eqW_eq r e1, any_eqW z e2]
theorem each_eqW {s : Shared} {k : Nat} {x : V} : ∀ {l : List V} {us : List Value} {c : Bool}, RVs s.heap (fun _ => False) l us → anyO (l.map (veq k · x)) = some c → ∀ u ∈ us, ∃ v b, RV s.heap (fun _ => False) v u ∧ veq k v x = some b
  | [], us, c, z, e, u, hu => by unfold RVs at z; subst z; cases hu
  | v :: l, us, c, z, e, u, hu => by
    unfold RVs at z
    obtain ⟨u', us', rfl, r, z⟩ := z
    rw [List.map_cons] at e
    cases e1 : veq k v x with
    | none => rw [e1] at e; cases e
    | some b =>
      rw [e1] at e
      unfold anyO at e
      obtain ⟨c', e2, rfl⟩ := Option.map_eq_some_iff.mp e
      rcases List.mem_cons.mp hu with rfl | hu
      · exact ⟨v, b, r, e1⟩
      · exact each_eqW z e2 u hu

noncomputable def inB : R → R → Option Bool
  | .val (.str a), .val (.str b) => some (!(occL b a 0 b.length 1).isEmpty)
  | a, b => match b.items with
    | some l => anyO (l.map (veq 4 · a.asV))
    | none => none
noncomputable def inR (a b : R) : Option R := (inB a b).map fun c => .val (.bool c)
noncomputable def notInR (a b : R) : Option R := (inB a b).map fun c => .val (.bool (!c))

section
variable {C : Cx} {n : Nat}

theorem o_in : OpB C (n + 1) (compareOp .In) inR := by
  intro A s h₀ X O u v a b r hA hG hk ra rb e Q E h
  obtain ⟨c, ec, rfl⟩ := Option.map_eq_some_iff.mp e
  have hu := hA.2.2
  unfold inB at ec
  split at ec
  · cases ec
    obtain ⟨t, rfl⟩ := ra.str
    obtain ⟨t', rfl⟩ := rb.str
    refine PyProof.Rows.in_str ?_
    rw [occ_L]
    exact h _ s (Ext.refl s) (by simpa [PySem.Str.length] using rBool _)
  · split at ec
    · rename_i l el
      obtain ⟨p, us, rfl, hp, z⟩ := rb.items el
      have z' := RVs.mono (fun b o e n => ⟨e, id⟩ : Moves s.heap s.heap (NX X O) (fun _ => False)) z
      refine SeqAt.in_listAt (eqW s 4 a.asV) hp.isList (fun y hy => ?_) ?_
      · obtain ⟨v, b, r, e⟩ := each_eqW z' ec y (by simpa using hy)
        rw [eqW_eq r e]
        exact eqAt_ 4 r ra.asV e (by show A.units + 1 + 4 < cLine; omega)
      · have := any_eqW z' ec
        rw [show us.toArray.any (eqW s 4 a.asV) = c from by simpa using this]
        exact h _ s (Ext.refl s) (rBool _)
    · cases ec
theorem o_notIn : OpB C (n + 1) (compareOp .NotIn) notInR := by
  intro A s h₀ X O u v a b r hA hG hk ra rb e Q E h
  obtain ⟨c, ec, rfl⟩ := Option.map_eq_some_iff.mp e
  have hu := hA.2.2
  unfold inB at ec
  split at ec
  · cases ec
    obtain ⟨t, rfl⟩ := ra.str
    obtain ⟨t', rfl⟩ := rb.str
    refine PyProof.Rows.notIn_str ?_
    rw [occ_L]
    exact h _ s (Ext.refl s) (by simpa [PySem.Str.length] using rBool _)
  · split at ec
    · rename_i l el
      obtain ⟨p, us, rfl, hp, z⟩ := rb.items el
      have z' := RVs.mono (fun b o e n => ⟨e, id⟩ : Moves s.heap s.heap (NX X O) (fun _ => False)) z
      refine SeqAt.notIn_listAt (eqW s 4 a.asV) hp.isList (fun y hy => ?_) ?_
      · obtain ⟨v, b, r, e⟩ := each_eqW z' ec y (by simpa using hy)
        rw [eqW_eq r e]
        exact eqAt_ 4 r ra.asV e (by show A.units + 1 + 4 < cLine; omega)
      · have := any_eqW z' ec
        rw [show us.toArray.any (eqW s 4 a.asV) = c from by simpa using this]
        exact h _ s (Ext.refl s) (rBool _)
    · cases ec

/-! built-ins -/
theorem RRs.one {h₀ h : Heap} {N O : Addr → Prop} {a : R} {us : List Value} (x : RRs h₀ h N O [a] us) : ∃ u, us = [u] ∧ RR h₀ h N O u a := by
  obtain ⟨u, us', rfl, r, e⟩ := x
  cases e
  exact ⟨u, rfl, r⟩
theorem RRs.two {h₀ h : Heap} {N O : Addr → Prop} {a b : R} {us : List Value} (x : RRs h₀ h N O [a, b] us) : ∃ u v, us = [u, v] ∧ RR h₀ h N O u a ∧ RR h₀ h N O v b := by
  obtain ⟨u, us', rfl, r, x⟩ := x
  obtain ⟨v, rfl, r'⟩ := RRs.one x
  exact ⟨u, v, rfl, r, r'⟩
theorem RRs.three {h₀ h : Heap} {N O : Addr → Prop} {a b c : R} {us : List Value} (x : RRs h₀ h N O [a, b, c] us) : ∃ u v w, us = [u, v, w] ∧ RR h₀ h N O u a ∧ RR h₀ h N O v b ∧ RR h₀ h N O w c := by
  obtain ⟨u, us', rfl, r, x⟩ := x
  obtain ⟨v, w, rfl, r', r''⟩ := RRs.two x
  exact ⟨u, v, w, rfl, r, r', r''⟩
theorem RRs.four {h₀ h : Heap} {N O : Addr → Prop} {a b c d : R} {us : List Value} (x : RRs h₀ h N O [a, b, c, d] us) : ∃ u v w z, us = [u, v, w, z] ∧ RR h₀ h N O u a ∧ RR h₀ h N O v b ∧ RR h₀ h N O w c ∧ RR h₀ h N O z d := by
  obtain ⟨u, us', rfl, r, x⟩ := x
  obtain ⟨v, w, z, rfl, r', r'', r3⟩ := RRs.three x
  exact ⟨u, v, w, z, rfl, r, r', r'', r3⟩

noncomputable def lenR : List R → Option R
  | [.val (.str l)] => if l.length ≤ 1048576 then some (.val (.int l.length)) else none
  | [a] => match a.items with
    | some l => if l.length ≤ 1048576 then some (.val (.int l.length)) else none
    | none => none
  | _ => none
theorem bf_len : BF C n (.builtin "len") lenR := by
  intro A s h₀ X O us rs r hA hG hk rq e Q E h
  unfold lenR at e
  split at e
  · rename_i l
    split at e
    · rename_i hl
      cases e
      obtain ⟨u, rfl, ra⟩ := rq.one
      obtain ⟨t, rfl⟩ := ra.str
      refine PySem.P.len_str (by simp [PySem.Str.length]; omega) (h _ _ (Ext.toks s _ (by omega)) ?_)
      have : ((⟨l.toArray⟩ : Str).length : Int) = (l.length : Int) := by simp [PySem.Str.length]
      rw [this]; exact rInt _ _
    · cases e
  · split at e
    · rename_i l el
      split at e
      · rename_i hl
        cases e
        obtain ⟨u, rfl, ra⟩ := rq.one
        obtain ⟨a, us, rfl, p, z⟩ := ra.items el
        have hz := RVs.length z
        refine PyProof.Rows.len_list p.isList (by simp; omega) (h _ _ (Ext.toks s _ (by omega)) ?_)
        have : (us.toArray.size : Int) = (l.length : Int) := by simp [hz]
        rw [this]; exact rInt _ _
      · cases e
    · cases e
  · cases e

noncomputable def absR : List R → Option R
  | [.val (.int i)] => some (.val (.int (if i < 0 then -i else i)))
  | _ => none
theorem bf_abs : BF C n (.builtin "abs") absR := by
  intro A s h₀ X O us rs r hA hG hk rq e Q E h
  unfold absR at e
  split at e
  · cases e
    obtain ⟨u, rfl, ra⟩ := rq.one
    obtain ⟨t, rfl⟩ := ra.int
    exact tk_ (PyProof.Rows.call_abs_int fun u tk hk => h _ _ (Ext.toks s tk hk) (rInt _ _))
  · cases e

noncomputable def intR : List R → Option R
  | [.val (.int i)] => some (.val (.int i))
  | _ => none
theorem bf_int : BF C n (.type "int") intR := by
  intro A s h₀ X O us rs r hA hG hk rq e Q E h
  unfold intR at e
  split at e
  · cases e
    obtain ⟨u, rfl, ra⟩ := rq.one
    obtain ⟨t, rfl⟩ := ra.int
    exact PySem.call_int_int (h _ _ (Ext.refl s) (rInt _ _))
  · cases e

theorem fresh_not {s : Shared} {h₀ : Heap} {N : Addr → Prop} (hN : ∀ a, N a → ∃ o, h₀.get? a = some o) (hk : ∀ b o, h₀.get? b = some o → s.heap.get? b = some o) : ¬ N s.heap.objs.size := fun q => by
  obtain ⟨o, e⟩ := hN _ q
  have := hk _ _ e
  rw [fresh_none] at this; cases this

noncomputable def divmodR : List R → Option R
  | [.val (.int a), .val (.int b)] => if b ≠ 0 ∧ b.natAbs < 1073741824 then some (.val (.tup [.int (a.fdiv b), .int (a.fmod b)])) else none
  | _ => none
theorem bf_divmod : BF C n (.builtin "divmod") divmodR := by
  intro A s h₀ X O us rs r hA hG hk rq e Q E h
  unfold divmodR at e
  split at e
  · split at e
    · rename_i hb
      cases e
      obtain ⟨u, v, rfl, ra, rb⟩ := rq.two
      obtain ⟨t, rfl⟩ := ra.int
      obtain ⟨t', rfl⟩ := rb.int
      refine PyProof.Rows.divmod_int hb.1 (h _ _ (Ext.push s _ _ (by omega)) ?_) (.inl (PyProof.noPylong_small hb.2))
      unfold RR RV
      refine ⟨_, [_, _], rfl, fresh_not hG.ex hk, ⟨_, Heap.get?_push_size _ rfl, rfl, 0, rfl⟩, RVs.cons (by unfold RV; exact ⟨_, rfl⟩) (RVs.cons (by unfold RV; exact ⟨_, rfl⟩) RVs.nil)⟩
    · cases e
  · cases e

noncomputable def rangeR : List R → Option R
  | [.val (.int b)] => some (.val (.rng 0 b))
  | [.val (.int a), .val (.int b)] => some (.val (.rng a b))
  | _ => none
theorem bf_range : BF C n (.type "range") rangeR := by
  intro A s h₀ X O us rs r hA hG hk rq e Q E h
  unfold rangeR at e
  split at e
  · cases e
    obtain ⟨u, rfl, ra⟩ := rq.one
    obtain ⟨t, rfl⟩ := ra.int
    refine PySem.call_range_1 (h _ _ (Ext.push s _ _ (by omega)) ?_)
    unfold RR RV
    exact ⟨_, _, _, _, rfl, fresh_not hG.ex hk, Heap.get?_push_size _ rfl⟩
  · cases e
    obtain ⟨u, v, rfl, ra, rb⟩ := rq.two
    obtain ⟨t, rfl⟩ := ra.int
    obtain ⟨t', rfl⟩ := rb.int
    refine PySem.call_range_2 (h _ _ (Ext.push s _ _ (by omega)) ?_)
    unfold RR RV
    exact ⟨_, _, _, _, rfl, fresh_not hG.ex hk, Heap.get?_push_size _ rfl⟩
  · cases e

noncomputable def ofI : List V → Option (List Int)
  | [] => some []
  | .int i :: r => (ofI r).map (i :: ·)
  | _ :: _ => none
theorem RVs.ints {h : Heap} {N : Addr → Prop} : ∀ {l : List V} {is : List Int} {us : List Value}, ofI l = some is → RVs h N l us → ∃ xs : List (Int × Tok), us = xs.map (fun p => .int p.1 p.2) ∧ xs.map (·.1) = is
  | [], is, us, e, z => by unfold RVs at z; subst z; cases e; exact ⟨[], rfl, rfl⟩
  | .int i :: r, is, us, e, z => by
    unfold RVs at z
    obtain ⟨u, us', rfl, a, z⟩ := z
    unfold RV at a
    obtain ⟨t, rfl⟩ := a
    unfold ofI at e
    obtain ⟨is', e', rfl⟩ := Option.map_eq_some_iff.mp e
    obtain ⟨xs, rfl, rfl⟩ := RVs.ints e' z
    exact ⟨(i, t) :: xs, rfl, rfl⟩
  | .non :: _, _, _, e, _ => by cases e
  | .bool _ :: _, _, _, e, _ => by cases e
  | .str _ :: _, _, _, e, _ => by cases e
  | .byt _ :: _, _, _, e, _ => by cases e
  | .tup _ :: _, _, _, e, _ => by cases e
  | .lst _ :: _, _, _, e, _ => by cases e
  | .rng _ _ :: _, _, _, e, _ => by cases e

noncomputable def sumR : List R → Option R
  | [a] => match a.items.bind ofI with
    | some l => some (.val (.int l.sum))
    | none => none
  | _ => none
theorem bf_sum : BF C n (.builtin "sum") sumR := by
  intro A s h₀ X O us rs r hA hG hk rq e Q E h
  unfold sumR at e
  split at e
  · split at e
    · rename_i l el
      cases e
      obtain ⟨u, rfl, ra⟩ := rq.one
      obtain ⟨ll, e1, e2⟩ := Option.bind_eq_some_iff.mp el
      obtain ⟨a, us, rfl, p, z⟩ := ra.items e1
      obtain ⟨xs, rfl, rfl⟩ := z.ints e2
      have hp : s.heap.IsList a (intItems xs.toArray) := by
        have := p.isList
        unfold intItems
        simpa using this
      refine tk_ (sum_intListG hA.1 hp fun h' tk t' hh hk => ?_)
      rw [preSum_eq, List.take_of_length_le (by simp)]
      exact h _ _ (Ext.heap tk hh hk) (by simpa using rInt _ _)
    · cases e
  · cases e

noncomputable def minL : List Int → Int
  | [] => 0
  | [a] => a
  | a :: r => min a (minL r)
theorem minL_le : ∀ {l : List Int} {a : Int}, a ∈ l → minL l ≤ a
  | [b], a, h => by simp at h; subst h; exact Int.le_refl _
  | b :: c :: r, a, h => by
    rcases List.mem_cons.mp h with rfl | h
    · exact Int.min_le_left _ _
    · exact Int.le_trans (Int.min_le_right _ _) (minL_le h)
theorem minL_mem : ∀ {l : List Int}, l ≠ [] → minL l ∈ l
  | [b], _ => by simp [minL]
  | b :: c :: r, _ => by
    unfold minL
    have := minL_mem (l := c :: r) (by simp)
    rcases Int.le_total b (minL (c :: r)) with h | h
    · rw [Int.min_eq_left h]; simp
    · rw [Int.min_eq_right h]; exact List.mem_cons_of_mem _ this
noncomputable def minR : List R → Option R
  | [.val (.int a), .val (.int b)] => some (.val (.int (if b < a then b else a)))
  | [a] => match a.items.bind ofI with
    | some [] => none
    | some l => some (.val (.int (minL l)))
    | none => none
  | _ => none
theorem bf_min : BF C n (.builtin "min") minR := by
  intro A s h₀ X O us rs r hA hG hk rq e Q E h
  unfold minR at e
  split at e
  · cases e
    obtain ⟨u, v, rfl, ra, rb⟩ := rq.two
    obtain ⟨t, rfl⟩ := ra.int
    obtain ⟨t', rfl⟩ := rb.int
    refine tk_ (min_two_ints hA.1 fun h' tk hh hk => h _ _ (Ext.heap tk hh hk) ?_)
    split
    · exact rInt _ _
    · exact rInt _ _
  · split at e
    · cases e
    · rename_i l hl el
      cases e
      obtain ⟨u, rfl, ra⟩ := rq.one
      obtain ⟨ll, e1, e2⟩ := Option.bind_eq_some_iff.mp el
      obtain ⟨a, us, rfl, p, z⟩ := ra.items e1
      obtain ⟨xs, rfl, rfl⟩ := z.ints e2
      have hp : s.heap.IsList a (intItems xs.toArray) := by
        have := p.isList
        unfold intItems
        simpa using this
      have hne : xs ≠ [] := fun q => hl (by rw [q]; rfl)
      have hsz : 0 < xs.toArray.size := by simpa using List.length_pos_iff.mpr hne
      refine tk_ (min_intList hA.1 hp hsz fun v h' tk hv hh hk => ?_)
      obtain ⟨t, rfl⟩ := intItems_at hv
      obtain ⟨h1, h2⟩ := argBest_lt (numAt xs.toArray) (xs.toArray.size - 1)
      refine h _ _ (Ext.heap tk hh hk) ?_
      have key : numAt xs.toArray (argBest (fun i j => decide (numAt xs.toArray i < numAt xs.toArray j)) (xs.toArray.size - 1)) = minL (xs.map (·.1)) := by
        have hm := minL_mem (l := xs.map (·.1)) (by simpa using hne)
        apply Int.le_antisymm
        · obtain ⟨j, hj, ej⟩ := List.mem_iff_getElem.mp hm
          have hj' : j < xs.length := by simpa using hj
          have := h2 j (by simp; omega)
          have e3 : numAt xs.toArray j = minL (xs.map (·.1)) := by
            rw [← ej]; simp [numAt, hj']
          rw [e3] at this; exact this
        · refine minL_le ?_
          rw [List.mem_iff_getElem]
          have hb : argBest (fun i j => decide (numAt xs.toArray i < numAt xs.toArray j)) (xs.toArray.size - 1) < xs.length := by
            have : xs.toArray.size = xs.length := by simp
            omega
          generalize argBest (fun i j => decide (numAt xs.toArray i < numAt xs.toArray j)) (xs.toArray.size - 1) = k at hb
          exact ⟨k, by simpa using hb, by simp [numAt, hb]⟩
      rw [key]; exact rInt _ _
    · cases e
  · cases e

end
end Mine

namespace Mine

theorem slen (l : List Nat) : (⟨l.toArray⟩ : Str).length = l.length := by simp [PySem.Str.length]
theorem str_of (x : Str) {l : List Nat} (h : x.cps.toList = l) : x = ⟨l.toArray⟩ := by
  apply PySem.Str.ext'; apply Array.ext'; simpa using h

noncomputable def partsL (x : List Nat) (cuts : List Nat) (w : Nat) : List (List Nat) := ((0 :: cuts.map (· + w)).zip (cuts ++ [x.length])).map fun p => (x.drop p.1).take (p.2 - p.1)
theorem parts_L (x : List Nat) (cuts : List Nat) (w : Nat) : Builtin.Str.partsBetween ⟨x.toArray⟩ cuts w = (partsL x cuts w).map fun l => ⟨l.toArray⟩ := by
  unfold Builtin.Str.partsBetween partsL
  rw [slen, List.map_map]
  apply List.map_congr_left
  intro p _
  exact str_of _ (by rw [StrLaws.strSub_toList])
noncomputable def joinL (sep : List Nat) : List (List Nat) → List Nat
  | [] => []
  | [x] => x
  | x :: y :: r => x ++ sep ++ joinL sep (y :: r)
theorem join_L (sep : List Nat) : ∀ ls : List (List Nat), PySem.Str.join ⟨sep.toArray⟩ (ls.map fun l => ⟨l.toArray⟩) = ⟨(joinL sep ls).toArray⟩
  | [] => rfl
  | [x] => rfl
  | x :: y :: r => by
    have := join_L sep (y :: r)
    rw [List.map_cons] at this
    show (⟨x.toArray⟩ : Str) ++ ⟨sep.toArray⟩ ++ PySem.Str.join ⟨sep.toArray⟩ (⟨y.toArray⟩ :: r.map fun l => ⟨l.toArray⟩) = _
    rw [this]
    apply PySem.Str.ext'
    simp [PySem.Str.cps_append, joinL]
theorem glued_L (sep : List Nat) (ls : List (List Nat)) : Builtin.Str.glued ⟨sep.toArray⟩ (ls.map fun l => ⟨l.toArray⟩) = ⟨(joinL sep ls).toArray⟩ := by
  rw [StrLaws.glued_eq_join, join_L]

noncomputable def replL (x y z : List Nat) : List Nat :=
  if ((occL x y 0 x.length (x.length + 1)).isEmpty || (y.length == 0 && z.length == 0)) = true then x
  else joinL z (partsL x (occL x y 0 x.length (x.length + 1)) y.length)
theorem repl_L (x y z : List Nat) : Txt.replace ⟨x.toArray⟩ ⟨y.toArray⟩ ⟨z.toArray⟩ = ⟨(replL x y z).toArray⟩ := by
  unfold Txt.replace replL
  simp only [slen, occ_L]
  split
  · rfl
  · rw [parts_L, glued_L]

noncomputable def startsL (x y : List Nat) : Bool := decide (y.length ≤ x.length) && (x.take y.length == y)
noncomputable def endsL (x y : List Nat) : Bool := decide (y.length ≤ x.length) && ((x.drop (x.length - y.length)).take y.length == y)
theorem starts_L (x y : List Nat) : Txt.startswith ⟨x.toArray⟩ ⟨y.toArray⟩ = startsL x y := by
  unfold Txt.startswith startsL
  rw [StrLaws.subAt_eq, slen, slen]
  simp [slen]
theorem ends_L (x y : List Nat) : Txt.endswith ⟨x.toArray⟩ ⟨y.toArray⟩ = endsL x y := by
  unfold Txt.endswith endsL
  rw [StrLaws.subAt_eq, slen, slen]
  simp [slen]
noncomputable def countL (x y : List Nat) : Int := ((occL x y 0 x.length (x.length + 1)).length : Nat)
theorem count_L (x y : List Nat) : Txt.count ⟨x.toArray⟩ ⟨y.toArray⟩ = countL x y := by
  unfold Txt.count countL
  simp only [slen, occ_L]
noncomputable def findL (x y : List Nat) (lo hi : Nat) : Int := match occL x y lo hi 1 with | i :: _ => (i : Int) | [] => -1

theorem gives_find4 (x y : Str) (lo hi : Int) (t u v w : Tok) (h0 : 0 ≤ lo) (h1 : 0 ≤ hi) (h2 : hi ≤ x.length) :
    Gives (Builtin.«str.find» ⟨[.str x t, .str y u, .int lo v, .int hi w], []⟩) (.int (match Builtin.Str.occurrences x y lo.toNat hi.toNat 1 with | k :: _ => (k : Int) | [] => -1)) := by
  show Gives (match Builtin.Str.occurrences x y (max 0 (if lo < 0 then lo + x.length else lo)).toNat (min (max 0 (if hi < 0 then hi + x.length else hi)).toNat x.length) 1 with | k :: _ => retInt k | [] => (do rule "str.find.not-found"; retInt (-1))) _
  have e1 : (max 0 (if lo < 0 then lo + x.length else lo)) = lo := by split <;> omega
  have e2 : (min (max 0 (if hi < 0 then hi + x.length else hi)).toNat x.length) = hi.toNat := by split <;> omega
  rw [e1, e2]
  cases Builtin.Str.occurrences x y lo.toNat hi.toNat 1 with
  | nil => exact .rule (.of_eq rfl)
  | cons k _ => exact .of_eq rfl

section
variable {C : Cx} {n : Nat}

noncomputable def startsR : List R → Option R
  | [.val (.str x), .val (.str y)] => some (.val (.bool (startsL x y)))
  | _ => none
theorem bf_starts : BF C n (.builtin "str.startswith") startsR := by
  intro A s h₀ X O us rs r hA hG hk rq e Q E h
  unfold startsR at e
  split at e
  · cases e
    obtain ⟨u, v, rfl, ra, rb⟩ := rq.two
    obtain ⟨t, rfl⟩ := ra.str
    obtain ⟨t', rfl⟩ := rb.str
    exact SC.startswith (by rw [starts_L]; exact h _ s (Ext.refl s) (rBool _))
  · cases e
noncomputable def endsR : List R → Option R
  | [.val (.str x), .val (.str y)] => some (.val (.bool (endsL x y)))
  | _ => none
theorem bf_ends : BF C n (.builtin "str.endswith") endsR := by
  intro A s h₀ X O us rs r hA hG hk rq e Q E h
  unfold endsR at e
  split at e
  · cases e
    obtain ⟨u, v, rfl, ra, rb⟩ := rq.two
    obtain ⟨t, rfl⟩ := ra.str
    obtain ⟨t', rfl⟩ := rb.str
    exact SC.endswith (by rw [ends_L]; exact h _ s (Ext.refl s) (rBool _))
  · cases e
noncomputable def countR : List R → Option R
  | [.val (.str x), .val (.str y)] => some (.val (.int (countL x y)))
  | _ => none
theorem bf_count : BF C n (.builtin "str.count") countR := by
  intro A s h₀ X O us rs r hA hG hk rq e Q E h
  unfold countR at e
  split at e
  · cases e
    obtain ⟨u, v, rfl, ra, rb⟩ := rq.two
    obtain ⟨t, rfl⟩ := ra.str
    obtain ⟨t', rfl⟩ := rb.str
    exact SC.count (by rw [count_L]; exact h _ _ (Ext.toks s _) (rInt _ _))
  · cases e
noncomputable def findR : List R → Option R
  | [.val (.str x), .val (.str y), .val (.int lo), .val (.int hi)] => if 0 ≤ lo ∧ 0 ≤ hi ∧ hi ≤ x.length then some (.val (.int (findL x y lo.toNat hi.toNat))) else none
  | _ => none
theorem bf_find : BF C n (.builtin "str.find") findR := by
  intro A s h₀ X O us rs r hA hG hk rq e Q E h
  unfold findR at e
  split at e
  · split at e
    · rename_i x y lo hi hb
      cases e
      obtain ⟨u, v, w, z, rfl, ra, rb, rc, rd⟩ := rq.four
      obtain ⟨t, rfl⟩ := ra.str
      obtain ⟨t', rfl⟩ := rb.str
      obtain ⟨t3, rfl⟩ := rc.int
      obtain ⟨t4, rfl⟩ := rd.int
      refine call_gives PySem.F.slot_str_find (typeIs_str _ _ _) PySem.F.entry_str_find (PySem.F.args_str_find_4 _ _ _ _) (gives_find4 _ _ lo hi _ _ _ _ hb.1 hb.2.1 (by rw [slen]; exact hb.2.2)) ?_
      rw [occ_L]
      exact h _ _ (Ext.toks s _) (rInt _ _)
    · cases e
  · cases e

theorem strKind_ascii {x : List Nat} (h : x.all (· < 128) = true) : Builtin.Str.strKind ⟨x.toArray⟩ = 1 := by
  unfold Builtin.Str.strKind
  rw [if_pos]
  rw [List.all_eq_true] at h
  simp only [List.all_toArray', List.all_eq_true, decide_eq_true_eq] at *
  intro c hc
  have := h c hc
  omega

noncomputable def splitL (x y : List Nat) : List (List Nat) :=
  if x.length < y.length then [x] else
  if (occL x y 0 x.length (x.length + 1)).isEmpty = true then [x] else partsL x (occL x y 0 x.length (x.length + 1)) y.length
noncomputable def splitR : List R → Option R
  | [.val (.str x), .val (.str y)] => if x.all (· < 128) = true ∧ y.all (· < 128) = true ∧ y ≠ [] ∧ x.length ≤ 65536 then some (.new ((splitL x y).map .str)) else none
  | _ => none
theorem RVs.strs {h : Heap} {N : Addr → Prop} : ∀ (tk : Nat) (ls : List (List Nat)), RVs h N (ls.map .str) (strsFrom tk (ls.map fun l => ⟨l.toArray⟩))
  | tk, [] => RVs.nil
  | tk, l :: ls => RVs.cons (by unfold RV; exact ⟨tk, rfl⟩) (RVs.strs (tk + 1) ls)
theorem occG_len (x y : List Nat) (hi lim : Nat) : ∀ (l : List Nat) (f k : Nat), (occG x y hi lim l f k).length ≤ l.length
  | [], f, k => by simp [occG]
  | i :: l, f, k => by
    unfold occG
    split
    · have := occG_len x y hi lim l (i + y.length) (k + 1); simp; omega
    · have := occG_len x y hi lim l f k; simp; omega
theorem bf_split : BF C n (.builtin "str.split") splitR := by
  intro A s h₀ X O us rs r hA hG hk rq e Q E h
  unfold splitR at e
  split at e
  · split at e
    · rename_i x y hb
      cases e
      obtain ⟨u, v, rfl, ra, rb⟩ := rq.two
      obtain ⟨t, rfl⟩ := ra.str
      obtain ⟨t', rfl⟩ := rb.str
      obtain ⟨hx, hy, hne, hlen⟩ := hb
      have hkind : decide (Builtin.Str.strKind (⟨x.toArray⟩ : Str) < Builtin.Str.strKind (⟨y.toArray⟩ : Str)) = false := by rw [strKind_ascii hx, strKind_ascii hy]; rfl
      have self : ∀ (w : R), w = .new [.str x] → (∀ v s', Ext s s' → RR s.heap s'.heap (NX X O) O v w → Q v s') → Q (.ref s.heap.objs.size) { s with heap := s.heap.push { cls := .type "list", data := .seq #[.str ⟨x.toArray⟩ t] } } := by
        intro w ew hw
        subst ew
        have := newL (A := A) (s := s) (X := X) (O := O) (vs := [.str x]) (us := [.str ⟨x.toArray⟩ t]) (RVs.cons (by unfold RV; exact ⟨t, rfl⟩) RVs.nil) (by simp) s.toks
        exact hw _ _ this.1 this.2
      by_cases h1 : x.length < y.length
      · refine call_meets PySem.F.slot_str_split (typeIs_str _ _ _) PySem.F.entry_str_split (PySem.F.args_str_split_2 _ _) (meets_str_split_cannot_occur _ _ t t' (by rw [slen, slen]; simp [h1])) ?_
        exact self _ (by unfold splitL; rw [if_pos h1]; rfl) h
      · have e1 : (decide ((⟨x.toArray⟩ : Str).length < (⟨y.toArray⟩ : Str).length) || decide (Builtin.Str.strKind (⟨x.toArray⟩ : Str) < Builtin.Str.strKind (⟨y.toArray⟩ : Str))) = false := by rw [hkind, slen, slen]; simp; omega
        have e2 : ((⟨y.toArray⟩ : Str).length == 0) = false := by rw [slen]; cases y with | nil => exact absurd rfl hne | cons => rfl
        cases hf : (Builtin.Str.occurrences (⟨x.toArray⟩ : Str) ⟨y.toArray⟩ 0 (⟨x.toArray⟩ : Str).length ((⟨x.toArray⟩ : Str).length + 1)).isEmpty with
        | true =>
          refine call_meets PySem.F.slot_str_split (typeIs_str _ _ _) PySem.F.entry_str_split (PySem.F.args_str_split_2 _ _) (meets_str_split_not_found _ _ t t' e1 e2 hf) ?_
          refine self _ ?_ h
          rw [occ_L, slen] at hf
          unfold splitL; rw [if_neg h1, if_pos hf]; rfl
        | false =>
          have hf' := hf
          rw [occ_L, slen] at hf'
          have hol := occG_len x y x.length (x.length + 1) (List.range' 0 (x.length + 1 - 0)) 0 0
          have hpl : (partsL x (occL x y 0 x.length (x.length + 1)) y.length).length ≤ 16777216 := by
            unfold partsL
            rw [List.length_map, List.length_zip]
            simp only [List.length_cons, List.length_map, List.length_append, List.length_nil]
            simp at hol
            unfold occL
            simp
            omega
          have hn : (Builtin.Str.partsBetween (⟨x.toArray⟩ : Str) (Builtin.Str.occurrences (⟨x.toArray⟩ : Str) ⟨y.toArray⟩ 0 (⟨x.toArray⟩ : Str).length ((⟨x.toArray⟩ : Str).length + 1)) (⟨y.toArray⟩ : Str).length).length ≤ sizeLine := by
            rw [parts_L, occ_L, slen, slen, List.length_map, sizeLine_eq]; exact hpl
          refine call_meets PySem.F.slot_str_split (typeIs_str _ _ _) PySem.F.entry_str_split (PySem.F.args_str_split_2 _ _) (meets_str_split_sep _ _ t t' e1 e2 hf (by rw [slen, sizeLine_eq]; omega) hn) ?_
          rw [parts_L, occ_L, slen, slen]
          have := newL (A := A) (s := s) (X := X) (O := O) (RVs.strs (h := s.heap) (N := NX X O) s.toks (partsL x (occL x y 0 x.length (x.length + 1)) y.length)) (by rw [strsFrom_length, List.length_map]; exact hpl) (s.toks + ((partsL x (occL x y 0 x.length (x.length + 1)) y.length).map fun l => (⟨l.toArray⟩ : Str)).length) (by omega)
          have e4 : splitL x y = partsL x (occL x y 0 x.length (x.length + 1)) y.length := by unfold splitL; rw [if_neg h1, if_neg (by rw [hf']; simp)]
          rw [e4] at h
          exact h _ _ this.1 this.2
    · cases e
  · cases e

noncomputable def ofS : List V → Option (List (List Nat))
  | [] => some []
  | .str l :: r => (ofS r).map (l :: ·)
  | _ :: _ => none
theorem RVs.ofS {h : Heap} {N : Addr → Prop} : ∀ {l : List V} {ls : List (List Nat)} {us : List Value}, Mine.ofS l = some ls → RVs h N l us → StrsAre us (ls.map fun l => ⟨l.toArray⟩)
  | [], ls, us, e, z => by unfold RVs at z; subst z; cases e; exact .nil
  | .str l :: r, ls, us, e, z => by
    unfold RVs at z
    obtain ⟨u, us', rfl, a, z⟩ := z
    unfold RV at a
    obtain ⟨t, rfl⟩ := a
    unfold Mine.ofS at e
    obtain ⟨ls', e', rfl⟩ := Option.map_eq_some_iff.mp e
    exact .cons _ t (RVs.ofS e' z)
  | .non :: _, _, _, e, _ => by cases e
  | .bool _ :: _, _, _, e, _ => by cases e
  | .int _ :: _, _, _, e, _ => by cases e
  | .byt _ :: _, _, _, e, _ => by cases e
  | .tup _ :: _, _, _, e, _ => by cases e
  | .lst _ :: _, _, _, e, _ => by cases e
  | .rng _ _ :: _, _, _, e, _ => by cases e
noncomputable def joinR : List R → Option R
  | [.val (.str sep), .val (.str y)] => if (y.length + y.length * sep.length) ≤ 1048576 then some (.val (.str (joinL sep (y.map fun c => [c])))) else none
  | [.val (.str sep), b] => match b.items.bind ofS with
    | some ls => if (ls.map (·.length)).sum + ls.length * sep.length ≤ 1048576 then some (.val (.str (joinL sep ls))) else none
    | none => none
  | _ => none
theorem sum_ones : ∀ y : List Nat, ((y.map fun c => (⟨#[c]⟩ : Str)).map (·.length)).sum = y.length
  | [] => rfl
  | c :: y => by
    have := sum_ones y
    simp [PySem.Str.length] at this ⊢
    omega
theorem bf_join : BF C n (.builtin "str.join") joinR := by
  intro A s h₀ X O us rs r hA hG hk rq e Q E h
  unfold joinR at e
  split at e
  · split at e
    · rename_i sep y hb
      cases e
      obtain ⟨u, v, rfl, ra, rb⟩ := rq.two
      obtain ⟨t, rfl⟩ := ra.str
      obtain ⟨t', rfl⟩ := rb.str
      have es : PyProof.Rows.signs ⟨y.toArray⟩ = (y.map fun c => [c]).map fun l => ⟨l.toArray⟩ := by simp [PyProof.Rows.signs, Function.comp_def]
      refine tk_ (SC.joinStr hA.1 ?_ fun h' k t'' hh hk => h _ _ (Ext.heap k hh hk) ?_)
      · refine joinOk_of ?_
        have e2 : PyProof.Rows.signs ⟨y.toArray⟩ = y.map fun c => (⟨#[c]⟩ : Str) := by simp [PyProof.Rows.signs]
        rw [e2, sum_ones, slen, List.length_map]
        omega
      · unfold Txt.join
        rw [es, glued_L]
        exact rStr _ _
    · cases e
  · split at e
    · rename_i sep b hno ls el
      split at e
      · rename_i hb
        cases e
        obtain ⟨u, v, rfl, ra, rb⟩ := rq.two
        obtain ⟨t, rfl⟩ := ra.str
        obtain ⟨l, e1, e2⟩ := Option.bind_eq_some_iff.mp el
        obtain ⟨a, us, rfl, p, z⟩ := rb.items e1
        refine tk_ (PyProof.Rows.join_list p.isList (z.ofS e2) ?_ fun t' k hk => h _ _ (Ext.toks s k hk) ?_)
        · rw [List.map_map, slen, List.length_map]
          have : (ls.map ((fun x : Str => x.length) ∘ fun l => ⟨l.toArray⟩)) = ls.map (·.length) := by
            apply List.map_congr_left; intro l _; simp [slen]
          rw [this]
          omega
        · unfold Txt.join
          rw [glued_L]
          exact rStr _ _
      · cases e
    · cases e
  · cases e

/-! list methods -/
noncomputable def idxI (k : Int) : List Int → Option Nat
  | [] => none
  | a :: r => if a = k then some 0 else (idxI k r).map (· + 1)
theorem idxI_spec {k : Int} : ∀ {l : List Int} {j : Nat}, idxI k l = some j → ∃ h : j < l.length, l[j] = k ∧ ∀ m (hm : m < l.length), m < j → l[m] ≠ k
  | [], j, e => by cases e
  | a :: r, j, e => by
    unfold idxI at e
    split at e
    · rename_i h; cases e; exact ⟨by simp, h, fun m _ hm => absurd hm (Nat.not_lt_zero _)⟩
    · rename_i h
      obtain ⟨j', e', rfl⟩ := Option.map_eq_some_iff.mp e
      obtain ⟨h1, h2, h3⟩ := idxI_spec e'
      refine ⟨by simp; omega, by simpa using h2, fun m hm hlt => ?_⟩
      cases m with
      | zero => exact h
      | succ m => simpa using h3 m (by simpa using hm) (by omega)
noncomputable def lindexR : List R → Option R
  | [a, .val (.int k)] => match a.items.bind ofI with
    | some is => if is.length ≤ 1048576 then (idxI k is).map fun (j : Nat) => R.val (.int (j : Int)) else none
    | none => none
  | _ => none
noncomputable def isI (k : Int) : Value → Bool
  | .int x _ => x == k
  | _ => false
theorem bf_lindex : BF C n (.builtin "list.index") lindexR := by
  intro A s h₀ X O us rs r hA hG hk rq e Q E h
  unfold lindexR at e
  split at e
  · split at e
    · rename_i a k _ is el
      split at e
      · rename_i hlen
        obtain ⟨j, ej, rfl⟩ := Option.map_eq_some_iff.mp e
        obtain ⟨u, v, rfl, ra, rb⟩ := rq.two
        obtain ⟨t, rfl⟩ := rb.int
        obtain ⟨l, e1, e2⟩ := Option.bind_eq_some_iff.mp el
        obtain ⟨a, us, rfl, ⟨m, p⟩, z⟩ := ra.items e1
        obtain ⟨xs, rfl, rfl⟩ := z.ints e2
        obtain ⟨h1, h2, h3⟩ := idxI_spec ej
        have h1' : j < xs.length := by simpa using h1
        refine call_meets PySem.F.slot_list_index ⟨_, p, rfl⟩ PySem.F.entry_list_index (PySem.F.args_list_index_2 _ _) (MeetsSeq.list_index a _ m _ (isI k) (fun u hu => ?_) j (by simpa using h1) ?_ ?_ fun q hq hlt => ?_) ⟨p, h _ _ (Ext.toks s _) (rInt _ _)⟩
        · simp at hu
          obtain ⟨x, tt, _, rfl⟩ := hu
          exact MeetsSeq.EqGives.int _ _ _ _
        · have : j < 1048576 := by simp at hlen; omega
          omega
        · simp [isI]
          simpa using h2
        · have := h3 q (by simpa using hq) hlt
          simp [isI]
          simpa using this
      · cases e
    · cases e
  · cases e
end
end Mine

namespace Mine

noncomputable def compL (ft : List S → Option Bool) (fe : List S → Option R) (σf : List S) : List V → Option (List V)
  | [] => some []
  | v :: vs => match ft (.val v :: σf) with
    | some true => (match (fe (.val v :: σf)).bind R.fz with
      | some w => (compL ft fe σf vs).map (w :: ·)
      | none => none)
    | some false => compL ft fe σf vs
    | none => none

section
variable {C : Cx} {F : FD} {n : Nat}

noncomputable def IFs (C : Cx) (F : FD) (n : Nat) (ifs : List Expr) (f : List S → Option Bool) : Prop :=
  ∀ A s X O σ ow b, Rm n A → Fm C F X O s σ ow → f σ = some b →
    ∀ (Q : Bool → Shared → Prop) (E : Value → Shared → Prop), (∀ s', Ext s s' → Q b s') → wpAny C.M A (forIn ifs true fun c r => if r = true then do let ok ← isTrue c F.env (eval c F.env); pure (ForInStep.yield ok) else pure (ForInStep.yield r)) Q E s
theorem ifNil : IFs C F n [] (fun _ => some true) := fun A s X O σ ow b hA f e Q E h => by
  cases e
  exact wpAny_pure (h s (Ext.refl s))
theorem ifOne {t : Expr} {ft : List S → Option Bool} (ht : ST C F n t ft) : IFs C F n [t] ft := fun A s X O σ ow b hA f e Q E h => by
  simp only [List.forIn_cons, List.forIn_nil, if_true]
  refine wpAny_bind (wpAny_bind (ht A s X O σ ow b hA f e _ E fun s' x => wpAny_pure (wpAny_pure (h s' x))))

theorem comp_loop {Fc : FD} {x : Str} {px : Pos} {elt iter : Expr} {ifs : List Expr} {scope : Scope} {pos : Pos} {ft : List S → Option Bool} {fe : List S → Option R} (hx : Fc.vs[0]? = some x) (hw : x ∈ Fc.ws) (hifs : IFs C Fc n ifs ft) (helt : SE C Fc n elt fe)
    {A : Around} (hA : Rm n A) {s₀ : Shared} {Xc Oc : Addr → Prop} {it D : Addr} (hi : Xc it) (hD : Xc D) (hne : D ≠ it) (ni : s₀.heap.get? it = none) (nD : s₀.heap.get? D = none) (nl : s₀.heap.get? Fc.env.locals = none) (ncx : ∀ c, Fc.env.cells.lookup x = some c → s₀.heap.get? c = none)
    {σf : List S} {RC : Result → Shared → Prop} {final : List V} (hlen : final.length ≤ 1048576)
    (hR : ∀ s' us', Ext s₀ s' → s'.heap.PlainList D (List.toArray us') → RVs s'.heap (NX Xc Oc) final us' → (∃ m, s'.heap.Ns Fc.env.locals m) → RC (.ok .next) s')
    {s : Shared} {vs : List V} {y : S} {ow : Nat → Addr} (hIt : It s.heap (NX Xc Oc) (fun b => s₀.heap.get? b = none ∧ b ≠ it) it vs) (f : Fm C Fc Xc Oc s (y :: σf) ow) (hacc : s.heap.PlainList D #[])
    (hc : compL ft fe σf vs = some final) (ext : Ext s₀ s) :
    codeAny C.M A (.compLoop (.ListComp elt [⟨.Name x px, iter, ifs, 0⟩] scope pos) 0 (.ref it) (.ref D) Fc.env) RC s := by
  refine codeAny_compLoop_tests (fun k s' => ∃ vs' y' ow' ws' us' rest', k = vs'.length ∧ It s'.heap (NX Xc Oc) (fun b => s₀.heap.get? b = none ∧ b ≠ it) it vs' ∧ Fm C Fc Xc Oc s' (y' :: σf) ow' ∧ s'.heap.PlainList D (List.toArray us') ∧
    RVs s'.heap (NX Xc Oc) ws' us' ∧ compL ft fe σf vs' = some rest' ∧ final = ws' ++ rest' ∧ Ext s₀ s') ?_ vs.length ⟨vs, y, ow, [], [], final, rfl, hIt, f, hacc, RVs.nil, hc, rfl, ext⟩
  rintro k s' ⟨vs', y', ow', ws', us', rest', rfl, hIt', f', hacc', rvs', hc', rfl, ext'⟩
  have Ni : NX Xc Oc it := .inl hi
  have ND : NX Xc Oc D := .inl hD
  cases vs' with
  | nil =>
    unfold compL at hc'; cases hc'
    refine It.done hA.1 hIt' fun h' hk => ?_
    obtain ⟨ob, fs, hob, hdt⟩ := hIt'.fields
    obtain ⟨m, hm⟩ := f'.ln
    have hml : Fc.env.locals ≠ it := by
      rintro e
      obtain ⟨o', es, ep, e1, d, _⟩ := hm
      rw [e, hob] at e1; cases e1; rw [hdt] at d; cases d
    refine hR _ us' (ext'.skip s'.toks (Nat.le_refl _) ni hk) (let ⟨m, e⟩ := hacc'; ⟨m, hk _ _ hne e⟩) ?_ ⟨m, hm.extBut hk hml⟩
    rw [List.append_nil]
    exact RVs.mono (fun b o e nb => ⟨hk b o (fun q => nb (q ▸ Ni)) e, nb⟩) rvs'
  | cons v vs1 =>
    refine It.item hIt' Ni fun u h1 tk htk sb hex hit1 rv => ?_
    have mv1 : Moves s'.heap h1 (NX Xc Oc) (NX Xc Oc) := moves_same Ni sb
    have f1 : Fm C Fc Xc Oc { s' with heap := h1, toks := tk } (y' :: σf) ow' := f'.other tk htk hi (fun b q => q) sb.extBut hIt'.fields fun b q => .inr hex
    have x1 : Ext s₀ { s' with heap := h1, toks := tk } := ext'.skip tk htk ni sb.extBut
    have hacc1 := PlainList.sameBut hacc' sb hne
    have rvs1 := RVs.mono mv1 rvs'
    refine wpAny_assign_Name (store_valX f1 hx hw rv fun s2 ow2 st2 f2 hp => ?_)
    obtain ⟨p, sbp, hp⟩ := hp
    have Op : Oc p := hp.elim (fun e => e ▸ f1.ol) (fun e => f1.oc x hw p e)
    have np : s₀.heap.get? p = none := hp.elim (fun e => e ▸ nl) (fun e => ncx p e)
    have hDp : D ≠ p := fun e => f1.xo D hD (e ▸ Op)
    have hip : it ≠ p := fun e => f1.xo it hi (e ▸ Op)
    have x2 : Ext s₀ s2 := ⟨fun b o e => (sbp.2 b (fun q => by rw [q, np] at e; cases e)).trans (x1.keep b o e), st2.os.trans x1.os, x1.bare.trans st2.bare, Nat.le_trans x1.tk st2.tk⟩
    have mv2 : Moves h1 s2.heap (NX Xc Oc) (NX Xc Oc) := moves_same (.inr Op) sbp
    have hacc2 := PlainList.sameBut hacc1 sbp hDp
    have rvs2 := RVs.mono mv2 rvs1
    have hit2 : It s2.heap (NX Xc Oc) (fun b => s₀.heap.get? b = none ∧ b ≠ it) it vs1 := hit1.moves mv2 (fun b o e nb => (sbp.2 b (fun q => nb ⟨q ▸ np, fun q' => hip (q'.symm.trans q)⟩)).trans e) (fun _ _ _ nb => nb) (fun q => q.2 rfl)
    rw [show (y' :: σf).set 0 (S.val v) = .val v :: σf from rfl] at f2
    unfold compL at hc'
    cases e1 : ft (.val v :: σf) with
    | none => simp [e1] at hc'
    | some b =>
      refine hifs A s2 Xc Oc _ ow2 b hA f2 e1 _ _ fun s3 y3 => ?_
      have f3 := f2.ext y3
      have x3 := x2.trans y3
      have hit3 : It s3.heap (NX Xc Oc) (fun b => s₀.heap.get? b = none ∧ b ≠ it) it vs1 := hit2.moves (y3.moves _) (fun b o e _ => y3.keep b o e) (fun _ _ _ nb => nb) (fun q => q.2 rfl)
      have hacc3 : s3.heap.PlainList D us'.toArray := let ⟨m, e⟩ := hacc2; ⟨m, y3.keep _ _ e⟩
      have rvs3 := RVs.mono (y3.moves _) rvs2
      cases b with
      | false =>
        simp only [e1] at hc'
        simp only [Bool.false_eq_true, if_false]
        exact ⟨vs1.length, by simp, vs1, _, ow2, ws', us', rest', rfl, hit3, f3, hacc3, rvs3, hc', rfl, x3⟩
      | true =>
        simp only [e1] at hc'
        cases e2 : (fe (.val v :: σf)).bind R.fz with
        | none => simp [e2] at hc'
        | some w =>
          simp only [e2] at hc'
          obtain ⟨r1, e3, rfl⟩ := Option.map_eq_some_iff.mp hc'
          obtain ⟨r, er, ef⟩ := Option.bind_eq_some_iff.mp e2
          simp only [if_true]
          refine helt A s3 Xc Oc _ ow2 r hA f3 er _ _ fun u4 s4 y4 r4 => ?_
          have hacc4 : s4.heap.PlainList D us'.toArray := let ⟨m, e⟩ := hacc3; ⟨m, y4.keep _ _ e⟩
          have hl := RVs.length rvs'
          refine wpAny_list_append_plain hacc4 (fun h5 p5 sb5 => ?_) (by rw [sizeLine_eq]; simp at hlen ⊢; omega)
          have mv5 : Moves s4.heap h5 (NX Xc Oc) (NX Xc Oc) := moves_same ND sb5
          have p5' : h5.PlainList D (us' ++ [u4]).toArray := by simpa using p5
          have f4 := f3.ext y4
          have f5 : Fm C Fc Xc Oc { s4 with heap := h5, toks := s4.toks } (.val v :: σf) ow2 := f4.otherG s4.toks (Nat.le_refl _) hD (fun b q => q) sb5.extBut (fun q => (PlainList.ne_cell hacc4 q).symm) fun b q => .inr (let ⟨m, e⟩ := p5; ⟨_, e⟩)
          refine ⟨vs1.length, by simp, vs1, _, ow2, ws' ++ [w], us' ++ [u4], r1, rfl, ?_, f5, p5', ?_, e3, by simp, (x3.trans y4).skip s4.toks (Nat.le_refl _) nD sb5.extBut⟩
          · have hit4 : It s4.heap (NX Xc Oc) (fun b => s₀.heap.get? b = none ∧ b ≠ it) it vs1 := hit3.moves (y4.moves _) (fun b o e _ => y4.keep b o e) (fun _ _ _ nb => nb) (fun q => q.2 rfl)
            exact hit4.moves mv5 (fun b o e nb => (sb5.2 b (fun q => nb ⟨q ▸ nD, fun q' => hne (q.symm.trans q')⟩)).trans e) (fun _ _ _ nb => nb) (fun q => q.2 rfl)
          · exact RVs.mono mv5 ((RVs.mono (y4.moves _) rvs3).append (RVs.cons (r4.fz f3.gs.ex ef) RVs.nil))
end

section
variable {C : Cx} {F : FD} {n : Nat}

theorem get_map_slot {is : List Nat} {fs vs : List Str} (hat : is.map (fun i => vs[i]?) = fs.map some) {j : Nat} {y : Str} (h : fs[j]? = some y) : ∃ i, is[j]? = some i ∧ vs[i]? = some y := by
  have h1 : (fs.map some)[j]? = some (some y) := by rw [List.getElem?_map, h]; rfl
  rw [← hat, List.getElem?_map] at h1
  obtain ⟨i, e1, e2⟩ := Option.map_eq_some_iff.mp h1
  exact ⟨i, e1, e2⟩

theorem comp_Fm {env' : Env} {x : Str} {fs : List Str} {is : List Nat} {X O N1 N2 : Addr → Prop} {s s' : Shared} {σ : List S} {ow : Nat → Addr} {m : Str → Option Value} (f : Fm C F X O s σ ow) (y : Ext s s')
    (fr1 : ∀ b, N1 b → s.heap.get? b = none) (fr2 : ∀ b, N2 b → s.heap.get? b = none) (ex1 : ∀ b, N1 b → ∃ o, s'.heap.get? b = some o) (ex2 : ∀ b, N2 b → ∃ o, s'.heap.get? b = some o) (nf2 : ∀ b o fs, N2 b → s'.heap.get? b = some o → o.data ≠ .fields fs) (dis : ∀ b, N1 b → ¬ N2 b)
    (hL : N2 env'.locals) (ns : s'.heap.Ns env'.locals m) (hx : VarAt env' s'.heap x none) (hxc : ∀ c, env'.cells.lookup x = some c → N2 c ∧ s'.heap.IsCell c none) (hkx : env'.kindOf x ≠ some .free)
    (hcells : ∀ z ∈ fs, env'.cells.lookup z = F.env.cells.lookup z ∧ F.env.kindOf z ≠ some .local ∧ (env'.kindOf z = some .cell ∨ (env'.kindOf z = some .free ∧ (z == ("__classdict__" : Str)) = false)))
    (hnd : (x :: fs).Nodup) (hat : is.map (fun i => F.vs[i]?) = fs.map some) (kind : env'.scope.kind = .function) (gl : env'.globals = F.env.globals) (bl : env'.builtins = F.env.builtins) :
    Fm C ⟨env', x :: fs, [x], F.t0⟩ (fun b => X b ∨ N1 b) (fun b => O b ∨ N2 b) s' (.unb :: is.map (fun i => (σ[i]?).getD .unb)) (fun j => match j with | 0 => 0 | j + 1 => ow (is.getD j 0)) := by
  have mv : Moves s.heap s'.heap (NX X O) (NX (fun b => X b ∨ N1 b) (fun b => O b ∨ N2 b)) := fun b o e nb => ⟨y.keep b o e, fun q => by
    rcases q with (q | q) | (q | q)
    · exact nb (.inl q)
    · rw [fr1 b q] at e; cases e
    · exact nb (.inr q)
    · rw [fr2 b q] at e; cases e⟩
  have g := f.ext y
  have memv : ∀ z ∈ fs, z ∈ F.vs := fun z hz => by
    obtain ⟨j, hj⟩ := List.getElem?_of_mem hz
    obtain ⟨i, _, e⟩ := get_map_slot hat hj
    exact List.mem_of_getElem? e
  have freshG : ∀ b, s.heap.get? b = none → C.base.get? b = none ∨ C.Px b := fun b hb => by
    by_cases hp : C.Px b
    · exact .inr hp
    · refine .inl ?_
      cases q : C.base.get? b with
      | none => rfl
      | some o => rw [f.gs.keep b o q hp] at hb; cases hb
  refine ⟨⟨g.gs.keep, fun b q => ?_, fun b q => ?_⟩, fun b h q => ?_, .inr hL, fun z hz c hc => ?_, hnd, fun z hz z' hz' c hc hc' => ?_, ⟨m, ns⟩, fun z hz c hc => ?_, fun z hz => ?_, fun z hz => ?_, kind, gl.trans f.gl, bl.trans f.bl, ?_, fun j z w hz hw => ?_, fun j k l l' hj hk e => ?_, g.tp, fun a o fs h e => h.elim (fun h => g.ot a o fs h e) (fun h => nf2 a o fs h e)⟩
  · rcases q with (q | q) | (q | q)
    · exact f.gs.nb b (.inl q)
    · exact freshG b (fr1 b q)
    · exact f.gs.nb b (.inr q)
    · exact freshG b (fr2 b q)
  · rcases q with (q | q) | (q | q)
    · exact g.gs.ex b (.inl q)
    · exact ex1 b q
    · exact g.gs.ex b (.inr q)
    · exact ex2 b q
  · rcases h with h | h
    · rcases q with q | q
      · exact f.xo b h q
      · obtain ⟨o, e⟩ := f.gs.ex b (.inl h)
        rw [fr2 b q] at e; cases e
    · rcases q with q | q
      · obtain ⟨o, e⟩ := f.gs.ex b (.inr q)
        rw [fr1 b h] at e; cases e
      · exact dis b h q
  · rcases List.mem_cons.mp hz with rfl | hz
    · exact .inr (hxc c hc).1
    · cases hz
  · have one : ∀ z' ∈ fs, ∀ c, env'.cells.lookup x = some c → env'.cells.lookup z' = some c → False := fun z' hz' c h1 h2 => by
      have e1 := fr2 c (hxc c h1).1
      rw [(hcells z' hz').1] at h2
      obtain ⟨v, o, e, _⟩ := f.cn z' (memv z' hz') c h2
      rw [e1] at e; cases e
    rcases List.mem_cons.mp hz with h1 | h1
    · rcases List.mem_cons.mp hz' with h2 | h2
      · rw [h1, h2]
      · exact (one z' h2 c (h1 ▸ hc) hc').elim
    · rcases List.mem_cons.mp hz' with h2 | h2
      · exact (one z h1 c (h2 ▸ hc') hc).elim
      · exact f.ci z (memv z h1) z' (memv z' h2) c ((hcells z h1).1 ▸ hc) ((hcells z' h2).1 ▸ hc')
  · rcases List.mem_cons.mp hz with rfl | hz
    · exact ⟨_, (hxc c hc).2⟩
    · obtain ⟨v, q⟩ := f.cn z (memv z hz) c ((hcells z hz).1 ▸ hc)
      exact ⟨v, Heap.IsCell.keeps' q (y.keep c)⟩
  · rcases List.mem_cons.mp hz with rfl | hz
    · exact List.mem_cons_self ..
    · cases hz
  · rcases List.mem_cons.mp hz with rfl | hz
    · exact hkx
    · cases hz
  · have := congrArg List.length hat
    simpa using this
  · cases j with
    | zero =>
      simp at hz hw
      subst hz hw
      exact ⟨none, hx, rfl⟩
    | succ j =>
      have hz' : fs[j]? = some z := by simpa using hz
      obtain ⟨i, e1, e2⟩ := get_map_slot hat hz'
      have hw' : some ((σ[i]?).getD .unb) = some w := by simpa [e1] using hw
      obtain ⟨y0, hy0⟩ := f.has e2
      rw [hy0] at hw'
      have hw'' : y0 = w := by simpa using hw'
      subst hw''
      obtain ⟨val, va, sr⟩ := f.var i z y0 e2 hy0
      obtain ⟨c1, c2, c3⟩ := hcells z (List.mem_of_getElem? hz')
      have cellOf : ∀ c, F.env.cells.lookup z = some c → s.heap.IsCell c val → VarAt env' s'.heap z val := fun c l q => by
        have q' := Heap.IsCell.keeps' q (y.keep c)
        rcases c3 with c3 | ⟨c3, c4⟩
        · exact .inr (.inl ⟨c3, c, c1 ▸ l, q'⟩)
        · exact .inr (.inr ⟨c3, c4, c, c1 ▸ l, q'⟩)
      refine ⟨val, ?_, ?_⟩
      · rcases va with ⟨k, _⟩ | ⟨k, c, l, q⟩ | ⟨k, d, c, l, q⟩
        · exact absurd k c2
        · exact cellOf c l q
        · exact cellOf c l q
      · have eo : ow (is.getD j 0) = ow i := by
          have : is.getD j 0 = i := by rw [List.getD_eq_getElem?_getD, e1]; rfl
          rw [this]
        show SRel s'.heap _ _ (ow (is.getD j 0)) val y0
        rw [eo]
        cases y0 with
        | unb => exact sr
        | val v => obtain ⟨u, e, r⟩ := sr; exact ⟨u, e, RV.mono mv r⟩
        | pin v u => exact ⟨sr.1, RV.mono mv sr.2⟩
        | own l =>
          obtain ⟨us, e, o, ⟨k, p⟩, r⟩ := sr
          exact ⟨us, e, .inl o, ⟨k, y.keep _ _ p⟩, RVs.mono mv r⟩
  · have slot : ∀ j l, (S.unb :: is.map (fun i => (σ[i]?).getD .unb))[j]? = some (.own l) → ∃ j', j = j' + 1 ∧ ∃ i z, fs[j']? = some z ∧ is[j']? = some i ∧ F.vs[i]? = some z ∧ σ[i]? = some (.own l) := by
      intro j l h
      cases j with
      | zero => simp at h
      | succ j =>
        refine ⟨j, rfl, ?_⟩
        have h' : (is.map (fun i => (σ[i]?).getD .unb))[j]? = some (.own l) := by simpa using h
        rw [List.getElem?_map] at h'
        obtain ⟨i, e1, e2⟩ := Option.map_eq_some_iff.mp h'
        have hlt : j < fs.length := by
          have h1 := congrArg List.length hat
          simp at h1
          obtain ⟨q, _⟩ := List.getElem?_eq_some_iff.mp e1
          omega
        obtain ⟨i', e3, e4⟩ := get_map_slot hat (List.getElem?_eq_getElem hlt)
        rw [e1] at e3; cases e3
        refine ⟨i, _, List.getElem?_eq_getElem hlt, e1, e4, ?_⟩
        cases q : σ[i]? with
        | none => rw [q] at e2; cases e2
        | some w => rw [q] at e2; simp at e2; rw [e2]
    obtain ⟨j', rfl, i, z, a1, a2, a3, a4⟩ := slot j l hj
    obtain ⟨k', rfl, i', z', b1, b2, b3, b4⟩ := slot k l' hk
    have e' : ow i = ow i' := by
      have h1 : is.getD j' 0 = i := by rw [List.getD_eq_getElem?_getD, a2]; rfl
      have h2 : is.getD k' 0 = i' := by rw [List.getD_eq_getElem?_getD, b2]; rfl
      have h3 : ow (is.getD j' 0) = ow (is.getD k' 0) := e
      rw [h1, h2] at h3; exact h3
    have := f.inj i i' _ _ a4 b4 e'
    subst this
    rw [a3] at b3; cases b3
    have hn := (List.nodup_cons.mp hnd).2
    obtain ⟨q, _⟩ := List.getElem?_eq_some_iff.mp a1
    have := (List.getElem?_inj q hn).mp (a1.trans b1.symm)
    rw [this]
end

section
variable {C : Cx} {F : FD} {n : Nat}

noncomputable def compF (fi : List S → Option R) (ft : List S → Option Bool) (fe : List S → Option R) (is : List Nat) (σ : List S) : Option R :=
  ((fi σ).bind R.iterB).bind fun vs => (compL ft fe (is.map fun i => (σ[i]?).getD .unb) vs).bind fun l => if l.length ≤ 1048576 then some (.new l) else none

/-- what a comprehension's frame needs -/
structure CompOk (F : FD) (x : Str) (fs : List Str) (is : List Nat) (scope : Scope) (cl : List (Str × Addr)) : Prop where
  clos : closureFor scope F.env = pure cl
  kind : scope.kind = .function
  names : ∀ y ∈ scope.names, y.2 = .local → scope.names.lookup y.1 = some .local
  xc : cl.lookup x = none
  cells : ∀ z ∈ fs, cl.lookup z = F.env.cells.lookup z ∧ F.env.kindOf z ≠ some .local ∧ ((relabel scope F.env).names.lookup z = some .cell ∨ ((relabel scope F.env).names.lookup z = some .free ∧ (z == ("__classdict__" : Str)) = false))
  nd : (x :: fs).Nodup
  at_ : is.map (fun i => F.vs[i]?) = fs.map some

theorem comp_run {x : Str} {px : Pos} {elt iter : Expr} {ifs : List Expr} {scope : Scope} {pos pos' : Pos} {fs : List Str} {is : List Nat} {cl : List (Str × Addr)} {ft : List S → Option Bool} {fe : List S → Option R}
    (ok : CompOk F x fs is scope cl) (nocell : ∀ y ∈ scope.names, y.2 ≠ .cell) (xl : scope.names.lookup x = some .local)
    (hs : ∀ x, foldedSetIterable iter F.env x = pure x) {fi : List S → Option R} (hi : SE C F n iter fi)
    (ht : ∀ L, IFs C ⟨compEnvC scope cl L F.env, x :: fs, [x], F.t0⟩ n ifs ft) (he : ∀ L, SE C ⟨compEnvC scope cl L F.env, x :: fs, [x], F.t0⟩ n elt fe)
    {A : Around} {s : Shared} {X O : Addr → Prop} {σ : List S} {ow : Nat → Addr} {ri : R} {vs l : List V} (hA : Rm n A) (f : Fm C F X O s σ ow) (e5 : fi σ = some ri) (e6 : ri.iterB = some vs)
    (e3 : compL ft fe (is.map fun i => (σ[i]?).getD .unb) vs = some l) (hlen : l.length ≤ 1048576) {use : Option (Value → Sem Unit)} {Q : Value → Shared → Prop} {E : Value → Shared → Prop}
    (hQ : ∀ s' D L us' m, Ext s s' → s.heap.get? D = none → s.heap.get? L = none → D ≠ L → s'.heap.PlainList D (List.toArray us') → RVs s'.heap (fun b => (NX X O b ∨ b = D) ∨ b = L) l us' → s'.heap.Ns L m → compPost C.M A E use Q (.ref D) L (.ok .next) s') :
    wpAny C.M A (comprehension (.ListComp elt [⟨.Name x px, iter, ifs, 0⟩] scope pos) scope F.env pos' (newList []) false (eval iter F.env) use) Q E s := by
  refine wpAny_comprehension_free rfl hs ok.clos ok.kind ok.names (hi A s X O σ ow ri hA f e5 _ E fun u s1 x1 r1 => RR.iterB r1 e6 fun o hit hfs hfr => ?_)
  refine wpAny_newObj_type (wpAny_newFunctionEnv nocell (by intro y hy; simp at hy) (fun h₁ hns hsb => ?_) ok.kind)
  dsimp only at hns hsb ⊢
  have f1 := f.ext x1
  generalize hit0 : s1.heap.objs.size = it at *
  have szD : (s1.heap.push o).objs.size = it + 1 := by rw [Heap.size_push, hit0]
  generalize hH2 : (s1.heap.push o).push { cls := .type "list", dict := none, data := .seq ([] : List Value).toArray } = H2 at hns hsb ⊢
  have szL : H2.objs.size = it + 2 := by rw [← hH2, Heap.size_push, szD]
  rw [szL] at hns hsb ⊢
  rw [szD]
  have fresh : ∀ a, it ≤ a → s1.heap.get? a = none := fun a ha => by
    cases e : s1.heap.get? a with
    | none => rfl
    | some o' => exact absurd (Heap.lt_size e) (by rw [hit0]; exact Nat.not_lt.mpr ha)
  have up1 : ∀ b ob, s1.heap.get? b = some ob → (s1.heap.push o).get? b = some ob := fun b ob e => Heap.get?_push_of_some _ e
  have up2 : ∀ b ob, (s1.heap.push o).get? b = some ob → h₁.get? b = some ob := fun b ob e => hsb.extBut b ob (fun q => by have h1 := Heap.lt_size e; rw [szD, q] at h1; exact absurd h1 (Nat.not_lt.mpr (Nat.le_succ _))) (Heap.get?_push_of_some _ (hH2 ▸ Heap.get?_push_of_some _ e))
  have n12 : it + 1 ≠ it + 2 := Nat.ne_of_lt (Nat.lt_succ_self _)
  have n01 : it + 1 ≠ it := Nat.ne_of_gt (Nat.lt_succ_self _)
  have n02 : it ≠ it + 2 := Nat.ne_of_lt (Nat.lt_succ_of_lt (Nat.lt_succ_self _))
  have fr0 := fresh it (Nat.le_refl _)
  have fr1 := fresh (it + 1) (Nat.le_succ _)
  have fr2 := fresh (it + 2) (Nat.le_add_right _ _)
  have hD : h₁.get? (it + 1) = some { cls := .type "list", dict := none, data := .seq ([] : List Value).toArray } := by
    refine hsb.extBut _ _ n12 (Heap.get?_push_of_some _ ?_)
    rw [← hH2, ← szD]; exact Heap.get?_push_size _ rfl
  have ext : Ext s1 { s1 with heap := h₁, toks := s1.toks + 0 } := ⟨fun b ob e => up2 b ob (up1 b ob e), rfl, GB.refl _, Nat.le_refl _⟩
  have hob : (s1.heap.push o).get? it = some o := by rw [← hit0]; exact Heap.get?_push_size _ hfr
  have fm := comp_Fm (env' := compEnvC scope cl (it + 2) F.env) (x := x) (fs := fs) (is := is) (N1 := fun b => b = it ∨ b = it + 1) (N2 := fun b => b = it + 2) f1 ext
    (fun b q => q.elim (fun q => q ▸ fr0) (fun q => q ▸ fr1)) (fun b q => q ▸ fr2) (fun b q => q.elim (fun q => ⟨_, q ▸ up2 _ _ hob⟩) (fun q => ⟨_, q ▸ hD⟩))
    (fun b q => by subst q; obtain ⟨o', es, ep, e, _⟩ := hns; exact ⟨o', e⟩) (fun b o fs q e => by subst q; obtain ⟨o', es, ep, e', d, _⟩ := hns; have e2 : h₁.get? (it + 2) = some o := e; rw [e'] at e2; cases e2; rw [d]; intro q; cases q) (fun b q q' => q.elim (fun q => n02 (q.symm.trans q')) (fun q => n12 (q.symm.trans q'))) rfl hns
    (.inl ⟨lookup_relabel_local xl, _, hns, rfl⟩) (fun c hc => by have : cl.lookup x = some c := hc; rw [ok.xc] at this; cases this)
    (by have : (compEnvC scope cl (it + 2) F.env).kindOf x = some .local := lookup_relabel_local xl
        rw [this]; intro q; cases q) (fun z hz => ok.cells z hz) ok.nd ok.at_ ok.kind rfl rfl
  have It4 : It h₁ (NX (fun b => X b ∨ (b = it ∨ b = it + 1)) (fun b => O b ∨ b = it + 2)) (fun b => s1.heap.get? b = none ∧ b ≠ it) it vs := by
    refine hit.moves (fun b ob e nb => ⟨up2 b ob e, fun q => ?_⟩) (fun b ob e _ => up2 b ob e) (fun b ob _ nb => nb) (fun q => q.2 rfl)
    have hlt := Heap.lt_size e
    rw [szD] at hlt
    have no1 : b ≠ it + 1 := Nat.ne_of_lt hlt
    have no2 : b ≠ it + 2 := Nat.ne_of_lt (Nat.lt_succ_of_lt hlt)
    rcases q with (q | q | q) | (q | q)
    · exact nb (.inl (.inl q))
    · exact nb (.inr q)
    · exact no1 q
    · exact nb (.inl (.inr q))
    · exact no2 q
  have loop := comp_loop (px := px) (iter := iter) (scope := scope) (pos := pos) (it := it) (D := it + 1) (s₀ := s1) (Fc := ⟨compEnvC scope cl (it + 2) F.env, x :: fs, [x], F.t0⟩) (x := x) rfl (List.mem_cons_self ..) (ht (it + 2)) (he (it + 2)) hA (.inr (.inl rfl)) (.inr (.inr rfl)) n01 fr0 fr1 fr2
    (fun c hc => by have : cl.lookup x = some c := hc; rw [ok.xc] at this; cases this) (RC := compPost C.M A E use Q (.ref (it + 1)) (it + 2)) hlen (fun s' us' y' p' rv' ln' => ?_) It4 fm ⟨0, hD⟩ e3 ext
  · exact codeAny_compStart_list loop (It4.self (s := { s1 with heap := h₁, toks := s1.toks + 0 }) loop)
  · obtain ⟨m, hm⟩ := ln'
    refine hQ s' (it + 1) (it + 2) us' m (x1.trans y') (none_of x1.keep fr1) (none_of x1.keep fr2) n12 p' (RVs.mono (fun b ob e nb => ⟨e, fun q => ?_⟩) rv') hm
    rcases q with (q | q) | q
    · exact nb (q.elim (fun q => .inl (.inl q)) (fun q => .inr (.inl q)))
    · exact nb (.inl (.inr (.inr q)))
    · exact nb (.inr (.inr q))

theorem eComp {x : Str} {px : Pos} {elt iter : Expr} {ifs : List Expr} {scope : Scope} {pos : Pos} {fs : List Str} {is : List Nat} {cl : List (Str × Addr)} {fi : List S → Option R} {ft : List S → Option Bool} {fe : List S → Option R}
    (ok : CompOk F x fs is scope cl) (nocell : ∀ y ∈ scope.names, y.2 ≠ .cell) (xl : scope.names.lookup x = some .local)
    (hs : ∀ x, foldedSetIterable iter F.env x = pure x) (hi : SE C F n iter fi)
    (ht : ∀ L, IFs C ⟨compEnvC scope cl L F.env, x :: fs, [x], F.t0⟩ n ifs ft) (he : ∀ L, SE C ⟨compEnvC scope cl L F.env, x :: fs, [x], F.t0⟩ n elt fe) :
    SE C F n (.ListComp elt [⟨.Name x px, iter, ifs, 0⟩] scope pos) (compF fi ft fe is) := fun A s X O σ ow r hA f er Q E h => by
  unfold compF at er
  obtain ⟨vs, e1, e2⟩ := Option.bind_eq_some_iff.mp er
  obtain ⟨l, e3, e4⟩ := Option.bind_eq_some_iff.mp e2
  obtain ⟨ri, e5, e6⟩ := Option.bind_eq_some_iff.mp e1
  split at e4
  · rename_i hlen
    cases e4
    rw [eval_ListComp]
    refine comp_run (use := none) ok nocell xl hs hi ht he hA f e5 e6 e3 hlen fun s' D L us' m y nD nL hne p rv hm => ⟨m, hm, fun h'' sb => ?_⟩
    refine h _ _ (y.skip s'.toks (Nat.le_refl _) nL sb.extBut) ⟨D, us', rfl, nD, PlainList.sameBut p sb hne, RVs.mono (fun b ob e nb => ⟨(sb.2 b (fun q => nb (.inr q))).trans e, fun q => nb (.inl q)⟩) rv⟩
  · cases e4

end
end Mine

namespace Mine

noncomputable def immV : V → Bool
  | .non | .bool _ | .int _ | .str _ | .byt _ => true
  | _ => false
noncomputable def immS : S → Bool
  | .unb => true
  | .val v => immV v
  | .own _ => false
  | .pin v _ => immV v
theorem RV.imm {h h' : Heap} {N N' : Addr → Prop} {v : V} {u : Value} (hv : immV v = true) (x : RV h N v u) : RV h' N' v u := by
  cases v <;> first | (cases hv; done) | (unfold RV at x ⊢; exact x)

/-- what a generator alone may change -/
noncomputable def Mod (L : Addr) (Hc : Heap) (b : Addr) (o : Obj) : Prop := b = L ∨ (Hc.get? b = none ∧ (o.cls = .type "enumerate" ∨ o.cls = .type "str_ascii_iterator") ∧ ∃ fs, o.data = .fields fs)

/-- what stood when the generator was made still stands -/
noncomputable def Th (Hc : Heap) (s : Shared) : Prop := ∀ b o, Hc.get? b = some o → ∃ o', s.heap.get? b = some o'

structure Link (L : Addr) (Hc : Heap) (s₀ s : Shared) : Prop where
  keep : ∀ b o, s₀.heap.get? b = some o → ¬ Mod L Hc b o → s.heap.get? b = some o
  os : s.os = s₀.os
  bare : GB s₀.gens s.gens
  tk : s₀.toks ≤ s.toks
  loc : (∃ o, s₀.heap.get? L = some o) → ∃ o, s.heap.get? L = some o
  th : Th Hc s
theorem Link.refl (L : Addr) {Hc : Heap} {s : Shared} (h : Th Hc s) : Link L Hc s s := ⟨fun _ _ e _ => e, rfl, GB.refl _, Nat.le_refl _, id, h⟩
theorem Link.ext {L : Addr} {Hc : Heap} {s₀ s s' : Shared} (l : Link L Hc s₀ s) (x : Ext s s') : Link L Hc s₀ s' :=
  ⟨fun b o e n => x.keep b o (l.keep b o e n), x.os.trans l.os, l.bare.trans x.bare, Nat.le_trans l.tk x.tk, fun h => let ⟨o, e⟩ := l.loc h; ⟨o, x.keep _ _ e⟩, fun b o e => let ⟨o', e'⟩ := l.th b o e; ⟨o', x.keep _ _ e'⟩⟩
theorem Link.stp {L : Addr} {Hc : Heap} {s₀ s s' : Shared} {O O' : Addr → Prop} (l : Link L Hc s₀ s) (x : Stp O O' s s') (hO : ∀ b, O b → b = L) : Link L Hc s₀ s' :=
  ⟨fun b o e n => x.keep b o (l.keep b o e n) fun q => n (.inl (hO b q)), x.os.trans l.os, l.bare.trans x.bare, Nat.le_trans l.tk x.tk, fun h => let ⟨o, e⟩ := l.loc h; x.there _ _ e, fun b o e => let ⟨o', e'⟩ := l.th b o e; x.there _ _ e'⟩

/-- what the reader of a generator leaves alone -/
structure Later (C : Cx) (L : Addr) (Hc : Heap) (s s' : Shared) : Prop where
  keep : ∀ b o, s.heap.get? b = some o → (b = L ∨ ∃ fs, o.data = .fields fs) → s'.heap.get? b = some o
  tk : s.toks ≤ s'.toks
  base : ∀ b o, C.base.get? b = some o → ¬ C.Px b → s'.heap.get? b = some o
  th : Th Hc s'
theorem Later.trans {C : Cx} {L : Addr} {Hc : Heap} {a b c : Shared} (x : Later C L Hc a b) (y : Later C L Hc b c) : Later C L Hc a c :=
  ⟨fun p o e n => y.keep p o (x.keep p o e n) n, Nat.le_trans x.tk y.tk, y.base, y.th⟩

section
variable {C : Cx} {F : FD} {n : Nat} {X O : Addr → Prop} {s s' : Shared} {σ : List S} {ow : Nat → Addr}

theorem imm_no_own (hi : σ.all immS = true) {i : Nat} {l : List V} (h : σ[i]? = some (.own l)) : False := by
  have := List.all_eq_true.mp hi _ (List.mem_of_getElem? h)
  cases this

/-- with nothing but plain values in its names, a frame owns its table alone -/
theorem Fm.shrink (f : Fm C F X O s σ ow) (hc : ∀ x, F.env.cells.lookup x = none) (hi : σ.all immS = true) : Fm C F X (fun a => a = F.env.locals) s σ ow := by
  have sub : ∀ a, NX X (fun a => a = F.env.locals) a → NX X O a := fun a h => h.imp id fun q => (show a = F.env.locals from q) ▸ f.ol
  refine ⟨⟨f.gs.keep, fun a n => f.gs.nb a (sub a n), fun a n => f.gs.ex a (sub a n)⟩, fun a h q => f.xo a h ((show a = F.env.locals from q) ▸ f.ol), rfl, fun x hx c h => (by rw [hc] at h; cases h), f.nd, f.ci, f.ln, f.cn, f.wv, f.wf, f.kind, f.gl, f.bl, f.len, fun j z y hz hy => ?_, f.inj, f.tp, fun a o fs h e => f.ot a o fs ((show a = F.env.locals from h) ▸ f.ol) e⟩
  obtain ⟨val, va, sr⟩ := f.var j z y hz hy
  refine ⟨val, va, ?_⟩
  cases y with
  | unb => exact sr
  | val v => obtain ⟨u, e, r⟩ := sr; exact ⟨u, e, RV.mono (fun b o e nb => ⟨e, fun q => nb (sub b q)⟩) r⟩
  | pin v u => exact ⟨sr.1, RV.mono (fun b o e nb => ⟨e, fun q => nb (sub b q)⟩) sr.2⟩
  | own l => exact (imm_no_own hi hy).elim

theorem Fm.later (f : Fm C F X (fun a => a = F.env.locals) s σ ow) (hc : ∀ x, F.env.cells.lookup x = none) (hi : σ.all immS = true) (hX : ∀ a, X a → ∃ o fs, s.heap.get? a = some o ∧ o.data = .fields fs) {Hc : Heap} (y : Later C F.env.locals Hc s s') : Fm C F X (fun a => a = F.env.locals) s' σ ow := by
  have kl : ∀ o, s.heap.get? F.env.locals = some o → s'.heap.get? F.env.locals = some o := fun o e => y.keep _ _ e (.inl rfl)
  have ln' : ∀ {m}, s.heap.Ns F.env.locals m → s'.heap.Ns F.env.locals m := fun n => n.at kl
  refine ⟨⟨y.base, fun a n => f.gs.nb a n, fun a n => ?_⟩, f.xo, rfl, fun x hx c h => (by rw [hc] at h; cases h), f.nd, f.ci, let ⟨m, q⟩ := f.ln; ⟨m, ln' q⟩, fun x hx c h => (by rw [hc] at h; cases h), f.wv, f.wf, f.kind, f.gl, f.bl, f.len, fun j z w hz hw => ?_, f.inj, Nat.le_trans f.tp y.tk, fun a o fs h e => ?_⟩
  · rcases n with n | n
    · obtain ⟨o, fs, e, d⟩ := hX a n
      exact ⟨o, y.keep _ _ e (.inr ⟨fs, d⟩)⟩
    · obtain ⟨o, e⟩ := f.gs.ex a (.inr n)
      subst n
      exact ⟨o, kl o e⟩
  · obtain ⟨val, va, sr⟩ := f.var j z w hz hw
    refine ⟨val, ?_, ?_⟩
    · rcases va with ⟨k, m, ns, e⟩ | ⟨k, c, l, e⟩ | ⟨k, d, c, l, e⟩
      · exact .inl ⟨k, m, ln' ns, e⟩
      · rw [hc] at l; cases l
      · rw [hc] at l; cases l
    · cases w with
      | unb => exact sr
      | val v =>
        obtain ⟨u, e, r⟩ := sr
        have := List.all_eq_true.mp hi _ (List.mem_of_getElem? hw)
        exact ⟨u, e, RV.imm this r⟩
      | pin v u =>
        have := List.all_eq_true.mp hi _ (List.mem_of_getElem? hw)
        exact ⟨sr.1, RV.imm this sr.2⟩
      | own l => exact (imm_no_own hi hw).elim
  · subst h
    obtain ⟨m, q⟩ := f.ln
    obtain ⟨o', es, ep, e', d, _⟩ := ln' q
    rw [e'] at e; cases e
    rw [d]; intro q; cases q
end

/-! the bodies of generators -/
structure GC where
  A : Around
  R : GenEnd
  Y : Protocol
  L : Addr
  Hc : Heap

/-- what a yield hands over -/
noncomputable def GC.Hands (C : Cx) (G : GC) (m : Nat) (v : V) : Prop :=
  ∀ s₀ s u kap, Link G.L G.Hc s₀ s → RV s.heap (fun _ => False) v u → (∀ s'', Later C G.L G.Hc s s'' → kap (.send .none) s'') → G.Y m s₀ u s kap

/-- all the items are handed over, in their order -/
noncomputable def GC.HandsAll (C : Cx) (G : GC) (m : Nat) : List V → Prop
  | [] => True
  | v :: vs => G.Hands C (vs.length + m) v ∧ GC.HandsAll C G m vs

section
variable {C : Cx} {F : FD} {n : Nat}
abbrev YF := List S → Option (List V × Fl × List S)

noncomputable def YB (C : Cx) (F : FD) (n : Nat) (sts : List Stmt) (f : YF) : Prop :=
  ∀ (G : GC) (c : Code) (fs : List Frame) (K : Flow → Sem PySem.Fin) (H : Value → Sem PySem.Fin) (gd : Bool → Bool) (lv : List Value → List Value) (m : Nat) (s₀ s : Shared) (X : Addr → Prop) (σ : List S) (ow : Nat → Addr) (ys : List V) (fl : Fl) (σ' : List S),
    Rm n (G.A.over c fs) → splitAtGen fs = none → gd false = false → fs.any Frame.guarded = false → F.env.locals = G.L → (∀ x, F.env.cells.lookup x = none) →
    (∀ a, X a → ∃ o fs, s.heap.get? a = some o ∧ o.data = .fields fs) →
    Fm C F X (fun a => a = F.env.locals) s σ ow → σ.all immS = true → f σ = some (ys, fl, σ') → Link G.L G.Hc s₀ s → G.HandsAll C m ys →
    (∀ s₁ s' ow' flow, Link G.L G.Hc s₁ s' → (∀ a, X a → ∀ o, s.heap.get? a = some o → s'.heap.get? a = some o) → s.toks ≤ s'.toks → Fm C F X (fun a => a = F.env.locals) s' σ' ow' → σ'.all immS = true → FR s'.heap (fun _ => False) fl flow → Seg C.M G.A G.R G.Y m s₁ c (K flow) fs s') →
    Seg C.M G.A G.R G.Y (ys.length + m) s₀ c ((execs sts F.env).wrap K H gd lv) fs s
noncomputable def YS (C : Cx) (F : FD) (n : Nat) (st : Stmt) (f : YF) : Prop :=
  ∀ (G : GC) (c : Code) (fs : List Frame) (K : Flow → Sem PySem.Fin) (H : Value → Sem PySem.Fin) (gd : Bool → Bool) (lv : List Value → List Value) (m : Nat) (s₀ s : Shared) (X : Addr → Prop) (σ : List S) (ow : Nat → Addr) (ys : List V) (fl : Fl) (σ' : List S),
    Rm n (G.A.over c fs) → splitAtGen fs = none → gd false = false → fs.any Frame.guarded = false → F.env.locals = G.L → (∀ x, F.env.cells.lookup x = none) →
    (∀ a, X a → ∃ o fs, s.heap.get? a = some o ∧ o.data = .fields fs) →
    Fm C F X (fun a => a = F.env.locals) s σ ow → σ.all immS = true → f σ = some (ys, fl, σ') → Link G.L G.Hc s₀ s → G.HandsAll C m ys →
    (∀ s₁ s' ow' flow, Link G.L G.Hc s₁ s' → (∀ a, X a → ∀ o, s.heap.get? a = some o → s'.heap.get? a = some o) → s.toks ≤ s'.toks → Fm C F X (fun a => a = F.env.locals) s' σ' ow' → σ'.all immS = true → FR s'.heap (fun _ => False) fl flow → Seg C.M G.A G.R G.Y m s₁ c (K flow) fs s') →
    Seg C.M G.A G.R G.Y (ys.length + m) s₀ c ((exec st F.env).wrap K H gd lv) fs s

theorem HandsAll.split {G : GC} {m : Nat} : ∀ {ys zs : List V}, G.HandsAll C m (ys ++ zs) → G.HandsAll C (zs.length + m) ys ∧ G.HandsAll C m zs
  | [], zs, h => ⟨trivial, h⟩
  | y :: ys, zs, h => by
    obtain ⟨a, b⟩ := h
    obtain ⟨c, d⟩ := HandsAll.split b
    refine ⟨⟨?_, c⟩, d⟩
    have e : (ys.append zs).length + m = ys.length + (zs.length + m) := by rw [show (ys.append zs).length = ys.length + zs.length from List.length_append]; omega
    rw [e] at a
    exact a

noncomputable def yNext (f1 f2 : YF) : YF := fun σ => match f1 σ with
  | some (ys, .next, σ1) => (f2 σ1).map fun r => (ys ++ r.1, r.2)
  | some (ys, .ret v, σ1) => some (ys, .ret v, σ1)
  | some (ys, .brk, σ1) => some (ys, .brk, σ1)
  | some (ys, .cont, σ1) => some (ys, .cont, σ1)
  | none => none

theorem yNil : YB C F n [] (fun σ => some ([], .next, σ)) := by
  intro G c fs K H gd lv m s₀ s X σ ow ys fl σ' hA h1 h2 h3 hL hc hX f hi e lk ha k
  cases e
  rw [List.length_nil, Nat.zero_add]
  exact seg_execs_nil (k s₀ s ow .next lk (fun _ _ _ e => e) (Nat.le_refl _) f hi rfl)

theorem yCons {st : Stmt} {rest : List Stmt} {f1 f2 : YF} (h1 : YS C F n st f1) (h2 : YB C F n rest f2) : YB C F n (st :: rest) (yNext f1 f2) := by
  intro G c fs K H gd lv m s₀ s X σ ow ys fl σ' hA p1 p2 p3 hL hc hX f hi e lk ha k
  refine seg_execs_cons ?_
  unfold yNext at e
  cases e1 : f1 σ with
  | none => simp [e1] at e
  | some r1 =>
    obtain ⟨ys1, fl1, σ1⟩ := r1
    have stop : ∀ (fl0 : Fl), fl0 ≠ .next → fl1 = fl0 → (ys, fl, σ') = (ys1, fl0, σ1) → Seg C.M G.A G.R G.Y (ys.length + m) s₀ c ((exec st F.env).wrap (fun f => match f with | .next => (execs rest F.env).wrap K H gd lv | f => K f) H gd lv) fs s := by
      intro fl0 hne efl ee
      simp only [Prod.mk.injEq] at ee
      obtain ⟨q1, q2, q3⟩ := ee
      rw [q1] at ha ⊢
      rw [q2, q3] at k
      rw [efl] at e1
      refine h1 G c fs _ H gd lv m s₀ s X σ ow ys1 fl0 σ1 hA p1 p2 p3 hL hc hX f hi e1 lk ha fun s₁ s' ow' flow a b c d e g => ?_
      have := k s₁ s' ow' flow a b c d e g
      cases fl0 with
      | next => exact absurd rfl hne
      | brk => unfold FR at g; subst g; exact this
      | cont => unfold FR at g; subst g; exact this
      | ret v => obtain ⟨u, rfl, _⟩ := g; exact this
    cases fl1 with
    | next =>
      simp only [e1] at e
      obtain ⟨⟨ys2, fl2, σ2⟩, e2, ee⟩ := Option.map_eq_some_iff.mp e
      cases ee
      obtain ⟨ha1, ha2⟩ := HandsAll.split ha
      rw [List.length_append, Nat.add_assoc]
      refine h1 G c fs _ H gd lv (ys2.length + m) s₀ s X σ ow ys1 .next σ1 hA p1 p2 p3 hL hc hX f hi e1 lk ha1 fun s₁ s' ow' flow a b tk d e g => ?_
      unfold FR at g; subst g
      have hX' : ∀ a, X a → ∃ o fs, s'.heap.get? a = some o ∧ o.data = .fields fs := fun a ha => let ⟨o, fs, e, d⟩ := hX a ha; ⟨o, fs, b a ha o e, d⟩
      exact h2 G c fs K H gd lv m s₁ s' X σ1 ow' ys2 fl σ' hA p1 p2 p3 hL hc hX' d e e2 a ha2 fun s₂ s'' ow'' flow' a' b' tk' d' e' g' => k s₂ s'' ow'' flow' a' (fun x hx o eo => b' x hx o (b x hx o eo)) (Nat.le_trans tk tk') d' e' g'
    | brk => simp only [e1] at e; exact stop .brk (by simp) rfl (Option.some.inj e).symm
    | cont => simp only [e1] at e; exact stop .cont (by simp) rfl (Option.some.inj e).symm
    | ret v => simp only [e1] at e; exact stop (.ret v) (by simp) rfl (Option.some.inj e).symm

/-- a statement without a yield -/
theorem yPlain {st : Stmt} {f1 : SF} (h1 : SS C F n st f1) : YS C F n st (fun σ => match f1 σ with | some (.next, σ') => if σ'.all immS = true then some ([], .next, σ') else none | _ => none) := by
  intro G c fs K H gd lv m s₀ s X σ ow ys fl σ' hA p1 p2 p3 hL hc hX f hi e lk ha k
  simp only at e
  split at e
  · rename_i σ1 e1
    split at e
    · rename_i hi'
      cases e
      rw [List.length_nil, Nat.zero_add]
      refine seg_wrap (h1 _ s X _ σ ow .next σ' hA f e1 _ _ fun fl s' O' ow' st fm fr => ?_)
      have hx : ∀ a, X a → ∀ o, s.heap.get? a = some o → s'.heap.get? a = some o := fun a ha o eo => st.keep a o eo (f.xo a ha)
      exact k s₀ s' ow' fl (lk.stp st fun b q => q.trans hL) hx st.tk (fm.shrink hc hi') hi' (by unfold FR at fr ⊢; exact fr)
    · cases e
  · cases e

theorem yIf {t : Expr} {b1 b2 : List Stmt} {pos : Pos} {ft : List S → Option Bool} {f1 f2 : YF} (ht : ST C F n t ft) (h1 : YB C F n b1 f1) (h2 : YB C F n b2 f2) :
    YS C F n (.If t b1 b2 pos) (fun σ => match ft σ with | some true => f1 σ | some false => f2 σ | none => none) := by
  intro G c fs K H gd lv m s₀ s X σ ow ys fl σ' hA p1 p2 p3 hL hc hX f hi e lk ha k
  show Seg _ _ _ _ _ _ _ (.at pos fun _ => (isTrue t F.env (eval t F.env) >>= fun b => if b = true then execs b1 F.env else execs b2 F.env).wrap K H gd lv) fs s
  refine seg_at (seg_bind_wrap ?_)
  cases e1 : ft σ with
  | none => simp [e1] at e
  | some b =>
    refine ht _ s X _ σ ow b hA f e1 _ _ fun s1 x1 => ?_
    have hX1 : ∀ a, X a → ∃ o fs, s1.heap.get? a = some o ∧ o.data = .fields fs := fun a ha => let ⟨o, fs, e, d⟩ := hX a ha; ⟨o, fs, x1.keep _ _ e, d⟩
    have k' : ∀ s₁ s' ow' flow, Link G.L G.Hc s₁ s' → (∀ a, X a → ∀ o, s1.heap.get? a = some o → s'.heap.get? a = some o) → s1.toks ≤ s'.toks → Fm C F X (fun a => a = F.env.locals) s' σ' ow' → σ'.all immS = true → FR s'.heap (fun _ => False) fl flow → Seg C.M G.A G.R G.Y m s₁ c (K flow) fs s' :=
      fun s₁ s' ow' flow a b tk d e g => k s₁ s' ow' flow a (fun x hx o eo => b x hx o (x1.keep _ _ eo)) (Nat.le_trans x1.tk tk) d e g
    cases b with
    | true =>
      simp only [e1] at e
      simp only [if_true]
      exact h1 G c fs K H gd lv m s₀ s1 X σ ow ys fl σ' hA p1 p2 p3 hL hc hX1 (f.ext x1) hi e (lk.ext x1) ha k'
    | false =>
      simp only [e1] at e
      simp only [Bool.false_eq_true, if_false]
      exact h2 G c fs K H gd lv m s₀ s1 X σ ow ys fl σ' hA p1 p2 p3 hL hc hX1 (f.ext x1) hi e (lk.ext x1) ha k'

/-- a yield -/
theorem yYield {e : Expr} {ypos pos : Pos} {f1 : List S → Option R} (h1 : SE C F n e f1) (hco : F.env.scope.isCoroutine = false) (hin : interactive F.env = false) :
    YS C F n (.Expr (.Yield (some e) ypos) pos) (fun σ => match f1 σ with | some (.val v) => some ([v], .next, σ) | _ => none) := by
  intro G c fs K H gd lv m s₀ s X σ ow ys fl σ' hA p1 p2 p3 hL hc hX f hi e lk ha k
  simp only at e
  split at e
  · rename_i v e1
    cases e
    rw [show ([v] : List V).length + m = m + 1 from Nat.add_comm 1 m]
    refine seg_Expr_Yield p1 p2 p3 (h1 _ s X _ σ ow _ hA f e1 _ _ fun u s1 x1 r1 kap hk => ?_) hco hin
    have f1' := f.ext x1
    have r1' : RV s1.heap (fun _ => False) v u := RV.mono (fun b o e nb => ⟨e, id⟩) (show RV s1.heap _ v u from r1)
    have hX1 : ∀ a, X a → ∃ o fs, s1.heap.get? a = some o ∧ o.data = .fields fs := fun a ha => let ⟨o, fs, e, d⟩ := hX a ha; ⟨o, fs, x1.keep _ _ e, d⟩
    have := ha.1 s₀ s1 u kap (lk.ext x1) r1' fun s'' hl => hk _ s'' ?_
    · simpa using this
    · have hl' : Later C F.env.locals G.Hc s1 s'' := hL ▸ hl
      refine k s'' s'' ow .next (Link.refl _ hl.th) (fun a ha o eo => ?_) (Nat.le_trans x1.tk hl.tk) (f1'.later hc hi hX1 hl') hi rfl
      obtain ⟨o', fs', e', d'⟩ := hX a ha
      rw [e'] at eo; cases eo
      exact hl.keep _ _ (x1.keep _ _ e') (.inr ⟨fs', d'⟩)
  · cases e
end
end Mine

namespace Mine

section
variable {prog : Program} {w : World} {A : Around} {R : GenEnd} {Y : Protocol} {n : Nat} {s₀ : Shared} {c : Code} {fs : List Frame} {s : Shared} {env : Env}

theorem seg_forLoop {target : Expr} {body : List Stmt} {it : Value}
    (h : ∀ E1, wpAny (model prog w) (A.over (.forLoop target it body [] env) fs) (pyNext it) (fun r s' => match r with
      | none => ∀ cc, Seg (model prog w) A R Y n s₀ cc (leafOf (.ok .next)) fs s'
      | some v => ∀ E2, wpAny (model prog w) (A.over (.forLoop target it body [] env) fs) (letOwnedTupleGo target it v) (fun _ s1 => ∀ E3, wpAny (model prog w) (A.over (.forLoop target it body [] env) fs) (assign target env v) (fun _ s2 =>
          ∀ H, Seg (model prog w) A R Y n s₀ (.forLoop target it body [] env) ((execs body env).wrap (fun f => match f with
            | .next | .cont => .pure (.again (.forLoop target it body [] env))
            | .brk => leafOf (.ok .next)
            | .ret v => leafOf (.ok (.ret v))) H id id) fs s2) E3 s1) E2 s') E1 s) :
    Seg (model prog w) A R Y n s₀ (.forLoop target it body [] env) ((model prog w).den (.forLoop target it body [] env)) fs s := by
  show Seg _ A R Y n s₀ _ ((forTurn target it body [] env).onRaise (fun x => do noteFrame x env; theTreesLotGoes x)) fs s
  unfold forTurn
  rw [Sem.onRaise_eq_wrap]
  refine seg_bind_wrap (wpAny_standAt ?_)
  refine seg_bind_wrap (wpAny_onRaise (wpAny_mono (h (fun _ _ => False)) (fun r s' hr => ?_) (fun _ _ x => x.elim)))
  cases r with
  | none =>
    refine seg_again (by rfl) ?_
    exact hr _
  | some v =>
    refine seg_bind_wrap (wpAny_mono (hr (fun _ _ => False)) (fun _ s1 h1 => ?_) (fun _ _ x => x.elim))
    refine seg_bind_wrap (wpAny_mono (h1 (fun _ _ => False)) (fun _ s2 h2 => ?_) (fun _ _ x => x.elim))
    rw [Sem.bind_eq_wrap', Sem.wrap_wrap]
    rw [Sem.wrap_congr (execs body env) _ _ (K' := fun f => match f with
            | .next | .cont => .pure (.again (.forLoop target it body [] env))
            | .brk => leafOf (.ok .next)
            | .ret v => leafOf (.ok (.ret v))) (H' := _)
        (fun f => by cases f <;> rfl) (fun e => rfl)]
    exact h2 _

theorem seg_For {target iter : Expr} {body : List Stmt} {pos : Pos} {K : Flow → Sem PySem.Fin} {H : Value → Sem PySem.Fin} {gd : Bool → Bool} {lv : List Value → List Value} (hs : ∀ v, foldedSetIterable iter env v = pure v)
    (h : ∀ E1, wpAny (model prog w) (A.over c fs) (eval iter env) (fun x s1 => ∀ E2, wpAny (model prog w) (A.over c fs) (pyIter x) (fun it s2 =>
      ∀ k p, (∀ cc m s₁ s' flow, Seg (model prog w) A R Y m s₁ c (K flow) fs s' → Seg (model prog w) A R Y m s₁ cc (leafOf (.ok flow)) (.ret k none (gd false) (lv []) c p [] :: fs) s') →
        Seg (model prog w) A R Y n s₀ (.forLoop target it body [] env) ((model prog w).den (.forLoop target it body [] env)) (.ret k none (gd false) (lv []) c p [] :: fs) s2) E2 s1) E1 s) :
    Seg (model prog w) A R Y n s₀ c ((exec (.For target iter body [] pos) env).wrap K H gd lv) fs s := by
  show Seg _ A R Y n s₀ c (.at pos fun _ => (eval iter env >>= fun v => (foldedSetIterable iter env v >>= fun x => standAt iter.pos >>= fun _ => holding [x] (pyIter x) >>= fun it => runOwn (.forLoop target it body [] env) env)).wrap K H gd lv) fs s
  refine seg_at (seg_bind_wrap (wpAny_mono (h (fun _ _ => False)) (fun x s1 h1 => ?_) (fun _ _ x => x.elim)))
  rw [hs]
  refine seg_bind_wrap (wpAny_pure ?_)
  refine seg_bind_wrap (wpAny_standAt ?_)
  refine seg_bind_wrap (wpAny_holding (wpAny_mono (h1 (fun _ _ => False)) (fun it s2 h2 => ?_) (fun _ _ x => x.elim)))
  refine seg_call fun p => h2 _ p fun cc m s₁ s' flow hk => ?_
  exact seg_leaf (.ok flow) hk
end

noncomputable def enumY (fb : YF) (i j : Nat) : Nat → List Nat → YF
  | _, [], σ => some ([], .next, σ)
  | q, c :: cs, σ => match fb ((σ.set i (.val (.int q))).set j (.val (.str [c]))) with
    | some (ys, .next, σ1) => (enumY fb i j (q + 1) cs σ1).map fun r => (ys ++ r.1, r.2)
    | some (ys, .cont, σ1) => (enumY fb i j (q + 1) cs σ1).map fun r => (ys ++ r.1, r.2)
    | some (ys, .brk, σ1) => some (ys, .next, σ1)
    | some (ys, .ret v, σ1) => some (ys, .ret v, σ1)
    | none => none

section
variable {C : Cx} {F : FD} {n : Nat}

theorem Rm.loop {A : Around} {c : Code} {fs : List Frame} {k : Result → Sem PySem.Fin} {g : Bool} {l : List Value} {p : Pos} {target : Expr} {it : Value} {body orelse : List Stmt} {env : Env} (h : Rm n (A.over c fs)) :
    Rm n (A.over (.forLoop target it body orelse env) (.ret k none g l c p [] :: fs)) := by
  obtain ⟨h1, h2, h3⟩ := h
  have w0 : (Code.forLoop target it body orelse env).weight = 0 := rfl
  have u0 : (Code.forLoop target it body orelse env).cUnits = 0 := rfl
  refine ⟨?_, ?_, ?_⟩
  · exact h1
  · simp only [Around.over, List.map_cons, frameCount_cons, Frame.where_] at h2 ⊢
    rw [w0]; omega
  · simp only [Around.over, List.map_cons, unitsOf_cons, Frame.where_] at h3 ⊢
    rw [u0]; omega

theorem all_set {σ : List S} (h : σ.all immS = true) {i : Nat} {v : S} (hv : immS v = true) : (σ.set i v).all immS = true := by
  rw [List.all_eq_true] at h ⊢
  intro x hx
  rcases List.mem_or_eq_of_mem_set hx with h' | h'
  · exact h x h'
  · rw [h']; exact hv

theorem enum_loop (i j : Nat) {x y : Str} {px py tp : Pos} {k : Nat} {body : List Stmt} {fb : YF} (hx : F.vs[i]? = some x) (hxw : x ∈ F.ws) (hy : F.vs[j]? = some y) (hyw : y ∈ F.ws) (hb : YB C F n body fb)
    {G : GC} {fs : List Frame} {m : Nat} {X : Addr → Prop} {l : List Nat} {t : Tok} {e it : Addr} {fl : Fl} {σ' : List S}
    (hA : Rm n (G.A.over (.forLoop (.Tuple [.Name x px, .Name y py] k tp) (.ref e) body [] F.env) fs)) (p1 : splitAtGen fs = none) (p3 : fs.any Frame.guarded = false) (hL : F.env.locals = G.L) (hc : ∀ x, F.env.cells.lookup x = none)
    (hei : e ≠ it) (he0 : G.Hc.get? e = none) (hi0 : G.Hc.get? it = none) (hXe : ¬ X e) (hXi : ¬ X it) (s₁ : Shared)
    (kend : ∀ cc sa s' ow' flow, Link G.L G.Hc sa s' → (∀ a, X a → ∀ o, s₁.heap.get? a = some o → s'.heap.get? a = some o) → s₁.toks ≤ s'.toks → Fm C F X (fun a => a = F.env.locals) s' σ' ow' → σ'.all immS = true → FR s'.heap (fun _ => False) fl flow → Seg C.M G.A G.R G.Y m sa cc (leafOf (.ok flow)) fs s') :
    ∀ (cs : List Nat) (q : Nat) (s₀ s : Shared) (σ : List S) (ow : Nat → Addr) (ys : List V), l.drop q = cs → q + cs.length = l.length → (∃ old, IsEnum s.heap e it q old) → s.heap.IsStrIter it "str_ascii_iterator" ⟨l.toArray⟩ t q →
      (∀ a, X a → ∃ o fs, s.heap.get? a = some o ∧ o.data = .fields fs) →
      Fm C F (fun b => X b ∨ b = e ∨ b = it) (fun a => a = F.env.locals) s σ ow → σ.all immS = true → enumY fb i j q cs σ = some (ys, fl, σ') → Link G.L G.Hc s₀ s → G.HandsAll C m ys →
      (∀ a, X a → ∀ o, s₁.heap.get? a = some o → s.heap.get? a = some o) → s₁.toks ≤ s.toks →
      Seg C.M G.A G.R G.Y (ys.length + m) s₀ (.forLoop (.Tuple [.Name x px, .Name y py] k tp) (.ref e) body [] F.env) (C.M.den (.forLoop (.Tuple [.Name x px, .Name y py] k tp) (.ref e) body [] F.env)) fs s := by
  intro cs
  induction cs with
  | nil =>
    intro q s₀ s σ ow ys hdrop hlen hen hst hX f hi ee lk ha hkeep htk
    obtain ⟨old, hen⟩ := hen
    cases ee
    rw [List.length_nil, Nat.zero_add]
    refine seg_forLoop fun E1 => ?_
    have hq : q = (⟨l.toArray⟩ : Str).cps.size := by simp at hlen ⊢; omega
    refine wpAny_pyNext_enum_endD (Draws.strAscii (A := (G.A.over _ fs).in1) hA.1 it ⟨l.toArray⟩ t) hen (hq ▸ hst) fun h' hk cc => ?_
    have hio : ∃ o fs, s.heap.get? it = some o ∧ o.data = .fields fs := let ⟨o, h1, _, h2⟩ := hst; ⟨o, _, h1, h2⟩
    have fX : Fm C F X (fun a => a = F.env.locals) { s with heap := h', toks := s.toks } σ' ow := f.other s.toks (Nat.le_refl _) (.inr (.inr rfl)) (fun b q => .inl q) hk hio fun b q => .inl fun z => hXi (z ▸ q)
    refine kend cc s₀ { s with heap := h' } ow .next ⟨fun b o e0 nm => hk b o (fun z => ?_) (lk.keep b o e0 nm), lk.os, lk.bare, lk.tk, fun h => ?_, fun b o e0 => ?_⟩ (fun a ha o eo => hk a o (fun z => hXi (z ▸ ha)) (hkeep a ha o eo)) htk fX hi rfl
    · subst z
      have e1 := lk.keep b o e0 nm
      obtain ⟨o1, h1, h2, h3⟩ := hst
      rw [e1] at h1; cases h1
      exact nm (.inr ⟨hi0, .inr h2, _, h3⟩)
    · obtain ⟨o, eo⟩ := lk.loc h
      exact ⟨o, hk _ _ (fun z => f.xo it (.inr (.inr rfl)) (z.symm.trans hL.symm)) eo⟩
    · obtain ⟨o', e'⟩ := lk.th b o e0
      exact ⟨o', hk _ _ (fun z => by rw [z, hi0] at e0; cases e0) e'⟩
  | cons cch cs ih =>
    intro q s₀ s σ ow ys hdrop hlen hen hst hX f hi ee lk ha hkeep htk
    obtain ⟨old, hen⟩ := hen
    obtain ⟨hget, hdrop'⟩ := drop_cons_get hdrop
    have hql : q < l.length := by simp at hlen; omega
    refine seg_forLoop fun E1 => ?_
    have hio : ∃ o fs, s.heap.get? it = some o ∧ o.data = .fields fs := let ⟨o, h1, _, h2⟩ := hst; ⟨o, _, h1, h2⟩
    have hitlt : it < s.heap.objs.size := let ⟨o, fs, h1, _⟩ := hio; Heap.lt_size h1
    have helt : e < s.heap.objs.size := Heap.lt_size hen
    refine tk_ (wpAny_pyNext_enum_itemD (Draws.strAscii (A := (G.A.over _ fs).in1) hA.1 it ⟨l.toArray⟩ t) hen hst (by simpa using hql) hei (by simpa using hei) fun xv h' tk hP hout hst' hT hsz hk htk' => ?_)
    intro E2
    obtain ⟨c1, u1, hc1, rfl⟩ := hP
    have ec : c1 = cch := by
      have : l[q]? = some c1 := by simpa using hc1
      rw [hget] at this; cases this; rfl
    subst ec
    refine wpAny_letOwnedTupleGo_enum hout fun h2 hen2 sb2 => ?_
    intro E3
    generalize hsT : s.heap.objs.size = T at *
    have hTe : T ≠ e := Nat.ne_of_gt helt
    have hTi : T ≠ it := Nat.ne_of_gt hitlt
    have hst2 : h2.IsStrIter it "str_ascii_iterator" ⟨l.toArray⟩ t (q + 1) := let ⟨o, h1, r⟩ := hst'; ⟨o, (sb2.2 it hei.symm).trans h1, r⟩
    have hT2 : h2.get? T = some { cls := .type "tuple", data := .seq #[.int q tk, .str ⟨#[c1]⟩ u1] } := (sb2.2 T hTe).trans hT
    have hk2 : ∀ b o, b ≠ e → b ≠ it → s.heap.get? b = some o → h2.get? b = some o := fun b o a1 a2 a3 => (sb2.2 b a1).trans (hk b o a1 a2 a3)
    have ncl : ∀ {a v}, s.heap.IsCell a v → ¬ (a = e ∨ a = it) := by
      rintro a v ⟨o', e1, d⟩ (rfl | rfl)
      · rw [hen] at e1; cases e1; cases d
      · obtain ⟨o2, fs2, e2, d2⟩ := hio
        rw [e2] at e1; cases e1; rw [d2] at d; cases d
    have f2 : Fm C F (fun b => X b ∨ b = e ∨ b = it) (fun a => a = F.env.locals) { s with heap := h2, toks := tk + 1 } σ ow := by
      refine f.otherS (Z := fun b => b = e ∨ b = it) (tk + 1) htk' (fun b q => .inr q) (fun b q => q) (fun b o nz e1 => hk2 b o (fun z => nz (.inl z)) (fun z => nz (.inr z)) e1) ncl fun b hb => ?_
      by_cases hbe : b = e
      · exact .inr ⟨_, hbe ▸ hen2⟩
      · by_cases hbi : b = it
        · exact .inr (let ⟨o, h1, _⟩ := hst2; ⟨o, hbi ▸ h1⟩)
        · exact .inl fun z => z.elim hbe hbi
    have hTnot : ∀ b, NX (fun b => X b ∨ b = e ∨ b = it) (fun a => a = F.env.locals) b → b ≠ T := fun b hb z => by
      obtain ⟨o, e1⟩ := f.gs.ex b hb
      have := Heap.lt_size e1
      rw [hsT, z] at this
      exact Nat.lt_irrefl _ this
    have lk2 : Link G.L G.Hc s₀ { s with heap := h2, toks := tk + 1 } := by
      refine ⟨fun b o e0 nm => ?_, lk.os, lk.bare, Nat.le_trans lk.tk htk', fun h => ?_, fun b o e0 => ?_⟩
      · have e1 := lk.keep b o e0 nm
        refine hk2 b o (fun z => ?_) (fun z => ?_) e1
        · subst z
          rw [hen] at e1; cases e1
          exact nm (.inr ⟨he0, .inl rfl, _, rfl⟩)
        · subst z
          obtain ⟨o1, h1, h2, h3⟩ := hst
          rw [e1] at h1; cases h1
          exact nm (.inr ⟨hi0, .inr h2, _, h3⟩)
      · obtain ⟨o, eo⟩ := lk.loc h
        exact ⟨o, hk2 _ _ (fun z => f.xo e (.inr (.inl rfl)) (z.symm.trans hL.symm)) (fun z => f.xo it (.inr (.inr rfl)) (z.symm.trans hL.symm)) eo⟩
      · obtain ⟨o', e'⟩ := lk.th b o e0
        exact ⟨o', hk2 _ _ (fun z => by rw [z, he0] at e0; cases e0) (fun z => by rw [z, hi0] at e0; cases e0) e'⟩
    have rT : RV h2 (NX (fun b => X b ∨ b = e ∨ b = it) (fun a => a = F.env.locals)) (.tup [.int q, .str [c1]]) (.ref T) := by
      unfold RV
      refine ⟨T, [.int q tk, .str ⟨#[c1]⟩ u1], rfl, fun z => hTnot T z rfl, ⟨_, hT2, rfl, 0, rfl⟩, RVs.cons (by unfold RV; exact ⟨_, rfl⟩) (RVs.cons (by unfold RV; exact ⟨_, rfl⟩) RVs.nil)⟩
    show wpAny C.M _ (standAt tp >>= fun _ => (holding [.ref T] (unpackItems (.ref T) 2 none) >>= fun us => assignInOrder [assign (.Name x px) F.env, assign (.Name y py) F.env] us)) _ E3 _
    refine wpAny_bind (wpAny_standAt (wpAny_bind (wpAny_holding (unpackItems_ (C := C) (vs := [.int q, .str [c1]]) (r := .val (.tup [.int q, .str [c1]])) (O := fun a => a = F.env.locals) hA.1 (fun b q => .inr q) f2.gs.ex (Ext.refl _) rT rfl (T := "tuple") ⟨_, hT2, rfl⟩ slot_tuple_iter fun us s3 x3 z => ?_))))
    unfold RVs at z
    obtain ⟨v1, us', rfl, z1, z⟩ := z
    unfold RVs at z
    obtain ⟨v2, us'', rfl, z2, z⟩ := z
    unfold RVs at z
    subst z
    refine wpAny_assignInOrder_more (wpAny_assign_Name (store_val (f2.ext x3) hx hxw z1 fun s4 ow4 st4 f4 => ?_))
    refine wpAny_assignInOrder_more (wpAny_assign_Name (store_val f4 hy hyw (RV.mono st4.moves z2) fun s5 ow5 st5 f5 => ?_))
    refine wpAny_pure fun H => ?_
    have lk5 := ((lk2.ext x3).stp st4 fun b q => q.trans hL).stp st5 fun b q => q.trans hL
    have stX : ∀ a, (X a ∨ a = e ∨ a = it) → ∀ o, h2.get? a = some o → s5.heap.get? a = some o := fun a hXa o eo => st5.keep a o (st4.keep a o (x3.keep a o eo) (f2.xo a hXa)) (f2.xo a hXa)
    have hi5 : ((σ.set i (.val (.int q))).set j (.val (.str [c1]))).all immS = true := all_set (all_set hi rfl) rfl
    have hX5 : ∀ a, (X a ∨ a = e ∨ a = it) → ∃ o fs, s5.heap.get? a = some o ∧ o.data = .fields fs := by
      intro a hXa
      by_cases hae : a = e
      · exact ⟨_, _, stX a hXa _ (hae ▸ hen2), rfl⟩
      · by_cases hai : a = it
        · obtain ⟨o, h1, _, h3⟩ := hst2
          exact ⟨o, _, stX a hXa _ (hai ▸ h1), h3⟩
        · have hXa' : X a := hXa.elim id fun z => (z.elim (fun z => absurd z hae) (fun z => absurd z hai))
          obtain ⟨o, fs, e1, d⟩ := hX a hXa'
          exact ⟨o, fs, stX a hXa _ (hk2 a o hae hai e1), d⟩
    have hkeep5 : ∀ a, X a → ∀ o, s₁.heap.get? a = some o → s5.heap.get? a = some o := fun a ha o eo => stX a (.inl ha) o (hk2 a o (fun z => hXe (z ▸ ha)) (fun z => hXi (z ▸ ha)) (hkeep a ha o eo))
    have htk5 : s₁.toks ≤ s5.toks := Nat.le_trans htk (Nat.le_trans htk' (Nat.le_trans x3.tk (Nat.le_trans st4.tk st5.tk)))
    have f5X : ∀ {s' : Shared} {σ1 : List S} {ow'}, Fm C F (fun b => X b ∨ b = e ∨ b = it) (fun a => a = F.env.locals) s' σ1 ow' → Fm C F X (fun a => a = F.env.locals) s' σ1 ow' := fun f => f.subX fun b q => .inl q
    unfold enumY at ee
    cases e2 : fb ((σ.set i (.val (.int q))).set j (.val (.str [c1]))) with
    | none => simp [e2] at ee
    | some r =>
      obtain ⟨ys1, fl1, σ1⟩ := r
      have again : (fl1 = .next ∨ fl1 = .cont) → (enumY fb i j (q + 1) cs σ1).map (fun r => (ys1 ++ r.1, r.2)) = some (ys, fl, σ') → Seg C.M G.A G.R G.Y (ys.length + m) s₀ (.forLoop (.Tuple [.Name x px, .Name y py] k tp) (.ref e) body [] F.env) ((execs body F.env).wrap (fun f => match f with
            | .next | .cont => .pure (.again (.forLoop (.Tuple [.Name x px, .Name y py] k tp) (.ref e) body [] F.env))
            | .brk => leafOf (.ok .next)
            | .ret v => leafOf (.ok (.ret v))) H id id) fs s5 := by
        intro hfl em
        obtain ⟨⟨ys2, fl2, σ2⟩, e3, e4⟩ := Option.map_eq_some_iff.mp em
        simp only [Prod.mk.injEq] at e4
        obtain ⟨q1, q2, q3⟩ := e4
        rw [q2, q3] at e3
        rw [← q1] at ha ⊢
        obtain ⟨ha1, ha2⟩ := HandsAll.split ha
        rw [List.length_append, Nat.add_assoc]
        refine hb G _ fs _ H id id (ys2.length + m) s₀ s5 _ _ ow5 ys1 fl1 σ1 hA p1 rfl p3 hL hc hX5 f5 hi5 e2 lk5 ha1 fun sa s6 ow6 flow lk6 hk6 tk6 f6 hi6 fr6 => ?_
        have go : Seg C.M G.A G.R G.Y (ys2.length + m) sa (.forLoop (.Tuple [.Name x px, .Name y py] k tp) (.ref e) body [] F.env) (.pure (.again (.forLoop (.Tuple [.Name x px, .Name y py] k tp) (.ref e) body [] F.env))) fs s6 := by
          refine seg_again (by rfl) (ih (q + 1) sa s6 σ1 ow6 ys2 hdrop' (by simp at hlen; omega) ⟨_, hk6 e (.inr (.inl rfl)) _ (stX e (.inr (.inl rfl)) _ (by simpa using hen2))⟩ ?_ (fun a ha => ?_) f6 hi6 e3 lk6 ha2 (fun a ha o eo => hk6 a (.inl ha) o (hkeep5 a ha o eo)) (Nat.le_trans htk5 tk6))
          · obtain ⟨o, h1, r⟩ := hst2
            exact ⟨o, hk6 it (.inr (.inr rfl)) _ (stX it (.inr (.inr rfl)) _ h1), r⟩
          · obtain ⟨o, fs', e1, d⟩ := hX5 a (.inl ha)
            exact ⟨o, fs', hk6 a (.inl ha) o e1, d⟩
        rcases hfl with rfl | rfl
        · unfold FR at fr6; subst fr6; exact go
        · unfold FR at fr6; subst fr6; exact go
      cases fl1 with
      | next => simp only [e2] at ee; exact again (.inl rfl) ee
      | cont => simp only [e2] at ee; exact again (.inr rfl) ee
      | brk =>
        simp only [e2] at ee
        simp only [Option.some.injEq, Prod.mk.injEq] at ee
        obtain ⟨q1, q2, q3⟩ := ee
        rw [q1] at e2
        refine hb G _ fs _ H id id m s₀ s5 _ _ ow5 ys .brk σ1 hA p1 rfl p3 hL hc hX5 f5 hi5 e2 lk5 ha fun sa s6 ow6 flow lk6 hk6 tk6 f6 hi6 fr6 => ?_
        unfold FR at fr6; subst fr6
        exact kend _ sa s6 ow6 .next lk6 (fun a ha o eo => hk6 a (.inl ha) o (hkeep5 a ha o eo)) (Nat.le_trans htk5 tk6) (f5X (q3 ▸ f6)) (q3 ▸ hi6) (by rw [← q2]; rfl)
      | ret v =>
        simp only [e2] at ee
        simp only [Option.some.injEq, Prod.mk.injEq] at ee
        obtain ⟨q1, q2, q3⟩ := ee
        rw [q1] at e2
        refine hb G _ fs _ H id id m s₀ s5 _ _ ow5 ys (.ret v) σ1 hA p1 rfl p3 hL hc hX5 f5 hi5 e2 lk5 ha fun sa s6 ow6 flow lk6 hk6 tk6 f6 hi6 fr6 => ?_
        obtain ⟨u, rfl, ru⟩ := fr6
        exact kend _ sa s6 ow6 (.ret u) lk6 (fun a ha o eo => hk6 a (.inl ha) o (hkeep5 a ha o eo)) (Nat.le_trans htk5 tk6) (f5X (q3 ▸ f6)) (q3 ▸ hi6) (by rw [← q2]; exact ⟨u, rfl, ru⟩)
end
end Mine

namespace Mine
section
variable {C : Cx} {F : FD} {n : Nat}

theorem Fm.addS {X O Z : Addr → Prop} {s s' : Shared} {σ : List S} {ow : Nat → Addr} (f : Fm C F X O s σ ow) (y : Ext s s') (hz : ∀ b, Z b → s.heap.get? b = none) (hb : ∀ b, Z b → ∃ o, s'.heap.get? b = some o) : Fm C F (fun b => X b ∨ Z b) O s' σ ow := by
  have mv : Moves s.heap s'.heap (NX X O) (NX (fun b => X b ∨ Z b) O) := fun b o e n => ⟨y.keep b o e, fun h => by
    rcases h with (h | h) | h
    · exact n (.inl h)
    · rw [hz b h] at e; cases e
    · exact n (.inr h)⟩
  have g := f.ext y
  refine ⟨⟨g.gs.keep, fun b n => ?_, fun b n => ?_⟩, fun b h q => ?_, f.ol, f.oc, f.nd, f.ci, g.ln, g.cn, f.wv, f.wf, f.kind, f.gl, f.bl, f.len, fun j z w hz hw => ?_, f.inj, g.tp, g.ot⟩
  · rcases n with (n | n) | n
    · exact f.gs.nb b (.inl n)
    · by_cases hp : C.Px b
      · exact .inr hp
      · refine .inl ?_
        cases q : C.base.get? b with
        | none => rfl
        | some o => have := hz b n; rw [f.gs.keep b o q hp] at this; cases this
    · exact f.gs.nb b (.inr n)
  · rcases n with (n | n) | n
    · exact g.gs.ex b (.inl n)
    · exact hb b n
    · exact g.gs.ex b (.inr n)
  · rcases h with h | h
    · exact f.xo b h q
    · obtain ⟨o, e⟩ := f.gs.ex b (.inr q)
      rw [hz b h] at e; cases e
  · obtain ⟨val, va, sr⟩ := f.var j z w hz hw
    refine ⟨val, va.ext y, ?_⟩
    cases w with
    | unb => exact sr
    | val v => obtain ⟨u, e, r⟩ := sr; exact ⟨u, e, RV.mono mv r⟩
    | pin v u => exact ⟨sr.1, RV.mono mv sr.2⟩
    | own l2 =>
      obtain ⟨us2, e2, o2, ⟨n, p2⟩, r2⟩ := sr
      exact ⟨us2, e2, o2, ⟨n, y.keep _ _ p2⟩, RVs.mono mv r2⟩

theorem yForEnum (hC : C.Ok) (i j : Nat) {x y en : Str} {px py tp p cpos pos : Pos} {k : Nat} {a : Expr} {body : List Stmt} {f1 : List S → Option R} {fb : YF} (hx : F.vs[i]? = some x) (hxw : x ∈ F.ws) (hy : F.vs[j]? = some y) (hyw : y ∈ F.ws)
    (hk : F.env.kindOf en = some .globalImplicit) (hd : (en == ("__debug__" : Str)) = false) (hn : C.mg en = none) (hbn : C.mb en = some (.type "enumerate")) (he : SE C F n a f1) (hst : ∀ env, starEach [a] env = (false, eval a env) :: starEach [] env) (hb : YB C F n body fb) :
    YS C F n (.For (.Tuple [.Name x px, .Name y py] k tp) (.Call (.Name en p) [a] [] cpos) body [] pos) (fun σ => match f1 σ with | some (.val (.str l)) => if l.all (· < 128) = true then enumY fb i j 0 l σ else none | _ => none) := by
  intro G c fs K H gd lv m s₀ s X σ ow ys fl σ' hA p1 p2 p3 hL hc hX f hi e lk ha kk
  simp only at e
  split at e
  · rename_i l e1
    split at e
    · rename_i hl
      refine seg_For (fun v => rfl) fun E1 => ?_
      refine wpAny_Call_NameR (ldG hC f hk hd (.inr ⟨hn, hbn⟩) ?_)
      have fin : wpAny C.M (G.A.over c fs) (spliced (backTo cpos (starEach [a] F.env))) (fun us s' => wpAny C.M (G.A.over c fs) (call (.type "enumerate") us) (fun xv s1 => ∀ E2, wpAny C.M (G.A.over c fs) (pyIter xv) (fun it s2 =>
          ∀ k0 p, (∀ cc m s₁ s' flow, Seg C.M G.A G.R G.Y m s₁ c (K flow) fs s' → Seg C.M G.A G.R G.Y m s₁ cc (leafOf (.ok flow)) (.ret k0 none (gd false) (lv []) c p [] :: fs) s') →
          Seg C.M G.A G.R G.Y (ys.length + m) s₀ (.forLoop (.Tuple [.Name x px, .Name y py] k tp) it body [] F.env) (C.M.den (.forLoop (.Tuple [.Name x px, .Name y py] k tp) it body [] F.env)) (.ret k0 none (gd false) (lv []) c p [] :: fs) s2) E2 s1) E1 s') E1 s := by
        refine (aCons hst he aNil) cpos _ s X _ σ ow [.val (.str l)] hA f (by simp [e1]) _ E1 fun us s1 x1 rq => ?_
        obtain ⟨u, rfl, r1⟩ := rq.one
        obtain ⟨t, rfl⟩ := r1.str
        refine call_enumerate_str fun h2 hen hit hsz hkeep => ?_
        intro E2
        have f1' := f.ext x1
        have lk1 := lk.ext x1
        generalize hit0 : s1.heap.objs.size = it at *
        have frit : s1.heap.get? it = none := by rw [← hit0]; exact fresh_none _
        have fre : s1.heap.get? (it + 1) = none := by
          cases q : s1.heap.get? (it + 1) with
          | none => rfl
          | some o => exact absurd (Heap.lt_size q) (by rw [hit0]; exact Nat.not_lt.mpr (Nat.le_succ _))
        have y2 : Ext s1 { s1 with heap := h2 } := Ext.heap s1.toks hkeep
        have hit' : h2.IsStrIter it "str_ascii_iterator" ⟨l.toArray⟩ t 0 := by
          have : strIterType ⟨l.toArray⟩ = "str_ascii_iterator" := by unfold strIterType; rw [if_pos (by simpa using hl)]
          rw [← this]; exact hit
        refine wpAny_pyIter_enum hen ?_
        intro k0 p hleaf
        have lk2 := lk1.ext y2
        have f2 : Fm C F (fun b => X b ∨ (b = it + 1 ∨ b = it)) (fun a => a = F.env.locals) { s1 with heap := h2 } σ ow := f1'.addS y2 (fun b q => q.elim (fun q => q ▸ fre) (fun q => q ▸ frit)) (fun b q => q.elim (fun q => ⟨_, q ▸ hen⟩) (fun q => let ⟨o, e, _⟩ := hit'; ⟨o, q ▸ e⟩))
        have notX : ∀ b, s1.heap.get? b = none → ¬ X b := fun b hb q => by
          obtain ⟨o, e⟩ := f1'.gs.ex b (.inl q)
          rw [hb] at e; cases e
        have notH : ∀ b, s1.heap.get? b = none → G.Hc.get? b = none := fun b hb => by
          cases q : G.Hc.get? b with
          | none => rfl
          | some o => obtain ⟨o', e⟩ := lk1.th b o q; rw [hb] at e; cases e
        have upX : ∀ a, X a → ∀ o, s.heap.get? a = some o → h2.get? a = some o := fun a ha o eo => hkeep a o (x1.keep a o eo)
        refine enum_loop i j (m := m) (X := X) (l := l) (fl := fl) (σ' := σ') hx hxw hy hyw hb hA.loop (by simp [splitAtGen, p1]) (by show ((gd false) || fs.any Frame.guarded) = false; rw [p2, p3]; rfl) hL hc (Nat.ne_of_gt (Nat.lt_succ_self _)) (notH _ fre) (notH _ frit) (notX _ fre) (notX _ frit) { s1 with heap := h2 }
          (fun cc sa s' ow' flow lk' kp' tk' fm' im' fr' => hleaf cc m sa s' flow (kk sa s' ow' flow lk' (fun a ha o eo => kp' a ha o (upX a ha o eo)) (Nat.le_trans x1.tk tk') fm' im' fr'))
          l 0 s₀ { s1 with heap := h2 } σ ow ys rfl (by simp) ⟨_, hen⟩ hit' (fun a ha => ?_) f2 hi e lk2 ha (fun a ha o eo => eo) (Nat.le_refl _)
        obtain ⟨o, fs', e0, d⟩ := hX a ha
        exact ⟨o, fs', upX a ha o e0, d⟩
      rw [hst] at fin ⊢
      exact PySem.callWith_type rfl (Calls.evalArgs_plain fin)
    · cases e
  · cases e
end
end Mine

namespace Mine

noncomputable def stdR (L : Addr) (Hc : Heap) : GenEnd := fun n s₀ r s₁ => r = .ok (.ret .none) ∧ (n = 0 ∧ Link L Hc s₀ s₁)
noncomputable def stdY (C : Cx) (L : Addr) (Hc : Heap) (items : List V) : Protocol := fun m s₀ v s kap =>
  ∃ w, items[items.length - (m + 1)]? = some w ∧ Link L Hc s₀ s ∧ RV s.heap (fun _ => False) w v ∧ ∀ s'', Later C L Hc s s'' → kap (.send .none) s''

theorem hands_std {C : Cx} {A : Around} {R : GenEnd} {L : Addr} {Hc : Heap} {items : List V} : ∀ (vs pre : List V), items = pre ++ vs → GC.HandsAll C ⟨A, R, stdY C L Hc items, L, Hc⟩ 0 vs
  | [], pre, h => trivial
  | v :: vs, pre, h => by
    refine ⟨fun s₀ s u kap lk rv hk => ⟨v, ?_, lk, rv, hk⟩, hands_std vs (pre ++ [v]) (by rw [h]; simp)⟩
    have : items.length - (vs.length + 0 + 1) = pre.length := by rw [h, List.length_append, List.length_cons]; omega
    rw [this, h]; simp

mutual
theorem RV.monoT {h h' : Heap} {N : Addr → Prop} (hk : ∀ b o, h.get? b = some o → ¬ N b → (o.cls = .type "tuple" ∨ o.cls = .type "list" ∨ o.cls = .type "range") → h'.get? b = some o) : ∀ {v u}, RV h N v u → RV h' N v u
  | .non, _, x => x
  | .bool _, _, x => x
  | .int _, _, x => x
  | .str _, _, x => x
  | .byt _, _, x => x
  | .tup l, u, x => by
    unfold RV at x ⊢
    obtain ⟨a, us, e, n, ⟨o, ho, hc, r⟩, z⟩ := x
    exact ⟨a, us, e, n, ⟨o, hk a o ho n (.inl hc), hc, r⟩, RVs.monoT hk z⟩
  | .lst l, u, x => by
    unfold RV at x ⊢
    obtain ⟨a, us, e, n, ⟨o, ho⟩, z⟩ := x
    exact ⟨a, us, e, n, ⟨o, hk a _ ho n (.inr (.inl rfl))⟩, RVs.monoT hk z⟩
  | .rng p q, u, x => by
    unfold RV at x ⊢
    obtain ⟨a, t1, t2, t3, e, n, z⟩ := x
    exact ⟨a, t1, t2, t3, e, n, hk a _ z n (.inr (.inr rfl))⟩
theorem RVs.monoT {h h' : Heap} {N : Addr → Prop} (hk : ∀ b o, h.get? b = some o → ¬ N b → (o.cls = .type "tuple" ∨ o.cls = .type "list" ∨ o.cls = .type "range") → h'.get? b = some o) : ∀ {vs us}, RVs h N vs us → RVs h' N vs us
  | [], _, x => x
  | v :: vs, us, x => by
    unfold RVs at x ⊢
    obtain ⟨u, us', e, y, z⟩ := x
    exact ⟨u, us', e, RV.monoT hk y, RVs.monoT hk z⟩
end

section
variable {C : Cx} {F : FD} {n : Nat} {X O : Addr → Prop} {s s' : Shared} {σ : List S} {ow : Nat → Addr}

theorem Fm.sh (f : Fm C F X O s σ ow) (h1 : s.heap = s'.heap) (h2 : s.toks = s'.toks) : Fm C F X O s' σ ow := by
  obtain ⟨hp, g, d, tk, os⟩ := s
  obtain ⟨hp', g', d', tk', os'⟩ := s'
  simp only at h1 h2
  subst h1 h2
  exact ⟨f.gs, f.xo, f.ol, f.oc, f.nd, f.ci, f.ln, f.cn, f.wv, f.wf, f.kind, f.gl, f.bl, f.len, f.var, f.inj, f.tp, f.ot⟩

/-- a frame outlives a turn of a generator that it reads -/
theorem Fm.link (f : Fm C F X O s σ ow) {L : Addr} {Hc : Heap} (keep : ∀ b o, s.heap.get? b = some o → ¬ Mod L Hc b o → s'.heap.get? b = some o) (loc : ∃ o, s'.heap.get? L = some o) (tk : s.toks ≤ s'.toks)
    (xL : X L) (hb : ∀ b o, C.base.get? b = some o → ¬ C.Px b → Hc.get? b = some o) (hX : ∀ b, X b → b = L ∨ ∃ o, Hc.get? b = some o) (hcl : ∀ x ∈ F.vs, ∀ c, F.env.cells.lookup x = some c → c ≠ L) : Fm C F X O s' σ ow := by
  have typ : ∀ {o : Obj} {b}, b ≠ L → (∀ fs, o.data ≠ .fields fs) → ¬ Mod L Hc b o := fun hne hd m => m.elim hne fun ⟨_, _, fs, e⟩ => hd fs e
  have typC : ∀ {o : Obj} {b}, b ≠ L → (o.cls = .type "tuple" ∨ o.cls = .type "list" ∨ o.cls = .type "range") → ¬ Mod L Hc b o := fun hne hd m => m.elim hne fun ⟨_, q, _⟩ => by
    rcases hd with hd | hd | hd <;> rcases q with q | q <;> rw [hd] at q <;> simp at q
  have notL : ∀ {b}, ¬ NX X O b → b ≠ L := fun n e => n (.inl (e ▸ xL))
  have OL : ∀ {b}, O b → b ≠ L := fun o e => f.xo L xL (e ▸ o)
  have Ok : ∀ {b o}, O b → s.heap.get? b = some o → s'.heap.get? b = some o := fun ho e => keep _ _ e (typ (OL ho) fun fs => f.ot _ _ fs ho e)
  have nsk : ∀ {m}, s.heap.Ns F.env.locals m → s'.heap.Ns F.env.locals m := fun q => q.at fun o e => Ok f.ol e
  have cell : ∀ {c v}, c ≠ L → s.heap.IsCell c v → s'.heap.IsCell c v := fun hne q => by
    obtain ⟨o, e, d⟩ := q
    exact ⟨o, keep _ _ e (typ hne fun fs => by rw [d]; intro q; cases q), d⟩
  have mv : ∀ {v u}, RV s.heap (NX X O) v u → RV s'.heap (NX X O) v u := fun x => RV.monoT (fun b o e n t => keep b o e (typC (notL n) t)) x
  have mvs : ∀ {v u}, RVs s.heap (NX X O) v u → RVs s'.heap (NX X O) v u := fun x => RVs.monoT (fun b o e n t => keep b o e (typC (notL n) t)) x
  refine ⟨⟨fun b o e n => ?_, f.gs.nb, fun a n => ?_⟩, f.xo, f.ol, f.oc, f.nd, f.ci, let ⟨m, q⟩ := f.ln; ⟨m, nsk q⟩, fun x hx c hc => let ⟨v, q⟩ := f.cn x hx c hc; ⟨v, cell (hcl x hx c hc) q⟩, f.wv, f.wf, f.kind, f.gl, f.bl, f.len, fun j z w hz hw => ?_, f.inj, Nat.le_trans f.tp tk, fun a o fs h e => ?_⟩
  · refine keep b o (f.gs.keep b o e n) fun m => m.elim (fun q => ?_) fun ⟨q, _⟩ => by rw [hb b o e n] at q; cases q
    rcases f.gs.nb L (.inl xL) with z | z
    · rw [q, z] at e; cases e
    · exact n (q ▸ z)
  · rcases n with n | n
    · rcases hX a n with q | ⟨o, q⟩
      · subst q; exact loc
      · by_cases ha : a = L
        · subst ha; exact loc
        · obtain ⟨o', e⟩ := f.gs.ex a (.inl n)
          exact ⟨o', keep a o' e fun m => m.elim ha fun ⟨z, _⟩ => by rw [q] at z; cases z⟩
    · obtain ⟨o, e⟩ := f.gs.ex a (.inr n)
      exact ⟨o, Ok n e⟩
  · obtain ⟨val, va, sr⟩ := f.var j z w hz hw
    refine ⟨val, ?_, ?_⟩
    · have hzm := List.mem_of_getElem? hz
      rcases va with ⟨k, m, ns, e⟩ | ⟨k, c, l, e⟩ | ⟨k, d, c, l, e⟩
      · exact .inl ⟨k, m, nsk ns, e⟩
      · exact .inr (.inl ⟨k, c, l, cell (hcl z hzm c l) e⟩)
      · exact .inr (.inr ⟨k, d, c, l, cell (hcl z hzm c l) e⟩)
    · cases w with
      | unb => exact sr
      | val v => obtain ⟨u, e, r⟩ := sr; exact ⟨u, e, mv r⟩
      | pin v u => exact ⟨sr.1, mv sr.2⟩
      | own l =>
        obtain ⟨us, e, o, ⟨k, p⟩, r⟩ := sr
        exact ⟨us, e, o, ⟨k, Ok o p⟩, mvs r⟩
  · obtain ⟨o', e'⟩ := f.gs.ex a (.inr h)
    rw [Ok h e'] at e; cases e
    exact f.ot a _ fs h e'

theorem Later.of_stp {O' : Addr → Prop} {L : Addr} {Hc : Heap} (f : Fm C F X O s σ ow) (xL : X L) (st : Stp O O' s s') {σ' : List S} {ow' : Nat → Addr} {X' : Addr → Prop} (f' : Fm C F X' O' s' σ' ow') (th : Th Hc s) : Later C L Hc s s' :=
  ⟨fun b o e q => st.keep b o e fun ho => q.elim (fun q => f.xo L xL (q ▸ ho)) fun ⟨fs, d⟩ => f.ot b o fs ho e d, st.tk, f'.gs.keep, fun b o e => let ⟨o', e'⟩ := th b o e; st.there _ _ e'⟩
end

/-- a function of the text that makes a generator -/
structure GenOk (C : Cx) (n : Nat) (x : Str) (f : List V → Option (List V)) : Prop where
  is : ∃ fa o fd, C.mg x = some (.ref fa) ∧ C.base.get? fa = some o ∧ ¬ C.Px fa ∧ o.data = .func fd ∧
    ∀ A s N us vs items, Rm n A → Gs C N s.heap → RVs s.heap N vs us → f vs = some items →
      ∀ (Q : Value → Shared → Prop) (E : Value → Shared → Prop), (∀ a g gs L s', Ext s s' → s'.heap.IsGen a g → s.heap.get? a = none → s.heap.get? L = none → a ≠ L → (∃ m, s'.heap.Ns L m) → s'.gens[g]? = some gs → s.gens[g]? = none →
        (∀ A', Rm n A' → ∀ s'', Later C L s'.heap s' s'' → gs.Goes C.M A'.in1 (stdR L s'.heap) (stdY C L s'.heap items) items.length (.send .none) (s''.setGen g .running)) → Q (.ref a) s') → wpAny C.M A (call (.ref fa) us) Q E s

theorem mkGen {C : Cx} (hC : C.Ok) {n : Nat} {d : DefRec} {ps : List Str} {loc : List Str} {fb : YF} {fa : Addr} {o : Obj} {pm cd doc : Value}
    (h1 : C.mg d.name = some (.ref fa)) (h2 : C.base.get? fa = some o) (h3 : ¬ C.Px fa) (h4 : o.data = .func (Calls.docDef d.name d.params d.body d.scope pm cd doc)) (h5 : C.base.CodeRec cd d.name) (h6 : ∀ c, cd = .ref c → ¬ C.Px c)
    (hbind : ∀ us : List Value, us.length = ps.length → bindArgs (Calls.docDef d.name d.params d.body d.scope pm cd doc) ⟨us, []⟩ = pure (ps.zip us))
    (hps : ps ≠ []) (hnd : (ps ++ loc).Nodup) (hloc : ∀ x ∈ ps ++ loc, d.scope.names.lookup x = some .local)
    (hco : d.scope.isCoroutine = false) (hgen : d.scope.isGenerator = true) (hkind : d.scope.kind = .function) (hcell : ∀ x ∈ d.scope.names, x.2 ≠ .cell)
    (hb : ∀ L, YB C ⟨envOf d.name d.scope L fa cd, ps ++ loc, ps ++ loc, 1⟩ n d.body fb) :
    GenOk C (n + 1) d.name (fun vs => if vs.length = ps.length ∧ vs.all immV = true then (match fb (padU loc.length vs) with | some (ys, .next, _) => some ys | _ => none) else none) := by
  refine ⟨fa, o, _, h1, h2, h3, h4, fun A s N us vs items hA hG z er Q E hQ => ?_⟩
  split at er
  · rename_i hlen
    obtain ⟨hlen, himm⟩ := hlen
    split at er
    · rename_i ys σ' ef
      cases er
      have hlu : us.length = ps.length := by rw [RVs.length z]; exact hlen
      have hlim : s.heap.NoLimit := let ⟨mc, a, b⟩ := hC.lim; ⟨mc, a.at fun o e => hG.keep _ _ e hC.lp, b⟩
      have hcd : s.heap.CodeRec cd d.name := let ⟨c, o, vs, t, e, e1, e2⟩ := h5; ⟨c, o, vs, t, e, hG.keep _ _ e1 (h6 c e), e2⟩
      have hzl : (ps.zip us).map (·.1) = ps := by rw [List.map_fst_zip]; omega
      refine wpAny_call (codeAny_call_generator (by have := hA.2.1; omega) (hG.keep _ _ h2 h3) h4 hco hgen rfl hcd ?_)
      refine wpAny_of_eq (hbind us hlu) ?_
      refine wpAny_newFunctionEnv hcell (fun x hx => ?_) (fun h₁ hns hsb => ⟨hlim.fresh _ hsb, ?_⟩) hkind
      · have : x.1 ∈ (ps.zip us).map (·.1) := List.mem_map_of_mem hx
        rw [hzl] at this
        exact hloc _ (List.mem_append_left _ this)
      · dsimp only at hns hsb ⊢
        generalize hL : s.heap.objs.size = L at *
        have hpsn : ps.Nodup := (List.nodup_append.mp hnd).1
        have fresh : ∀ {b o}, s.heap.get? b = some o → b ≠ L := fun e => hL ▸ Nat.ne_of_lt (Heap.lt_size e)
        have hLnone : s.heap.get? L = none := hL ▸ fresh_none _
        have kp : ∀ b o, s.heap.get? b = some o → h₁.get? b = some o := fun b o e => hsb.extBut b o (fresh e) (Heap.get?_push_of_some _ e)
        have z1 : RVs h₁ N vs us := RVs.mono (fun b o e nb => ⟨kp b o e, nb⟩) z
        have szL : L < h₁.objs.size := by obtain ⟨o', es, ep, e, _⟩ := hns; exact Heap.lt_size e
        generalize hgo : ({ cls := .type "generator", data := .fields #[.int s.gens.size 0, .str d.name (s.toks + (ps.zip us).length), .str d.name (s.toks + (ps.zip us).length + 1)] } : Obj) = go
        have hEnv : newEnv d.scope L mainGlobals [] (d.name ++ ".<locals>.") (some fa) cd none builtinsNs = envOf d.name d.scope L fa cd := rfl
        have hgL : h₁.objs.size ≠ L := Nat.ne_of_gt szL
        have kp2 : ∀ b o, h₁.get? b = some o → (h₁.push go).get? b = some o := fun b o e => Heap.get?_push_of_some _ e
        have hgobj : (h₁.push go).get? h₁.objs.size = some go := Heap.get?_push_size _ (by rw [← hgo]; rfl)
        have na : s.heap.get? h₁.objs.size = none := by
          cases q : s.heap.get? h₁.objs.size with
          | none => rfl
          | some o' => exact absurd (Heap.lt_size (kp _ _ q)) (Nat.lt_irrefl _)
        have nsL := Heap.Ns.keeps hns kp2
        have body : ∀ A', Rm (n + 1) A' → ∀ s'', Later C L (h₁.push go) { s with heap := h₁.push go, gens := s.gens.push (.fresh (.func d.body (envOf d.name d.scope L fa cd))), toks := s.toks + (ps.zip us).length + 1 + 1 } s'' →
            (GenState.fresh (.func d.body (envOf d.name d.scope L fa cd))).Goes C.M A'.in1 (stdR L (h₁.push go)) (stdY C L (h₁.push go) items) items.length (.send .none) (s''.setGen s.gens.size .running) := by
          intro A' hA' s'' hl
          have hF : Fm C ⟨envOf d.name d.scope L fa cd, ps ++ loc, ps ++ loc, 1⟩ (fun _ => False) (fun a => a = L) { s with heap := h₁.push go, gens := s.gens.push (.fresh (.func d.body (envOf d.name d.scope L fa cd))), toks := s.toks + (ps.zip us).length + 1 + 1 } (padU loc.length vs) (fun _ => 0) := by
            refine ⟨⟨fun b o e nb => kp2 _ _ (kp b o (hG.keep b o e nb)), fun a q => ?_, fun a q => ?_⟩, fun a q => q.elim, rfl, fun x hx c hc => ?_, hnd, fun x hx y hy c hc => ?_, ⟨_, nsL⟩, fun x hx c hc => ?_, fun x hx => hx, fun x hx q => ?_, hkind, rfl, rfl, ?_, fun i x y hx hy => ?_, fun i j l l' hi => ?_, ?_, fun a o fs q e => ?_⟩
            · rcases q with q | q
              · exact q.elim
              · subst q
                by_cases hp : C.Px a
                · exact .inr hp
                · refine .inl ?_
                  cases w : C.base.get? a with
                  | none => rfl
                  | some o => exact absurd rfl (fresh (hG.keep _ _ w hp))
            · rcases q with q | q
              · exact q.elim
              · subst q
                obtain ⟨o, es, ep, e, _⟩ := nsL
                exact ⟨o, e⟩
            · cases hc
            · cases hc
            · cases hc
            · have : (envOf d.name d.scope L fa cd).kindOf x = some .local := hloc x hx
              rw [this] at q; cases q
            · simp [padU, hlen]
            · refine ⟨_, .inl ⟨hloc x (List.mem_of_getElem? hx), _, nsL, rfl⟩, ?_⟩
              rw [lookup_reverse (by rw [hzl]; exact hpsn)]
              unfold padU at hy
              by_cases hi : i < vs.length
              · rw [List.getElem?_append_left (by simpa using hi)] at hy
                rw [List.getElem?_append_left (by omega)] at hx
                rw [List.getElem?_map] at hy
                obtain ⟨v, ev, rfl⟩ := Option.map_eq_some_iff.mp hy
                obtain ⟨u, eu, ru⟩ := z1.zip_lookup hlen.symm hpsn i x v hx ev
                exact ⟨u, eu, RV.imm (List.all_eq_true.mp himm v (List.mem_of_getElem? ev)) ru⟩
              · rw [List.getElem?_append_right (by simpa using hi)] at hy
                rw [List.getElem?_append_right (by omega)] at hx
                have : y = .unb := by
                  have := List.mem_of_getElem? hy
                  exact (List.mem_replicate.mp this).2
                subst this
                refine lookup_none_of ?_
                rw [hzl]
                intro hm
                exact (List.nodup_append.mp hnd).2.2 x hm x (List.mem_of_getElem? hx) rfl
            · unfold padU at hi
              have := List.mem_of_getElem? hi
              rcases List.mem_append.mp this with h | h
              · obtain ⟨v, _, e⟩ := List.mem_map.mp h; cases e
              · have := (List.mem_replicate.mp h).2; cases this
            · show 1 ≤ s.toks + (ps.zip us).length + 1 + 1
              omega
            · subst q
              obtain ⟨o', es, ep, e', d, _⟩ := nsL
              have e2 : (h₁.push go).get? a = some o := e
              rw [e'] at e2; cases e2
              rw [d]; intro q; cases q
          have himm' : (padU loc.length vs).all immS = true := by
            rw [List.all_eq_true]
            intro x hx
            rcases List.mem_append.mp hx with h | h
            · obtain ⟨v, hv, rfl⟩ := List.mem_map.mp h
              exact List.all_eq_true.mp himm v hv
            · rw [(List.mem_replicate.mp h).2]; rfl
          have hl' : Later C L (h₁.push go) { s with heap := h₁.push go, gens := s.gens.push (.fresh (.func d.body (envOf d.name d.scope L fa cd))), toks := s.toks + (ps.zip us).length + 1 + 1 } (s''.setGen s.gens.size .running) := ⟨hl.keep, hl.tk, hl.base, hl.th⟩
          have hF2 := hF.later (F := ⟨envOf d.name d.scope L fa cd, ps ++ loc, ps ++ loc, 1⟩) (fun x => rfl) himm' (fun a h => h.elim) (Hc := h₁.push go) hl'
          refine ⟨rfl, seg_func ?_⟩
          have hA2 : Rm n (A'.in1.over (.func d.body (envOf d.name d.scope L fa cd)) []) := by
            obtain ⟨a1, a2, a3⟩ := hA'
            refine ⟨a1, ?_, ?_⟩
            · show A'.depth + 0 + 1 + n < recursionLimit
              omega
            · show A'.units + 1 + 0 + 3 + 10 * n < cLine
              omega
          exact hb L ⟨A'.in1, stdR L (h₁.push go), stdY C L (h₁.push go) items, L, h₁.push go⟩ _ [] _ _ id id 0 _ _ (fun _ => False) _ _ items .next σ' hA2 rfl rfl rfl rfl (fun x => rfl) (fun a h => h.elim) hF2 himm' ef (Link.refl _ hl.th) (hands_std items [] rfl)
            fun sa s3 ow3 flow lk3 _ _ f3 _ fr3 => by
              unfold FR at fr3; subst fr3
              exact seg_end (.ok (.ret .none)) ⟨rfl, rfl, lk3⟩
        subst hgo
        refine hQ h₁.objs.size s.gens.size (.fresh (.func d.body (envOf d.name d.scope L fa cd))) L { s with heap := h₁.push _, gens := s.gens.push (.fresh (.func d.body (envOf d.name d.scope L fa cd))), toks := s.toks + (ps.zip us).length + 1 + 1 } ⟨fun b o e => kp2 _ _ (kp b o e), rfl, ⟨fun h => AllBare.push h rfl, fun g x e => ?_⟩, ?_⟩ ⟨_, _, _, hgobj, rfl, rfl, rfl⟩ na hLnone hgL ⟨_, nsL⟩ ?_ ?_ body
        · show (s.gens.push _)[g]? = some x
          rw [Array.getElem?_push_lt (by obtain ⟨q, _⟩ := Array.getElem?_eq_some_iff.mp e; exact q)]
          obtain ⟨q, e'⟩ := Array.getElem?_eq_some_iff.mp e
          rw [e']
        · show s.toks ≤ s.toks + (ps.zip us).length + 1 + 1
          omega
        · simp
        · simp
    · cases er
  · cases er
end Mine

namespace Mine

theorem letOwned_gen {M : Model} {A : Around} {s : Shared} {elts : List Expr} {k : Nat} {pos : Pos} {a T : Addr} {g : Nat} {Q : Unit → Shared → Prop} {E : Value → Shared → Prop} (hg : s.heap.IsGen a g) (h : Q () s) :
    wpAny M A (letOwnedTupleGo (.Tuple elts k pos) (.ref a) (.ref T)) Q E s := by
  obtain ⟨⟨c, d, dt, sl⟩, nm, qn, ho, hc, hd, hs⟩ := hg
  simp only at hc hd hs
  subst hc hd hs
  unfold letOwnedTupleGo
  refine wpAny_bind (wpAny_load ho ?_)
  show wpAny M A (if (["enumerate", "zip", "dict_itemiterator", "dict_reverseitemiterator", "odict_iterator", "itertools.zip_longest", "itertools.pairwise"].contains "generator" && _) = true then _ else _) Q E s
  rw [if_neg (by rw [show ["enumerate", "zip", "dict_itemiterator", "dict_reverseitemiterator", "odict_iterator", "itertools.zip_longest", "itertools.pairwise"].contains "generator" = false from by decide]; simp)]
  exact wpAny_pure h

noncomputable def pairOf : V → Option (V × V)
  | .tup [a, b] => if immV a && immV b then some (a, b) else none
  | _ => none
theorem pairOf_eq {v a b : V} (h : pairOf v = some (a, b)) : v = .tup [a, b] ∧ immV a = true ∧ immV b = true := by
  unfold pairOf at h
  split at h
  · split at h
    · rename_i hi
      cases h
      rw [Bool.and_eq_true] at hi
      exact ⟨rfl, hi⟩
    · cases h
  · cases h
noncomputable def forP (fb : SF) (i j : Nat) : List V → SF
  | [], σ => some (.next, σ)
  | v :: vs, σ => match pairOf v with
    | some (a, b) => (match fb ((σ.set i (.val a)).set j (.val b)) with
      | some (.next, σ') => forP fb i j vs σ'
      | some (.cont, σ') => forP fb i j vs σ'
      | some (.brk, σ') => some (.next, σ')
      | some (.ret w, σ') => some (.ret w, σ')
      | none => none)
    | none => none

section
variable {C : Cx} {F : FD} {n : Nat}

theorem sForGen (hC : C.Ok) (i j : Nat) {x y gn : Str} {px py tp p cpos pos : Pos} {k : Nat} {e : Expr} {es : List Expr} {body : List Stmt} {m0 : Nat} {g : List V → Option (List V)} {f1 : List S → Option (List V)} {fb : SF} (hm : m0 ≤ n)
    (hx : F.vs[i]? = some x) (hxw : x ∈ F.ws) (hy : F.vs[j]? = some y) (hyw : y ∈ F.ws)
    (hk : F.env.kindOf gn = some .globalImplicit) (hd : (gn == ("__debug__" : Str)) = false) (hg : GenOk C m0 gn g) (h1 : SL C F n (e :: es) f1) (hst : ∀ env, starEach (e :: es) env = (false, eval e env) :: starEach es env) (hb : SB C F n body fb) :
    SS C F n (.For (.Tuple [.Name x px, .Name y py] k tp) (.Call (.Name gn p) (e :: es) [] cpos) body [] pos) (fun σ => match f1 σ with | some vs => (match g vs with | some items => forP fb i j items σ | none => none) | none => none) := by
  intro A s X O σ ow fl σ' hA f er Q E h
  cases e1 : f1 σ with
  | none => simp [e1] at er
  | some vs =>
    cases e2 : g vs with
    | none => simp [e1, e2] at er
    | some items =>
      simp only [e1, e2] at er
      obtain ⟨fa, o, fd, h2, h3, h4, h5, h6⟩ := hg.is
      refine wpAny_For (wpAny_Call_NameR (ldG hC f hk hd (.inl h2) ?_)) (fun v => rfl)
      refine PyProof.Rows.callWith_def h5 (h1 cpos A s X O σ ow vs hA f e1 _ E fun us s1 x1 r1 => ⟨(f.ext x1).gs.keep _ _ h3 h4, ?_⟩) (hst _)
      refine h6 A s1 (NX X O) us vs items (hA.le hm) (f.ext x1).gs r1 e2 _ E fun a gi gs L s2 x2 hgen na nL hne hns hgs hg0 hgo => wpAny_pyIter_gen hgen ?_
      generalize hHc : s2.heap = Hc at *
      have f2 := (f.ext x1).ext x2
      have nas : s.heap.get? a = none := none_of x1.keep na
      have nLs : s.heap.get? L = none := none_of x1.keep nL
      have upc : ∀ b o, s.heap.get? b = some o → Hc.get? b = some o := fun b o e => hHc ▸ x2.keep b o (x1.keep b o e)
      have aHc : ∃ o, Hc.get? a = some o := let ⟨o, _, _, e, _⟩ := hgen; ⟨o, e⟩
      have hbase : ∀ b o, C.base.get? b = some o → ¬ C.Px b → Hc.get? b = some o := fun b o e n => hHc ▸ f2.gs.keep b o e n
      have hXH : ∀ b, (X b ∨ (b = L ∨ b = a)) → b = L ∨ ∃ o, Hc.get? b = some o := fun b q => by
        rcases q with q | q | q
        · obtain ⟨o, e⟩ := f.gs.ex b (.inl q)
          exact .inr ⟨o, upc _ _ e⟩
        · exact .inl q
        · exact .inr (q ▸ aHc)
      have hcl : ∀ z ∈ F.vs, ∀ c, F.env.cells.lookup z = some c → c ≠ L := fun z hz c hc q => by
        obtain ⟨v, o, e, _⟩ := f.cn z hz c hc
        rw [q, nLs] at e; cases e
      have notMod : ∀ {b o o'}, Hc.get? b = some o' → b ≠ L → ¬ Mod L Hc b o := fun e1 e2 m => m.elim e2 fun ⟨z, _⟩ => by rw [e1] at z; cases z
      have gns : ∀ {g' x}, s.gens[g']? = some x → g' ≠ gi := fun {g' x} e q => by
        have := x1.bare.2 g' x e
        rw [q, hg0] at this; cases this
      have fX : Fm C F (fun b => X b ∨ (b = L ∨ b = a)) O s2 σ ow := (f.ext x1).addS x2 (fun b q => q.elim (fun q => q ▸ nL) (fun q => q ▸ na)) (fun b q => q.elim (fun q => let ⟨m, o, es, ep, e, _⟩ := hns; ⟨o, by rw [hHc, q]; exact e⟩) (fun q => let ⟨o, e⟩ := aHc; ⟨o, by rw [hHc, q]; exact e⟩))
      refine codeAny_forLoop_any (fun kk s' => ∃ vs' pre σ1 O1 ow1 gs1, kk = vs'.length ∧ items = pre ++ vs' ∧ Fm C F (fun b => X b ∨ (b = L ∨ b = a)) O1 s' σ1 ow1 ∧ Stp O O1 s s' ∧ s'.gens[gi]? = some gs1 ∧ s'.heap.IsGen a gi ∧ Th Hc s' ∧
        (∀ s'', Later C L Hc s' s'' → gs1.Goes C.M A.in1 (stdR L Hc) (stdY C L Hc items) vs'.length (.send .none) (s''.setGen gi .running)) ∧ forP fb i j vs' σ1 = some (fl, σ')) ?_ items.length
        ⟨items, [], σ, O, ow, gs, rfl, rfl, fX, (Stp.ofExt x1).trans (Stp.ofExt x2), hgs, hHc ▸ hgen, fun b o e => ⟨o, hHc ▸ e⟩, hgo A (hA.le hm), er⟩
      rintro kk s' ⟨vs', pre, σ1, O1, ow1, gs1, rfl, hit, f', st, hgs1, hgen1, th1, go1, e'⟩
      have hlim : s'.heap.NoLimit := let ⟨mc, q, b⟩ := hC.lim; ⟨mc, q.at fun o e => f'.gs.keep _ _ e hC.lp, b⟩
      have refl1 : Later C L Hc s' s' := ⟨fun _ _ e _ => e, Nat.le_refl _, f'.gs.keep, th1⟩
      have Lex : ∃ o, s'.heap.get? L = some o := f'.gs.ex L (.inl (.inr (.inl rfl)))
      have xL : X L ∨ (L = L ∨ L = a) := .inr (.inl rfl)
      have stA : ∀ s₁ (gx : GenState), Link L Hc (s'.setGen gi .running) s₁ → (AllBare s'.gens → AllBare (s₁.gens.setIfInBounds gi gx)) → ∀ sx : Shared, (∀ b o, s₁.heap.get? b = some o → sx.heap.get? b = some o) → sx.os = s₁.os → sx.gens = s₁.gens.setIfInBounds gi gx → sx.toks = s₁.toks → Stp O O1 s sx := by
        intro s₁ gx lk hbare sx hk1 hk2 hk3 hk4
        have ne : ∀ {b o}, s.heap.get? b = some o → b ≠ L := fun e q => by rw [q, nLs] at e; cases e
        refine ⟨fun b o e nb => hk1 b o (lk.keep b o (st.keep b o e nb) (notMod (upc b o e) (ne e))), st.own, fun b o e => ?_, by rw [hk2, lk.os]; exact st.os, ⟨fun hb => by rw [hk3]; exact hbare (st.bare.1 hb), fun g' x e => ?_⟩, by rw [hk4]; exact Nat.le_trans st.tk lk.tk⟩
        · obtain ⟨o', e'⟩ := st.there b o e
          exact ⟨o', hk1 b o' (lk.keep b o' e' (notMod (upc b o e) (ne e)))⟩
        · have h1 : s'.gens[g']? = some x := st.bare.2 g' x e
          have hne' := gns e
          have h2 : (s'.setGen gi .running).gens[g']? = some x := by
            show (s'.gens.setIfInBounds gi _)[g']? = some x
            rw [Array.getElem?_setIfInBounds_ne (Ne.symm hne')]; exact h1
          rw [hk3, Array.getElem?_setIfInBounds_ne (Ne.symm hne')]
          exact lk.bare.2 g' x h2
      refine bare_ (wpAny_pyNext_gen (n := vs'.length) (P := fun n s₀ s₁ => n = 0 ∧ Link L Hc s₀ s₁) (Y := stdY C L Hc items) hA.1 hlim (by have := hA.2.1; omega) hgen1 hgs1 (go1 s' refl1) (fun v s₁ gs' hyy hbare => ?_) (fun s₁ hp h' hk hbare => ?_))
      · obtain ⟨w, hw, lk, rv, hkap⟩ := hyy
        have fL : Fm C F (fun b => X b ∨ (b = L ∨ b = a)) O1 s₁ σ1 ow1 := f'.link lk.keep (lk.loc Lex) lk.tk xL hbase hXH hcl
        have refl2 : Later C L Hc s₁ s₁ := ⟨fun _ _ e _ => e, Nat.le_refl _, fL.gs.keep, lk.th⟩
        cases vs' with
        | nil => exact (hkap s₁ refl2).elim
        | cons v0 vs1 =>
          have ew : w = v0 := by
            have hidx : items.length - ((v0 :: vs1).length - 1 + 1) = pre.length := by rw [hit, List.length_append, List.length_cons]; omega
            rw [hidx, hit] at hw
            simp at hw
            exact hw.symm
          subst ew
          unfold forP at e'
          cases ep : pairOf w with
          | none => simp [ep] at e'
          | some pq =>
            obtain ⟨pv, qv⟩ := pq
            simp only [ep] at e'
            obtain ⟨rfl, ip, iq⟩ := pairOf_eq ep
            have f2' : Fm C F (fun b => X b ∨ (b = L ∨ b = a)) O1 (s₁.setGen gi gs') σ1 ow1 := fL.sh rfl rfl
            have st2 : Stp O O1 s (s₁.setGen gi gs') := stA s₁ gs' lk hbare _ (fun _ _ e => e) rfl rfl rfl
            have rv' := rv
            unfold RV at rv'
            obtain ⟨T, us, rfl, _, hT, zT⟩ := rv'
            have hgen2 : (s₁.setGen gi gs').heap.IsGen a gi := by
              obtain ⟨o, nm, qn, e0, r⟩ := hgen1
              obtain ⟨oc, ec⟩ := aHc
              exact ⟨o, nm, qn, lk.keep a o e0 (notMod ec hne), r⟩
            have hgs2 : (s₁.setGen gi gs').gens[gi]? = some gs' := by
              obtain ⟨hlt, _⟩ := Array.getElem?_eq_some_iff.mp hgs1
              have h1 : (s'.setGen gi .running).gens[gi]? = some .running := by
                show (s'.gens.setIfInBounds gi _)[gi]? = _
                rw [Array.getElem?_setIfInBounds_self_of_lt hlt]
              obtain ⟨hlt2, _⟩ := Array.getElem?_eq_some_iff.mp (lk.bare.2 gi _ h1)
              show (s₁.gens.setIfInBounds gi _)[gi]? = _
              rw [Array.getElem?_setIfInBounds_self_of_lt hlt2]
            refine letOwned_gen hgen2 ?_
            show wpAny C.M A (standAt tp >>= fun _ => (holding [.ref T] (unpackItems (.ref T) 2 none) >>= fun us => assignInOrder [assign (.Name x px) F.env, assign (.Name y py) F.env] us)) _ _ _
            refine wpAny_bind (wpAny_standAt (wpAny_bind (wpAny_holding (unpackItems_ (C := C) (vs := [pv, qv]) (r := .val (.tup [pv, qv])) (N := fun _ => False) (O := fun _ => False) (s := s₁.setGen gi gs') (s₀ := s₁.setGen gi gs') hA.1 (fun b q => q) (fun b q => q.elim) (Ext.refl _) rv rfl (T := "tuple") hT.typeIs slot_tuple_iter fun us s3 x3 z => ?_))))
            unfold RVs at z
            obtain ⟨v1, us', rfl, z1, z⟩ := z
            unfold RVs at z
            obtain ⟨v2, us'', rfl, z2, z⟩ := z
            unfold RVs at z
            subst z
            refine wpAny_assignInOrder_more (wpAny_assign_Name (store_val (f2'.ext x3) hx hxw (RV.imm ip z1) fun s4 ow4 st4 f4 => ?_))
            refine wpAny_assignInOrder_more (wpAny_assign_Name (store_val f4 hy hyw (RV.imm iq z2) fun s5 ow5 st5 f5 => ?_))
            refine wpAny_pure ?_
            cases e2 : fb ((σ1.set i (.val pv)).set j (.val qv)) with
            | none => simp [e2] at e'
            | some r =>
              obtain ⟨fl1, σ2⟩ := r
              refine hb A s5 _ O1 _ ow5 fl1 σ2 hA f5 e2 _ _ fun fl5 s6 O6 ow6 st6 fm6 fr6 => ?_
              have ch : Stp O1 O6 (s₁.setGen gi gs') s6 := (((Stp.ofExt x3).trans st4).trans st5).trans st6
              have stt : Stp O O6 s s6 := st2.trans ch
              have lat : Later C L Hc (s₁.setGen gi gs') s6 := Later.of_stp f2' xL ch fm6 lk.th
              have again : forP fb i j vs1 σ2 = some (fl, σ') → ∃ m, m < (V.tup [pv, qv] :: vs1).length ∧ ∃ vs' pre σ1 O1 ow1 gs1, m = vs'.length ∧ items = pre ++ vs' ∧ Fm C F (fun b => X b ∨ (b = L ∨ b = a)) O1 s6 σ1 ow1 ∧ Stp O O1 s s6 ∧ s6.gens[gi]? = some gs1 ∧ s6.heap.IsGen a gi ∧ Th Hc s6 ∧
                  (∀ s'', Later C L Hc s6 s'' → gs1.Goes C.M A.in1 (stdR L Hc) (stdY C L Hc items) vs'.length (.send .none) (s''.setGen gi .running)) ∧ forP fb i j vs' σ1 = some (fl, σ') := by
                intro e3
                refine ⟨vs1.length, by simp, vs1, pre ++ [.tup [pv, qv]], σ2, O6, ow6, gs', rfl, by rw [hit]; simp, fm6, stt, ch.bare.2 gi gs' hgs2, ?_, lat.th, fun s'' hl => ?_, e3⟩
                · obtain ⟨o, nm, qn, e0, r⟩ := hgen2
                  exact ⟨o, nm, qn, ch.keep a o e0 (fun q => f2'.xo a (.inr (.inr rfl)) q), r⟩
                · have hl2 := lat.trans hl
                  exact hkap (s''.setGen gi .running) ⟨hl2.keep, hl2.tk, hl2.base, hl2.th⟩
              cases fl1 with
              | next => unfold FR at fr6; subst fr6; simp only [e2] at e'; exact again e'
              | cont => unfold FR at fr6; subst fr6; simp only [e2] at e'; exact again e'
              | brk =>
                unfold FR at fr6; subst fr6
                simp only [e2] at e'
                cases e'
                exact h .next s6 O6 ow6 stt (fm6.subX fun b q => .inl q) rfl
              | ret w =>
                obtain ⟨u5, rfl, rv5⟩ := fr6
                simp only [e2] at e'
                cases e'
                exact h _ s6 O6 ow6 stt (fm6.subX fun b q => .inl q) ⟨u5, rfl, RV.mono (fun b o e nb => ⟨e, fun q => nb (q.imp .inl id)⟩) rv5⟩
      · obtain ⟨h0, lk⟩ := hp
        have fL : Fm C F (fun b => X b ∨ (b = L ∨ b = a)) O1 s₁ σ1 ow1 := f'.link lk.keep (lk.loc Lex) lk.tk xL hbase hXH hcl
        have : vs' = [] := List.eq_nil_of_length_eq_zero h0
        subst this
        unfold forP at e'
        cases e'
        have fE := fL.ext (Ext.heap s₁.toks hk)
        refine wpAny_execs_nil (h .next _ O1 ow1 (stA s₁ .finished lk hbare _ hk rfl rfl rfl) ((fE.subX fun b q => .inl q).sh rfl rfl) rfl)
end
end Mine

namespace Mine

section
variable {C : Cx} {F : FD} {n : Nat}

theorem mCount : Meth "str" "count" "str.count" := ⟨PySem.F.plainAttrs_str, PySem.F.slot_str_count, PySem.F.type_str_count⟩
theorem mStarts : Meth "str" "startswith" "str.startswith" := ⟨PySem.F.plainAttrs_str, PySem.F.slot_str_startswith, PySem.F.type_str_startswith⟩
theorem mEnds : Meth "str" "endswith" "str.endswith" := ⟨PySem.F.plainAttrs_str, PySem.F.slot_str_endswith, PySem.F.type_str_endswith⟩
theorem mFind : Meth "str" "find" "str.find" := ⟨PySem.F.plainAttrs_str, PySem.F.slot_str_find, PySem.F.type_str_find⟩
theorem mSplit : Meth "str" "split" "str.split" := ⟨PySem.F.plainAttrs_str, PySem.F.slot_str_split, PySem.F.type_str_split⟩
theorem mJoin : Meth "str" "join" "str.join" := ⟨PySem.F.plainAttrs_str, PySem.F.slot_str_join, PySem.F.type_str_join⟩
theorem mLindex : Meth "list" "index" "list.index" := ⟨PySem.F.plainAttrs_list, PySem.F.slot_list_index, PySem.F.type_list_index⟩

/-- a str that the text names -/
theorem eConstG (hC : C.Ok) {x : Str} {pos : Pos} {l : List Nat} {u : Value} (hk : F.env.kindOf x = some .globalImplicit) (hd : (x == ("__debug__" : Str)) = false) (hm : C.mg x = some u) (hu : ∃ t, u = .str ⟨l.toArray⟩ t) :
    SE C F n (.Name x pos) (fun _ => some (.val (.str l))) := fun A s X O σ ow r hA f er Q E h => by
  cases er
  obtain ⟨t, rfl⟩ := hu
  exact ldG hC f hk hd (.inl hm) (h _ s (Ext.refl s) (rStr _ _))

noncomputable def isBytR : R → Option R
  | .val (.byt _) => some (.val (.bool true))
  | _ => none
theorem eIsBytes (hC : C.Ok) {x y : Str} {p p2 pos : Pos} {e : Expr} {f1 : List S → Option R} (hk : F.env.kindOf x = some .globalImplicit) (hd : (x == ("__debug__" : Str)) = false) (hn : C.mg x = none) (hb : C.mb x = some (.builtin "isinstance"))
    (hk2 : F.env.kindOf y = some .globalImplicit) (hd2 : (y == ("__debug__" : Str)) = false) (hn2 : C.mg y = none) (hb2 : C.mb y = some (.type "bytes")) (h1 : SE C F n e f1)
    (hs : ∀ env, starEach [e, .Name y p2] env = [(false, eval e env), (false, eval (.Name y p2) env)]) :
    SE C F n (.Call (.Name x p) [e, .Name y p2] [] pos) (fun σ => (f1 σ).bind isBytR) := fun A s X O σ ow r hA f er Q E h => by
  obtain ⟨r1, e1, e2⟩ := Option.bind_eq_some_iff.mp er
  refine wpAny_Call_NameR (ldG hC f hk hd (.inr ⟨hn, hb⟩) ?_)
  have fin : wpAny C.M A (spliced (backTo pos (starEach [e, .Name y p2] F.env))) (fun us s' => wpAny C.M A (call (.builtin "isinstance") us) Q E s') E s := by
    rw [hs]
    refine Calls.spliced_cons (h1 A s X O σ ow r1 hA f e1 _ E fun u s1 x1 q1 => ?_)
    refine Calls.spliced_cons (ldG hC (f.ext x1) hk2 hd2 (.inr ⟨hn2, hb2⟩) (Calls.spliced_nil ?_))
    unfold isBytR at e2
    split at e2
    · cases e2
      obtain ⟨t, rfl⟩ := q1.byt
      exact call_isinstance_yes (typeIs_bytes _ _ _) meta_bytes PySem.F.sub_bytes_bytes (h _ s1 x1 (rBool _))
    · cases e2
  rw [hs] at fin ⊢
  exact Calls.callWith_builtin rfl (Calls.evalArgs_plain fin)

/-- replace, of one written str by another -/
theorem eRepl {o : Expr} {apos pos : Pos} {y z : Str} {k1 k2 : Nat} {p1 p2 : Pos} {ly lz : List Nat} {f0 : List S → Option R} (ey : y = ⟨ly.toArray⟩) (ez : z = ⟨lz.toArray⟩) (hyz : (y == z) = false) (hz : lz.length ≤ 32) (ht : 1 ≤ F.t0)
    (hbase : attributeBase o "replace" F.env (eval o F.env) = eval o F.env) (hline : (apos.endLine == pos.line) = true)
    (hfew : ((((backTo pos (starEach [.Constant (.str y) k1 p1, .Constant (.str z) k2 p2] F.env)).all fun x => !x.fst) && (backToKw pos (keywordEach [] F.env)).all fun x => x.fst.isSome) && decide (([Expr.Constant (.str y) k1 p1, .Constant (.str z) k2 p2].length + ([] : List Keyword).length + if ([] : List Keyword).isEmpty = true then 0 else 1) < 30)) = true)
    (h0 : SE C F n o f0) :
    SE C F n (.Call (.Attribute o (PySem.Str.ofString "replace") apos) [.Constant (.str y) k1 p1, .Constant (.str z) k2 p2] [] pos) (fun σ => match f0 σ with | some (.val (.str x)) => if x.length ≤ 65536 then some (.val (.str (replL x ly lz))) else none | _ => none) := fun A s X O σ ow r hA f er Q E h => by
  simp only at er
  split at er
  · rename_i x e0
    split at er
    · rename_i hx
      cases er
      refine wpAny_Call_method_lateS hbase hfew hline (h0 A s X O σ ow _ hA f e0 _ E fun u s1 x1 r1 => ?_)
      have hr : RR s.heap s1.heap (NX X O) O u (.val (.str x)) := r1
      obtain ⟨t1, t2⟩ := hr.ty (T := "str") rfl
      refine ⟨"str", "str.replace", PySem.F.plainAttrs_str, PySem.F.slot_str_replace, PySem.F.type_str_replace, t1, t2, ?_⟩
      obtain ⟨t, rfl⟩ := r1.str
      have tp := (f.ext x1).tp
      have fin : wpAny C.M A (spliced (backTo pos (starEach [.Constant (.str y) k1 p1, .Constant (.str z) k2 p2] F.env))) (fun us s' => wpAny C.M A (call (.builtin "str.replace") (.str ⟨x.toArray⟩ t :: us)) Q E s') E s1 := by
        show wpAny C.M A (spliced [(false, eval (.Constant (.str y) k1 p1) F.env), (false, eval (.Constant (.str z) k2 p2) F.env)]) _ E s1
        refine Calls.spliced_cons (wpAny_Constant_str (Calls.spliced_cons (wpAny_Constant_str (Calls.spliced_nil ?_))))
        refine tk_ (SC.replace (by show s1.toks ≠ 0; omega) (by show s1.toks + 1 ≠ 0; omega) (by show s1.toks ≠ s1.toks + 1; omega) hyz ?_ fun t' k hk => ?_)
        · rw [ez, slen, slen]
          have : (x.length + 1) * lz.length ≤ (65536 + 1) * 32 := Nat.mul_le_mul (by omega) hz
          omega
        · rw [ey, ez, repl_L]
          refine h _ _ (x1.trans (Ext.toks s1 k (by have hk' : s1.toks + 1 + 1 ≤ k := hk; omega))) (rStr _ _)
      exact Calls.callWith_builtin rfl (Calls.evalArgs_plain fin)
    · cases er
  · cases er

/-- and, as a value -/
theorem eAnd2 {a b : Expr} {pos : Pos} {f1 f2 : List S → Option R} (h1 : SE C F n a f1) (h2 : SE C F n b f2) :
    SE C F n (.BoolOp .And [a, b] pos) (fun σ => match f1 σ with | some r => (match truth r with | some true => f2 σ | some false => some r | none => none) | none => none) := fun A s X O σ ow r hA f er Q E h => by
  cases e1 : f1 σ with
  | none => simp [e1] at er
  | some r1 =>
    cases e2 : truth r1 with
    | none => simp [e1, e2] at er
    | some t =>
      refine wpAny_And2 (h1 A s X O σ ow r1 hA f e1 _ E fun u s1 x1 q1 => ?_)
      refine tk_ (truthy_ q1 e2 fun k hk => ?_)
      have y : Ext s1 { s1 with toks := k } := Ext.toks s1 k hk
      cases t with
      | true =>
        simp only [e1, e2] at er
        simp only [if_true]
        exact Ev.then (x1.trans y) (h2 A _ X O σ ow r hA (f.ext (x1.trans y)) er) h
      | false =>
        simp only [e1, e2] at er
        cases er
        simp only [Bool.false_eq_true, if_false]
        exact h _ _ (x1.trans y) (q1.ext y)
end
end Mine

namespace Mine

theorem bindL_eq {kindOf : Str → Option NameKind} {x : Str} (hx : kindOf x = some .local) : ∀ (binds : List (Str × Value)) (m : Str → Option Value), (binds.map (·.1)).Nodup → bindL kindOf binds m x = (binds.lookup x).or (m x)
  | [], m, _ => by simp [bindL]
  | (n, v) :: r, m, hn => by
    rw [List.map_cons, List.nodup_cons] at hn
    unfold bindL
    rw [bindL_eq hx r _ hn.2, List.lookup_cons]
    by_cases h : x = n
    · subst h
      rw [lookup_none_of hn.1, if_pos hx]; simp
    · have : (x == n) = false := by simpa using h
      rw [this]
      congr 1
      split
      · simp [h]
      · rfl
theorem bindC_eq {kindOf : Str → Option NameKind} {x : Str} (hx : kindOf x ≠ some .local) : ∀ (binds : List (Str × Value)) (m : Str → Option Value), (binds.map (·.1)).Nodup → bindC kindOf binds m x = (binds.lookup x).or (m x)
  | [], m, _ => by simp [bindC]
  | (n, v) :: r, m, hn => by
    rw [List.map_cons, List.nodup_cons] at hn
    unfold bindC
    rw [bindC_eq hx r _ hn.2, List.lookup_cons]
    by_cases h : x = n
    · subst h
      rw [lookup_none_of hn.1, if_neg hx]; simp
    · have : (x == n) = false := by simpa using h
      rw [this]
      congr 1
      split
      · rfl
      · simp [h]
theorem pair_apart {α : Type} : ∀ {l : List (α × Addr)} {a b : α × Addr}, l.Pairwise (fun x y => x.2 ≠ y.2) → a ∈ l → b ∈ l → a.2 = b.2 → a = b
  | c :: l, a, b, h, ha, hb, e => by
    rw [List.pairwise_cons] at h
    rcases List.mem_cons.mp ha with h1 | h1
    · rcases List.mem_cons.mp hb with h2 | h2
      · rw [h1, h2]
      · exact absurd (h1 ▸ e) (h.1 b h2)
    · rcases List.mem_cons.mp hb with h2 | h2
      · exact absurd (h2 ▸ e.symm) (h.1 a h1)
      · exact pair_apart h.2 h1 h2 e

end Mine

namespace Mine

theorem cellsFrom_one {x : Str} : ∀ {names : List (Str × NameKind)} {n : Nat} {acc : List (Str × Addr)}, names.filter (·.2 == .cell) = [(x, .cell)] → cellsFrom n names acc = (x, n) :: acc
  | [], n, acc, h => by cases h
  | (y, k) :: r, n, acc, h => by
    unfold cellsFrom
    by_cases hk : (k == NameKind.cell) = true
    · rw [if_pos hk]
      have : (y, k) :: r.filter (·.2 == .cell) = [(x, .cell)] := by rw [← h, List.filter_cons]; simp [hk]
      injection this with h1 h2
      injection h1 with h1 _
      subst h1
      exact cellsFrom_none h2
    · rw [if_neg hk]
      refine cellsFrom_one (x := x) ?_
      rw [← h, List.filter_cons]; simp [hk]
where
  cellsFrom_none : ∀ {names : List (Str × NameKind)} {n : Nat} {acc : List (Str × Addr)}, names.filter (·.2 == .cell) = [] → cellsFrom n names acc = acc
    | [], _, _, _ => rfl
    | (y, k) :: r, n, acc, h => by
      unfold cellsFrom
      by_cases hk : (k == NameKind.cell) = true
      · rw [List.filter_cons] at h; simp [hk] at h
      · rw [if_neg hk]
        refine cellsFrom_none ?_
        rw [List.filter_cons] at h; simpa [hk] using h
theorem pushCells_one {x : Str} : ∀ {names : List (Str × NameKind)} {h : Heap}, names.filter (·.2 == .cell) = [(x, .cell)] → pushCells h names = h.push { cls := .type "cell", data := .cell none }
  | [], h, e => by cases e
  | (y, k) :: r, h, e => by
    unfold pushCells
    by_cases hk : (k == NameKind.cell) = true
    · rw [if_pos hk]
      have : (y, k) :: r.filter (·.2 == .cell) = [(x, .cell)] := by rw [← e, List.filter_cons]; simp [hk]
      injection this with h1 h2
      exact pushCells_none h2
    · rw [if_neg hk]
      refine pushCells_one (x := x) ?_
      rw [← e, List.filter_cons]; simp [hk]
where
  pushCells_none : ∀ {names : List (Str × NameKind)} {h : Heap}, names.filter (·.2 == .cell) = [] → pushCells h names = h
    | [], _, _ => rfl
    | (y, k) :: r, h, e => by
      unfold pushCells
      by_cases hk : (k == NameKind.cell) = true
      · rw [List.filter_cons] at e; simp [hk] at e
      · rw [if_neg hk]
        refine pushCells_none ?_
        rw [List.filter_cons] at e; simpa [hk] using e

section
variable {C : Cx} {F : FD} {n : Nat}

theorem newEnv_cell {A : Around} {s : Shared} {E : Value → Shared → Prop} {scope : Scope} {cl : List (Str × Addr)} {x : Str} {globals : Addr} {qual : Str} {env : Env} {Q : Env → Shared → Prop} (h1 : scope.names.filter (·.2 == .cell) = [(x, .cell)])
    (h : Q { scope, locals := s.heap.objs.size, globals, cells := (x, s.heap.objs.size + 1) :: cl, qual, func := none, code := env.code, frame := env.frame, builtins := env.builtins }
      { s with heap := (s.heap.push { cls := .type "dict", data := .dict #[] }).push { cls := .type "cell", data := .cell none } }) :
    wpAny C.M A (newFunctionEnv scope globals cl [] qual none .none (some env)) Q E s := by
  simp only [newFunctionEnv, Option.isSome_some, if_true]
  refine wpAny_bind (wpAny_alloc ?_)
  refine wpAny_bind (wpAny_layCells _ (fun name kind cells => by cases hkc : kind == NameKind.cell <;> simp [hkc]) _ _ _ _ ?_)
  rw [show ({ s with heap := s.heap.push { cls := .type "dict", data := .dict #[] } } : Shared).heap.objs.size = s.heap.objs.size + 1 from Heap.size_push ..]
  rw [cellsFrom_one h1, pushCells_one h1]
  rw [List.forIn_nil]
  exact wpAny_bind (wpAny_pure (wpAny_pure h))

theorem eCompC {x : Str} {px : Pos} {elt iter : Expr} {ifs : List Expr} {scope : Scope} {pos : Pos} {fs : List Str} {is : List Nat} {cl : List (Str × Addr)} {fi : List S → Option R} {ft : List S → Option Bool} {fe : List S → Option R}
    (ok : CompOk F x fs is scope cl) (onecell : scope.names.filter (·.2 == .cell) = [(x, .cell)]) (xk : (relabel scope F.env).names.lookup x = some .cell)
    (hs : ∀ x, foldedSetIterable iter F.env x = pure x) (hi : SE C F n iter fi)
    (ht : ∀ L K, IFs C ⟨compEnvC scope ((x, K) :: cl) L F.env, x :: fs, [x], F.t0⟩ n ifs ft) (he : ∀ L K, SE C ⟨compEnvC scope ((x, K) :: cl) L F.env, x :: fs, [x], F.t0⟩ n elt fe) :
    SE C F n (.ListComp elt [⟨.Name x px, iter, ifs, 0⟩] scope pos) (compF fi ft fe is) := fun A s X O σ ow r hA f er Q E h => by
  unfold compF at er
  obtain ⟨vs, e1, e2⟩ := Option.bind_eq_some_iff.mp er
  obtain ⟨l, e3, e4⟩ := Option.bind_eq_some_iff.mp e2
  obtain ⟨ri, e5, e6⟩ := Option.bind_eq_some_iff.mp e1
  split at e4
  · rename_i hlen
    cases e4
    rw [eval_ListComp]
    refine wpAny_comprehension_free (use := none) rfl hs ok.clos ok.kind ok.names (hi A s X O σ ow ri hA f e5 _ E fun u s1 x1 r1 => RR.iterB r1 e6 fun o hit hfs hfr => ?_)
    refine wpAny_newObj_type (newEnv_cell onecell ?_)
    dsimp only
    have f1 := f.ext x1
    generalize hit0 : s1.heap.objs.size = it at *
    have szD : (s1.heap.push o).objs.size = it + 1 := by rw [Heap.size_push, hit0]
    generalize hH2 : (s1.heap.push o).push { cls := .type "list", dict := none, data := .seq ([] : List Value).toArray } = H2
    have szL : H2.objs.size = it + 2 := by rw [← hH2, Heap.size_push, szD]
    generalize hH3 : (H2.push { cls := .type "dict", data := .dict #[] }) = H3
    have szK : H3.objs.size = it + 3 := by rw [← hH3, Heap.size_push, szL]
    generalize hH4 : H3.push { cls := .type "cell", data := .cell none } = h₁
    rw [szL, szD]
    have fresh : ∀ a, it ≤ a → s1.heap.get? a = none := fun a ha => by
      cases e : s1.heap.get? a with
      | none => rfl
      | some o' => exact absurd (Heap.lt_size e) (by rw [hit0]; exact Nat.not_lt.mpr ha)
    have u2 : ∀ b ob, (s1.heap.push o).get? b = some ob → H2.get? b = some ob := fun b ob e => hH2 ▸ Heap.get?_push_of_some _ e
    have u3 : ∀ b ob, H2.get? b = some ob → H3.get? b = some ob := fun b ob e => hH3 ▸ Heap.get?_push_of_some _ e
    have u4 : ∀ b ob, H3.get? b = some ob → h₁.get? b = some ob := fun b ob e => hH4 ▸ Heap.get?_push_of_some _ e
    have up1 : ∀ b ob, s1.heap.get? b = some ob → (s1.heap.push o).get? b = some ob := fun b ob e => Heap.get?_push_of_some _ e
    have up2 : ∀ b ob, (s1.heap.push o).get? b = some ob → h₁.get? b = some ob := fun b ob e => u4 _ _ (u3 _ _ (u2 _ _ e))
    have n12 : it + 1 ≠ it + 2 := Nat.ne_of_lt (Nat.lt_succ_self _)
    have n01 : it + 1 ≠ it := Nat.ne_of_gt (Nat.lt_succ_self _)
    have n02 : it ≠ it + 2 := Nat.ne_of_lt (Nat.lt_succ_of_lt (Nat.lt_succ_self _))
    have n13 : it + 1 ≠ it + 3 := Nat.ne_of_lt (Nat.lt_succ_of_lt (Nat.lt_succ_self _))
    have n03 : it ≠ it + 3 := Nat.ne_of_lt (Nat.lt_succ_of_lt (Nat.lt_succ_of_lt (Nat.lt_succ_self _)))
    have fr0 := fresh it (Nat.le_refl _)
    have fr1 := fresh (it + 1) (Nat.le_succ _)
    have fr2 := fresh (it + 2) (Nat.le_add_right _ _)
    have fr3 := fresh (it + 3) (Nat.le_add_right _ _)
    have hD : h₁.get? (it + 1) = some { cls := .type "list", dict := none, data := .seq ([] : List Value).toArray } := by
      refine u4 _ _ (u3 _ _ ?_)
      rw [← hH2, ← szD]; exact Heap.get?_push_size _ rfl
    have hns : h₁.Ns (it + 2) (fun _ => none) := by
      have := Heap.Ns.new H2 (.type "dict")
      rw [szL, hH3] at this
      exact this.keeps u4
    have hK : h₁.IsCell (it + 3) none := ⟨_, by rw [← szK, ← hH4]; exact Heap.get?_push_size _ rfl, rfl⟩
    have ext : Ext s1 { s1 with heap := h₁ } := ⟨fun b ob e => up2 b ob (up1 b ob e), rfl, GB.refl _, Nat.le_refl _⟩
    have hob : (s1.heap.push o).get? it = some o := by rw [← hit0]; exact Heap.get?_push_size _ hfr
    have lkx : ((x, it + 3) :: cl).lookup x = some (it + 3) := by simp
    have fm := comp_Fm (env' := compEnvC scope ((x, it + 3) :: cl) (it + 2) F.env) (x := x) (fs := fs) (is := is) (N1 := fun b => b = it ∨ b = it + 1) (N2 := fun b => b = it + 2 ∨ b = it + 3) f1 ext
      (fun b q => q.elim (fun q => q ▸ fr0) (fun q => q ▸ fr1)) (fun b q => q.elim (fun q => q ▸ fr2) (fun q => q ▸ fr3)) (fun b q => q.elim (fun q => ⟨_, q ▸ up2 _ _ hob⟩) (fun q => ⟨_, q ▸ hD⟩))
      (fun b q => q.elim (fun q => by subst q; obtain ⟨o', es, ep, e, _⟩ := hns; exact ⟨o', e⟩) (fun q => by subst q; obtain ⟨o', e, _⟩ := hK; exact ⟨o', e⟩))
      (fun b o fs q e => by
        have e2 : h₁.get? b = some o := e
        rcases q with q | q
        · subst q; obtain ⟨o', es, ep, e', d, _⟩ := hns; rw [e'] at e2; cases e2; rw [d]; intro q; cases q
        · subst q; obtain ⟨o', e', d⟩ := hK; rw [e'] at e2; cases e2; rw [d]; intro q; cases q)
      (fun b q q' => q.elim (fun q => q'.elim (fun q' => n02 (q.symm.trans q')) (fun q' => n03 (q.symm.trans q'))) (fun q => q'.elim (fun q' => n12 (q.symm.trans q')) (fun q' => n13 (q.symm.trans q')))) (.inl rfl) hns
      (.inr (.inl ⟨xk, it + 3, lkx, hK⟩)) (fun c hc => by have h1 : ((x, it + 3) :: cl).lookup x = some c := hc; rw [lkx] at h1; cases h1; exact ⟨.inr rfl, hK⟩)
      (by have : (compEnvC scope ((x, it + 3) :: cl) (it + 2) F.env).kindOf x = some .cell := xk
          rw [this]; intro q; cases q)
      (fun z hz => by
        have hzx : (z == x) = false := by
          have := (List.nodup_cons.mp ok.nd).1
          simp; rintro rfl; exact this hz
        obtain ⟨a1, a2, a3⟩ := ok.cells z hz
        refine ⟨?_, a2, a3⟩
        show ((x, it + 3) :: cl).lookup z = _
        rw [List.lookup_cons, hzx]; exact a1) ok.nd ok.at_ ok.kind rfl rfl
    have It4 : It h₁ (NX (fun b => X b ∨ (b = it ∨ b = it + 1)) (fun b => O b ∨ (b = it + 2 ∨ b = it + 3))) (fun b => s1.heap.get? b = none ∧ b ≠ it) it vs := by
      refine hit.moves (fun b ob e nb => ⟨up2 b ob e, fun q => ?_⟩) (fun b ob e _ => up2 b ob e) (fun b ob _ nb => nb) (fun q => q.2 rfl)
      have hlt := Heap.lt_size e
      rw [szD] at hlt
      rcases q with (q | q | q) | (q | q | q)
      · exact nb (.inl (.inl q))
      · exact nb (.inr q)
      · exact Nat.ne_of_lt hlt q
      · exact nb (.inl (.inr q))
      · exact Nat.ne_of_lt (Nat.lt_succ_of_lt hlt) q
      · exact Nat.ne_of_lt (Nat.lt_succ_of_lt (Nat.lt_succ_of_lt hlt)) q
    have loop := comp_loop (px := px) (iter := iter) (scope := scope) (pos := pos) (it := it) (D := it + 1) (s₀ := s1) (Fc := ⟨compEnvC scope ((x, it + 3) :: cl) (it + 2) F.env, x :: fs, [x], F.t0⟩) (x := x) rfl (List.mem_cons_self ..) (ht (it + 2) (it + 3)) (he (it + 2) (it + 3)) hA (.inr (.inl rfl)) (.inr (.inr rfl)) n01 fr0 fr1 fr2
      (fun c hc => by have h1 : ((x, it + 3) :: cl).lookup x = some c := hc; rw [lkx] at h1; cases h1; exact fr3) (RC := compPost C.M A E none Q (.ref (it + 1)) (it + 2)) hlen (fun s' us' y' p' rv' ln' => ?_) It4 fm ⟨0, hD⟩ e3 ext
    · exact codeAny_compStart_list loop (It4.self (s := { s1 with heap := h₁ }) loop)
    · obtain ⟨m, hm⟩ := ln'
      refine ⟨m, hm, fun h'' sb'' => ?_⟩
      refine h _ _ (x1.trans (y'.skip s'.toks (Nat.le_refl _) fr2 sb''.extBut)) ⟨it + 1, us', rfl, none_of x1.keep fr1, PlainList.sameBut p' sb'' n12, ?_⟩
      refine RVs.mono (fun b ob e nb => ⟨(sb''.2 b (fun q => nb (.inr (.inr (.inl q))))).trans e, fun q => ?_⟩) rv'
      rcases q with (q | q) | q
      · exact nb (.inl (.inl q))
      · exact nb (.inr (.inl q))
      · exact nb (.inl (.inr (.inr q)))
  · cases e4
end
end Mine

namespace Mine

noncomputable def stAt (p : Program) (k : Nat) : Stmt := (p.main.body)[k]?.getD (.Pass ⟨0, 0, 0, 0⟩)
noncomputable def recAt (p : Program) (k : Nat) : DefRec := match stAt p k with
  | .FunctionDef name args body _ _ _ scope _ _ pos => ⟨name, args, body, scope, pos⟩
  | _ => ⟨"", ⟨[], [], none, [], [], none, []⟩, [], ⟨.function, [], false, false, []⟩, ⟨0, 0, 0, 0⟩⟩

/-- the built-ins that the texts name -/
structure BI (C : Cx) : Prop where
  len : C.mg "len" = none ∧ C.mb "len" = some (.builtin "len")
  abs : C.mg "abs" = none ∧ C.mb "abs" = some (.builtin "abs")
  int : C.mg "int" = none ∧ C.mb "int" = some (.type "int")
  divmod : C.mg "divmod" = none ∧ C.mb "divmod" = some (.builtin "divmod")
  chr : C.mg "chr" = none ∧ C.mb "chr" = some (.builtin "chr")
  range : C.mg "range" = none ∧ C.mb "range" = some (.type "range")
  sum : C.mg "sum" = none ∧ C.mb "sum" = some (.builtin "sum")
  min : C.mg "min" = none ∧ C.mb "min" = some (.builtin "min")
  max : C.mg "max" = none ∧ C.mb "max" = some (.builtin "max")
  enumerate : C.mg "enumerate" = none ∧ C.mb "enumerate" = some (.type "enumerate")
  isinstance : C.mg "isinstance" = none ∧ C.mb "isinstance" = some (.builtin "isinstance")
  bytes : C.mg "bytes" = none ∧ C.mb "bytes" = some (.type "bytes")
  sorted : C.mg "sorted" = none ∧ C.mb "sorted" = some (.builtin "sorted")

section
variable {C : Cx} {F : FD} {n : Nat}
noncomputable def negR : R → Option R
  | .val (.int i) => some (.val (.int (-i)))
  | _ => none
theorem eNeg {e : Expr} {pos : Pos} {f1 : List S → Option R} (h1 : SE C F n e f1) : SE C F n (.UnaryOp .USub e pos) (fun σ => (f1 σ).bind negR) := fun A s X O σ ow r hA f er Q E h => by
  obtain ⟨r1, e1, e2⟩ := Option.bind_eq_some_iff.mp er
  refine wpAny_UnaryOp (h1 A s X O σ ow r1 hA f e1 _ E fun u s1 x1 q1 => ?_)
  unfold negR at e2
  split at e2
  · cases e2
    obtain ⟨t, rfl⟩ := q1.int
    exact PyProof.Rows.neg_int (h _ _ (x1.trans (Ext.toks s1 _)) (rInt _ _))
  · cases e2
end

end Mine

namespace Mine

mutual
/-- as RV, and the strs are objects made before k -/
noncomputable def TK (k : Nat) (h : Heap) (N : Addr → Prop) : V → Value → Prop
  | .non, u => u = .none
  | .bool b, u => u = .bool b
  | .int i, u => ∃ t, u = .int i t
  | .str l, u => ∃ t, u = .str ⟨l.toArray⟩ t ∧ 0 < t ∧ t < k
  | .byt l, u => ∃ t, u = .bytes l.toArray t
  | .tup l, u => ∃ a us, u = .ref a ∧ ¬ N a ∧ h.IsTuple a (List.toArray us) ∧ TKs k h N l us
  | .lst l, u => ∃ a us, u = .ref a ∧ ¬ N a ∧ h.PlainList a (List.toArray us) ∧ TKs k h N l us
  | .rng x y, u => ∃ a t1 t2 t3, u = .ref a ∧ ¬ N a ∧ IsRange h a x y 1 t1 t2 t3
noncomputable def TKs (k : Nat) (h : Heap) (N : Addr → Prop) : List V → List Value → Prop
  | [], us => us = []
  | v :: vs, us => ∃ u us', us = u :: us' ∧ TK k h N v u ∧ TKs k h N vs us'
end

mutual
theorem TK.rv {k : Nat} {h : Heap} {N : Addr → Prop} : ∀ {v : V} {u : Value}, TK k h N v u → RV h N v u
  | .non, _, x => x
  | .bool _, _, x => x
  | .int _, _, x => x
  | .str _, _, x => by unfold TK at x; obtain ⟨t, e, _⟩ := x; unfold RV; exact ⟨t, e⟩
  | .byt _, _, x => x
  | .tup l, u, x => by
    unfold TK at x; unfold RV
    obtain ⟨a, us, e, n, ho, z⟩ := x
    exact ⟨a, us, e, n, ho, TKs.rv z⟩
  | .lst l, u, x => by
    unfold TK at x; unfold RV
    obtain ⟨a, us, e, n, ho, z⟩ := x
    exact ⟨a, us, e, n, ho, TKs.rv z⟩
  | .rng p q, u, x => x
theorem TKs.rv {k : Nat} {h : Heap} {N : Addr → Prop} : ∀ {vs : List V} {us : List Value}, TKs k h N vs us → RVs h N vs us
  | [], _, x => x
  | v :: vs, us, x => by
    unfold TKs at x; unfold RVs
    obtain ⟨u, us', e, y, z⟩ := x
    exact ⟨u, us', e, TK.rv y, TKs.rv z⟩
end
mutual
theorem TK.mono {k k' : Nat} {h h' : Heap} {N N' : Addr → Prop} (hk : Moves h h' N N') (hl : k ≤ k') : ∀ {v : V} {u : Value}, TK k h N v u → TK k' h' N' v u
  | .non, _, x => x
  | .bool _, _, x => x
  | .int _, _, x => x
  | .str _, _, x => by unfold TK at x ⊢; obtain ⟨t, e, a, b⟩ := x; exact ⟨t, e, a, Nat.lt_of_lt_of_le b hl⟩
  | .byt _, _, x => x
  | .tup l, u, x => by
    unfold TK at x ⊢
    obtain ⟨a, us, e, n, ⟨o, ho, r⟩, z⟩ := x
    exact ⟨a, us, e, (hk a o ho n).2, ⟨o, (hk a o ho n).1, r⟩, TKs.mono hk hl z⟩
  | .lst l, u, x => by
    unfold TK at x ⊢
    obtain ⟨a, us, e, n, ⟨o, ho⟩, z⟩ := x
    exact ⟨a, us, e, (hk a _ ho n).2, ⟨o, (hk a _ ho n).1⟩, TKs.mono hk hl z⟩
  | .rng p q, u, x => by
    unfold TK at x ⊢
    obtain ⟨a, t1, t2, t3, e, n, z⟩ := x
    exact ⟨a, t1, t2, t3, e, (hk a _ z n).2, (hk a _ z n).1⟩
theorem TKs.mono {k k' : Nat} {h h' : Heap} {N N' : Addr → Prop} (hk : Moves h h' N N') (hl : k ≤ k') : ∀ {vs : List V} {us : List Value}, TKs k h N vs us → TKs k' h' N' vs us
  | [], _, x => x
  | v :: vs, us, x => by
    unfold TKs at x ⊢
    obtain ⟨u, us', e, y, z⟩ := x
    exact ⟨u, us', e, TK.mono hk hl y, TKs.mono hk hl z⟩
end
theorem TKs.cons {k : Nat} {h : Heap} {N : Addr → Prop} {v u vs us} (a : TK k h N v u) (b : TKs k h N vs us) : TKs k h N (v :: vs) (u :: us) := by
  unfold TKs; exact ⟨u, us, rfl, a, b⟩
theorem TKs.nil {k : Nat} {h : Heap} {N : Addr → Prop} : TKs k h N [] [] := by unfold TKs; rfl
theorem TKs.get {k : Nat} {h : Heap} {N : Addr → Prop} : ∀ {vs us} (i : Nat) {v}, TKs k h N vs us → vs[i]? = some v → ∃ u, us[i]? = some u ∧ TK k h N v u
  | [], us, i, v, x, e => by simp at e
  | w :: vs, us, i, v, x, e => by
    unfold TKs at x
    obtain ⟨u, us', rfl, y, z⟩ := x
    cases i with
    | zero => simp at e; subst e; exact ⟨u, by simp, y⟩
    | succ i => simp at e; obtain ⟨u', e', r⟩ := TKs.get i z e; exact ⟨u', by simpa using e', r⟩

/-- the plain look of a state -/
noncomputable def er1 : S → S
  | .pin v _ => .pin v .none
  | x => x
noncomputable def er (σ : List S) : List S := σ.map er1
theorem er_set (σ : List S) (i : Nat) (v : V) (u : Value) : er (σ.set i (.pin v u)) = (er σ).set i (.pin v .none) := by simp [er, er1, List.map_set]
theorem rd_er (i : Nat) (σ : List S) : rd i (er σ) = rd i σ := by
  unfold rd er
  rw [List.getElem?_map]
  cases σ[i]? with
  | none => rfl
  | some x => cases x <;> rfl
noncomputable def pn (i : Nat) (σ : List S) : Option V := match σ[i]? with
  | some (.pin v _) => some v
  | _ => none
theorem pn_er (i : Nat) (σ : List S) : pn i (er σ) = pn i σ := by
  unfold pn er
  rw [List.getElem?_map]
  cases σ[i]? with
  | none => rfl
  | some x => cases x <;> rfl

noncomputable def TKσ (s : Shared) (N : Addr → Prop) (σ : List S) : Prop := ∀ (i : Nat) (v : V) (u : Value), σ[i]? = some (S.pin v u) → TK s.toks s.heap N v u
theorem TKσ.mono {s s' : Shared} {N N' : Addr → Prop} {σ : List S} (t : TKσ s N σ) (hk : Moves s.heap s'.heap N N') (hl : s.toks ≤ s'.toks) : TKσ s' N' σ := fun i v u e => TK.mono hk hl (t i v u e)
theorem TKσ.put {s : Shared} {N : Addr → Prop} {σ : List S} (t : TKσ s N σ) {i : Nat} {v : V} {u : Value} (h : TK s.toks s.heap N v u) : TKσ s N (σ.set i (.pin v u)) := fun j w x e => by
  by_cases hj : j = i
  · subst hj
    by_cases hlt : j < σ.length
    · rw [List.getElem?_set_self hlt] at e; cases e; exact h
    · rw [List.getElem?_eq_none (by simpa using Nat.le_of_not_lt hlt)] at e; cases e
  · rw [List.getElem?_set_ne (Ne.symm hj)] at e; exact t j w x e

section
variable {C : Cx} {F : FD} {n : Nat}

theorem store_pin {A : Around} {s : Shared} {X O : Addr → Prop} {σ : List S} {ow : Nat → Addr} (f : Fm C F X O s σ ow) {i : Nat} {x : Str} {u : Value} {v : V} (hx : F.vs[i]? = some x) (hxw : x ∈ F.ws)
    (hv : RV s.heap (NX X O) v u) {Q : Unit → Shared → Prop} {E : Value → Shared → Prop} (h : ∀ s' ow', Stp O O s s' → Fm C F X O s' (σ.set i (.pin v u)) ow' → Q () s') :
    wpAny C.M A (storeName F.env x u) Q E s :=
  store_ f (a := 0) (w := .pin v u) hx hxw (f.has hx) ⟨rfl, hv⟩ (fun l e => by cases e) h

noncomputable def ET (C : Cx) (F : FD) (n : Nat) (e : Expr) (f : List S → Option V) : Prop :=
  ∀ A s X O σ ow v, Rm n A → Fm C F X O s σ ow → TKσ s (NX X O) σ → f (er σ) = some v →
    ∀ (Q : Value → Shared → Prop) (E : Value → Shared → Prop), (∀ u s', Ext s s' → TK s'.toks s'.heap (NX X O) v u → Q u s') → wpAny C.M A (eval e F.env) Q E s

theorem tkVar (i : Nat) {x : Str} {pos : Pos} (hx : F.vs[i]? = some x) (hd : (x == ("__debug__" : Str)) = false) : ET C F n (.Name x pos) (pn i) := fun A s X O σ ow v hA f t e Q E h => by
  rw [pn_er] at e
  unfold pn at e
  split at e
  · rename_i v' u hs
    cases e
    obtain ⟨val, va, e1, r⟩ := f.var i x _ hx hs
    have hT := t i v u hs
    refine wpAny_Name ?_ hd
    rcases va with ⟨k, m, ns, e2⟩ | ⟨k, c, l, e2⟩ | ⟨k, d, c, l, e2⟩
    · exact wpAny_loadName_local f.kind k ns (e2.trans e1) (h u s (Ext.refl s) hT)
    · exact wpAny_loadName_cell f.kind k l (e1 ▸ e2) (h u s (Ext.refl s) hT)
    · exact wpAny_loadName_free f.kind k l (e1 ▸ e2) (h u s (Ext.refl s) hT) d
  · cases e
theorem tkStr {x : Str} (l : List Nat) {k : Nat} {pos : Pos} (hx : x = ⟨l.toArray⟩) (ht : 1 ≤ F.t0) : ET C F n (.Constant (.str x) k pos) (fun _ => some (.str l)) := fun A s X O σ ow v hA f t e Q E h => by
  cases e
  have tp := f.tp
  refine wpAny_Constant_str (h _ _ (Ext.toks s _) ?_)
  unfold TK
  exact ⟨s.toks, by rw [hx], Nat.lt_of_lt_of_le ht tp, Nat.lt_succ_self _⟩

noncomputable def TL (C : Cx) (F : FD) (n : Nat) (es : List Expr) (f : List S → Option (List V)) : Prop :=
  ∀ (pos : Pos) A s X O σ ow vs, Rm n A → Fm C F X O s σ ow → TKσ s (NX X O) σ → f (er σ) = some vs →
    ∀ (Q : List Value → Shared → Prop) (E : Value → Shared → Prop), (∀ us s', Ext s s' → TKs s'.toks s'.heap (NX X O) vs us → Q us s') → wpAny C.M A (spliced (backTo pos (starEach es F.env))) Q E s
theorem tlNil : TL C F n [] (fun _ => some []) := fun pos A s X O σ ow vs hA f t e Q E h => by
  cases e
  exact Calls.spliced_nil (h [] s (Ext.refl s) TKs.nil)
theorem tlCons {e : Expr} {es : List Expr} {f1 : List S → Option V} {f2 : List S → Option (List V)} (hs : ∀ env, starEach (e :: es) env = (false, eval e env) :: starEach es env) (h1 : ET C F n e f1) (h2 : TL C F n es f2) :
    TL C F n (e :: es) (fun σ => match f1 σ, f2 σ with | some v, some vs => some (v :: vs) | _, _ => none) := fun pos A s X O σ ow vs hA f t e Q E h => by
  simp only at e
  split at e
  · rename_i v vs' e1 e2
    cases e
    rw [hs]
    refine Calls.spliced_cons (h1 A s X O σ ow v hA f t e1 _ E fun u s1 x1 r1 => ?_)
    refine h2 pos A s1 X O σ ow vs' hA (f.ext x1) (t.mono (x1.moves _) x1.tk) e2 _ E fun us s2 x2 r2 => ?_
    exact h _ s2 (x1.trans x2) (TKs.cons (TK.mono (x2.moves _) x2.tk r1) r2)
  · cases e
theorem tkList {es : List Expr} {pos : Pos} {f1 : List S → Option (List V)} (h1 : TL C F n es f1) :
    ET C F n (.List es pos) (fun σ => match f1 σ with | some vs => if vs.length ≤ 1048576 then some (.lst vs) else none | none => none) := fun A s X O σ ow v hA f t e Q E h => by
  simp only at e
  split at e
  · rename_i vs e1
    split at e
    · rename_i hl
      cases e
      refine wpAny_List (h1 pos A s X O σ ow vs hA f t e1 _ E fun us s1 x1 z => ?_)
      have hl' : us.length ≤ 16777216 := by rw [RVs.length z.rv]; omega
      refine ⟨by rw [sizeLine_eq]; exact hl', ?_⟩
      refine h _ _ (x1.trans (Ext.push s1 _ s1.toks)) ?_
      unfold TK
      refine ⟨_, us, rfl, fun q => ?_, ⟨0, Heap.get?_push_size _ rfl⟩, TKs.mono (fun b o e nb => ⟨Heap.get?_push_of_some _ e, nb⟩) (Nat.le_refl _) z⟩
      obtain ⟨o, e⟩ := (f.ext x1).gs.ex _ q
      rw [fresh_none] at e; cases e
    · cases e
  · cases e
/-- one item of a list -/
theorem tkIdx {value slice : Expr} {pos : Pos} {f1 : List S → Option V} {f2 : List S → Option R} (h1 : ET C F n value f1) (h2 : SE C F n slice f2) (he : ∀ σ, f2 (er σ) = f2 σ) (hs : ∀ o i, subscripted slice false o i = operate [o, i] (getItem o i)) :
    ET C F n (.Subscript value slice pos) (fun σ => match f1 σ, f2 σ with | some (.lst l), some (.val (.int i)) => if 0 ≤ i ∧ i ≤ 1000000 then l[i.toNat]? else none | _, _ => none) := fun A s X O σ ow v hA f t e Q E h => by
  simp only at e
  split at e
  · rename_i l i e1 e2
    split at e
    · rename_i hi
      rw [he] at e2
      refine Subscript_ (h1 A s X O σ ow _ hA f t e1 _ E fun u s1 x1 r1 => ?_)
      refine h2 A s1 X O σ ow _ hA (f.ext x1) e2 _ E fun k s2 x2 r2 => ?_
      obtain ⟨t', rfl⟩ := r2.int
      have r1' := TK.mono (x2.moves (NX X O)) x2.tk r1
      unfold TK at r1'
      obtain ⟨a, us, rfl, na, p, z⟩ := r1'
      obtain ⟨w, ew, tw⟩ := z.get _ e
      refine tail_any (T := "list") p.isList.typeIs slot_list_getitem.lookup ?_ (hs _ _)
      exact wpAny_getItem_list p.isList hi.1 (by omega) (by simpa using ew) (h w s2 (x1.trans x2) tw)
    · cases e
  · cases e

/-- a contract that tells of the tokens -/
structure FnTk (C : Cx) (n : Nat) (x : Str) (f : List V → Option V) : Prop where
  is : ∃ fa o fd, C.mg x = some (.ref fa) ∧ C.base.get? fa = some o ∧ ¬ C.Px fa ∧ o.data = .func fd ∧
    ∀ A s N us vs r, Rm n A → Gs C N s.heap → RVs s.heap N vs us → f vs = some r →
      ∀ (Q : Value → Shared → Prop) (E : Value → Shared → Prop), (∀ v s', Ext s s' → TK s'.toks s'.heap N r v → Q v s') → wpAny C.M A (call (.ref fa) us) Q E s
theorem tkFn (hC : C.Ok) {m : Nat} {x : Str} {p pos : Pos} {e : Expr} {es : List Expr} {g : List V → Option V} {f1 : List S → Option (List V)} (hm : m ≤ n) (hk : F.env.kindOf x = some .globalImplicit) (hd : (x == ("__debug__" : Str)) = false)
    (hg : FnTk C m x g) (h1 : SL C F n (e :: es) f1) (he : ∀ σ, f1 (er σ) = f1 σ) (hs : ∀ env, starEach (e :: es) env = (false, eval e env) :: starEach es env) :
    ET C F n (.Call (.Name x p) (e :: es) [] pos) (fun σ => match f1 σ with | some vs => g vs | none => none) := fun A s X O σ ow v hA f t er Q E h => by
  simp only at er
  split at er
  · rename_i vs e1
    rw [he] at e1
    obtain ⟨fa, o, fd, h2, h3, h4, h5, h6⟩ := hg.is
    refine wpAny_Call_NameR (ldG hC f hk hd (.inl h2) ?_)
    refine PyProof.Rows.callWith_def h5 (h1 pos A s X O σ ow vs hA f e1 _ E fun us s1 x1 r1 => ⟨(f.ext x1).gs.keep _ _ h3 h4, ?_⟩) (hs _)
    exact h6 A s1 (NX X O) us vs v (hA.le hm) (f.ext x1).gs r1 er Q E fun u s2 x2 r2 => h u s2 (x1.trans x2) r2
  · cases er

/-- statements that end with a value whose tokens are known -/
noncomputable def BT (C : Cx) (F : FD) (n : Nat) (sts : List Stmt) (f : List S → Option V) : Prop :=
  ∀ A s X O σ ow v, Rm n A → Fm C F X O s σ ow → TKσ s (NX X O) σ → f (er σ) = some v →
    ∀ (Q : Flow → Shared → Prop) (E : Value → Shared → Prop), (∀ u s' O', Stp O O' s s' → TK s'.toks s'.heap (NX X O') v u → Q (.ret u) s') → wpAny C.M A (execs sts F.env) Q E s
theorem btRet {e : Expr} {pos : Pos} {f1 : List S → Option V} (h1 : ET C F n e f1) : BT C F n [.Return (some e) pos] f1 := fun A s X O σ ow v hA f t er Q E h => by
  refine wpAny_execs_cons ?_
  refine wpAny_Return_some (h1 A s X O σ ow v hA f t er _ E fun u s1 x1 r1 => ?_)
  exact h u s1 O (Stp.ofExt x1) r1
theorem btAssign (i : Nat) {x : Str} {p' : Pos} {value : Expr} {pos : Pos} {rest : List Stmt} {f1 f2 : List S → Option V} (hx : F.vs[i]? = some x) (hw : x ∈ F.ws) (h1 : ET C F n value f1)
    (hs : swapsWith value (some (.Name x p')) pos.line F.env = pure false) (h2 : BT C F n rest f2) :
    BT C F n (.Assign [.Name x p'] value pos :: rest) (fun σ => match f1 σ with | some v => f2 (σ.set i (.pin v .none)) | none => none) := fun A s X O σ ow v hA f t er Q E h => by
  simp only at er
  split at er
  · rename_i v1 e1
    refine wpAny_execs_cons (wpAny_Assign_Name (h1 A s X O σ ow v1 hA f t e1 _ E fun u s1 x1 r1 => ?_) hs)
    refine store_pin (f.ext x1) hx hw r1.rv fun s2 ow2 st f2' => ?_
    refine h2 A s2 X O _ ow2 v hA f2' (((t.mono (x1.moves _) x1.tk).put r1).mono st.moves st.tk) (by rw [er_set]; exact er) Q E fun u3 s3 O3 st3 r3 => ?_
    exact h u3 s3 O3 (((Stp.ofExt x1).trans st).trans st3) r3
  · cases er

theorem unpack_list2 {A : Around} (hA : A.handled = none) {s : Shared} {a : Addr} {u1 u2 : Value} (p : s.heap.PlainList a #[u1, u2]) {Q : List Value → Shared → Prop} {E : Value → Shared → Prop}
    (h : ∀ s', Ext s s' → Q [u1, u2] s') : wpAny C.M A (unpackItems (.ref a) 2 none) Q E s := by
  unfold unpackItems
  refine wpAny_bind ?_
  unfold notIterableAtAll
  refine wpAny_bind (wpAny_specialOf p.isList.typeIs slot_list_iter.lookup ?_)
  refine wpAny_pure ?_
  show wpAny C.M A (holding [.ref a] (pyIter (.ref a)) >>= _) Q E s
  refine wpAny_bind (wpAny_holding (wpAny_pyIter_list p.isList ?_))
  have hnone : s.heap.get? s.heap.objs.size = none := fresh_none _
  have hlt : a < s.heap.objs.size := let ⟨n, e⟩ := p; Heap.lt_size e
  generalize hit : s.heap.objs.size = it at *
  generalize hh1 : s.heap.push { cls := .type "list_iterator", data := .fields #[.ref a, .int 0 0] } = h1
  have k1 : ∀ b o, s.heap.get? b = some o → h1.get? b = some o := fun b o e => hh1 ▸ Heap.get?_push_of_some _ e
  have p1 : h1.PlainList a #[u1, u2] := let ⟨n, e⟩ := p; ⟨n, k1 _ _ e⟩
  have i1 : h1.IsListIter it a 0 := ⟨_, by rw [← hh1, ← hit]; exact Heap.get?_push_size _ rfl, rfl, rfl⟩
  have hne : a ≠ it := Nat.ne_of_lt hlt
  have nb : ∀ {b o}, s.heap.get? b = some o → b ≠ it := fun e q => by rw [q, hnone] at e; cases e
  refine wpAny_bind (wpAny_holding ?_)
  show wpAny C.M A (pyNext (.ref it) >>= fun r => match r with | none => pure [] | some v => holding [v] (draw (.ref it) 1) >>= fun r => pure (v :: r)) _ E { s with heap := h1 }
  refine wpAny_bind (wpAny_pyNext_list_item (s := { s with heap := h1 }) i1 p1.isList (x := u1) rfl fun h2 i2 sb2 => ?_)
  have p2 : h2.PlainList a #[u1, u2] := PlainList.sameBut p1 sb2 hne
  refine wpAny_bind (wpAny_holding ?_)
  show wpAny C.M A (pyNext (.ref it) >>= fun r => match r with | none => pure [] | some v => holding [v] (draw (.ref it) 0) >>= fun r => pure (v :: r)) _ E { s with heap := h2 }
  refine wpAny_bind (wpAny_pyNext_list_item (s := { s with heap := h2 }) i2 p2.isList (x := u2) rfl fun h3 i3 sb3 => ?_)
  have p3 : h3.PlainList a #[u1, u2] := PlainList.sameBut p2 sb3 hne
  refine wpAny_bind (wpAny_holding (wpAny_pure (wpAny_pure (wpAny_pure ?_))))
  have : ¬ ([u1, u2] : List Value).length < 2 := by simp
  simp only [this, if_false]
  refine wpAny_bind (wpAny_holding (wpAny_pyNext_list_end (s := { s with heap := h3 }) hA i3 p3.isList rfl fun h4 hk4 => ?_))
  simp only [Option.isSome_none, Bool.false_eq_true, if_false]
  exact wpAny_pure (h _ ⟨fun b o e => hk4 b o (nb e) (sb3.extBut b o (nb e) (sb2.extBut b o (nb e) (k1 b o e))), rfl, GB.refl _, Nat.le_refl _⟩)

/-- the same, of a run whose value alone counts -/
noncomputable def BR (C : Cx) (F : FD) (n : Nat) (sts : List Stmt) (f : List S → Option V) : Prop :=
  ∀ A s X O σ ow v, Rm n A → Fm C F X O s σ ow → TKσ s (NX X O) σ → f (er σ) = some v →
    ∀ (Q : Flow → Shared → Prop) (E : Value → Shared → Prop), (∀ u s' O', Stp O O' s s' → RV s'.heap (NX X O') v u → Q (.ret u) s') → wpAny C.M A (execs sts F.env) Q E s
theorem brUnpack (i j : Nat) {x y : Str} {px py tp pos : Pos} {k : Nat} {value : Expr} {rest : List Stmt} {f1 f2 : List S → Option V} (hx : F.vs[i]? = some x) (hxw : x ∈ F.ws) (hy : F.vs[j]? = some y) (hyw : y ∈ F.ws) (h1 : ET C F n value f1)
    (hs1 : swapsWithSole [.Tuple [.Name x px, .Name y py] k tp] value pos.line F.env = pure false) (hs2 : swappedStores [.Tuple [.Name x px, .Name y py] k tp] value F.env = pure none) (h2 : BR C F n rest f2) :
    BR C F n (.Assign [.Tuple [.Name x px, .Name y py] k tp] value pos :: rest) (fun σ => match f1 σ with | some (.lst [a, b]) => f2 ((σ.set i (.pin a .none)).set j (.pin b .none)) | _ => none) := fun A s X O σ ow v hA f t er Q E h => by
  simp only at er
  split at er
  · rename_i a b e1
    refine wpAny_execs_cons (wpAny_Assign_stores (h1 A s X O σ ow _ hA f t e1 _ E fun u s1 x1 r1 => ?_) hs1 hs2)
    show wpAny C.M A (assign (.Tuple [.Name x px, .Name y py] k tp) F.env u) _ E s1
    show wpAny C.M A (standAt tp >>= fun _ => (holding [u] (unpackItems u 2 none) >>= fun us => assignInOrder [assign (.Name x px) F.env, assign (.Name y py) F.env] us)) _ E s1
    unfold TK at r1
    obtain ⟨p, us, rfl, np, hp, z⟩ := r1
    unfold TKs at z
    obtain ⟨u1, us', rfl, z1, z⟩ := z
    unfold TKs at z
    obtain ⟨u2, us'', rfl, z2, z⟩ := z
    unfold TKs at z
    subst z
    refine wpAny_bind (wpAny_standAt (wpAny_bind (wpAny_holding (unpack_list2 hA.1 hp fun s2 x2 => ?_))))
    have z1' := TK.mono (x2.moves (NX X O)) x2.tk z1
    have z2' := TK.mono (x2.moves (NX X O)) x2.tk z2
    refine wpAny_assignInOrder_more (wpAny_assign_Name (store_pin ((f.ext x1).ext x2) hx hxw z1'.rv fun s3 ow3 st3 f3 => ?_))
    have z2'' := TK.mono st3.moves st3.tk z2'
    refine wpAny_assignInOrder_more (wpAny_assign_Name (store_pin f3 hy hyw z2''.rv fun s4 ow4 st4 f4 => ?_))
    refine wpAny_pure ?_
    have t2 := (t.mono (x1.moves _) x1.tk).mono (x2.moves _) x2.tk
    have t3 := ((t2.put (i := i) z1').mono st3.moves st3.tk)
    have t4 := ((t3.put (i := j) z2'').mono st4.moves st4.tk)
    refine h2 A s4 X O _ ow4 v hA f4 t4 (by rw [er_set, er_set]; exact er) Q E fun u5 s5 O5 st5 r5 => ?_
    exact h u5 s5 O5 (((((Stp.ofExt x1).trans (Stp.ofExt x2)).trans st3).trans st4).trans st5) r5
  · cases er

/-- what is known of the pins: the strs are older than t0 -/
noncomputable def PinOk (t0 : Nat) (σ : List S) : Prop := ∀ (i : Nat) (l : List Nat) (u : Value), σ[i]? = some (S.pin (V.str l) u) → ∃ t, u = .str ⟨l.toArray⟩ t ∧ 0 < t ∧ t < t0

theorem Fm.floor {s : Shared} {X O : Addr → Prop} {σ : List S} {ow : Nat → Addr} (f : Fm C F X O s σ ow) : Fm C ⟨F.env, F.vs, F.ws, s.toks⟩ X O s σ ow :=
  ⟨f.gs, f.xo, f.ol, f.oc, f.nd, f.ci, f.ln, f.cn, f.wv, f.wf, f.kind, f.gl, f.bl, f.len, f.var, f.inj, Nat.le_refl _, f.ot⟩

/-- from here on the pins stand -/
theorem brRest {sts : List Stmt} {fb : Nat → SF} {f : List S → Option V} (h1 : ∀ t0, SB C ⟨F.env, F.vs, F.ws, t0⟩ n sts (fb t0)) (h2 : ∀ t0 σ v, PinOk t0 σ → f (er σ) = some v → ∃ σ', fb t0 σ = some (.ret v, σ')) : BR C F n sts f := fun A s X O σ ow v hA fm t e Q E h => by
  obtain ⟨σ', e'⟩ := h2 s.toks σ v (fun i l u hs => by have := t i _ u hs; unfold TK at this; exact this) e
  refine h1 s.toks A s X O σ ow (.ret v) σ' hA fm.floor e' Q E fun fl s' O' ow' st fm' fr => ?_
  obtain ⟨u, rfl, r⟩ := fr
  exact h u s' O' st r

/-- replace, of a pinned str by a written one -/
theorem eReplV (i t0 : Nat) (et0 : F.t0 = t0) {o : Expr} {apos pos : Pos} {x z : Str} {k2 : Nat} {p1 p2 : Pos} {lz : List Nat} {f0 : List S → Option R} (ez : z = ⟨lz.toArray⟩) (hz : lz.length ≤ 32) (hx : F.vs[i]? = some x) (hd : (x == ("__debug__" : Str)) = false)
    (hbase : attributeBase o "replace" F.env (eval o F.env) = eval o F.env) (hline : (apos.endLine == pos.line) = true)
    (hfew : ((((backTo pos (starEach [.Name x p1, .Constant (.str z) k2 p2] F.env)).all fun x => !x.fst) && (backToKw pos (keywordEach [] F.env)).all fun x => x.fst.isSome) && decide (([Expr.Name x p1, .Constant (.str z) k2 p2].length + ([] : List Keyword).length + if ([] : List Keyword).isEmpty = true then 0 else 1) < 30)) = true)
    (h0 : SE C F n o f0) :
    SE C F n (.Call (.Attribute o (PySem.Str.ofString "replace") apos) [.Name x p1, .Constant (.str z) k2 p2] [] pos) (fun σ => match f0 σ, σ[i]? with
      | some (.val (.str xs)), some (.pin (.str ly) (.str y t)) => if y = ⟨ly.toArray⟩ ∧ (0 < t ∧ t < t0) ∧ (ly == lz) = false ∧ xs.length ≤ 65536 then some (.val (.str (replL xs ly lz))) else none
      | _, _ => none) := fun A s X O σ ow r hA f er Q E h => by
  simp only at er
  split at er
  · rename_i xs ly y t e0 es
    split at er
    · rename_i hc
      obtain ⟨rfl, ht, hyz, hxl⟩ := hc
      rw [← et0] at ht
      cases er
      refine wpAny_Call_method_lateS hbase hfew hline (h0 A s X O σ ow _ hA f e0 _ E fun u s1 x1 r1 => ?_)
      have hr : RR s.heap s1.heap (NX X O) O u (.val (.str xs)) := r1
      obtain ⟨t1, t2⟩ := hr.ty (T := "str") rfl
      refine ⟨"str", "str.replace", PySem.F.plainAttrs_str, PySem.F.slot_str_replace, PySem.F.type_str_replace, t1, t2, ?_⟩
      obtain ⟨tt, rfl⟩ := r1.str
      have f1 := f.ext x1
      have tp := f1.tp
      have fin : wpAny C.M A (spliced (backTo pos (starEach [.Name x p1, .Constant (.str z) k2 p2] F.env))) (fun us s' => wpAny C.M A (call (.builtin "str.replace") (.str ⟨xs.toArray⟩ tt :: us)) Q E s') E s1 := by
        show wpAny C.M A (spliced [(false, eval (.Name x p1) F.env), (false, eval (.Constant (.str z) k2 p2) F.env)]) _ E s1
        obtain ⟨val, va, e1, r⟩ := f1.var i x _ hx es
        have ld : ∀ {Q : Value → Shared → Prop}, Q (.str ⟨ly.toArray⟩ t) s1 → wpAny C.M A (eval (.Name x p1) F.env) Q E s1 := fun hq => by
          refine wpAny_Name ?_ hd
          rcases va with ⟨k, m, ns, e2⟩ | ⟨k, c, l, e2⟩ | ⟨k, d, c, l, e2⟩
          · exact wpAny_loadName_local f1.kind k ns (e2.trans e1) hq
          · exact wpAny_loadName_cell f1.kind k l (e1 ▸ e2) hq
          · exact wpAny_loadName_free f1.kind k l (e1 ▸ e2) hq d
        refine Calls.spliced_cons (ld (Calls.spliced_cons (wpAny_Constant_str (Calls.spliced_nil ?_))))
        refine tk_ (SC.replace (Nat.ne_of_gt ht.1) (Nat.ne_of_gt (Nat.lt_of_lt_of_le (Nat.lt_trans ht.1 ht.2) tp)) (Nat.ne_of_lt (Nat.lt_of_lt_of_le ht.2 tp)) (by rw [ez, str_beq]; exact hyz) ?_ fun t' k hk => ?_)
        · rw [ez, slen, slen]
          have : (xs.length + 1) * lz.length ≤ (65536 + 1) * 32 := Nat.mul_le_mul (by omega) hz
          omega
        · rw [ez, repl_L]
          refine h _ _ (x1.trans (Ext.toks s1 k (by have hk' : s1.toks + 1 ≤ k := hk; omega))) (rStr _ _)
      exact Calls.callWith_builtin rfl (Calls.evalArgs_plain fin)
    · cases er
  · cases er
end
end Mine

namespace Mine
theorem mkTk {C : Cx} (hC : C.Ok) {n : Nat} {d : DefRec} {ps : List Str} {loc : List Str} {fb : List S → Option V} {fa : Addr} {o : Obj} {pm cd doc : Value}
    (h1 : C.mg d.name = some (.ref fa)) (h2 : C.base.get? fa = some o) (h3 : ¬ C.Px fa) (h4 : o.data = .func (Calls.docDef d.name d.params d.body d.scope pm cd doc)) (h5 : C.base.CodeRec cd d.name) (h6 : ∀ c, cd = .ref c → ¬ C.Px c)
    (hbind : ∀ us : List Value, us.length = ps.length → bindArgs (Calls.docDef d.name d.params d.body d.scope pm cd doc) ⟨us, []⟩ = pure (ps.zip us))
    (hps : ps ≠ []) (hnd : (ps ++ loc).Nodup) (hloc : ∀ x ∈ ps ++ loc, d.scope.names.lookup x = some .local)
    (hco : d.scope.isCoroutine = false) (hgen : d.scope.isGenerator = false) (hkind : d.scope.kind = .function) (hcell : ∀ x ∈ d.scope.names, x.2 ≠ .cell)
    (hb : ∀ L, BT C ⟨envOf d.name d.scope L fa cd, ps ++ loc, ps ++ loc, 1⟩ n d.body fb) :
    FnTk C (n + 1) d.name (fun vs => if vs.length = ps.length then fb (padU loc.length vs) else none) := by
  refine ⟨fa, o, _, h1, h2, h3, h4, fun A s N us vs r hA hG z er_ Q E hQ => ?_⟩
  split at er_
  · rename_i hlen
    have hlu : us.length = ps.length := by rw [RVs.length z]; exact hlen
    have hlim : s.heap.NoLimit := let ⟨mc, a, b⟩ := hC.lim; ⟨mc, a.at fun o e => hG.keep _ _ e hC.lp, b⟩
    have hcd : s.heap.CodeRec cd d.name := let ⟨c, o, vs, t, e, e1, e2⟩ := h5; ⟨c, o, vs, t, e, hG.keep _ _ e1 (h6 c e), e2⟩
    have hzl : (ps.zip us).map (·.1) = ps := by rw [List.map_fst_zip]; omega
    refine wpAny_call (call_plain_ret (by have := hA.2.1; omega) (hG.keep _ _ h2 h3) h4 hlim hcd (hbind us hlu) (fun x hx => ?_) (fun h₁ Fr1 => ?_) hco hgen hkind hcell)
    · have : x.1 ∈ (ps.zip us).map (·.1) := List.mem_map_of_mem hx
      rw [hzl] at this
      exact hloc _ (List.mem_append_left _ this)
    · generalize hL : s.heap.objs.size = L at *
      have hpsn : ps.Nodup := (List.nodup_append.mp hnd).1
      have fresh : ∀ {b o}, s.heap.get? b = some o → b ≠ L := fun e => hL ▸ Nat.ne_of_lt (Heap.lt_size e)
      have hLnone : s.heap.get? L = none := hL ▸ fresh_none _
      have mv : Moves s.heap h₁ N (NX N fun a => a = L) := fun b o e nb => ⟨Fr1.keep b o e, fun q => q.elim nb (fresh e)⟩
      have z1 := RVs.mono mv z
      have hF : Fm C ⟨envOf d.name d.scope L fa cd, ps ++ loc, ps ++ loc, 1⟩ N (fun a => a = L) { s with heap := h₁, toks := s.toks + (ps.zip us).length } (padU loc.length vs) (fun _ => 0) := by
        refine ⟨⟨fun b o e nb => Fr1.keep b o (hG.keep b o e nb), fun a q => ?_, fun a q => ?_⟩, fun a q => ?_, rfl, fun x hx c hc => ?_, hnd, fun x hx y hy c hc => ?_, ⟨_, Fr1.ns⟩, fun x hx c hc => ?_, fun x hx => hx, fun x hx q => ?_, hkind, rfl, rfl, ?_, fun i x y hx hy => ?_, fun i j l l' hi => ?_, ?_, fun a o fs q e => ?_⟩
        · rcases q with q | q
          · exact hG.nb a q
          · subst q
            by_cases hp : C.Px a
            · exact .inr hp
            · refine .inl ?_
              cases w : C.base.get? a with
              | none => rfl
              | some o => exact absurd rfl (fresh (hG.keep _ _ w hp))
        · rcases q with q | q
          · obtain ⟨o, e⟩ := hG.ex a q
            exact ⟨o, Fr1.keep _ _ e⟩
          · subst q
            obtain ⟨o, es, ep, e, _⟩ := Fr1.ns
            exact ⟨o, e⟩
        · obtain ⟨o, e⟩ := hG.ex a q
          exact fresh e
        · cases hc
        · cases hc
        · cases hc
        · have : (envOf d.name d.scope L fa cd).kindOf x = some .local := hloc x hx
          rw [this] at q; cases q
        · simp [padU, hlen]
        · refine ⟨_, .inl ⟨hloc x (List.mem_of_getElem? hx), _, Fr1.ns, rfl⟩, ?_⟩
          rw [lookup_reverse (by rw [hzl]; exact hpsn)]
          unfold padU at hy
          by_cases hi : i < vs.length
          · rw [List.getElem?_append_left (by simpa using hi)] at hy
            rw [List.getElem?_append_left (by omega)] at hx
            rw [List.getElem?_map] at hy
            obtain ⟨v, ev, rfl⟩ := Option.map_eq_some_iff.mp hy
            obtain ⟨u, eu, ru⟩ := z1.zip_lookup hlen.symm hpsn i x v hx ev
            exact ⟨u, eu, ru⟩
          · rw [List.getElem?_append_right (by simpa using hi)] at hy
            rw [List.getElem?_append_right (by omega)] at hx
            have : y = .unb := by
              have := List.mem_of_getElem? hy
              exact (List.mem_replicate.mp this).2
            subst this
            refine lookup_none_of ?_
            rw [hzl]
            intro hm
            exact (List.nodup_append.mp hnd).2.2 x hm x (List.mem_of_getElem? hx) rfl
        · unfold padU at hi
          have := List.mem_of_getElem? hi
          rcases List.mem_append.mp this with h | h
          · obtain ⟨v, _, e⟩ := List.mem_map.mp h; cases e
          · have := (List.mem_replicate.mp h).2; cases this
        · show 1 ≤ s.toks + (ps.zip us).length
          have h0 : 0 < ps.length := List.length_pos_iff.mpr hps
          have : (ps.zip us).length = ps.length := by rw [List.length_zip]; omega
          omega
        · subst q
          obtain ⟨o', es, ep, e', d, _⟩ := Fr1.ns
          have e2 : h₁.get? a = some o := e
          rw [e'] at e2; cases e2
          rw [d]; intro q; cases q
      have npin : ∀ (i : Nat) (v : V) (u : Value), (padU loc.length vs)[i]? ≠ some (S.pin v u) := by
        intro i v u h
        rcases List.mem_append.mp (List.mem_of_getElem? h) with h | h
        · obtain ⟨w, _, e⟩ := List.mem_map.mp h; cases e
        · have := (List.mem_replicate.mp h).2; cases this
      have ee : er (padU loc.length vs) = padU loc.length vs := by
        unfold er
        refine (List.map_congr_left fun x hx => ?_).trans (List.map_id _)
        rcases List.mem_append.mp hx with h | h
        · obtain ⟨w, _, e⟩ := List.mem_map.mp h; subst e; rfl
        · have := (List.mem_replicate.mp h).2; subst this; rfl
      refine hb L (A.deeper (envOf d.name d.scope L fa cd)) _ N (fun a => a = L) _ _ r ⟨hA.1, ?_, ?_⟩ hF (fun i v u h => absurd h (npin i v u)) (by rw [ee]; exact er_) _ _ fun u s' O' st rv => ?_
      · show A.depth + 1 + n < recursionLimit
        have := hA.2.1; omega
      · show A.units + 3 + 10 * n < cLine
        have := hA.2.2; omega
      have xt : Ext s s' := ⟨fun b o e => st.keep b o (Fr1.keep b o e) (fresh e), st.os, st.bare, Nat.le_trans (Nat.le_add_right _ _) st.tk⟩
      exact hQ _ s' xt (TK.mono (fun b o e nb => ⟨e, fun q => nb (.inl q)⟩) (Nat.le_refl _) rv)
  · cases er_

noncomputable def noPin : S → Bool
  | .pin _ _ => false
  | _ => true
theorem er_noPin {σ : List S} (h : σ.all noPin = true) : er σ = σ := by
  unfold er
  refine (List.map_congr_left fun x hx => ?_).trans (List.map_id _)
  have := List.all_eq_true.mp h x hx
  cases x with
  | pin v u => cases this
  | _ => rfl
theorem noPin_er {σ : List S} (h : (er σ).all noPin = true) : σ.all noPin = true := by
  rw [List.all_eq_true] at h ⊢
  intro x hx
  have := h (er1 x) (List.mem_map_of_mem hx)
  cases x with
  | pin v u => cases this
  | _ => rfl
theorem tk_noPin {σ : List S} (h : σ.all noPin = true) (s : Shared) (N : Addr → Prop) : TKσ s N σ := fun i v u hs => by
  have := List.all_eq_true.mp h _ (List.mem_of_getElem? hs)
  cases this

/-- a statement ahead of the pins -/
theorem brPlain {C : Cx} {F : FD} {n : Nat} {st : Stmt} {rest : List Stmt} {f1 : SF} {f2 : List S → Option V} (h1 : SS C F n st f1) (h2 : BR C F n rest f2) :
    BR C F n (st :: rest) (fun σ => if σ.all noPin = true then (match f1 σ with | some (.next, σ') => if σ'.all noPin = true then f2 σ' else none | _ => none) else none) := by
  intro A s X O σ ow v hA f t e Q E h
  simp only at e
  split at e
  · rename_i hp
    have hp' := noPin_er hp
    rw [er_noPin hp'] at e
    split at e
    · rename_i σ' e1
      split at e
      · rename_i hq
        refine wpAny_execs_cons (h1 A s X O σ ow .next σ' hA f e1 _ E fun fl s1 O1 ow1 st1 f1' fr => ?_)
        unfold FR at fr; subst fr
        exact h2 A s1 X O1 σ' ow1 v hA f1' (tk_noPin hq _ _) (by rw [er_noPin hq]; exact e) Q E fun u s2 O2 st2 r2 => h u s2 O2 (st1.trans st2) r2
      · cases e
    · cases e
  · cases e

/-- the law's call, where the value alone counts -/
theorem callLawR {C : Cx} (hC : C.Ok) {n : Nat} {d : DefRec} {ps : List Str} {loc : List Str} {fb : List S → Option V} {fa : Addr} {o : Obj} {pm cd doc : Value}
    (h2 : C.base.get? fa = some o) (h3 : ¬ C.Px fa) (h4 : o.data = .func (Calls.docDef d.name d.params d.body d.scope pm cd doc)) (h5 : C.base.CodeRec cd d.name) (h6 : ∀ c, cd = .ref c → ¬ C.Px c)
    (hbind : ∀ us : List Value, us.length = ps.length → bindArgs (Calls.docDef d.name d.params d.body d.scope pm cd doc) ⟨us, []⟩ = pure (ps.zip us))
    (hnd : (ps ++ loc).Nodup) (hloc : ∀ x ∈ ps ++ loc, d.scope.names.lookup x = some .local ∨ (d.scope.names.lookup x = some .cell ∧ ∀ L, ((cellsFrom (L + 1) d.scope.names []).lookup x).isSome = true))
    (hco : d.scope.isCoroutine = false) (hgen : d.scope.isGenerator = false) (hkind : d.scope.kind = .function)
    (hb : ∀ L, BR C ⟨envOfC d.name d.scope L fa cd, ps ++ loc, ps ++ loc, 0⟩ n d.body fb)
    {A : Around} {s : Shared} {us : List Value} {vs : List V} {v : V} (hA : Rm (n + 1) A) (hG : Gs C (fun _ => False) s.heap) (z : RVs s.heap (fun _ => False) vs us) (hlen : vs.length = ps.length)
    (ef : fb (padU loc.length vs) = some v) {RC : Result → Shared → Prop} (hQ : ∀ u s', (∀ b o, s.heap.get? b = some o → s'.heap.get? b = some o) → s'.os = s.os → GB s.gens s'.gens → RV s'.heap (fun _ => False) v u → RC (.ok (.ret u)) s') : codeAny C.M A (.call (.ref fa) ⟨us, []⟩) RC s := by
  have hlu : us.length = ps.length := by rw [RVs.length z]; exact hlen
  have hlim : s.heap.NoLimit := let ⟨mc, a, b⟩ := hC.lim; ⟨mc, a.at fun o e => hG.keep _ _ e hC.lp, b⟩
  have hcd : s.heap.CodeRec cd d.name := let ⟨c, o, vs, t, e, e1, e2⟩ := h5; ⟨c, o, vs, t, e, hG.keep _ _ e1 (h6 c e), e2⟩
  have hzl : (ps.zip us).map (·.1) = ps := by rw [List.map_fst_zip]; omega
  have hpsn : ps.Nodup := (List.nodup_append.mp hnd).1
  refine codeAny_call_cells (by have := hA.2.1; omega) (hG.keep _ _ h2 h3) h4 hlim hcd rfl (hbind us hlu) rfl (fun x hx => ?_) (fun s₁ hin => ?_) hco hgen hkind
  · have : x.1 ∈ (ps.zip us).map (·.1) := List.mem_map_of_mem hx
    rw [hzl] at this
    rcases hloc _ (List.mem_append_left _ this) with h | ⟨h, h'⟩
    · exact .inl h
    · exact .inr ⟨h, h' _⟩
  · have hE : callEnvC (Calls.docDef d.name d.params d.body d.scope pm cd doc) s.heap.objs.size fa = envOfC d.name d.scope s.heap.objs.size fa cd := rfl
    rw [hE] at hin ⊢
    generalize hL : s.heap.objs.size = L at *
    have kp := hin.toInCall.keep
    have hns : s₁.heap.Ns L _ := hin.toInCall.ns
    obtain ⟨h', tk', rfl, _⟩ := hin.done
    have hns : h'.Ns L _ := hns
    have none_ge : ∀ a, L ≤ a → s.heap.get? a = none := fun a ha => by
      cases q : s.heap.get? a with
      | none => rfl
      | some o' => exact absurd (Heap.lt_size q) (by rw [hL]; exact Nat.not_lt.mpr ha)
    have cellOf : ∀ x c, (cellsFrom (L + 1) d.scope.names []).lookup x = some c → h'.IsCell c (bindC (envOfC d.name d.scope L fa cd).kindOf (ps.zip us) (fun _ => none) x) := fun x c hc => hin.cell x c hc
    have memOf : ∀ {x c}, (cellsFrom (L + 1) d.scope.names []).lookup x = some c → (x, c) ∈ cellsFrom (L + 1) d.scope.names [] := fun h => mem_of_lookup h
    have Ofresh : ∀ a, (a = L ∨ ∃ x, (cellsFrom (L + 1) d.scope.names []).lookup x = some a) → s.heap.get? a = none := fun a q => by
      rcases q with q | ⟨x, q⟩
      · exact q ▸ none_ge L (Nat.le_refl _)
      · exact none_ge a (Nat.le_of_lt (hin.above x a (memOf q)))
    have hF : Fm C ⟨envOfC d.name d.scope L fa cd, ps ++ loc, ps ++ loc, 0⟩ (fun _ => False) (fun a => a = L ∨ ∃ x, (cellsFrom (L + 1) d.scope.names []).lookup x = some a) { s with heap := h', toks := tk' } (padU loc.length vs) (fun _ => 0) := by
      refine ⟨⟨fun b o e nb => kp b o (hG.keep b o e nb), fun a q => ?_, fun a q => ?_⟩, fun a q => q.elim, .inl rfl, fun x hx c hc => .inr ⟨x, hc⟩, hnd, fun x hx y hy c hc hc' => ?_, ⟨_, hns⟩, fun x hx c hc => ⟨_, cellOf x c hc⟩, fun x hx => hx, fun x hx q => ?_, hkind, rfl, rfl, ?_, fun i x y hx hy => ?_, fun i j l l' hi => ?_, Nat.zero_le _, fun a o fs q e => ?_⟩
      · rcases q with q | q
        · exact q.elim
        · by_cases hp : C.Px a
          · exact .inr hp
          · refine .inl ?_
            cases w : C.base.get? a with
            | none => rfl
            | some o => have := Ofresh a q; rw [hG.keep _ _ w hp] at this; cases this
      · rcases q with q | q
        · exact q.elim
        · rcases q with q | ⟨x, q⟩
          · obtain ⟨o, es, ep, e, _⟩ := hns
            exact ⟨o, q ▸ e⟩
          · obtain ⟨o, e, _⟩ := cellOf x a q
            exact ⟨o, e⟩
      · have := pair_apart hin.apart (memOf hc) (memOf hc') rfl
        exact congrArg Prod.fst this
      · have q' : d.scope.names.lookup x = some .free := q
        rcases hloc x hx with h | ⟨h, _⟩ <;> (rw [h] at q'; cases q')
      · simp [padU, hlen]
      · have hxm := List.mem_of_getElem? hx
        have rel : SRel h' (NX (fun _ => False) (fun a => a = L ∨ ∃ x, (cellsFrom (L + 1) d.scope.names []).lookup x = some a)) (fun a => a = L ∨ ∃ x, (cellsFrom (L + 1) d.scope.names []).lookup x = some a) 0 ((ps.zip us).lookup x) y := by
          unfold padU at hy
          by_cases hi : i < vs.length
          · rw [List.getElem?_append_left (by simpa using hi)] at hy
            rw [List.getElem?_append_left (by omega)] at hx
            rw [List.getElem?_map] at hy
            obtain ⟨v, ev, rfl⟩ := Option.map_eq_some_iff.mp hy
            obtain ⟨u, eu, ru⟩ := z.zip_lookup hlen.symm hpsn i x v hx ev
            exact ⟨u, eu, RV.mono (fun b o e nb => ⟨kp b o e, fun q => q.elim id fun q => by rw [Ofresh b q] at e; cases e⟩) ru⟩
          · rw [List.getElem?_append_right (by simpa using hi)] at hy
            rw [List.getElem?_append_right (by omega)] at hx
            have : y = .unb := by
              have := List.mem_of_getElem? hy
              exact (List.mem_replicate.mp this).2
            subst this
            refine lookup_none_of ?_
            rw [hzl]
            intro hm
            exact (List.nodup_append.mp hnd).2.2 x hm x (List.mem_of_getElem? hx) rfl
        rcases hloc x hxm with h | ⟨h, h'⟩
        · refine ⟨_, .inl ⟨h, _, hns, rfl⟩, ?_⟩
          rw [bindL_eq h _ _ (by rw [hzl]; exact hpsn)]
          simpa using rel
        · obtain ⟨c, hc⟩ := Option.isSome_iff_exists.mp (h' L)
          refine ⟨_, .inr (.inl ⟨h, c, hc, cellOf x c hc⟩), ?_⟩
          rw [bindC_eq (by show d.scope.names.lookup x ≠ some .local; rw [h]; intro q; cases q) _ _ (by rw [hzl]; exact hpsn)]
          simpa using rel
      · unfold padU at hi
        have := List.mem_of_getElem? hi
        rcases List.mem_append.mp this with h | h
        · obtain ⟨v, _, e⟩ := List.mem_map.mp h; cases e
        · have := (List.mem_replicate.mp h).2; cases this
      · have e2 : h'.get? a = some o := e
        rcases q with q | ⟨x, q⟩
        · subst q
          obtain ⟨o', es, ep, e', d, _⟩ := hns
          rw [e'] at e2; cases e2
          rw [d]; intro q; cases q
        · obtain ⟨o', e', d⟩ := cellOf x a q
          rw [e'] at e2; cases e2
          rw [d]; intro q; cases q
    have np : (padU loc.length vs).all noPin = true := by
      rw [List.all_eq_true]
      intro x hx
      rcases List.mem_append.mp hx with h | h
      · obtain ⟨w, _, rfl⟩ := List.mem_map.mp h; rfl
      · rw [(List.mem_replicate.mp h).2]; rfl
    refine hb L (A.deeper (envOfC d.name d.scope L fa cd)) _ _ _ _ _ v ⟨hA.1, ?_, ?_⟩ hF (tk_noPin np _ _) (by rw [er_noPin np]; exact ef) _ _ fun u s' O' st rv => ?_
    · show A.depth + 1 + n < recursionLimit
      have := hA.2.1; omega
    · show A.units + 3 + 10 * n < cLine
      have := hA.2.2; omega
    · exact hQ u s' (fun b o e => st.keep b o (kp b o e) (fun q => by rw [Ofresh b q] at e; cases e)) st.os st.bare (RV.mono (fun b o e nb => ⟨e, id⟩) rv)
end Mine

namespace Mine
noncomputable def b_Int2AP : { f : SF // ∀ (C : Cx) (hC : C.Ok) (B : BI C) (L fa : Addr) (cd : Value), SB C ⟨envOf (recAt PySem.Challenge.pw_wr0032_02 8).name (recAt PySem.Challenge.pw_wr0032_02 8).scope L fa cd, (["num"] : List Str) ++ (["val", "AP", "mod"] : List Str), (["num"] : List Str) ++ (["val", "AP", "mod"] : List Str), 1⟩ 1 (recAt PySem.Challenge.pw_wr0032_02 8).body f } := ⟨_, fun C hC B L fa cd =>
   (bCons (sAssign 1 (by rfl) (List.mem_of_getElem? (i := 1) (by rfl)) eByt (by rfl))
      (bCons (sAssign 2 (by rfl) (List.mem_of_getElem? (i := 2) (by rfl)) eByt (by rfl))
      (bCons (sAssign 0 (by rfl) (List.mem_of_getElem? (i := 0) (by rfl)) (eCallB hC (by exact trivial) (by rfl) (by rfl) B.int.1 B.int.2 bf_int (aCons (by intros; rfl) (eCallB hC (by exact trivial) (by rfl) (by rfl) B.abs.1 B.abs.2 bf_abs (aCons (by intros; rfl) (eVar 0 (by rfl) (by rfl)) aNil) (by intros; rfl) (by intros; rfl)) aNil) (by intros; rfl) (by intros; rfl)) (by rfl))
      (bCons (sWhile 64 (tVal (eVar 0 (by rfl) (by rfl)) (by intros; rfl)) (bCons (sUnpack2 0 3 (by rfl) (List.mem_of_getElem? (i := 0) (by rfl)) (by rfl) (List.mem_of_getElem? (i := 3) (by rfl)) (eCallB hC (by exact trivial) (by rfl) (by rfl) B.divmod.1 B.divmod.2 bf_divmod (aCons (by intros; rfl) (eVar 0 (by rfl) (by rfl)) (aCons (by intros; rfl) (eInt _) aNil)) (by intros; rfl) (by intros; rfl)) (by rfl) (by rfl))
      (bCons (sAssign 1 (by rfl) (List.mem_of_getElem? (i := 1) (by rfl)) (eBin o_add (eSlice (eVar 2 (by rfl) (by rfl)) (pSome (eVar 3 (by rfl) (by rfl))) (pSome (eBin o_add (eVar 3 (by rfl) (by rfl)) (eInt _)))) (eVar 1 (by rfl) (by rfl))) (by rfl))
      bNil)))
      (bCons (sRet (eVar 1 (by rfl) (by rfl)))
      bNil)))))⟩
noncomputable def g_Int2AP : List V → Option V := fun vs => if vs.length = (["num"] : List Str).length then (match b_Int2AP.1 (padU (["val", "AP", "mod"] : List Str).length vs) with | some (.ret v, _) => some v | some (.next, _) => some .non | _ => none) else none
theorem ok_Int2AP {C : Cx} (hC : C.Ok) (B : BI C) (hfn : ∃ a o pm code doc, C.mg (recAt PySem.Challenge.pw_wr0032_02 8).name = some (.ref a) ∧ C.base.get? a = some o ∧ o.data = .func (Calls.docDef (recAt PySem.Challenge.pw_wr0032_02 8).name (recAt PySem.Challenge.pw_wr0032_02 8).params (recAt PySem.Challenge.pw_wr0032_02 8).body (recAt PySem.Challenge.pw_wr0032_02 8).scope pm code doc) ∧ C.base.CodeRec code (recAt PySem.Challenge.pw_wr0032_02 8).name ∧ ¬ C.Px a ∧ ∀ c, code = .ref c → ¬ C.Px c) : FnOk C 2 "Int2AP" g_Int2AP := by
  obtain ⟨a, o, pm, code, doc, h1, h2, h3, h4, h5, h6⟩ := hfn
  exact mkFn hC (ps := ["num"]) (loc := ["val", "AP", "mod"]) h1 h2 h5 h3 h4 h6 (fun us hu => match us, hu with | [u0], _ => by rfl) (by decide) (by decide) (by decide) (by rfl) (by rfl) (by rfl) (by decide) (fun L => b_Int2AP.2 C hC B L a code)

noncomputable def b__ellipsis_match : { f : SF // ∀ (C : Cx) (hC : C.Ok) (B : BI C) (ell : Value) (k_ELLIPSIS_MARKER : C.mg "ELLIPSIS_MARKER" = some ell ∧ ∃ t, ell = .str ⟨[46, 46, 46].toArray⟩ t) (L fa : Addr) (cd : Value), SB C ⟨envOf (recAt PySem.Challenge.pw_wr0032_02 6).name (recAt PySem.Challenge.pw_wr0032_02 6).scope L fa cd, (["want", "got"] : List Str) ++ (["ws", "startpos", "endpos", "w"] : List Str), (["want", "got"] : List Str) ++ (["ws", "startpos", "endpos", "w"] : List Str), 1⟩ 1 (recAt PySem.Challenge.pw_wr0032_02 6).body f } := ⟨_, fun C hC B ell k_ELLIPSIS_MARKER L fa cd =>
   (bCons (sIf (tCmp o_notIn (eConstG hC (by rfl) (by rfl) k_ELLIPSIS_MARKER.1 k_ELLIPSIS_MARKER.2) (eVar 0 (by rfl) (by rfl)) (by rfl)) (bCons (sRet (eCmp o_eq (eVar 0 (by rfl) (by rfl)) (eVar 1 (by rfl) (by rfl)) (by rfl)))
      bNil) bNil)
      (bCons (sOwn 2 (by rfl) (List.mem_of_getElem? (i := 2) (by rfl)) (eMeth mSplit (by rfl) (by rfl) (by rfl) bf_split (eVar 0 (by rfl) (by rfl)) (aCons (by intros; rfl) (eConstG hC (by rfl) (by rfl) k_ELLIPSIS_MARKER.1 k_ELLIPSIS_MARKER.2) aNil) (by intros; rfl) (by intros; rfl)) (by rfl))
      (bCons (sAssert (tCmp o_ge (eCallB hC (by exact trivial) (by rfl) (by rfl) B.len.1 B.len.2 bf_len (aCons (by intros; rfl) (eVar 2 (by rfl) (by rfl)) aNil) (by intros; rfl) (by intros; rfl)) (eInt _) (by rfl)))
      (bCons (sSwap2 3 4 (by rfl) (List.mem_of_getElem? (i := 3) (by rfl)) (by rfl) (List.mem_of_getElem? (i := 4) (by rfl)) (eTup (lCons (by intros; rfl) (eInt _) (lCons (by intros; rfl) (eCallB hC (by exact trivial) (by rfl) (by rfl) B.len.1 B.len.2 bf_len (aCons (by intros; rfl) (eVar 1 (by rfl) (by rfl)) aNil) (by intros; rfl) (by intros; rfl)) lNil))) (by rfl) (by rfl))
      (bCons (sAssign 5 (by rfl) (List.mem_of_getElem? (i := 5) (by rfl)) (eIdx (eVar 2 (by rfl) (by rfl)) (eInt _) (by intros; rfl)) (by rfl))
      (bCons (sIf (tVal (eVar 5 (by rfl) (by rfl)) (by intros; rfl)) (bCons (sIf (tVal (eMeth mStarts (by rfl) (by rfl) (by rfl) bf_starts (eVar 1 (by rfl) (by rfl)) (aCons (by intros; rfl) (eVar 5 (by rfl) (by rfl)) aNil) (by intros; rfl) (by intros; rfl)) (by intros; rfl)) (bCons (sAssign 3 (by rfl) (List.mem_of_getElem? (i := 3) (by rfl)) (eCallB hC (by exact trivial) (by rfl) (by rfl) B.len.1 B.len.2 bf_len (aCons (by intros; rfl) (eVar 5 (by rfl) (by rfl)) aNil) (by intros; rfl) (by intros; rfl)) (by rfl))
      (bCons (sDelItem 2 (by rfl) (by rfl) (eInt _))
      bNil)) (bCons (sRet (eBool false))
      bNil))
      bNil) bNil)
      (bCons (sAssign 5 (by rfl) (List.mem_of_getElem? (i := 5) (by rfl)) (eIdx (eVar 2 (by rfl) (by rfl)) (eNeg (eInt _)) (by intros; rfl)) (by rfl))
      (bCons (sIf (tVal (eVar 5 (by rfl) (by rfl)) (by intros; rfl)) (bCons (sIf (tVal (eMeth mEnds (by rfl) (by rfl) (by rfl) bf_ends (eVar 1 (by rfl) (by rfl)) (aCons (by intros; rfl) (eVar 5 (by rfl) (by rfl)) aNil) (by intros; rfl) (by intros; rfl)) (by intros; rfl)) (bCons (sAug 4 (by rfl) (List.mem_of_getElem? (i := 4) (by rfl)) o_isub (eCallB hC (by exact trivial) (by rfl) (by rfl) B.len.1 B.len.2 bf_len (aCons (by intros; rfl) (eVar 5 (by rfl) (by rfl)) aNil) (by intros; rfl) (by intros; rfl)))
      (bCons (sDelItem 2 (by rfl) (by rfl) (eNeg (eInt _)))
      bNil)) (bCons (sRet (eBool false))
      bNil))
      bNil) bNil)
      (bCons (sIf (tCmp o_gt (eVar 3 (by rfl) (by rfl)) (eVar 4 (by rfl) (by rfl)) (by rfl)) (bCons (sRet (eBool false))
      bNil) bNil)
      (bFrz 2 (bCons (sFor 5 (by rfl) (List.mem_of_getElem? (i := 5) (by rfl)) (eVar 2 (by rfl) (by rfl)) (bCons (sAssign 3 (by rfl) (List.mem_of_getElem? (i := 3) (by rfl)) (eMeth mFind (by rfl) (by rfl) (by rfl) bf_find (eVar 1 (by rfl) (by rfl)) (aCons (by intros; rfl) (eVar 5 (by rfl) (by rfl)) (aCons (by intros; rfl) (eVar 3 (by rfl) (by rfl)) (aCons (by intros; rfl) (eVar 4 (by rfl) (by rfl)) aNil))) (by intros; rfl) (by intros; rfl)) (by rfl))
      (bCons (sIf (tCmp o_lt (eVar 3 (by rfl) (by rfl)) (eInt _) (by rfl)) (bCons (sRet (eBool false))
      bNil) bNil)
      (bCons (sAug 3 (by rfl) (List.mem_of_getElem? (i := 3) (by rfl)) o_iadd (eCallB hC (by exact trivial) (by rfl) (by rfl) B.len.1 B.len.2 bf_len (aCons (by intros; rfl) (eVar 5 (by rfl) (by rfl)) aNil) (by intros; rfl) (by intros; rfl)))
      bNil))) (by intros; rfl))
      (bCons (sRet (eBool true))
      bNil))))))))))))⟩
noncomputable def g__ellipsis_match : List V → Option V := fun vs => if vs.length = (["want", "got"] : List Str).length then (match b__ellipsis_match.1 (padU (["ws", "startpos", "endpos", "w"] : List Str).length vs) with | some (.ret v, _) => some v | some (.next, _) => some .non | _ => none) else none
theorem ok__ellipsis_match {C : Cx} (hC : C.Ok) (B : BI C) (ell : Value) (k_ELLIPSIS_MARKER : C.mg "ELLIPSIS_MARKER" = some ell ∧ ∃ t, ell = .str ⟨[46, 46, 46].toArray⟩ t) (hfn : ∃ a o pm code doc, C.mg (recAt PySem.Challenge.pw_wr0032_02 6).name = some (.ref a) ∧ C.base.get? a = some o ∧ o.data = .func (Calls.docDef (recAt PySem.Challenge.pw_wr0032_02 6).name (recAt PySem.Challenge.pw_wr0032_02 6).params (recAt PySem.Challenge.pw_wr0032_02 6).body (recAt PySem.Challenge.pw_wr0032_02 6).scope pm code doc) ∧ C.base.CodeRec code (recAt PySem.Challenge.pw_wr0032_02 6).name ∧ ¬ C.Px a ∧ ∀ c, code = .ref c → ¬ C.Px c) : FnOk C 2 "_ellipsis_match" g__ellipsis_match := by
  obtain ⟨a, o, pm, code, doc, h1, h2, h3, h4, h5, h6⟩ := hfn
  exact mkFn hC (ps := ["want", "got"]) (loc := ["ws", "startpos", "endpos", "w"]) h1 h2 h5 h3 h4 h6 (fun us hu => match us, hu with | [u0, u1], _ => by rfl) (by decide) (by decide) (by decide) (by rfl) (by rfl) (by rfl) (by decide) (fun L => b__ellipsis_match.2 C hC B ell k_ELLIPSIS_MARKER L a code)

noncomputable def b__iter_escaped_chars : { f : YF // ∀ (C : Cx) (hC : C.Ok) (B : BI C) (L fa : Addr) (cd : Value), YB C ⟨envOf (recAt PySem.Challenge.pw_wr0032_02 1).name (recAt PySem.Challenge.pw_wr0032_02 1).scope L fa cd, (["addr"] : List Str) ++ (["pos", "escape", "ch"] : List Str), (["addr"] : List Str) ++ (["pos", "escape", "ch"] : List Str), 1⟩ 1 (recAt PySem.Challenge.pw_wr0032_02 1).body f } := ⟨_, fun C hC B L fa cd =>
   (yCons (yPlain (sAssign 1 (by rfl) (List.mem_of_getElem? (i := 1) (by rfl)) (eInt _) (by rfl)))
      (yCons (yPlain (sAssign 2 (by rfl) (List.mem_of_getElem? (i := 2) (by rfl)) (eBool false) (by rfl)))
      (yCons (yForEnum hC 1 3 (by rfl) (List.mem_of_getElem? (i := 1) (by rfl)) (by rfl) (List.mem_of_getElem? (i := 3) (by rfl)) (by rfl) (by rfl) B.enumerate.1 B.enumerate.2 (eVar 0 (by rfl) (by rfl)) (by intros; rfl) (yCons (yIf (tVal (eVar 2 (by rfl) (by rfl)) (by intros; rfl)) (yCons (yYield (eTup (lCons (by intros; rfl) (eVar 1 (by rfl) (by rfl)) (lCons (by intros; rfl) (eBin o_add (eStr [92] (by rfl)) (eVar 3 (by rfl) (by rfl))) lNil))) (by rfl) (by rfl))
      (yCons (yPlain (sAssign 2 (by rfl) (List.mem_of_getElem? (i := 2) (by rfl)) (eBool false) (by rfl)))
      yNil)) (yCons (yIf (tCmp o_eq (eVar 3 (by rfl) (by rfl)) (eStr [92] (by rfl)) (by rfl)) (yCons (yPlain (sAssign 2 (by rfl) (List.mem_of_getElem? (i := 2) (by rfl)) (eBool true) (by rfl)))
      yNil) (yCons (yYield (eTup (lCons (by intros; rfl) (eVar 1 (by rfl) (by rfl)) (lCons (by intros; rfl) (eVar 3 (by rfl) (by rfl)) lNil))) (by rfl) (by rfl))
      yNil))
      yNil))
      yNil))
      (yCons (yIf (tVal (eVar 2 (by rfl) (by rfl)) (by intros; rfl)) (yCons (yYield (eTup (lCons (by intros; rfl) (eVar 1 (by rfl) (by rfl)) (lCons (by intros; rfl) (eStr [92] (by rfl)) lNil))) (by rfl) (by rfl))
      yNil) yNil)
      yNil))))⟩
noncomputable def g__iter_escaped_chars : List V → Option (List V) := fun vs => if vs.length = (["addr"] : List Str).length ∧ vs.all immV = true then (match b__iter_escaped_chars.1 (padU (["pos", "escape", "ch"] : List Str).length vs) with | some (ys, .next, _) => some ys | _ => none) else none
theorem ok__iter_escaped_chars {C : Cx} (hC : C.Ok) (B : BI C) (hfn : ∃ a o pm code doc, C.mg (recAt PySem.Challenge.pw_wr0032_02 1).name = some (.ref a) ∧ C.base.get? a = some o ∧ o.data = .func (Calls.docDef (recAt PySem.Challenge.pw_wr0032_02 1).name (recAt PySem.Challenge.pw_wr0032_02 1).params (recAt PySem.Challenge.pw_wr0032_02 1).body (recAt PySem.Challenge.pw_wr0032_02 1).scope pm code doc) ∧ C.base.CodeRec code (recAt PySem.Challenge.pw_wr0032_02 1).name ∧ ¬ C.Px a ∧ ∀ c, code = .ref c → ¬ C.Px c) : GenOk C 2 "_iter_escaped_chars" g__iter_escaped_chars := by
  obtain ⟨a, o, pm, code, doc, h1, h2, h3, h4, h5, h6⟩ := hfn
  exact mkGen hC (ps := ["addr"]) (loc := ["pos", "escape", "ch"]) h1 h2 h5 h3 h4 h6 (fun us hu => match us, hu with | [u0], _ => by rfl) (by decide) (by decide) (by decide) (by rfl) (by rfl) (by rfl) (by decide) (fun L => b__iter_escaped_chars.2 C hC B L a code)

noncomputable def b__strip_quoted_realnames : { f : SF // ∀ (C : Cx) (hC : C.Ok) (B : BI C) (h__iter_escaped_chars : GenOk C 2 "_iter_escaped_chars" g__iter_escaped_chars) (L fa : Addr) (cd : Value), SB C ⟨envOf (recAt PySem.Challenge.pw_wr0032_02 2).name (recAt PySem.Challenge.pw_wr0032_02 2).scope L fa cd, (["addr"] : List Str) ++ (["start", "open_pos", "result", "pos", "ch"] : List Str), (["addr"] : List Str) ++ (["start", "open_pos", "result", "pos", "ch"] : List Str), 1⟩ 2 (recAt PySem.Challenge.pw_wr0032_02 2).body f } := ⟨_, fun C hC B h__iter_escaped_chars L fa cd =>
   (bCons (sIf (tCmp o_notIn (eStr [34] (by rfl)) (eVar 0 (by rfl) (by rfl)) (by rfl)) (bCons (sRet (eVar 0 (by rfl) (by rfl)))
      bNil) bNil)
      (bCons (sAssign 1 (by rfl) (List.mem_of_getElem? (i := 1) (by rfl)) (eInt _) (by rfl))
      (bCons (sAssign 2 (by rfl) (List.mem_of_getElem? (i := 2) (by rfl)) eNone (by rfl))
      (bCons (sOwn 3 (by rfl) (List.mem_of_getElem? (i := 3) (by rfl)) (eList lNil) (by rfl))
      (bCons (sForGen hC 4 5 (by decide) (by rfl) (List.mem_of_getElem? (i := 4) (by rfl)) (by rfl) (List.mem_of_getElem? (i := 5) (by rfl)) (by rfl) (by rfl) h__iter_escaped_chars (lCons (by intros; rfl) (eVar 0 (by rfl) (by rfl)) lNil) (by intros; rfl) (bCons (sIf (tCmp o_eq (eVar 5 (by rfl) (by rfl)) (eStr [34] (by rfl)) (by rfl)) (bCons (sIf (tCmp o_is (eVar 2 (by rfl) (by rfl)) eNone (by rfl)) (bCons (sAssign 2 (by rfl) (List.mem_of_getElem? (i := 2) (by rfl)) (eVar 4 (by rfl) (by rfl)) (by rfl))
      bNil) (bCons (sIf (tCmp o_ne (eVar 1 (by rfl) (by rfl)) (eVar 2 (by rfl) (by rfl)) (by rfl)) (bCons (sAppend 3 (by rfl) (by rfl) (eSlice (eVar 0 (by rfl) (by rfl)) (pSome (eVar 1 (by rfl) (by rfl))) (pSome (eVar 2 (by rfl) (by rfl)))) (by rfl) (by rfl) (by intros; rfl))
      bNil) bNil)
      (bCons (sAssign 1 (by rfl) (List.mem_of_getElem? (i := 1) (by rfl)) (eBin o_add (eVar 4 (by rfl) (by rfl)) (eInt _)) (by rfl))
      (bCons (sAssign 2 (by rfl) (List.mem_of_getElem? (i := 2) (by rfl)) eNone (by rfl))
      bNil))))
      bNil) bNil)
      bNil))
      (bCons (sIf (tCmp o_lt (eVar 1 (by rfl) (by rfl)) (eCallB hC (by exact trivial) (by rfl) (by rfl) B.len.1 B.len.2 bf_len (aCons (by intros; rfl) (eVar 0 (by rfl) (by rfl)) aNil) (by intros; rfl) (by intros; rfl)) (by rfl)) (bCons (sAppend 3 (by rfl) (by rfl) (eSlice (eVar 0 (by rfl) (by rfl)) (pSome (eVar 1 (by rfl) (by rfl))) pNone) (by rfl) (by rfl) (by intros; rfl))
      bNil) bNil)
      (bCons (sRet (eMeth mJoin (by rfl) (by rfl) (by rfl) bf_join (eStr [] (by rfl)) (aCons (by intros; rfl) (eVar 3 (by rfl) (by rfl)) aNil) (by intros; rfl) (by intros; rfl)))
      bNil)))))))⟩
noncomputable def g__strip_quoted_realnames : List V → Option V := fun vs => if vs.length = (["addr"] : List Str).length then (match b__strip_quoted_realnames.1 (padU (["start", "open_pos", "result", "pos", "ch"] : List Str).length vs) with | some (.ret v, _) => some v | some (.next, _) => some .non | _ => none) else none
theorem ok__strip_quoted_realnames {C : Cx} (hC : C.Ok) (B : BI C) (h__iter_escaped_chars : GenOk C 2 "_iter_escaped_chars" g__iter_escaped_chars) (hfn : ∃ a o pm code doc, C.mg (recAt PySem.Challenge.pw_wr0032_02 2).name = some (.ref a) ∧ C.base.get? a = some o ∧ o.data = .func (Calls.docDef (recAt PySem.Challenge.pw_wr0032_02 2).name (recAt PySem.Challenge.pw_wr0032_02 2).params (recAt PySem.Challenge.pw_wr0032_02 2).body (recAt PySem.Challenge.pw_wr0032_02 2).scope pm code doc) ∧ C.base.CodeRec code (recAt PySem.Challenge.pw_wr0032_02 2).name ∧ ¬ C.Px a ∧ ∀ c, code = .ref c → ¬ C.Px c) : FnOk C 3 "_strip_quoted_realnames" g__strip_quoted_realnames := by
  obtain ⟨a, o, pm, code, doc, h1, h2, h3, h4, h5, h6⟩ := hfn
  exact mkFn hC (ps := ["addr"]) (loc := ["start", "open_pos", "result", "pos", "ch"]) h1 h2 h5 h3 h4 h6 (fun us hu => match us, hu with | [u0], _ => by rfl) (by decide) (by decide) (by decide) (by rfl) (by rfl) (by rfl) (by decide) (fun L => b__strip_quoted_realnames.2 C hC B h__iter_escaped_chars L a code)

noncomputable def b__check_parenthesis : { f : SF // ∀ (C : Cx) (hC : C.Ok) (B : BI C) (h__strip_quoted_realnames : FnOk C 3 "_strip_quoted_realnames" g__strip_quoted_realnames) (h__iter_escaped_chars : GenOk C 2 "_iter_escaped_chars" g__iter_escaped_chars) (L fa : Addr) (cd : Value), SB C ⟨envOf (recAt PySem.Challenge.pw_wr0032_02 3).name (recAt PySem.Challenge.pw_wr0032_02 3).scope L fa cd, (["addr"] : List Str) ++ (["opens", "pos", "ch"] : List Str), (["addr"] : List Str) ++ (["opens", "pos", "ch"] : List Str), 1⟩ 3 (recAt PySem.Challenge.pw_wr0032_02 3).body f } := ⟨_, fun C hC B h__strip_quoted_realnames h__iter_escaped_chars L fa cd =>
   (bCons (sAssign 0 (by rfl) (List.mem_of_getElem? (i := 0) (by rfl)) (eFn hC (by decide) (by rfl) (by rfl) h__strip_quoted_realnames (lCons (by intros; rfl) (eVar 0 (by rfl) (by rfl)) lNil) (by intros; rfl)) (by rfl))
      (bCons (sAssign 1 (by rfl) (List.mem_of_getElem? (i := 1) (by rfl)) (eInt _) (by rfl))
      (bCons (sForGen hC 2 3 (by decide) (by rfl) (List.mem_of_getElem? (i := 2) (by rfl)) (by rfl) (List.mem_of_getElem? (i := 3) (by rfl)) (by rfl) (by rfl) h__iter_escaped_chars (lCons (by intros; rfl) (eVar 0 (by rfl) (by rfl)) lNil) (by intros; rfl) (bCons (sIf (tCmp o_eq (eVar 3 (by rfl) (by rfl)) (eStr [40] (by rfl)) (by rfl)) (bCons (sAug 1 (by rfl) (List.mem_of_getElem? (i := 1) (by rfl)) o_iadd (eInt _))
      bNil) (bCons (sIf (tCmp o_eq (eVar 3 (by rfl) (by rfl)) (eStr [41] (by rfl)) (by rfl)) (bCons (sAug 1 (by rfl) (List.mem_of_getElem? (i := 1) (by rfl)) o_isub (eInt _))
      (bCons (sIf (tCmp o_lt (eVar 1 (by rfl) (by rfl)) (eInt _) (by rfl)) (bCons (sRet (eBool false))
      bNil) bNil)
      bNil)) bNil)
      bNil))
      bNil))
      (bCons (sRet (eCmp o_eq (eVar 1 (by rfl) (by rfl)) (eInt _) (by rfl)))
      bNil))))⟩
noncomputable def g__check_parenthesis : List V → Option V := fun vs => if vs.length = (["addr"] : List Str).length then (match b__check_parenthesis.1 (padU (["opens", "pos", "ch"] : List Str).length vs) with | some (.ret v, _) => some v | some (.next, _) => some .non | _ => none) else none
theorem ok__check_parenthesis {C : Cx} (hC : C.Ok) (B : BI C) (h__strip_quoted_realnames : FnOk C 3 "_strip_quoted_realnames" g__strip_quoted_realnames) (h__iter_escaped_chars : GenOk C 2 "_iter_escaped_chars" g__iter_escaped_chars) (hfn : ∃ a o pm code doc, C.mg (recAt PySem.Challenge.pw_wr0032_02 3).name = some (.ref a) ∧ C.base.get? a = some o ∧ o.data = .func (Calls.docDef (recAt PySem.Challenge.pw_wr0032_02 3).name (recAt PySem.Challenge.pw_wr0032_02 3).params (recAt PySem.Challenge.pw_wr0032_02 3).body (recAt PySem.Challenge.pw_wr0032_02 3).scope pm code doc) ∧ C.base.CodeRec code (recAt PySem.Challenge.pw_wr0032_02 3).name ∧ ¬ C.Px a ∧ ∀ c, code = .ref c → ¬ C.Px c) : FnOk C 4 "_check_parenthesis" g__check_parenthesis := by
  obtain ⟨a, o, pm, code, doc, h1, h2, h3, h4, h5, h6⟩ := hfn
  exact mkFn hC (ps := ["addr"]) (loc := ["opens", "pos", "ch"]) h1 h2 h5 h3 h4 h6 (fun us hu => match us, hu with | [u0], _ => by rfl) (by decide) (by decide) (by decide) (by rfl) (by rfl) (by rfl) (by decide) (fun L => b__check_parenthesis.2 C hC B h__strip_quoted_realnames h__iter_escaped_chars L a code)

noncomputable def b__escape_cdata : { f : SF // ∀ (C : Cx) (hC : C.Ok) (B : BI C) (L fa : Addr) (cd : Value), SB C ⟨envOf (recAt PySem.Challenge.pw_wr0032_02 11).name (recAt PySem.Challenge.pw_wr0032_02 11).scope L fa cd, (["text"] : List Str) ++ ([] : List Str), (["text"] : List Str) ++ ([] : List Str), 1⟩ 1 (recAt PySem.Challenge.pw_wr0032_02 11).body f } := ⟨_, fun C hC B L fa cd =>
   (bCons (sTry (bCons (sIf (tCmp o_in (eStr [38] (by rfl)) (eVar 0 (by rfl) (by rfl)) (by rfl)) (bCons (sAssign 0 (by rfl) (List.mem_of_getElem? (i := 0) (by rfl)) (eRepl (ly := [38]) (lz := [38, 97, 109, 112, 59]) (by rfl) (by rfl) (by rfl) (by decide) (by exact Nat.le_refl 1) (by rfl) (by rfl) (by rfl) (eVar 0 (by rfl) (by rfl))) (by rfl))
      bNil) bNil)
      (bCons (sIf (tCmp o_in (eStr [60] (by rfl)) (eVar 0 (by rfl) (by rfl)) (by rfl)) (bCons (sAssign 0 (by rfl) (List.mem_of_getElem? (i := 0) (by rfl)) (eRepl (ly := [60]) (lz := [38, 108, 116, 59]) (by rfl) (by rfl) (by rfl) (by decide) (by exact Nat.le_refl 1) (by rfl) (by rfl) (by rfl) (eVar 0 (by rfl) (by rfl))) (by rfl))
      bNil) bNil)
      (bCons (sIf (tCmp o_in (eStr [62] (by rfl)) (eVar 0 (by rfl) (by rfl)) (by rfl)) (bCons (sAssign 0 (by rfl) (List.mem_of_getElem? (i := 0) (by rfl)) (eRepl (ly := [62]) (lz := [38, 103, 116, 59]) (by rfl) (by rfl) (by rfl) (by decide) (by exact Nat.le_refl 1) (by rfl) (by rfl) (by rfl) (eVar 0 (by rfl) (by rfl))) (by rfl))
      bNil) bNil)
      (bCons (sRet (eVar 0 (by rfl) (by rfl)))
      bNil)))))
      bNil)⟩
noncomputable def g__escape_cdata : List V → Option V := fun vs => if vs.length = (["text"] : List Str).length then (match b__escape_cdata.1 (padU ([] : List Str).length vs) with | some (.ret v, _) => some v | some (.next, _) => some .non | _ => none) else none
theorem ok__escape_cdata {C : Cx} (hC : C.Ok) (B : BI C) (hfn : ∃ a o pm code doc, C.mg (recAt PySem.Challenge.pw_wr0032_02 11).name = some (.ref a) ∧ C.base.get? a = some o ∧ o.data = .func (Calls.docDef (recAt PySem.Challenge.pw_wr0032_02 11).name (recAt PySem.Challenge.pw_wr0032_02 11).params (recAt PySem.Challenge.pw_wr0032_02 11).body (recAt PySem.Challenge.pw_wr0032_02 11).scope pm code doc) ∧ C.base.CodeRec code (recAt PySem.Challenge.pw_wr0032_02 11).name ∧ ¬ C.Px a ∧ ∀ c, code = .ref c → ¬ C.Px c) : FnOk C 2 "_escape_cdata" g__escape_cdata := by
  obtain ⟨a, o, pm, code, doc, h1, h2, h3, h4, h5, h6⟩ := hfn
  exact mkFn hC (ps := ["text"]) (loc := []) h1 h2 h5 h3 h4 h6 (fun us hu => match us, hu with | [u0], _ => by rfl) (by decide) (by decide) (by decide) (by rfl) (by rfl) (by rfl) (by decide) (fun L => b__escape_cdata.2 C hC B L a code)

noncomputable def b__escape_attrib : { f : SF // ∀ (C : Cx) (hC : C.Ok) (B : BI C) (L fa : Addr) (cd : Value), SB C ⟨envOf (recAt PySem.Challenge.pw_wr0032_02 12).name (recAt PySem.Challenge.pw_wr0032_02 12).scope L fa cd, (["text"] : List Str) ++ ([] : List Str), (["text"] : List Str) ++ ([] : List Str), 1⟩ 1 (recAt PySem.Challenge.pw_wr0032_02 12).body f } := ⟨_, fun C hC B L fa cd =>
   (bCons (sTry (bCons (sIf (tCmp o_in (eStr [38] (by rfl)) (eVar 0 (by rfl) (by rfl)) (by rfl)) (bCons (sAssign 0 (by rfl) (List.mem_of_getElem? (i := 0) (by rfl)) (eRepl (ly := [38]) (lz := [38, 97, 109, 112, 59]) (by rfl) (by rfl) (by rfl) (by decide) (by exact Nat.le_refl 1) (by rfl) (by rfl) (by rfl) (eVar 0 (by rfl) (by rfl))) (by rfl))
      bNil) bNil)
      (bCons (sIf (tCmp o_in (eStr [60] (by rfl)) (eVar 0 (by rfl) (by rfl)) (by rfl)) (bCons (sAssign 0 (by rfl) (List.mem_of_getElem? (i := 0) (by rfl)) (eRepl (ly := [60]) (lz := [38, 108, 116, 59]) (by rfl) (by rfl) (by rfl) (by decide) (by exact Nat.le_refl 1) (by rfl) (by rfl) (by rfl) (eVar 0 (by rfl) (by rfl))) (by rfl))
      bNil) bNil)
      (bCons (sIf (tCmp o_in (eStr [62] (by rfl)) (eVar 0 (by rfl) (by rfl)) (by rfl)) (bCons (sAssign 0 (by rfl) (List.mem_of_getElem? (i := 0) (by rfl)) (eRepl (ly := [62]) (lz := [38, 103, 116, 59]) (by rfl) (by rfl) (by rfl) (by decide) (by exact Nat.le_refl 1) (by rfl) (by rfl) (by rfl) (eVar 0 (by rfl) (by rfl))) (by rfl))
      bNil) bNil)
      (bCons (sIf (tCmp o_in (eStr [34] (by rfl)) (eVar 0 (by rfl) (by rfl)) (by rfl)) (bCons (sAssign 0 (by rfl) (List.mem_of_getElem? (i := 0) (by rfl)) (eRepl (ly := [34]) (lz := [38, 113, 117, 111, 116, 59]) (by rfl) (by rfl) (by rfl) (by decide) (by exact Nat.le_refl 1) (by rfl) (by rfl) (by rfl) (eVar 0 (by rfl) (by rfl))) (by rfl))
      bNil) bNil)
      (bCons (sIf (tCmp o_in (eStr [13] (by rfl)) (eVar 0 (by rfl) (by rfl)) (by rfl)) (bCons (sAssign 0 (by rfl) (List.mem_of_getElem? (i := 0) (by rfl)) (eRepl (ly := [13]) (lz := [38, 35, 49, 51, 59]) (by rfl) (by rfl) (by rfl) (by decide) (by exact Nat.le_refl 1) (by rfl) (by rfl) (by rfl) (eVar 0 (by rfl) (by rfl))) (by rfl))
      bNil) bNil)
      (bCons (sIf (tCmp o_in (eStr [10] (by rfl)) (eVar 0 (by rfl) (by rfl)) (by rfl)) (bCons (sAssign 0 (by rfl) (List.mem_of_getElem? (i := 0) (by rfl)) (eRepl (ly := [10]) (lz := [38, 35, 49, 48, 59]) (by rfl) (by rfl) (by rfl) (by decide) (by exact Nat.le_refl 1) (by rfl) (by rfl) (by rfl) (eVar 0 (by rfl) (by rfl))) (by rfl))
      bNil) bNil)
      (bCons (sIf (tCmp o_in (eStr [9] (by rfl)) (eVar 0 (by rfl) (by rfl)) (by rfl)) (bCons (sAssign 0 (by rfl) (List.mem_of_getElem? (i := 0) (by rfl)) (eRepl (ly := [9]) (lz := [38, 35, 48, 57, 59]) (by rfl) (by rfl) (by rfl) (by decide) (by exact Nat.le_refl 1) (by rfl) (by rfl) (by rfl) (eVar 0 (by rfl) (by rfl))) (by rfl))
      bNil) bNil)
      (bCons (sRet (eVar 0 (by rfl) (by rfl)))
      bNil)))))))))
      bNil)⟩
noncomputable def g__escape_attrib : List V → Option V := fun vs => if vs.length = (["text"] : List Str).length then (match b__escape_attrib.1 (padU ([] : List Str).length vs) with | some (.ret v, _) => some v | some (.next, _) => some .non | _ => none) else none
theorem ok__escape_attrib {C : Cx} (hC : C.Ok) (B : BI C) (hfn : ∃ a o pm code doc, C.mg (recAt PySem.Challenge.pw_wr0032_02 12).name = some (.ref a) ∧ C.base.get? a = some o ∧ o.data = .func (Calls.docDef (recAt PySem.Challenge.pw_wr0032_02 12).name (recAt PySem.Challenge.pw_wr0032_02 12).params (recAt PySem.Challenge.pw_wr0032_02 12).body (recAt PySem.Challenge.pw_wr0032_02 12).scope pm code doc) ∧ C.base.CodeRec code (recAt PySem.Challenge.pw_wr0032_02 12).name ∧ ¬ C.Px a ∧ ∀ c, code = .ref c → ¬ C.Px c) : FnOk C 2 "_escape_attrib" g__escape_attrib := by
  obtain ⟨a, o, pm, code, doc, h1, h2, h3, h4, h5, h6⟩ := hfn
  exact mkFn hC (ps := ["text"]) (loc := []) h1 h2 h5 h3 h4 h6 (fun us hu => match us, hu with | [u0], _ => by rfl) (by decide) (by decide) (by decide) (by rfl) (by rfl) (by rfl) (by decide) (fun L => b__escape_attrib.2 C hC B L a code)

noncomputable def b__escape_attrib_html : { f : SF // ∀ (C : Cx) (hC : C.Ok) (B : BI C) (L fa : Addr) (cd : Value), SB C ⟨envOf (recAt PySem.Challenge.pw_wr0032_02 13).name (recAt PySem.Challenge.pw_wr0032_02 13).scope L fa cd, (["text"] : List Str) ++ ([] : List Str), (["text"] : List Str) ++ ([] : List Str), 1⟩ 1 (recAt PySem.Challenge.pw_wr0032_02 13).body f } := ⟨_, fun C hC B L fa cd =>
   (bCons (sTry (bCons (sIf (tCmp o_in (eStr [38] (by rfl)) (eVar 0 (by rfl) (by rfl)) (by rfl)) (bCons (sAssign 0 (by rfl) (List.mem_of_getElem? (i := 0) (by rfl)) (eRepl (ly := [38]) (lz := [38, 97, 109, 112, 59]) (by rfl) (by rfl) (by rfl) (by decide) (by exact Nat.le_refl 1) (by rfl) (by rfl) (by rfl) (eVar 0 (by rfl) (by rfl))) (by rfl))
      bNil) bNil)
      (bCons (sIf (tCmp o_in (eStr [62] (by rfl)) (eVar 0 (by rfl) (by rfl)) (by rfl)) (bCons (sAssign 0 (by rfl) (List.mem_of_getElem? (i := 0) (by rfl)) (eRepl (ly := [62]) (lz := [38, 103, 116, 59]) (by rfl) (by rfl) (by rfl) (by decide) (by exact Nat.le_refl 1) (by rfl) (by rfl) (by rfl) (eVar 0 (by rfl) (by rfl))) (by rfl))
      bNil) bNil)
      (bCons (sIf (tCmp o_in (eStr [34] (by rfl)) (eVar 0 (by rfl) (by rfl)) (by rfl)) (bCons (sAssign 0 (by rfl) (List.mem_of_getElem? (i := 0) (by rfl)) (eRepl (ly := [34]) (lz := [38, 113, 117, 111, 116, 59]) (by rfl) (by rfl) (by rfl) (by decide) (by exact Nat.le_refl 1) (by rfl) (by rfl) (by rfl) (eVar 0 (by rfl) (by rfl))) (by rfl))
      bNil) bNil)
      (bCons (sRet (eVar 0 (by rfl) (by rfl)))
      bNil)))))
      bNil)⟩
noncomputable def g__escape_attrib_html : List V → Option V := fun vs => if vs.length = (["text"] : List Str).length then (match b__escape_attrib_html.1 (padU ([] : List Str).length vs) with | some (.ret v, _) => some v | some (.next, _) => some .non | _ => none) else none
theorem ok__escape_attrib_html {C : Cx} (hC : C.Ok) (B : BI C) (hfn : ∃ a o pm code doc, C.mg (recAt PySem.Challenge.pw_wr0032_02 13).name = some (.ref a) ∧ C.base.get? a = some o ∧ o.data = .func (Calls.docDef (recAt PySem.Challenge.pw_wr0032_02 13).name (recAt PySem.Challenge.pw_wr0032_02 13).params (recAt PySem.Challenge.pw_wr0032_02 13).body (recAt PySem.Challenge.pw_wr0032_02 13).scope pm code doc) ∧ C.base.CodeRec code (recAt PySem.Challenge.pw_wr0032_02 13).name ∧ ¬ C.Px a ∧ ∀ c, code = .ref c → ¬ C.Px c) : FnOk C 2 "_escape_attrib_html" g__escape_attrib_html := by
  obtain ⟨a, o, pm, code, doc, h1, h2, h3, h4, h5, h6⟩ := hfn
  exact mkFn hC (ps := ["text"]) (loc := []) h1 h2 h5 h3 h4 h6 (fun us hu => match us, hu with | [u0], _ => by rfl) (by decide) (by decide) (by decide) (by rfl) (by rfl) (by rfl) (by decide) (fun L => b__escape_attrib_html.2 C hC B L a code)

noncomputable def b__escape_cdata_c14n : { f : SF // ∀ (C : Cx) (hC : C.Ok) (B : BI C) (L fa : Addr) (cd : Value), SB C ⟨envOf (recAt PySem.Challenge.pw_wr0032_02 14).name (recAt PySem.Challenge.pw_wr0032_02 14).scope L fa cd, (["text"] : List Str) ++ ([] : List Str), (["text"] : List Str) ++ ([] : List Str), 1⟩ 1 (recAt PySem.Challenge.pw_wr0032_02 14).body f } := ⟨_, fun C hC B L fa cd =>
   (bCons (sTry (bCons (sIf (tCmp o_in (eStr [38] (by rfl)) (eVar 0 (by rfl) (by rfl)) (by rfl)) (bCons (sAssign 0 (by rfl) (List.mem_of_getElem? (i := 0) (by rfl)) (eRepl (ly := [38]) (lz := [38, 97, 109, 112, 59]) (by rfl) (by rfl) (by rfl) (by decide) (by exact Nat.le_refl 1) (by rfl) (by rfl) (by rfl) (eVar 0 (by rfl) (by rfl))) (by rfl))
      bNil) bNil)
      (bCons (sIf (tCmp o_in (eStr [60] (by rfl)) (eVar 0 (by rfl) (by rfl)) (by rfl)) (bCons (sAssign 0 (by rfl) (List.mem_of_getElem? (i := 0) (by rfl)) (eRepl (ly := [60]) (lz := [38, 108, 116, 59]) (by rfl) (by rfl) (by rfl) (by decide) (by exact Nat.le_refl 1) (by rfl) (by rfl) (by rfl) (eVar 0 (by rfl) (by rfl))) (by rfl))
      bNil) bNil)
      (bCons (sIf (tCmp o_in (eStr [62] (by rfl)) (eVar 0 (by rfl) (by rfl)) (by rfl)) (bCons (sAssign 0 (by rfl) (List.mem_of_getElem? (i := 0) (by rfl)) (eRepl (ly := [62]) (lz := [38, 103, 116, 59]) (by rfl) (by rfl) (by rfl) (by decide) (by exact Nat.le_refl 1) (by rfl) (by rfl) (by rfl) (eVar 0 (by rfl) (by rfl))) (by rfl))
      bNil) bNil)
      (bCons (sIf (tCmp o_in (eStr [13] (by rfl)) (eVar 0 (by rfl) (by rfl)) (by rfl)) (bCons (sAssign 0 (by rfl) (List.mem_of_getElem? (i := 0) (by rfl)) (eRepl (ly := [13]) (lz := [38, 35, 120, 68, 59]) (by rfl) (by rfl) (by rfl) (by decide) (by exact Nat.le_refl 1) (by rfl) (by rfl) (by rfl) (eVar 0 (by rfl) (by rfl))) (by rfl))
      bNil) bNil)
      (bCons (sRet (eVar 0 (by rfl) (by rfl)))
      bNil))))))
      bNil)⟩
noncomputable def g__escape_cdata_c14n : List V → Option V := fun vs => if vs.length = (["text"] : List Str).length then (match b__escape_cdata_c14n.1 (padU ([] : List Str).length vs) with | some (.ret v, _) => some v | some (.next, _) => some .non | _ => none) else none
theorem ok__escape_cdata_c14n {C : Cx} (hC : C.Ok) (B : BI C) (hfn : ∃ a o pm code doc, C.mg (recAt PySem.Challenge.pw_wr0032_02 14).name = some (.ref a) ∧ C.base.get? a = some o ∧ o.data = .func (Calls.docDef (recAt PySem.Challenge.pw_wr0032_02 14).name (recAt PySem.Challenge.pw_wr0032_02 14).params (recAt PySem.Challenge.pw_wr0032_02 14).body (recAt PySem.Challenge.pw_wr0032_02 14).scope pm code doc) ∧ C.base.CodeRec code (recAt PySem.Challenge.pw_wr0032_02 14).name ∧ ¬ C.Px a ∧ ∀ c, code = .ref c → ¬ C.Px c) : FnOk C 2 "_escape_cdata_c14n" g__escape_cdata_c14n := by
  obtain ⟨a, o, pm, code, doc, h1, h2, h3, h4, h5, h6⟩ := hfn
  exact mkFn hC (ps := ["text"]) (loc := []) h1 h2 h5 h3 h4 h6 (fun us hu => match us, hu with | [u0], _ => by rfl) (by decide) (by decide) (by decide) (by rfl) (by rfl) (by rfl) (by decide) (fun L => b__escape_cdata_c14n.2 C hC B L a code)

noncomputable def b__escape_attrib_c14n : { f : SF // ∀ (C : Cx) (hC : C.Ok) (B : BI C) (L fa : Addr) (cd : Value), SB C ⟨envOf (recAt PySem.Challenge.pw_wr0032_02 15).name (recAt PySem.Challenge.pw_wr0032_02 15).scope L fa cd, (["text"] : List Str) ++ ([] : List Str), (["text"] : List Str) ++ ([] : List Str), 1⟩ 1 (recAt PySem.Challenge.pw_wr0032_02 15).body f } := ⟨_, fun C hC B L fa cd =>
   (bCons (sTry (bCons (sIf (tCmp o_in (eStr [38] (by rfl)) (eVar 0 (by rfl) (by rfl)) (by rfl)) (bCons (sAssign 0 (by rfl) (List.mem_of_getElem? (i := 0) (by rfl)) (eRepl (ly := [38]) (lz := [38, 97, 109, 112, 59]) (by rfl) (by rfl) (by rfl) (by decide) (by exact Nat.le_refl 1) (by rfl) (by rfl) (by rfl) (eVar 0 (by rfl) (by rfl))) (by rfl))
      bNil) bNil)
      (bCons (sIf (tCmp o_in (eStr [60] (by rfl)) (eVar 0 (by rfl) (by rfl)) (by rfl)) (bCons (sAssign 0 (by rfl) (List.mem_of_getElem? (i := 0) (by rfl)) (eRepl (ly := [60]) (lz := [38, 108, 116, 59]) (by rfl) (by rfl) (by rfl) (by decide) (by exact Nat.le_refl 1) (by rfl) (by rfl) (by rfl) (eVar 0 (by rfl) (by rfl))) (by rfl))
      bNil) bNil)
      (bCons (sIf (tCmp o_in (eStr [34] (by rfl)) (eVar 0 (by rfl) (by rfl)) (by rfl)) (bCons (sAssign 0 (by rfl) (List.mem_of_getElem? (i := 0) (by rfl)) (eRepl (ly := [34]) (lz := [38, 113, 117, 111, 116, 59]) (by rfl) (by rfl) (by rfl) (by decide) (by exact Nat.le_refl 1) (by rfl) (by rfl) (by rfl) (eVar 0 (by rfl) (by rfl))) (by rfl))
      bNil) bNil)
      (bCons (sIf (tCmp o_in (eStr [9] (by rfl)) (eVar 0 (by rfl) (by rfl)) (by rfl)) (bCons (sAssign 0 (by rfl) (List.mem_of_getElem? (i := 0) (by rfl)) (eRepl (ly := [9]) (lz := [38, 35, 120, 57, 59]) (by rfl) (by rfl) (by rfl) (by decide) (by exact Nat.le_refl 1) (by rfl) (by rfl) (by rfl) (eVar 0 (by rfl) (by rfl))) (by rfl))
      bNil) bNil)
      (bCons (sIf (tCmp o_in (eStr [10] (by rfl)) (eVar 0 (by rfl) (by rfl)) (by rfl)) (bCons (sAssign 0 (by rfl) (List.mem_of_getElem? (i := 0) (by rfl)) (eRepl (ly := [10]) (lz := [38, 35, 120, 65, 59]) (by rfl) (by rfl) (by rfl) (by decide) (by exact Nat.le_refl 1) (by rfl) (by rfl) (by rfl) (eVar 0 (by rfl) (by rfl))) (by rfl))
      bNil) bNil)
      (bCons (sIf (tCmp o_in (eStr [13] (by rfl)) (eVar 0 (by rfl) (by rfl)) (by rfl)) (bCons (sAssign 0 (by rfl) (List.mem_of_getElem? (i := 0) (by rfl)) (eRepl (ly := [13]) (lz := [38, 35, 120, 68, 59]) (by rfl) (by rfl) (by rfl) (by decide) (by exact Nat.le_refl 1) (by rfl) (by rfl) (by rfl) (eVar 0 (by rfl) (by rfl))) (by rfl))
      bNil) bNil)
      (bCons (sRet (eVar 0 (by rfl) (by rfl)))
      bNil))))))))
      bNil)⟩
noncomputable def g__escape_attrib_c14n : List V → Option V := fun vs => if vs.length = (["text"] : List Str).length then (match b__escape_attrib_c14n.1 (padU ([] : List Str).length vs) with | some (.ret v, _) => some v | some (.next, _) => some .non | _ => none) else none
theorem ok__escape_attrib_c14n {C : Cx} (hC : C.Ok) (B : BI C) (hfn : ∃ a o pm code doc, C.mg (recAt PySem.Challenge.pw_wr0032_02 15).name = some (.ref a) ∧ C.base.get? a = some o ∧ o.data = .func (Calls.docDef (recAt PySem.Challenge.pw_wr0032_02 15).name (recAt PySem.Challenge.pw_wr0032_02 15).params (recAt PySem.Challenge.pw_wr0032_02 15).body (recAt PySem.Challenge.pw_wr0032_02 15).scope pm code doc) ∧ C.base.CodeRec code (recAt PySem.Challenge.pw_wr0032_02 15).name ∧ ¬ C.Px a ∧ ∀ c, code = .ref c → ¬ C.Px c) : FnOk C 2 "_escape_attrib_c14n" g__escape_attrib_c14n := by
  obtain ⟨a, o, pm, code, doc, h1, h2, h3, h4, h5, h6⟩ := hfn
  exact mkFn hC (ps := ["text"]) (loc := []) h1 h2 h5 h3 h4 h6 (fun us hu => match us, hu with | [u0], _ => by rfl) (by decide) (by decide) (by decide) (by rfl) (by rfl) (by rfl) (by decide) (fun L => b__escape_attrib_c14n.2 C hC B L a code)

noncomputable def b__law_write : { f : SF // ∀ (C : Cx) (hC : C.Ok) (B : BI C) (h__escape_cdata : FnOk C 2 "_escape_cdata" g__escape_cdata) (h__escape_attrib : FnOk C 2 "_escape_attrib" g__escape_attrib) (h__escape_attrib_html : FnOk C 2 "_escape_attrib_html" g__escape_attrib_html) (h__escape_cdata_c14n : FnOk C 2 "_escape_cdata_c14n" g__escape_cdata_c14n) (h__escape_attrib_c14n : FnOk C 2 "_escape_attrib_c14n" g__escape_attrib_c14n) (L fa : Addr) (cd : Value), SB C ⟨envOf (recAt PySem.Challenge.pw_wr0032_02 17).name (recAt PySem.Challenge.pw_wr0032_02 17).scope L fa cd, (["kind", "text"] : List Str) ++ ([] : List Str), (["kind", "text"] : List Str) ++ ([] : List Str), 1⟩ 2 (recAt PySem.Challenge.pw_wr0032_02 17).body f } := ⟨_, fun C hC B h__escape_cdata h__escape_attrib h__escape_attrib_html h__escape_cdata_c14n h__escape_attrib_c14n L fa cd =>
   (bCons (sIf (tCmp o_eq (eVar 0 (by rfl) (by rfl)) (eInt _) (by rfl)) (bCons (sRet (eFn hC (by decide) (by rfl) (by rfl) h__escape_cdata (lCons (by intros; rfl) (eVar 1 (by rfl) (by rfl)) lNil) (by intros; rfl)))
      bNil) bNil)
      (bCons (sIf (tCmp o_eq (eVar 0 (by rfl) (by rfl)) (eInt _) (by rfl)) (bCons (sRet (eFn hC (by decide) (by rfl) (by rfl) h__escape_attrib (lCons (by intros; rfl) (eVar 1 (by rfl) (by rfl)) lNil) (by intros; rfl)))
      bNil) bNil)
      (bCons (sIf (tCmp o_eq (eVar 0 (by rfl) (by rfl)) (eInt _) (by rfl)) (bCons (sRet (eFn hC (by decide) (by rfl) (by rfl) h__escape_attrib_html (lCons (by intros; rfl) (eVar 1 (by rfl) (by rfl)) lNil) (by intros; rfl)))
      bNil) bNil)
      (bCons (sIf (tCmp o_eq (eVar 0 (by rfl) (by rfl)) (eInt _) (by rfl)) (bCons (sRet (eFn hC (by decide) (by rfl) (by rfl) h__escape_cdata_c14n (lCons (by intros; rfl) (eVar 1 (by rfl) (by rfl)) lNil) (by intros; rfl)))
      bNil) bNil)
      (bCons (sRet (eFn hC (by decide) (by rfl) (by rfl) h__escape_attrib_c14n (lCons (by intros; rfl) (eVar 1 (by rfl) (by rfl)) lNil) (by intros; rfl)))
      bNil)))))⟩
noncomputable def g__law_write : List V → Option V := fun vs => if vs.length = (["kind", "text"] : List Str).length then (match b__law_write.1 (padU ([] : List Str).length vs) with | some (.ret v, _) => some v | some (.next, _) => some .non | _ => none) else none
theorem ok__law_write {C : Cx} (hC : C.Ok) (B : BI C) (h__escape_cdata : FnOk C 2 "_escape_cdata" g__escape_cdata) (h__escape_attrib : FnOk C 2 "_escape_attrib" g__escape_attrib) (h__escape_attrib_html : FnOk C 2 "_escape_attrib_html" g__escape_attrib_html) (h__escape_cdata_c14n : FnOk C 2 "_escape_cdata_c14n" g__escape_cdata_c14n) (h__escape_attrib_c14n : FnOk C 2 "_escape_attrib_c14n" g__escape_attrib_c14n) (hfn : ∃ a o pm code doc, C.mg (recAt PySem.Challenge.pw_wr0032_02 17).name = some (.ref a) ∧ C.base.get? a = some o ∧ o.data = .func (Calls.docDef (recAt PySem.Challenge.pw_wr0032_02 17).name (recAt PySem.Challenge.pw_wr0032_02 17).params (recAt PySem.Challenge.pw_wr0032_02 17).body (recAt PySem.Challenge.pw_wr0032_02 17).scope pm code doc) ∧ C.base.CodeRec code (recAt PySem.Challenge.pw_wr0032_02 17).name ∧ ¬ C.Px a ∧ ∀ c, code = .ref c → ¬ C.Px c) : FnOk C 3 "_law_write" g__law_write := by
  obtain ⟨a, o, pm, code, doc, h1, h2, h3, h4, h5, h6⟩ := hfn
  exact mkFn hC (ps := ["kind", "text"]) (loc := []) h1 h2 h5 h3 h4 h6 (fun us hu => match us, hu with | [u0, u1], _ => by rfl) (by decide) (by decide) (by decide) (by rfl) (by rfl) (by rfl) (by decide) (fun L => b__law_write.2 C hC B h__escape_cdata h__escape_attrib h__escape_attrib_html h__escape_cdata_c14n h__escape_attrib_c14n L a code)

end Mine

namespace Mine
noncomputable def b__law_pairs : { f : List S → Option V // ∀ (C : Cx) (hC : C.Ok) (L fa : Addr) (cd : Value), BT C ⟨envOf (recAt PySem.Challenge.pw_wr0032_02 18).name (recAt PySem.Challenge.pw_wr0032_02 18).scope L fa cd, (["kind"] : List Str) ++ (["lesser", "greater", "both", "shorts", "longs"] : List Str), (["kind"] : List Str) ++ (["lesser", "greater", "both", "shorts", "longs"] : List Str), 1⟩ 1 (recAt PySem.Challenge.pw_wr0032_02 18).body f } := ⟨_, fun C hC L fa cd =>
   (btAssign 1 (by rfl) (List.mem_of_getElem? (i := 1) (by rfl)) (tkList (tlCons (by intros; rfl) (tkStr [60] (by rfl) (by exact Nat.le_refl 1)) (tlCons (by intros; rfl) (tkStr [38, 108, 116, 59] (by rfl) (by exact Nat.le_refl 1)) tlNil))) (by rfl)
   (btAssign 2 (by rfl) (List.mem_of_getElem? (i := 2) (by rfl)) (tkList (tlCons (by intros; rfl) (tkStr [62] (by rfl) (by exact Nat.le_refl 1)) (tlCons (by intros; rfl) (tkStr [38, 103, 116, 59] (by rfl) (by exact Nat.le_refl 1)) tlNil))) (by rfl)
   (btAssign 3 (by rfl) (List.mem_of_getElem? (i := 3) (by rfl)) (tkList (tlCons (by intros; rfl) (tkStr [38] (by rfl) (by exact Nat.le_refl 1)) (tlCons (by intros; rfl) (tkStr [38, 97, 109, 112, 59] (by rfl) (by exact Nat.le_refl 1)) tlNil))) (by rfl)
   (btAssign 4 (by rfl) (List.mem_of_getElem? (i := 4) (by rfl)) (tkList (tlCons (by intros; rfl) (tkList (tlCons (by intros; rfl) (tkVar 1 (by rfl) (by rfl)) (tlCons (by intros; rfl) (tkVar 2 (by rfl) (by rfl)) tlNil))) (tlCons (by intros; rfl) (tkList (tlCons (by intros; rfl) (tkVar 1 (by rfl) (by rfl)) (tlCons (by intros; rfl) (tkVar 2 (by rfl) (by rfl)) tlNil))) (tlCons (by intros; rfl) (tkList (tlCons (by intros; rfl) (tkVar 2 (by rfl) (by rfl)) tlNil)) (tlCons (by intros; rfl) (tkList (tlCons (by intros; rfl) (tkVar 1 (by rfl) (by rfl)) (tlCons (by intros; rfl) (tkVar 2 (by rfl) (by rfl)) tlNil))) (tlCons (by intros; rfl) (tkList (tlCons (by intros; rfl) (tkVar 1 (by rfl) (by rfl)) tlNil)) tlNil)))))) (by rfl)
   (btAssign 5 (by rfl) (List.mem_of_getElem? (i := 5) (by rfl)) (tkList (tlCons (by intros; rfl) (tkList (tlCons (by intros; rfl) (tkVar 3 (by rfl) (by rfl)) tlNil)) (tlCons (by intros; rfl) (tkList (tlCons (by intros; rfl) (tkVar 3 (by rfl) (by rfl)) (tlCons (by intros; rfl) (tkList (tlCons (by intros; rfl) (tkStr [13] (by rfl) (by exact Nat.le_refl 1)) (tlCons (by intros; rfl) (tkStr [38, 35, 49, 51, 59] (by rfl) (by exact Nat.le_refl 1)) tlNil))) (tlCons (by intros; rfl) (tkList (tlCons (by intros; rfl) (tkStr [10] (by rfl) (by exact Nat.le_refl 1)) (tlCons (by intros; rfl) (tkStr [38, 35, 49, 48, 59] (by rfl) (by exact Nat.le_refl 1)) tlNil))) (tlCons (by intros; rfl) (tkList (tlCons (by intros; rfl) (tkStr [9] (by rfl) (by exact Nat.le_refl 1)) (tlCons (by intros; rfl) (tkStr [38, 35, 48, 57, 59] (by rfl) (by exact Nat.le_refl 1)) tlNil))) tlNil))))) (tlCons (by intros; rfl) (tkList (tlCons (by intros; rfl) (tkVar 3 (by rfl) (by rfl)) tlNil)) (tlCons (by intros; rfl) (tkList (tlCons (by intros; rfl) (tkVar 3 (by rfl) (by rfl)) (tlCons (by intros; rfl) (tkList (tlCons (by intros; rfl) (tkStr [13] (by rfl) (by exact Nat.le_refl 1)) (tlCons (by intros; rfl) (tkStr [38, 35, 120, 68, 59] (by rfl) (by exact Nat.le_refl 1)) tlNil))) tlNil))) (tlCons (by intros; rfl) (tkList (tlCons (by intros; rfl) (tkVar 3 (by rfl) (by rfl)) (tlCons (by intros; rfl) (tkList (tlCons (by intros; rfl) (tkStr [13] (by rfl) (by exact Nat.le_refl 1)) (tlCons (by intros; rfl) (tkStr [38, 35, 120, 68, 59] (by rfl) (by exact Nat.le_refl 1)) tlNil))) (tlCons (by intros; rfl) (tkList (tlCons (by intros; rfl) (tkStr [10] (by rfl) (by exact Nat.le_refl 1)) (tlCons (by intros; rfl) (tkStr [38, 35, 120, 65, 59] (by rfl) (by exact Nat.le_refl 1)) tlNil))) (tlCons (by intros; rfl) (tkList (tlCons (by intros; rfl) (tkStr [9] (by rfl) (by exact Nat.le_refl 1)) (tlCons (by intros; rfl) (tkStr [38, 35, 120, 57, 59] (by rfl) (by exact Nat.le_refl 1)) tlNil))) tlNil))))) tlNil)))))) (by rfl)
   (btRet (tkList (tlCons (by intros; rfl) (tkIdx (tkVar 4 (by rfl) (by rfl)) (eVar 0 (by rfl) (by rfl)) (by intro σ; simp only [rd_er]) (by intros; rfl)) (tlCons (by intros; rfl) (tkIdx (tkVar 5 (by rfl) (by rfl)) (eVar 0 (by rfl) (by rfl)) (by intro σ; simp only [rd_er]) (by intros; rfl)) tlNil)))))))))⟩
noncomputable def g__law_pairs : List V → Option V := fun vs => if vs.length = (["kind"] : List Str).length then b__law_pairs.1 (padU (["lesser", "greater", "both", "shorts", "longs"] : List Str).length vs) else none
theorem ok__law_pairs {C : Cx} (hC : C.Ok) (hfn : ∃ a o pm code doc, C.mg (recAt PySem.Challenge.pw_wr0032_02 18).name = some (.ref a) ∧ C.base.get? a = some o ∧ o.data = .func (Calls.docDef (recAt PySem.Challenge.pw_wr0032_02 18).name (recAt PySem.Challenge.pw_wr0032_02 18).params (recAt PySem.Challenge.pw_wr0032_02 18).body (recAt PySem.Challenge.pw_wr0032_02 18).scope pm code doc) ∧ C.base.CodeRec code (recAt PySem.Challenge.pw_wr0032_02 18).name ∧ ¬ C.Px a ∧ ∀ c, code = .ref c → ¬ C.Px c) : FnTk C 2 "_law_pairs" g__law_pairs := by
  obtain ⟨a, o, pm, code, doc, h1, h2, h3, h4, h5, h6⟩ := hfn
  exact mkTk hC (ps := ["kind"]) (loc := ["lesser", "greater", "both", "shorts", "longs"]) h1 h2 h5 h3 h4 h6 (fun us hu => match us, hu with | [u0], _ => by rfl) (by decide) (by decide) (by decide) (by rfl) (by rfl) (by rfl) (by decide) (fun L => b__law_pairs.2 C hC L a code)

end Mine

namespace Mine
noncomputable def lawScope : { s : Scope // s = (recAt PySem.Challenge.pw_wr0032_02 19).scope } := ⟨⟨_, [(_, _), (_, _), (_, _), (_, _), (_, _), (_, _), (_, _), (_, _), (_, _), (_, _), (_, _), (_, _), (_, _), (_, _), (_, _), (_, _), (_, _), (_, _), (_, _), (_, _), (_, _), (_, _), (_, _), (_, _), (_, _), (_, _), (_, _), (_, _), (_, _), (_, _), (_, _), (_, _), (_, _), (_, _), (_, _), (_, _), (_, _)], _, _, _⟩, by rfl⟩
noncomputable def l_5 (t0 : Nat) : { f : SF // ∀ (C : Cx) (hC : C.Ok) (B : BI C) (h_Int2AP : FnOk C 2 "Int2AP" g_Int2AP) (h__ellipsis_match : FnOk C 2 "_ellipsis_match" g__ellipsis_match) (h__check_parenthesis : FnOk C 4 "_check_parenthesis" g__check_parenthesis) (h__law_write : FnOk C 3 "_law_write" g__law_write) (L fa : Addr) (cd : Value), SS C ⟨envOfC "law" lawScope.1 L fa cd, (["script"] : List Str) ++ (["total", "kind", "shorts", "longs", "short", "short_name", "wide", "wide_name", "text", "place", "cell", "levels", "units", "ahead", "unit", "start", "row", "begins", "sizes", "times", "size", "word", "up", "down", "wanted"] : List Str), (["script"] : List Str) ++ (["total", "kind", "shorts", "longs", "short", "short_name", "wide", "wide_name", "text", "place", "cell", "levels", "units", "ahead", "unit", "start", "row", "begins", "sizes", "times", "size", "word", "up", "down", "wanted"] : List Str), t0⟩ 4 ((recAt PySem.Challenge.pw_wr0032_02 19).body[5]?.getD (.Pass ⟨0,0,0,0⟩)) f } := ⟨_, fun C hC B h_Int2AP h__ellipsis_match h__check_parenthesis h__law_write L fa cd =>
   (sAssign 9 (by rfl) (List.mem_of_getElem? (i := 9) (by rfl)) (eStr [] (by rfl)) (by rfl))⟩
noncomputable def l_6 (t0 : Nat) : { f : SF // ∀ (C : Cx) (hC : C.Ok) (B : BI C) (h_Int2AP : FnOk C 2 "Int2AP" g_Int2AP) (h__ellipsis_match : FnOk C 2 "_ellipsis_match" g__ellipsis_match) (h__check_parenthesis : FnOk C 4 "_check_parenthesis" g__check_parenthesis) (h__law_write : FnOk C 3 "_law_write" g__law_write) (L fa : Addr) (cd : Value), SS C ⟨envOfC "law" lawScope.1 L fa cd, (["script"] : List Str) ++ (["total", "kind", "shorts", "longs", "short", "short_name", "wide", "wide_name", "text", "place", "cell", "levels", "units", "ahead", "unit", "start", "row", "begins", "sizes", "times", "size", "word", "up", "down", "wanted"] : List Str), (["script"] : List Str) ++ (["total", "kind", "shorts", "longs", "short", "short_name", "wide", "wide_name", "text", "place", "cell", "levels", "units", "ahead", "unit", "start", "row", "begins", "sizes", "times", "size", "word", "up", "down", "wanted"] : List Str), t0⟩ 4 ((recAt PySem.Challenge.pw_wr0032_02 19).body[6]?.getD (.Pass ⟨0,0,0,0⟩)) f } := ⟨_, fun C hC B h_Int2AP h__ellipsis_match h__check_parenthesis h__law_write L fa cd =>
   (sFor 10 (by rfl) (List.mem_of_getElem? (i := 10) (by rfl)) (eCallB hC (by exact trivial) (by rfl) (by rfl) B.range.1 B.range.2 bf_range (aCons (by intros; rfl) (eInt _) aNil) (by intros; rfl) (by intros; rfl)) (bCons (sAssign 11 (by rfl) (List.mem_of_getElem? (i := 11) (by rfl)) (eBin o_add (eIdx (eTup (lCons (by intros; rfl) (eInt _) (lCons (by intros; rfl) (eInt _) (lCons (by intros; rfl) (eInt _) (lCons (by intros; rfl) (eInt _) (lCons (by intros; rfl) (eInt _) (lCons (by intros; rfl) (eInt _) (lCons (by intros; rfl) (eInt _) (lCons (by intros; rfl) (eInt _) (lCons (by intros; rfl) (eInt _) lNil)))))))))) (eVar 10 (by rfl) (by rfl)) (by intros; rfl)) (eCallB hC (by exact trivial) (by rfl) (by rfl) B.sum.1 B.sum.2 bf_sum (aCons (by intros; rfl) (eStep (eVar 0 (by rfl) (by rfl)) (eVar 10 (by rfl) (by rfl)) (eInt _)) aNil) (by intros; rfl) (by intros; rfl))) (by rfl))
      (bCons (sIf (tCmp o_lt (eBin o_mod (eVar 11 (by rfl) (by rfl)) (eBin o_sub (eInt _) (eVar 10 (by rfl) (by rfl)))) (eBin o_sub (eInt _) (eMeth mCount (by rfl) (by rfl) (by rfl) bf_count (eVar 9 (by rfl) (by rfl)) (aCons (by intros; rfl) (eVar 7 (by rfl) (by rfl)) aNil) (by intros; rfl) (by intros; rfl))) (by rfl)) (bCons (sAug 9 (by rfl) (List.mem_of_getElem? (i := 9) (by rfl)) o_iadd (eVar 7 (by rfl) (by rfl)))
      bNil) (bCons (sAug 9 (by rfl) (List.mem_of_getElem? (i := 9) (by rfl)) o_iadd (eVar 5 (by rfl) (by rfl)))
      bNil))
      bNil)) (by intros; rfl))⟩
noncomputable def l_7 (t0 : Nat) : { f : SF // ∀ (C : Cx) (hC : C.Ok) (B : BI C) (h_Int2AP : FnOk C 2 "Int2AP" g_Int2AP) (h__ellipsis_match : FnOk C 2 "_ellipsis_match" g__ellipsis_match) (h__check_parenthesis : FnOk C 4 "_check_parenthesis" g__check_parenthesis) (h__law_write : FnOk C 3 "_law_write" g__law_write) (L fa : Addr) (cd : Value), SS C ⟨envOfC "law" lawScope.1 L fa cd, (["script"] : List Str) ++ (["total", "kind", "shorts", "longs", "short", "short_name", "wide", "wide_name", "text", "place", "cell", "levels", "units", "ahead", "unit", "start", "row", "begins", "sizes", "times", "size", "word", "up", "down", "wanted"] : List Str), (["script"] : List Str) ++ (["total", "kind", "shorts", "longs", "short", "short_name", "wide", "wide_name", "text", "place", "cell", "levels", "units", "ahead", "unit", "start", "row", "begins", "sizes", "times", "size", "word", "up", "down", "wanted"] : List Str), t0⟩ 4 ((recAt PySem.Challenge.pw_wr0032_02 19).body[7]?.getD (.Pass ⟨0,0,0,0⟩)) f } := ⟨_, fun C hC B h_Int2AP h__ellipsis_match h__check_parenthesis h__law_write L fa cd =>
   (sIf (tCmp o_ne (eFn hC (by decide) (by rfl) (by rfl) h__law_write (lCons (by intros; rfl) (eVar 2 (by rfl) (by rfl)) (lCons (by intros; rfl) (eVar 9 (by rfl) (by rfl)) lNil)) (by intros; rfl)) (eMeth mJoin (by rfl) (by rfl) (by rfl) bf_join (eStr [] (by rfl)) (aCons (by intros; rfl) (eComp (fs := ["wide_name", "short_name", "wide"]) (is := [8, 6, 7]) (cl := _) (by (exact ⟨by rfl, by rfl, by decide, by rfl, by ((repeat (first | exact (fun _ h => absurd h List.not_mem_nil) | refine List.forall_mem_cons.mpr ⟨⟨by rfl, fun h => (by have h2 : some NameKind.cell = some NameKind.local := h; cases h2), .inl (by rfl)⟩, ?_⟩))), by decide, by rfl⟩)) (by (first | decide | rfl)) (by rfl) (by intros; rfl) (eVar 9 (by rfl) (by rfl)) (fun _ => ifNil) (fun _ => (eIf (tCmp o_eq (eVar 0 (by rfl) (by rfl)) (eVar 3 (by rfl) (by rfl)) (by rfl)) (eVar 1 (by rfl) (by rfl)) (eVar 2 (by rfl) (by rfl))))) aNil) (by intros; rfl) (by intros; rfl)) (by rfl)) (bCons (sRet (eBool false))
      bNil) bNil)⟩
noncomputable def l_8 (t0 : Nat) : { f : SF // ∀ (C : Cx) (hC : C.Ok) (B : BI C) (h_Int2AP : FnOk C 2 "Int2AP" g_Int2AP) (h__ellipsis_match : FnOk C 2 "_ellipsis_match" g__ellipsis_match) (h__check_parenthesis : FnOk C 4 "_check_parenthesis" g__check_parenthesis) (h__law_write : FnOk C 3 "_law_write" g__law_write) (L fa : Addr) (cd : Value), SS C ⟨envOfC "law" lawScope.1 L fa cd, (["script"] : List Str) ++ (["total", "kind", "shorts", "longs", "short", "short_name", "wide", "wide_name", "text", "place", "cell", "levels", "units", "ahead", "unit", "start", "row", "begins", "sizes", "times", "size", "word", "up", "down", "wanted"] : List Str), (["script"] : List Str) ++ (["total", "kind", "shorts", "longs", "short", "short_name", "wide", "wide_name", "text", "place", "cell", "levels", "units", "ahead", "unit", "start", "row", "begins", "sizes", "times", "size", "word", "up", "down", "wanted"] : List Str), t0⟩ 4 ((recAt PySem.Challenge.pw_wr0032_02 19).body[8]?.getD (.Pass ⟨0,0,0,0⟩)) f } := ⟨_, fun C hC B h_Int2AP h__ellipsis_match h__check_parenthesis h__law_write L fa cd =>
   (sOwn 12 (by rfl) (List.mem_of_getElem? (i := 12) (by rfl)) (eList lNil) (by rfl))⟩
noncomputable def l_9 (t0 : Nat) : { f : SF // ∀ (C : Cx) (hC : C.Ok) (B : BI C) (h_Int2AP : FnOk C 2 "Int2AP" g_Int2AP) (h__ellipsis_match : FnOk C 2 "_ellipsis_match" g__ellipsis_match) (h__check_parenthesis : FnOk C 4 "_check_parenthesis" g__check_parenthesis) (h__law_write : FnOk C 3 "_law_write" g__law_write) (L fa : Addr) (cd : Value), SS C ⟨envOfC "law" lawScope.1 L fa cd, (["script"] : List Str) ++ (["total", "kind", "shorts", "longs", "short", "short_name", "wide", "wide_name", "text", "place", "cell", "levels", "units", "ahead", "unit", "start", "row", "begins", "sizes", "times", "size", "word", "up", "down", "wanted"] : List Str), (["script"] : List Str) ++ (["total", "kind", "shorts", "longs", "short", "short_name", "wide", "wide_name", "text", "place", "cell", "levels", "units", "ahead", "unit", "start", "row", "begins", "sizes", "times", "size", "word", "up", "down", "wanted"] : List Str), t0⟩ 4 ((recAt PySem.Challenge.pw_wr0032_02 19).body[9]?.getD (.Pass ⟨0,0,0,0⟩)) f } := ⟨_, fun C hC B h_Int2AP h__ellipsis_match h__check_parenthesis h__law_write L fa cd =>
   (sOwn 13 (by rfl) (List.mem_of_getElem? (i := 13) (by rfl)) (eList lNil) (by rfl))⟩
noncomputable def l_10 (t0 : Nat) : { f : SF // ∀ (C : Cx) (hC : C.Ok) (B : BI C) (h_Int2AP : FnOk C 2 "Int2AP" g_Int2AP) (h__ellipsis_match : FnOk C 2 "_ellipsis_match" g__ellipsis_match) (h__check_parenthesis : FnOk C 4 "_check_parenthesis" g__check_parenthesis) (h__law_write : FnOk C 3 "_law_write" g__law_write) (L fa : Addr) (cd : Value), SS C ⟨envOfC "law" lawScope.1 L fa cd, (["script"] : List Str) ++ (["total", "kind", "shorts", "longs", "short", "short_name", "wide", "wide_name", "text", "place", "cell", "levels", "units", "ahead", "unit", "start", "row", "begins", "sizes", "times", "size", "word", "up", "down", "wanted"] : List Str), (["script"] : List Str) ++ (["total", "kind", "shorts", "longs", "short", "short_name", "wide", "wide_name", "text", "place", "cell", "levels", "units", "ahead", "unit", "start", "row", "begins", "sizes", "times", "size", "word", "up", "down", "wanted"] : List Str), t0⟩ 4 ((recAt PySem.Challenge.pw_wr0032_02 19).body[10]?.getD (.Pass ⟨0,0,0,0⟩)) f } := ⟨_, fun C hC B h_Int2AP h__ellipsis_match h__check_parenthesis h__law_write L fa cd =>
   (sFor 10 (by rfl) (List.mem_of_getElem? (i := 10) (by rfl)) (eCallB hC (by exact trivial) (by rfl) (by rfl) B.range.1 B.range.2 bf_range (aCons (by intros; rfl) (eInt _) aNil) (by intros; rfl) (by intros; rfl)) (bCons (sAssign 14 (by rfl) (List.mem_of_getElem? (i := 14) (by rfl)) (eSlice (eVar 9 (by rfl) (by rfl)) pNone (pSome (eVar 10 (by rfl) (by rfl)))) (by rfl))
      (bCons (sAppend 12 (by rfl) (by rfl) (eBin o_sub (eCallB hC (by exact trivial) (by rfl) (by rfl) B.len.1 B.len.2 bf_len (aCons (by intros; rfl) (eFn hC (by decide) (by rfl) (by rfl) h__law_write (lCons (by intros; rfl) (eVar 2 (by rfl) (by rfl)) (lCons (by intros; rfl) (eReplV 5 t0 (by rfl) (lz := []) (by rfl) (by decide) (by rfl) (by rfl) (by rfl) (by rfl) (by rfl) (eVar 14 (by rfl) (by rfl))) lNil)) (by intros; rfl)) aNil) (by intros; rfl) (by intros; rfl)) (eCallB hC (by exact trivial) (by rfl) (by rfl) B.len.1 B.len.2 bf_len (aCons (by intros; rfl) (eFn hC (by decide) (by rfl) (by rfl) h__law_write (lCons (by intros; rfl) (eVar 2 (by rfl) (by rfl)) (lCons (by intros; rfl) (eReplV 7 t0 (by rfl) (lz := []) (by rfl) (by decide) (by rfl) (by rfl) (by rfl) (by rfl) (by rfl) (eVar 14 (by rfl) (by rfl))) lNil)) (by intros; rfl)) aNil) (by intros; rfl) (by intros; rfl))) (by rfl) (by rfl) (by intros; rfl))
      (bCons (sAssign 15 (by rfl) (List.mem_of_getElem? (i := 15) (by rfl)) (eStr [41] (by rfl)) (by rfl))
      (bCons (sIf (tCmp o_eq (eIdx (eVar 9 (by rfl) (by rfl)) (eVar 10 (by rfl) (by rfl)) (by intros; rfl)) (eVar 7 (by rfl) (by rfl)) (by rfl)) (bCons (sAssign 15 (by rfl) (List.mem_of_getElem? (i := 15) (by rfl)) (eStr [40] (by rfl)) (by rfl))
      bNil) bNil)
      (bCons (sAppend 13 (by rfl) (by rfl) (eBin o_add (eVar 15 (by rfl) (by rfl)) (eIdx (eList (lCons (by intros; rfl) (eStr [] (by rfl)) (lCons (by intros; rfl) (eStr [92, 41] (by rfl)) (lCons (by intros; rfl) (eStr [] (by rfl)) (lCons (by intros; rfl) (eStr [34, 41, 34] (by rfl)) (lCons (by intros; rfl) (eStr [] (by rfl)) (lCons (by intros; rfl) (eStr [92, 40] (by rfl)) (lCons (by intros; rfl) (eStr [] (by rfl)) (lCons (by intros; rfl) (eStr [] (by rfl)) (lCons (by intros; rfl) (eStr [92, 92] (by rfl)) lNil)))))))))) (eBin o_mod (eBin o_add (eVar 10 (by rfl) (by rfl)) (eBin o_fdiv (eVar 1 (by rfl) (by rfl)) (eInt _))) (eInt _)) (by intros; rfl))) (by rfl) (by rfl) (by intros; rfl))
      bNil))))) (by intros; rfl))⟩
noncomputable def l_11 (t0 : Nat) : { f : SF // ∀ (C : Cx) (hC : C.Ok) (B : BI C) (h_Int2AP : FnOk C 2 "Int2AP" g_Int2AP) (h__ellipsis_match : FnOk C 2 "_ellipsis_match" g__ellipsis_match) (h__check_parenthesis : FnOk C 4 "_check_parenthesis" g__check_parenthesis) (h__law_write : FnOk C 3 "_law_write" g__law_write) (L fa : Addr) (cd : Value), SS C ⟨envOfC "law" lawScope.1 L fa cd, (["script"] : List Str) ++ (["total", "kind", "shorts", "longs", "short", "short_name", "wide", "wide_name", "text", "place", "cell", "levels", "units", "ahead", "unit", "start", "row", "begins", "sizes", "times", "size", "word", "up", "down", "wanted"] : List Str), (["script"] : List Str) ++ (["total", "kind", "shorts", "longs", "short", "short_name", "wide", "wide_name", "text", "place", "cell", "levels", "units", "ahead", "unit", "start", "row", "begins", "sizes", "times", "size", "word", "up", "down", "wanted"] : List Str), t0⟩ 4 ((recAt PySem.Challenge.pw_wr0032_02 19).body[11]?.getD (.Pass ⟨0,0,0,0⟩)) f } := ⟨_, fun C hC B h_Int2AP h__ellipsis_match h__check_parenthesis h__law_write L fa cd =>
   (sAssign 16 (by rfl) (List.mem_of_getElem? (i := 16) (by rfl)) (eMeth mLindex (by rfl) (by rfl) (by rfl) bf_lindex (eVar 12 (by rfl) (by rfl)) (aCons (by intros; rfl) (eCallB hC (by exact trivial) (by rfl) (by rfl) B.min.1 B.min.2 bf_min (aCons (by intros; rfl) (eVar 12 (by rfl) (by rfl)) aNil) (by intros; rfl) (by intros; rfl)) aNil) (by intros; rfl) (by intros; rfl)) (by rfl))⟩
noncomputable def l_12 (t0 : Nat) : { f : SF // ∀ (C : Cx) (hC : C.Ok) (B : BI C) (h_Int2AP : FnOk C 2 "Int2AP" g_Int2AP) (h__ellipsis_match : FnOk C 2 "_ellipsis_match" g__ellipsis_match) (h__check_parenthesis : FnOk C 4 "_check_parenthesis" g__check_parenthesis) (h__law_write : FnOk C 3 "_law_write" g__law_write) (L fa : Addr) (cd : Value), SS C ⟨envOfC "law" lawScope.1 L fa cd, (["script"] : List Str) ++ (["total", "kind", "shorts", "longs", "short", "short_name", "wide", "wide_name", "text", "place", "cell", "levels", "units", "ahead", "unit", "start", "row", "begins", "sizes", "times", "size", "word", "up", "down", "wanted"] : List Str), (["script"] : List Str) ++ (["total", "kind", "shorts", "longs", "short", "short_name", "wide", "wide_name", "text", "place", "cell", "levels", "units", "ahead", "unit", "start", "row", "begins", "sizes", "times", "size", "word", "up", "down", "wanted"] : List Str), t0⟩ 4 ((recAt PySem.Challenge.pw_wr0032_02 19).body[12]?.getD (.Pass ⟨0,0,0,0⟩)) f } := ⟨_, fun C hC B h_Int2AP h__ellipsis_match h__check_parenthesis h__law_write L fa cd =>
   (sFor 10 (by rfl) (List.mem_of_getElem? (i := 10) (by rfl)) (eCallB hC (by exact trivial) (by rfl) (by rfl) B.range.1 B.range.2 bf_range (aCons (by intros; rfl) (eInt _) aNil) (by intros; rfl) (by intros; rfl)) (bCons (sAssign 17 (by rfl) (List.mem_of_getElem? (i := 17) (by rfl)) (eMeth mJoin (by rfl) (by rfl) (by rfl) bf_join (eStr [] (by rfl)) (aCons (by intros; rfl) (eSlice (eBin o_add (eSlice (eVar 13 (by rfl) (by rfl)) (pSome (eVar 10 (by rfl) (by rfl))) pNone) (eSlice (eVar 13 (by rfl) (by rfl)) pNone (pSome (eVar 10 (by rfl) (by rfl))))) pNone (pSome (eInt _))) aNil) (by intros; rfl) (by intros; rfl)) (by rfl))
      (bCons (sIf (tCmp o_isNot (eFn hC (by decide) (by rfl) (by rfl) h__check_parenthesis (lCons (by intros; rfl) (eVar 17 (by rfl) (by rfl)) lNil) (by intros; rfl)) (eCmp o_eq (eVar 10 (by rfl) (by rfl)) (eVar 16 (by rfl) (by rfl)) (by rfl)) (by rfl)) (bCons (sRet (eBool false))
      bNil) bNil)
      (bCons (sIf (tBool (aAnd (tCmp o_eq (eVar 10 (by rfl) (by rfl)) (eVar 16 (by rfl) (by rfl)) (by rfl)) (aAnd (tCmp o_isNot (eFn hC (by decide) (by rfl) (by rfl) h__check_parenthesis (lCons (by intros; rfl) (eBin o_add (eStr [40] (by rfl)) (eVar 17 (by rfl) (by rfl))) lNil) (by intros; rfl)) (eBool false) (by rfl)) aNilAnd))) (bCons (sRet (eBool false))
      bNil) bNil)
      bNil))) (by intros; rfl))⟩
noncomputable def l_13 (t0 : Nat) : { f : SF // ∀ (C : Cx) (hC : C.Ok) (B : BI C) (h_Int2AP : FnOk C 2 "Int2AP" g_Int2AP) (h__ellipsis_match : FnOk C 2 "_ellipsis_match" g__ellipsis_match) (h__check_parenthesis : FnOk C 4 "_check_parenthesis" g__check_parenthesis) (h__law_write : FnOk C 3 "_law_write" g__law_write) (L fa : Addr) (cd : Value), SS C ⟨envOfC "law" lawScope.1 L fa cd, (["script"] : List Str) ++ (["total", "kind", "shorts", "longs", "short", "short_name", "wide", "wide_name", "text", "place", "cell", "levels", "units", "ahead", "unit", "start", "row", "begins", "sizes", "times", "size", "word", "up", "down", "wanted"] : List Str), (["script"] : List Str) ++ (["total", "kind", "shorts", "longs", "short", "short_name", "wide", "wide_name", "text", "place", "cell", "levels", "units", "ahead", "unit", "start", "row", "begins", "sizes", "times", "size", "word", "up", "down", "wanted"] : List Str), t0⟩ 4 ((recAt PySem.Challenge.pw_wr0032_02 19).body[13]?.getD (.Pass ⟨0,0,0,0⟩)) f } := ⟨_, fun C hC B h_Int2AP h__ellipsis_match h__check_parenthesis h__law_write L fa cd =>
   (sAssign 12 (by rfl) (List.mem_of_getElem? (i := 12) (by rfl)) (eBin o_add (eComp (fs := ["levels", "start"]) (is := [12, 16]) (cl := _) (by (exact ⟨by rfl, by rfl, by decide, by rfl, by ((repeat (first | exact (fun _ h => absurd h List.not_mem_nil) | refine List.forall_mem_cons.mpr ⟨⟨by rfl, fun h => (by have h2 : some NameKind.cell = some NameKind.local := h; cases h2), .inl (by rfl)⟩, ?_⟩))), by decide, by rfl⟩)) (by (first | decide | rfl)) (by rfl) (by intros; rfl) (eBin o_add (eSlice (eVar 12 (by rfl) (by rfl)) (pSome (eVar 16 (by rfl) (by rfl))) pNone) (eSlice (eVar 12 (by rfl) (by rfl)) pNone (pSome (eVar 16 (by rfl) (by rfl))))) (fun _ => ifNil) (fun _ => (eBin o_sub (eVar 0 (by rfl) (by rfl)) (eIdx (eVar 1 (by rfl) (by rfl)) (eVar 2 (by rfl) (by rfl)) (by intros; rfl))))) (eList (lCons (by intros; rfl) (eInt _) lNil))) (by rfl))⟩
noncomputable def l_14 (t0 : Nat) : { f : SF // ∀ (C : Cx) (hC : C.Ok) (B : BI C) (h_Int2AP : FnOk C 2 "Int2AP" g_Int2AP) (h__ellipsis_match : FnOk C 2 "_ellipsis_match" g__ellipsis_match) (h__check_parenthesis : FnOk C 4 "_check_parenthesis" g__check_parenthesis) (h__law_write : FnOk C 3 "_law_write" g__law_write) (L fa : Addr) (cd : Value), SS C ⟨envOfC "law" lawScope.1 L fa cd, (["script"] : List Str) ++ (["total", "kind", "shorts", "longs", "short", "short_name", "wide", "wide_name", "text", "place", "cell", "levels", "units", "ahead", "unit", "start", "row", "begins", "sizes", "times", "size", "word", "up", "down", "wanted"] : List Str), (["script"] : List Str) ++ (["total", "kind", "shorts", "longs", "short", "short_name", "wide", "wide_name", "text", "place", "cell", "levels", "units", "ahead", "unit", "start", "row", "begins", "sizes", "times", "size", "word", "up", "down", "wanted"] : List Str), t0⟩ 4 ((recAt PySem.Challenge.pw_wr0032_02 19).body[14]?.getD (.Pass ⟨0,0,0,0⟩)) f } := ⟨_, fun C hC B h_Int2AP h__ellipsis_match h__check_parenthesis h__law_write L fa cd =>
   (sAssign 9 (by rfl) (List.mem_of_getElem? (i := 9) (by rfl)) (eBin o_add (eSlice (eVar 9 (by rfl) (by rfl)) (pSome (eVar 16 (by rfl) (by rfl))) pNone) (eSlice (eVar 9 (by rfl) (by rfl)) pNone (pSome (eVar 16 (by rfl) (by rfl))))) (by rfl))⟩
noncomputable def l_15 (t0 : Nat) : { f : SF // ∀ (C : Cx) (hC : C.Ok) (B : BI C) (h_Int2AP : FnOk C 2 "Int2AP" g_Int2AP) (h__ellipsis_match : FnOk C 2 "_ellipsis_match" g__ellipsis_match) (h__check_parenthesis : FnOk C 4 "_check_parenthesis" g__check_parenthesis) (h__law_write : FnOk C 3 "_law_write" g__law_write) (L fa : Addr) (cd : Value), SS C ⟨envOfC "law" lawScope.1 L fa cd, (["script"] : List Str) ++ (["total", "kind", "shorts", "longs", "short", "short_name", "wide", "wide_name", "text", "place", "cell", "levels", "units", "ahead", "unit", "start", "row", "begins", "sizes", "times", "size", "word", "up", "down", "wanted"] : List Str), (["script"] : List Str) ++ (["total", "kind", "shorts", "longs", "short", "short_name", "wide", "wide_name", "text", "place", "cell", "levels", "units", "ahead", "unit", "start", "row", "begins", "sizes", "times", "size", "word", "up", "down", "wanted"] : List Str), t0⟩ 4 ((recAt PySem.Challenge.pw_wr0032_02 19).body[15]?.getD (.Pass ⟨0,0,0,0⟩)) f } := ⟨_, fun C hC B h_Int2AP h__ellipsis_match h__check_parenthesis h__law_write L fa cd =>
   (sAssign 18 (by rfl) (List.mem_of_getElem? (i := 18) (by rfl)) (eComp (fs := ["levels", "wide", "text"]) (is := [12, 7, 9]) (cl := _) (by (exact ⟨by rfl, by rfl, by decide, by rfl, by ((repeat (first | exact (fun _ h => absurd h List.not_mem_nil) | refine List.forall_mem_cons.mpr ⟨⟨by rfl, fun h => (by have h2 : some NameKind.cell = some NameKind.local := h; cases h2), .inl (by rfl)⟩, ?_⟩))), by decide, by rfl⟩)) (by (first | decide | rfl)) (by rfl) (by intros; rfl) (eCallB hC (by exact trivial) (by rfl) (by rfl) B.range.1 B.range.2 bf_range (aCons (by intros; rfl) (eInt _) aNil) (by intros; rfl) (by intros; rfl)) (fun _ => (ifOne (tCmp o_eq (eIdx (eVar 3 (by rfl) (by rfl)) (eVar 0 (by rfl) (by rfl)) (by intros; rfl)) (eVar 2 (by rfl) (by rfl)) (by rfl)))) (fun _ => (eIdx (eVar 1 (by rfl) (by rfl)) (eVar 0 (by rfl) (by rfl)) (by intros; rfl)))) (by rfl))⟩
noncomputable def l_16 (t0 : Nat) : { f : SF // ∀ (C : Cx) (hC : C.Ok) (B : BI C) (h_Int2AP : FnOk C 2 "Int2AP" g_Int2AP) (h__ellipsis_match : FnOk C 2 "_ellipsis_match" g__ellipsis_match) (h__check_parenthesis : FnOk C 4 "_check_parenthesis" g__check_parenthesis) (h__law_write : FnOk C 3 "_law_write" g__law_write) (L fa : Addr) (cd : Value), SS C ⟨envOfC "law" lawScope.1 L fa cd, (["script"] : List Str) ++ (["total", "kind", "shorts", "longs", "short", "short_name", "wide", "wide_name", "text", "place", "cell", "levels", "units", "ahead", "unit", "start", "row", "begins", "sizes", "times", "size", "word", "up", "down", "wanted"] : List Str), (["script"] : List Str) ++ (["total", "kind", "shorts", "longs", "short", "short_name", "wide", "wide_name", "text", "place", "cell", "levels", "units", "ahead", "unit", "start", "row", "begins", "sizes", "times", "size", "word", "up", "down", "wanted"] : List Str), t0⟩ 4 ((recAt PySem.Challenge.pw_wr0032_02 19).body[16]?.getD (.Pass ⟨0,0,0,0⟩)) f } := ⟨_, fun C hC B h_Int2AP h__ellipsis_match h__check_parenthesis h__law_write L fa cd =>
   (sOwn 19 (by rfl) (List.mem_of_getElem? (i := 19) (by rfl)) (eList lNil) (by rfl))⟩
noncomputable def l_17 (t0 : Nat) : { f : SF // ∀ (C : Cx) (hC : C.Ok) (B : BI C) (h_Int2AP : FnOk C 2 "Int2AP" g_Int2AP) (h__ellipsis_match : FnOk C 2 "_ellipsis_match" g__ellipsis_match) (h__check_parenthesis : FnOk C 4 "_check_parenthesis" g__check_parenthesis) (h__law_write : FnOk C 3 "_law_write" g__law_write) (L fa : Addr) (cd : Value), SS C ⟨envOfC "law" lawScope.1 L fa cd, (["script"] : List Str) ++ (["total", "kind", "shorts", "longs", "short", "short_name", "wide", "wide_name", "text", "place", "cell", "levels", "units", "ahead", "unit", "start", "row", "begins", "sizes", "times", "size", "word", "up", "down", "wanted"] : List Str), (["script"] : List Str) ++ (["total", "kind", "shorts", "longs", "short", "short_name", "wide", "wide_name", "text", "place", "cell", "levels", "units", "ahead", "unit", "start", "row", "begins", "sizes", "times", "size", "word", "up", "down", "wanted"] : List Str), t0⟩ 4 ((recAt PySem.Challenge.pw_wr0032_02 19).body[17]?.getD (.Pass ⟨0,0,0,0⟩)) f } := ⟨_, fun C hC B h_Int2AP h__ellipsis_match h__check_parenthesis h__law_write L fa cd =>
   (sFor 10 (by rfl) (List.mem_of_getElem? (i := 10) (by rfl)) (eCallB hC (by exact trivial) (by rfl) (by rfl) B.range.1 B.range.2 bf_range (aCons (by intros; rfl) (eInt _) aNil) (by intros; rfl) (by intros; rfl)) (bCons (sIf (tCmp o_eq (eIdx (eVar 9 (by rfl) (by rfl)) (eVar 10 (by rfl) (by rfl)) (by intros; rfl)) (eVar 5 (by rfl) (by rfl)) (by rfl)) (bCons (sFor 20 (by rfl) (List.mem_of_getElem? (i := 20) (by rfl)) (eCallB hC (by exact trivial) (by rfl) (by rfl) B.range.1 B.range.2 bf_range (aCons (by intros; rfl) (eInt _) aNil) (by intros; rfl) (by intros; rfl)) (bCons (sAssign 21 (by rfl) (List.mem_of_getElem? (i := 21) (by rfl)) (eCallB hC (by exact trivial) (by rfl) (by rfl) B.len.1 B.len.2 bf_len (aCons (by intros; rfl) (eFn hC (by decide) (by rfl) (by rfl) h__law_write (lCons (by intros; rfl) (eVar 2 (by rfl) (by rfl)) (lCons (by intros; rfl) (eBin o_add (eBin o_mul (eStr [120] (by rfl)) (eIdx (eVar 12 (by rfl) (by rfl)) (eBin o_add (eVar 10 (by rfl) (by rfl)) (eInt _)) (by intros; rfl))) (eBin o_mul (eVar 7 (by rfl) (by rfl)) (eVar 20 (by rfl) (by rfl)))) lNil)) (by intros; rfl)) aNil) (by intros; rfl) (by intros; rfl)) (by rfl))
      (bCons (sIf (tCmp o_lt (eVar 21 (by rfl) (by rfl)) (eInt _) (by rfl)) (bCons (sAppend 19 (by rfl) (by rfl) (eVar 21 (by rfl) (by rfl)) (by rfl) (by rfl) (by intros; rfl))
      bNil) bNil)
      bNil)) (by intros; rfl))
      bNil) bNil)
      bNil) (by intros; rfl))⟩
noncomputable def l_18 (t0 : Nat) : { f : SF // ∀ (C : Cx) (hC : C.Ok) (B : BI C) (h_Int2AP : FnOk C 2 "Int2AP" g_Int2AP) (h__ellipsis_match : FnOk C 2 "_ellipsis_match" g__ellipsis_match) (h__check_parenthesis : FnOk C 4 "_check_parenthesis" g__check_parenthesis) (h__law_write : FnOk C 3 "_law_write" g__law_write) (L fa : Addr) (cd : Value), SS C ⟨envOfC "law" lawScope.1 L fa cd, (["script"] : List Str) ++ (["total", "kind", "shorts", "longs", "short", "short_name", "wide", "wide_name", "text", "place", "cell", "levels", "units", "ahead", "unit", "start", "row", "begins", "sizes", "times", "size", "word", "up", "down", "wanted"] : List Str), (["script"] : List Str) ++ (["total", "kind", "shorts", "longs", "short", "short_name", "wide", "wide_name", "text", "place", "cell", "levels", "units", "ahead", "unit", "start", "row", "begins", "sizes", "times", "size", "word", "up", "down", "wanted"] : List Str), t0⟩ 4 ((recAt PySem.Challenge.pw_wr0032_02 19).body[18]?.getD (.Pass ⟨0,0,0,0⟩)) f } := ⟨_, fun C hC B h_Int2AP h__ellipsis_match h__check_parenthesis h__law_write L fa cd =>
   (sAssign 22 (by rfl) (List.mem_of_getElem? (i := 22) (by rfl)) (eFn hC (by decide) (by rfl) (by rfl) h_Int2AP (lCons (by intros; rfl) (eBin o_mul (eCallB hC (by exact trivial) (by rfl) (by rfl) B.sum.1 B.sum.2 bf_sum (aCons (by intros; rfl) (eComp (fs := []) (is := []) (cl := _) (by (exact ⟨by rfl, by rfl, by decide, by rfl, by ((repeat (first | exact (fun _ h => absurd h List.not_mem_nil) | refine List.forall_mem_cons.mpr ⟨⟨by rfl, fun h => (by have h2 : some NameKind.cell = some NameKind.local := h; cases h2), .inl (by rfl)⟩, ?_⟩))), by decide, by rfl⟩)) (by (first | decide | rfl)) (by rfl) (by intros; rfl) (eVar 19 (by rfl) (by rfl)) (fun _ => ifNil) (fun _ => (eBin o_pow (eInt _) (eVar 0 (by rfl) (by rfl))))) aNil) (by intros; rfl) (by intros; rfl)) (eBin o_sub (eInt _) (eBin o_mul (eBin o_mod (eBin o_fdiv (eVar 1 (by rfl) (by rfl)) (eInt _)) (eInt _)) (eInt _)))) lNil) (by intros; rfl)) (by rfl))⟩
noncomputable def l_19 (t0 : Nat) : { f : SF // ∀ (C : Cx) (hC : C.Ok) (B : BI C) (h_Int2AP : FnOk C 2 "Int2AP" g_Int2AP) (h__ellipsis_match : FnOk C 2 "_ellipsis_match" g__ellipsis_match) (h__check_parenthesis : FnOk C 4 "_check_parenthesis" g__check_parenthesis) (h__law_write : FnOk C 3 "_law_write" g__law_write) (L fa : Addr) (cd : Value), SS C ⟨envOfC "law" lawScope.1 L fa cd, (["script"] : List Str) ++ (["total", "kind", "shorts", "longs", "short", "short_name", "wide", "wide_name", "text", "place", "cell", "levels", "units", "ahead", "unit", "start", "row", "begins", "sizes", "times", "size", "word", "up", "down", "wanted"] : List Str), (["script"] : List Str) ++ (["total", "kind", "shorts", "longs", "short", "short_name", "wide", "wide_name", "text", "place", "cell", "levels", "units", "ahead", "unit", "start", "row", "begins", "sizes", "times", "size", "word", "up", "down", "wanted"] : List Str), t0⟩ 4 ((recAt PySem.Challenge.pw_wr0032_02 19).body[19]?.getD (.Pass ⟨0,0,0,0⟩)) f } := ⟨_, fun C hC B h_Int2AP h__ellipsis_match h__check_parenthesis h__law_write L fa cd =>
   (sIf (tNot (tVal (eIsBytes hC (by rfl) (by rfl) B.isinstance.1 B.isinstance.2 (by rfl) (by rfl) B.bytes.1 B.bytes.2 (eVar 22 (by rfl) (by rfl)) (by intros; rfl)) (by intros; rfl))) (bCons (sRet (eBool false))
      bNil) bNil)⟩
noncomputable def l_20 (t0 : Nat) : { f : SF // ∀ (C : Cx) (hC : C.Ok) (B : BI C) (h_Int2AP : FnOk C 2 "Int2AP" g_Int2AP) (h__ellipsis_match : FnOk C 2 "_ellipsis_match" g__ellipsis_match) (h__check_parenthesis : FnOk C 4 "_check_parenthesis" g__check_parenthesis) (h__law_write : FnOk C 3 "_law_write" g__law_write) (L fa : Addr) (cd : Value), SS C ⟨envOfC "law" lawScope.1 L fa cd, (["script"] : List Str) ++ (["total", "kind", "shorts", "longs", "short", "short_name", "wide", "wide_name", "text", "place", "cell", "levels", "units", "ahead", "unit", "start", "row", "begins", "sizes", "times", "size", "word", "up", "down", "wanted"] : List Str), (["script"] : List Str) ++ (["total", "kind", "shorts", "longs", "short", "short_name", "wide", "wide_name", "text", "place", "cell", "levels", "units", "ahead", "unit", "start", "row", "begins", "sizes", "times", "size", "word", "up", "down", "wanted"] : List Str), t0⟩ 4 ((recAt PySem.Challenge.pw_wr0032_02 19).body[20]?.getD (.Pass ⟨0,0,0,0⟩)) f } := ⟨_, fun C hC B h_Int2AP h__ellipsis_match h__check_parenthesis h__law_write L fa cd =>
   (sIf (tCmp o_ne (eComp (fs := []) (is := []) (cl := _) (by (exact ⟨by rfl, by rfl, by decide, by rfl, by ((repeat (first | exact (fun _ h => absurd h List.not_mem_nil) | refine List.forall_mem_cons.mpr ⟨⟨by rfl, fun h => (by have h2 : some NameKind.cell = some NameKind.local := h; cases h2), .inl (by rfl)⟩, ?_⟩))), by decide, by rfl⟩)) (by (first | decide | rfl)) (by rfl) (by intros; rfl) (eVar 22 (by rfl) (by rfl)) (fun _ => ifNil) (fun _ => (eBin o_sub (eVar 0 (by rfl) (by rfl)) (eInt _)))) (eCompC (fs := ["begins"]) (is := [18]) (cl := _) (by (exact ⟨by rfl, by rfl, by decide, by rfl, by ((repeat (first | exact (fun _ h => absurd h List.not_mem_nil) | refine List.forall_mem_cons.mpr ⟨⟨by rfl, fun h => (by have h2 : some NameKind.cell = some NameKind.local := h; cases h2), .inl (by rfl)⟩, ?_⟩))), by decide, by rfl⟩)) (by (first | decide | rfl)) (by rfl) (by intros; rfl) (eTup (lCons (by intros; rfl) (eInt _) (lCons (by intros; rfl) (eInt _) (lCons (by intros; rfl) (eInt _) (lCons (by intros; rfl) (eInt _) lNil))))) (fun _ _ => ifNil) (fun _ _ => (eCallB hC (by exact trivial) (by rfl) (by rfl) B.sum.1 B.sum.2 bf_sum (aCons (by intros; rfl) (eComp (fs := ["four"]) (is := [0]) (cl := _) (by (exact ⟨by rfl, by rfl, by decide, by rfl, by ((repeat (first | exact (fun _ h => absurd h List.not_mem_nil) | refine List.forall_mem_cons.mpr ⟨⟨by rfl, fun h => (by have h2 : some NameKind.cell = some NameKind.local := h; cases h2), .inl (by rfl)⟩, ?_⟩))), by decide, by rfl⟩)) (by (first | decide | rfl)) (by rfl) (by intros; rfl) (eVar 1 (by rfl) (by rfl)) (fun _ => (ifOne (tCmp o_le (eBin o_fdiv (eVar 0 (by rfl) (by rfl)) (eInt _)) (eVar 1 (by rfl) (by rfl)) (by rfl)))) (fun _ => (eBin o_pow (eInt _) (eBin o_mod (eVar 0 (by rfl) (by rfl)) (eInt _))))) aNil) (by intros; rfl) (by intros; rfl)))) (by rfl)) (bCons (sRet (eBool false))
      bNil) bNil)⟩
noncomputable def l_21 (t0 : Nat) : { f : SF // ∀ (C : Cx) (hC : C.Ok) (B : BI C) (h_Int2AP : FnOk C 2 "Int2AP" g_Int2AP) (h__ellipsis_match : FnOk C 2 "_ellipsis_match" g__ellipsis_match) (h__check_parenthesis : FnOk C 4 "_check_parenthesis" g__check_parenthesis) (h__law_write : FnOk C 3 "_law_write" g__law_write) (L fa : Addr) (cd : Value), SS C ⟨envOfC "law" lawScope.1 L fa cd, (["script"] : List Str) ++ (["total", "kind", "shorts", "longs", "short", "short_name", "wide", "wide_name", "text", "place", "cell", "levels", "units", "ahead", "unit", "start", "row", "begins", "sizes", "times", "size", "word", "up", "down", "wanted"] : List Str), (["script"] : List Str) ++ (["total", "kind", "shorts", "longs", "short", "short_name", "wide", "wide_name", "text", "place", "cell", "levels", "units", "ahead", "unit", "start", "row", "begins", "sizes", "times", "size", "word", "up", "down", "wanted"] : List Str), t0⟩ 4 ((recAt PySem.Challenge.pw_wr0032_02 19).body[21]?.getD (.Pass ⟨0,0,0,0⟩)) f } := ⟨_, fun C hC B h_Int2AP h__ellipsis_match h__check_parenthesis h__law_write L fa cd =>
   (sAssign 17 (by rfl) (List.mem_of_getElem? (i := 17) (by rfl)) (eReplV 5 t0 (by rfl) (lz := [41]) (by rfl) (by decide) (by rfl) (by rfl) (by rfl) (by rfl) (by rfl) (eReplV 7 t0 (by rfl) (lz := [40]) (by rfl) (by decide) (by rfl) (by rfl) (by rfl) (by rfl) (by rfl) (eSlice (eVar 9 (by rfl) (by rfl)) pNone (pSome (eInt _))))) (by rfl))⟩
noncomputable def l_22 (t0 : Nat) : { f : SF // ∀ (C : Cx) (hC : C.Ok) (B : BI C) (h_Int2AP : FnOk C 2 "Int2AP" g_Int2AP) (h__ellipsis_match : FnOk C 2 "_ellipsis_match" g__ellipsis_match) (h__check_parenthesis : FnOk C 4 "_check_parenthesis" g__check_parenthesis) (h__law_write : FnOk C 3 "_law_write" g__law_write) (L fa : Addr) (cd : Value), SS C ⟨envOfC "law" lawScope.1 L fa cd, (["script"] : List Str) ++ (["total", "kind", "shorts", "longs", "short", "short_name", "wide", "wide_name", "text", "place", "cell", "levels", "units", "ahead", "unit", "start", "row", "begins", "sizes", "times", "size", "word", "up", "down", "wanted"] : List Str), (["script"] : List Str) ++ (["total", "kind", "shorts", "longs", "short", "short_name", "wide", "wide_name", "text", "place", "cell", "levels", "units", "ahead", "unit", "start", "row", "begins", "sizes", "times", "size", "word", "up", "down", "wanted"] : List Str), t0⟩ 4 ((recAt PySem.Challenge.pw_wr0032_02 19).body[22]?.getD (.Pass ⟨0,0,0,0⟩)) f } := ⟨_, fun C hC B h_Int2AP h__ellipsis_match h__check_parenthesis h__law_write L fa cd =>
   (sFor 23 (by rfl) (List.mem_of_getElem? (i := 23) (by rfl)) (eCallB hC (by exact trivial) (by rfl) (by rfl) B.range.1 B.range.2 bf_range (aCons (by intros; rfl) (eInt _) (aCons (by intros; rfl) (eInt _) aNil)) (by intros; rfl) (by intros; rfl)) (bCons (sFor 24 (by rfl) (List.mem_of_getElem? (i := 24) (by rfl)) (eCallB hC (by exact trivial) (by rfl) (by rfl) B.range.1 B.range.2 bf_range (aCons (by intros; rfl) (eInt _) (aCons (by intros; rfl) (eInt _) aNil)) (by intros; rfl) (by intros; rfl)) (bCons (sAssign 25 (by rfl) (List.mem_of_getElem? (i := 25) (by rfl)) (eMeth mJoin (by rfl) (by rfl) (by rfl) bf_join (eStr [46, 46, 46] (by rfl)) (aCons (by intros; rfl) (eBin o_add (eBin o_mul (eStr [40] (by rfl)) (eVar 23 (by rfl) (by rfl))) (eBin o_mul (eStr [41] (by rfl)) (eBin o_sub (eInt _) (eVar 24 (by rfl) (by rfl))))) aNil) (by intros; rfl) (by intros; rfl)) (by rfl))
      (bCons (sIf (tCmp o_isNot (eFn hC (by decide) (by rfl) (by rfl) h__ellipsis_match (lCons (by intros; rfl) (eVar 25 (by rfl) (by rfl)) (lCons (by intros; rfl) (eVar 17 (by rfl) (by rfl)) lNil)) (by intros; rfl)) (eCmp o_notIn (eBin o_sub (eBin o_mul (eInt _) (eBin o_sub (eVar 23 (by rfl) (by rfl)) (eInt _))) (eBin o_mul (eInt _) (eVar 24 (by rfl) (by rfl)))) (eVar 19 (by rfl) (by rfl)) (by rfl)) (by rfl)) (bCons (sRet (eBool false))
      bNil) bNil)
      bNil)) (by intros; rfl))
      bNil) (by intros; rfl))⟩
noncomputable def l_23 (t0 : Nat) : { f : SF // ∀ (C : Cx) (hC : C.Ok) (B : BI C) (h_Int2AP : FnOk C 2 "Int2AP" g_Int2AP) (h__ellipsis_match : FnOk C 2 "_ellipsis_match" g__ellipsis_match) (h__check_parenthesis : FnOk C 4 "_check_parenthesis" g__check_parenthesis) (h__law_write : FnOk C 3 "_law_write" g__law_write) (L fa : Addr) (cd : Value), SS C ⟨envOfC "law" lawScope.1 L fa cd, (["script"] : List Str) ++ (["total", "kind", "shorts", "longs", "short", "short_name", "wide", "wide_name", "text", "place", "cell", "levels", "units", "ahead", "unit", "start", "row", "begins", "sizes", "times", "size", "word", "up", "down", "wanted"] : List Str), (["script"] : List Str) ++ (["total", "kind", "shorts", "longs", "short", "short_name", "wide", "wide_name", "text", "place", "cell", "levels", "units", "ahead", "unit", "start", "row", "begins", "sizes", "times", "size", "word", "up", "down", "wanted"] : List Str), t0⟩ 4 ((recAt PySem.Challenge.pw_wr0032_02 19).body[23]?.getD (.Pass ⟨0,0,0,0⟩)) f } := ⟨_, fun C hC B h_Int2AP h__ellipsis_match h__check_parenthesis h__law_write L fa cd =>
   (sRet (eAnd2 (eCmp o_is (eFn hC (by decide) (by rfl) (by rfl) h__ellipsis_match (lCons (by intros; rfl) (eStr [40, 46, 46, 46, 41] (by rfl)) (lCons (by intros; rfl) (eBin o_add (eStr [41] (by rfl)) (eVar 17 (by rfl) (by rfl))) lNil)) (by intros; rfl)) (eBool false) (by rfl)) (eCmp o_is (eFn hC (by decide) (by rfl) (by rfl) h__ellipsis_match (lCons (by intros; rfl) (eStr [40, 46, 46, 46, 41] (by rfl)) (lCons (by intros; rfl) (eBin o_add (eVar 17 (by rfl) (by rfl)) (eStr [40] (by rfl))) lNil)) (by intros; rfl)) (eBool false) (by rfl))))⟩
end Mine

namespace Mine
noncomputable def l_rest (t0 : Nat) : { fb : SF // ∀ (C : Cx) (hC : C.Ok) (B : BI C) (h_Int2AP : FnOk C 2 "Int2AP" g_Int2AP) (h__ellipsis_match : FnOk C 2 "_ellipsis_match" g__ellipsis_match) (h__check_parenthesis : FnOk C 4 "_check_parenthesis" g__check_parenthesis) (h__law_write : FnOk C 3 "_law_write" g__law_write) (L fa : Addr) (cd : Value), SB C ⟨envOfC "law" lawScope.1 L fa cd, (["script"] : List Str) ++ (["total", "kind", "shorts", "longs", "short", "short_name", "wide", "wide_name", "text", "place", "cell", "levels", "units", "ahead", "unit", "start", "row", "begins", "sizes", "times", "size", "word", "up", "down", "wanted"] : List Str), (["script"] : List Str) ++ (["total", "kind", "shorts", "longs", "short", "short_name", "wide", "wide_name", "text", "place", "cell", "levels", "units", "ahead", "unit", "start", "row", "begins", "sizes", "times", "size", "word", "up", "down", "wanted"] : List Str), t0⟩ 4 [(recAt PySem.Challenge.pw_wr0032_02 19).body[5]?.getD (.Pass ⟨0,0,0,0⟩), (recAt PySem.Challenge.pw_wr0032_02 19).body[6]?.getD (.Pass ⟨0,0,0,0⟩), (recAt PySem.Challenge.pw_wr0032_02 19).body[7]?.getD (.Pass ⟨0,0,0,0⟩), (recAt PySem.Challenge.pw_wr0032_02 19).body[8]?.getD (.Pass ⟨0,0,0,0⟩), (recAt PySem.Challenge.pw_wr0032_02 19).body[9]?.getD (.Pass ⟨0,0,0,0⟩), (recAt PySem.Challenge.pw_wr0032_02 19).body[10]?.getD (.Pass ⟨0,0,0,0⟩), (recAt PySem.Challenge.pw_wr0032_02 19).body[11]?.getD (.Pass ⟨0,0,0,0⟩), (recAt PySem.Challenge.pw_wr0032_02 19).body[12]?.getD (.Pass ⟨0,0,0,0⟩), (recAt PySem.Challenge.pw_wr0032_02 19).body[13]?.getD (.Pass ⟨0,0,0,0⟩), (recAt PySem.Challenge.pw_wr0032_02 19).body[14]?.getD (.Pass ⟨0,0,0,0⟩), (recAt PySem.Challenge.pw_wr0032_02 19).body[15]?.getD (.Pass ⟨0,0,0,0⟩), (recAt PySem.Challenge.pw_wr0032_02 19).body[16]?.getD (.Pass ⟨0,0,0,0⟩), (recAt PySem.Challenge.pw_wr0032_02 19).body[17]?.getD (.Pass ⟨0,0,0,0⟩), (recAt PySem.Challenge.pw_wr0032_02 19).body[18]?.getD (.Pass ⟨0,0,0,0⟩), (recAt PySem.Challenge.pw_wr0032_02 19).body[19]?.getD (.Pass ⟨0,0,0,0⟩), (recAt PySem.Challenge.pw_wr0032_02 19).body[20]?.getD (.Pass ⟨0,0,0,0⟩), (recAt PySem.Challenge.pw_wr0032_02 19).body[21]?.getD (.Pass ⟨0,0,0,0⟩), (recAt PySem.Challenge.pw_wr0032_02 19).body[22]?.getD (.Pass ⟨0,0,0,0⟩), (recAt PySem.Challenge.pw_wr0032_02 19).body[23]?.getD (.Pass ⟨0,0,0,0⟩)] fb } := ⟨_, fun C hC B h_Int2AP h__ellipsis_match h__check_parenthesis h__law_write L fa cd =>
  (bCons ((l_5 t0).2 C hC B h_Int2AP h__ellipsis_match h__check_parenthesis h__law_write L fa cd) (bCons ((l_6 t0).2 C hC B h_Int2AP h__ellipsis_match h__check_parenthesis h__law_write L fa cd) (bCons ((l_7 t0).2 C hC B h_Int2AP h__ellipsis_match h__check_parenthesis h__law_write L fa cd) (bCons ((l_8 t0).2 C hC B h_Int2AP h__ellipsis_match h__check_parenthesis h__law_write L fa cd) (bCons ((l_9 t0).2 C hC B h_Int2AP h__ellipsis_match h__check_parenthesis h__law_write L fa cd) (bCons ((l_10 t0).2 C hC B h_Int2AP h__ellipsis_match h__check_parenthesis h__law_write L fa cd) (bCons ((l_11 t0).2 C hC B h_Int2AP h__ellipsis_match h__check_parenthesis h__law_write L fa cd) (bCons ((l_12 t0).2 C hC B h_Int2AP h__ellipsis_match h__check_parenthesis h__law_write L fa cd) (bCons ((l_13 t0).2 C hC B h_Int2AP h__ellipsis_match h__check_parenthesis h__law_write L fa cd) (bCons ((l_14 t0).2 C hC B h_Int2AP h__ellipsis_match h__check_parenthesis h__law_write L fa cd) (bCons ((l_15 t0).2 C hC B h_Int2AP h__ellipsis_match h__check_parenthesis h__law_write L fa cd) (bCons ((l_16 t0).2 C hC B h_Int2AP h__ellipsis_match h__check_parenthesis h__law_write L fa cd) (bCons ((l_17 t0).2 C hC B h_Int2AP h__ellipsis_match h__check_parenthesis h__law_write L fa cd) (bCons ((l_18 t0).2 C hC B h_Int2AP h__ellipsis_match h__check_parenthesis h__law_write L fa cd) (bCons ((l_19 t0).2 C hC B h_Int2AP h__ellipsis_match h__check_parenthesis h__law_write L fa cd) (bCons ((l_20 t0).2 C hC B h_Int2AP h__ellipsis_match h__check_parenthesis h__law_write L fa cd) (bCons ((l_21 t0).2 C hC B h_Int2AP h__ellipsis_match h__check_parenthesis h__law_write L fa cd) (bCons ((l_22 t0).2 C hC B h_Int2AP h__ellipsis_match h__check_parenthesis h__law_write L fa cd) (bCons ((l_23 t0).2 C hC B h_Int2AP h__ellipsis_match h__check_parenthesis h__law_write L fa cd) bNil)))))))))))))))))))⟩
noncomputable def b_law (fx : List S → Option V) (hx : ∀ t0 σ v, PinOk t0 σ → fx (er σ) = some v → ∃ σ', (l_rest t0).1 σ = some (.ret v, σ')) : { f : List S → Option V // ∀ (C : Cx) (hC : C.Ok) (B : BI C) (h_Int2AP : FnOk C 2 "Int2AP" g_Int2AP) (h__ellipsis_match : FnOk C 2 "_ellipsis_match" g__ellipsis_match) (h__check_parenthesis : FnOk C 4 "_check_parenthesis" g__check_parenthesis) (h__law_write : FnOk C 3 "_law_write" g__law_write) (h__law_pairs : FnTk C 2 "_law_pairs" g__law_pairs) (L fa : Addr) (cd : Value), BR C ⟨envOfC "law" lawScope.1 L fa cd, (["script"] : List Str) ++ (["total", "kind", "shorts", "longs", "short", "short_name", "wide", "wide_name", "text", "place", "cell", "levels", "units", "ahead", "unit", "start", "row", "begins", "sizes", "times", "size", "word", "up", "down", "wanted"] : List Str), (["script"] : List Str) ++ (["total", "kind", "shorts", "longs", "short", "short_name", "wide", "wide_name", "text", "place", "cell", "levels", "units", "ahead", "unit", "start", "row", "begins", "sizes", "times", "size", "word", "up", "down", "wanted"] : List Str), 0⟩ 4 [(recAt PySem.Challenge.pw_wr0032_02 19).body[0]?.getD (.Pass ⟨0,0,0,0⟩), (recAt PySem.Challenge.pw_wr0032_02 19).body[1]?.getD (.Pass ⟨0,0,0,0⟩), (recAt PySem.Challenge.pw_wr0032_02 19).body[2]?.getD (.Pass ⟨0,0,0,0⟩), (recAt PySem.Challenge.pw_wr0032_02 19).body[3]?.getD (.Pass ⟨0,0,0,0⟩), (recAt PySem.Challenge.pw_wr0032_02 19).body[4]?.getD (.Pass ⟨0,0,0,0⟩), (recAt PySem.Challenge.pw_wr0032_02 19).body[5]?.getD (.Pass ⟨0,0,0,0⟩), (recAt PySem.Challenge.pw_wr0032_02 19).body[6]?.getD (.Pass ⟨0,0,0,0⟩), (recAt PySem.Challenge.pw_wr0032_02 19).body[7]?.getD (.Pass ⟨0,0,0,0⟩), (recAt PySem.Challenge.pw_wr0032_02 19).body[8]?.getD (.Pass ⟨0,0,0,0⟩), (recAt PySem.Challenge.pw_wr0032_02 19).body[9]?.getD (.Pass ⟨0,0,0,0⟩), (recAt PySem.Challenge.pw_wr0032_02 19).body[10]?.getD (.Pass ⟨0,0,0,0⟩), (recAt PySem.Challenge.pw_wr0032_02 19).body[11]?.getD (.Pass ⟨0,0,0,0⟩), (recAt PySem.Challenge.pw_wr0032_02 19).body[12]?.getD (.Pass ⟨0,0,0,0⟩), (recAt PySem.Challenge.pw_wr0032_02 19).body[13]?.getD (.Pass ⟨0,0,0,0⟩), (recAt PySem.Challenge.pw_wr0032_02 19).body[14]?.getD (.Pass ⟨0,0,0,0⟩), (recAt PySem.Challenge.pw_wr0032_02 19).body[15]?.getD (.Pass ⟨0,0,0,0⟩), (recAt PySem.Challenge.pw_wr0032_02 19).body[16]?.getD (.Pass ⟨0,0,0,0⟩), (recAt PySem.Challenge.pw_wr0032_02 19).body[17]?.getD (.Pass ⟨0,0,0,0⟩), (recAt PySem.Challenge.pw_wr0032_02 19).body[18]?.getD (.Pass ⟨0,0,0,0⟩), (recAt PySem.Challenge.pw_wr0032_02 19).body[19]?.getD (.Pass ⟨0,0,0,0⟩), (recAt PySem.Challenge.pw_wr0032_02 19).body[20]?.getD (.Pass ⟨0,0,0,0⟩), (recAt PySem.Challenge.pw_wr0032_02 19).body[21]?.getD (.Pass ⟨0,0,0,0⟩), (recAt PySem.Challenge.pw_wr0032_02 19).body[22]?.getD (.Pass ⟨0,0,0,0⟩), (recAt PySem.Challenge.pw_wr0032_02 19).body[23]?.getD (.Pass ⟨0,0,0,0⟩)] f } := ⟨_, fun C hC B h_Int2AP h__ellipsis_match h__check_parenthesis h__law_write h__law_pairs L fa cd =>
  (brPlain (sAssign 1 (by rfl) (List.mem_of_getElem? (i := 1) (by rfl)) (eBin o_mod (eBin o_add (eCallB hC (by exact trivial) (by rfl) (by rfl) B.sum.1 B.sum.2 bf_sum (aCons (by intros; rfl) (eVar 0 (by rfl) (by rfl)) aNil) (by intros; rfl) (by intros; rfl)) (eInt _)) (eBin o_pow (eInt _) (eInt _))) (by rfl))
  (brPlain (sAssign 2 (by rfl) (List.mem_of_getElem? (i := 2) (by rfl)) (eBin o_mod (eVar 1 (by rfl) (by rfl)) (eInt _)) (by rfl))
  (brUnpack 3 4 (by rfl) (List.mem_of_getElem? (i := 3) (by rfl)) (by rfl) (List.mem_of_getElem? (i := 4) (by rfl)) (tkFn hC (by decide) (by rfl) (by rfl) h__law_pairs (lCons (by intros; rfl) (eVar 2 (by rfl) (by rfl)) lNil) (by intro σ; simp only [rd_er]) (by intros; rfl)) (by rfl) (by rfl)
  (brUnpack 5 6 (by rfl) (List.mem_of_getElem? (i := 5) (by rfl)) (by rfl) (List.mem_of_getElem? (i := 6) (by rfl)) (tkIdx (tkVar 3 (by rfl) (by rfl)) (eBin o_mod (eBin o_fdiv (eVar 1 (by rfl) (by rfl)) (eInt _)) (eCallB hC (by exact trivial) (by rfl) (by rfl) B.len.1 B.len.2 bf_len (aCons (by intros; rfl) (eVar 3 (by rfl) (by rfl)) aNil) (by intros; rfl) (by intros; rfl))) (by intro σ; simp only [rd_er]) (by intros; rfl)) (by rfl) (by rfl)
  (brUnpack 7 8 (by rfl) (List.mem_of_getElem? (i := 7) (by rfl)) (by rfl) (List.mem_of_getElem? (i := 8) (by rfl)) (tkIdx (tkVar 4 (by rfl) (by rfl)) (eBin o_mod (eBin o_fdiv (eVar 1 (by rfl) (by rfl)) (eInt _)) (eCallB hC (by exact trivial) (by rfl) (by rfl) B.len.1 B.len.2 bf_len (aCons (by intros; rfl) (eVar 4 (by rfl) (by rfl)) aNil) (by intros; rfl) (by intros; rfl))) (by intro σ; simp only [rd_er]) (by intros; rfl)) (by rfl) (by rfl)
  (brRest (fb := fun t0 => (l_rest t0).1) (fun t0 => (l_rest t0).2 C hC B h_Int2AP h__ellipsis_match h__check_parenthesis h__law_write L fa cd) hx))))))⟩
theorem law_body : (recAt PySem.Challenge.pw_wr0032_02 19).body = [(recAt PySem.Challenge.pw_wr0032_02 19).body[0]?.getD (.Pass ⟨0,0,0,0⟩), (recAt PySem.Challenge.pw_wr0032_02 19).body[1]?.getD (.Pass ⟨0,0,0,0⟩), (recAt PySem.Challenge.pw_wr0032_02 19).body[2]?.getD (.Pass ⟨0,0,0,0⟩), (recAt PySem.Challenge.pw_wr0032_02 19).body[3]?.getD (.Pass ⟨0,0,0,0⟩), (recAt PySem.Challenge.pw_wr0032_02 19).body[4]?.getD (.Pass ⟨0,0,0,0⟩), (recAt PySem.Challenge.pw_wr0032_02 19).body[5]?.getD (.Pass ⟨0,0,0,0⟩), (recAt PySem.Challenge.pw_wr0032_02 19).body[6]?.getD (.Pass ⟨0,0,0,0⟩), (recAt PySem.Challenge.pw_wr0032_02 19).body[7]?.getD (.Pass ⟨0,0,0,0⟩), (recAt PySem.Challenge.pw_wr0032_02 19).body[8]?.getD (.Pass ⟨0,0,0,0⟩), (recAt PySem.Challenge.pw_wr0032_02 19).body[9]?.getD (.Pass ⟨0,0,0,0⟩), (recAt PySem.Challenge.pw_wr0032_02 19).body[10]?.getD (.Pass ⟨0,0,0,0⟩), (recAt PySem.Challenge.pw_wr0032_02 19).body[11]?.getD (.Pass ⟨0,0,0,0⟩), (recAt PySem.Challenge.pw_wr0032_02 19).body[12]?.getD (.Pass ⟨0,0,0,0⟩), (recAt PySem.Challenge.pw_wr0032_02 19).body[13]?.getD (.Pass ⟨0,0,0,0⟩), (recAt PySem.Challenge.pw_wr0032_02 19).body[14]?.getD (.Pass ⟨0,0,0,0⟩), (recAt PySem.Challenge.pw_wr0032_02 19).body[15]?.getD (.Pass ⟨0,0,0,0⟩), (recAt PySem.Challenge.pw_wr0032_02 19).body[16]?.getD (.Pass ⟨0,0,0,0⟩), (recAt PySem.Challenge.pw_wr0032_02 19).body[17]?.getD (.Pass ⟨0,0,0,0⟩), (recAt PySem.Challenge.pw_wr0032_02 19).body[18]?.getD (.Pass ⟨0,0,0,0⟩), (recAt PySem.Challenge.pw_wr0032_02 19).body[19]?.getD (.Pass ⟨0,0,0,0⟩), (recAt PySem.Challenge.pw_wr0032_02 19).body[20]?.getD (.Pass ⟨0,0,0,0⟩), (recAt PySem.Challenge.pw_wr0032_02 19).body[21]?.getD (.Pass ⟨0,0,0,0⟩), (recAt PySem.Challenge.pw_wr0032_02 19).body[22]?.getD (.Pass ⟨0,0,0,0⟩), (recAt PySem.Challenge.pw_wr0032_02 19).body[23]?.getD (.Pass ⟨0,0,0,0⟩)] := by rfl
end Mine

namespace Mine
noncomputable def posL (c : Nat) : Nat → List Nat → List Nat
  | _, [] => []
  | k, a :: r => if a = c then k :: posL c (k + 1) r else posL c (k + 1) r
theorem occG_one (x : List Nat) (c lim : Nat) : ∀ (n lo free k : Nat), n + lo = x.length + 1 → free ≤ lo → k + n ≤ lim + 1 →
    occG x [c] x.length lim (List.range' lo n) free k = posL c lo (x.drop lo)
  | 0, lo, free, k, h1, h2, h3 => by
    rw [List.drop_eq_nil_of_le (by omega)]; rfl
  | n + 1, lo, free, k, h1, h2, h3 => by
    rw [List.range'_succ]
    unfold occG
    by_cases hlo : lo < x.length
    · rw [List.drop_eq_getElem_cons hlo]
      have e := List.drop_eq_getElem_cons hlo
      by_cases hc : x[lo] = c
      · rw [if_pos ⟨⟨⟨by omega, h2⟩, by rw [List.length_singleton]; omega⟩, by show (([x[lo]] : List Nat) == [c]) = true; simp [hc]⟩]
        unfold posL
        rw [if_pos hc, occG_one x c lim n (lo + 1) _ _ (by omega) (by simp) (by omega)]
      · rw [if_neg (fun h => by have h2 : (([x[lo]] : List Nat) == [c]) = true := h.2; simp [hc] at h2)]
        unfold posL
        rw [if_neg hc, occG_one x c lim n (lo + 1) _ _ (by omega) (by omega) (by omega)]
    · rw [List.drop_eq_nil_of_le (by omega), if_neg (by rw [List.length_singleton]; omega), occG_one x c lim n (lo + 1) _ _ (by omega) (by omega) (by omega), List.drop_eq_nil_of_le (by omega)]
      rfl
theorem occG_one1 (x : List Nat) (c lim : Nat) (hl : 0 < lim) : ∀ (n lo free : Nat), n + lo = x.length + 1 → free ≤ lo →
    (occG x [c] x.length lim (List.range' lo n) free 0).isEmpty = (posL c lo (x.drop lo)).isEmpty
  | 0, lo, free, h1, h2 => by
    rw [List.drop_eq_nil_of_le (by omega)]; rfl
  | n + 1, lo, free, h1, h2 => by
    rw [List.range'_succ]
    unfold occG
    by_cases hlo : lo < x.length
    · rw [List.drop_eq_getElem_cons hlo]
      by_cases hc : x[lo] = c
      · rw [if_pos ⟨⟨⟨by omega, h2⟩, by rw [List.length_singleton]; omega⟩, by show (([x[lo]] : List Nat) == [c]) = true; simp [hc]⟩]
        unfold posL
        rw [if_pos hc]
        rfl
      · rw [if_neg (fun h => by have h2 : (([x[lo]] : List Nat) == [c]) = true := h.2; simp [hc] at h2)]
        unfold posL
        rw [if_neg hc, occG_one1 x c lim hl n (lo + 1) _ (by omega) (by omega)]
    · rw [List.drop_eq_nil_of_le (by omega), if_neg (by rw [List.length_singleton]; omega), occG_one1 x c lim hl n (lo + 1) _ (by omega) (by omega), List.drop_eq_nil_of_le (by omega)]
      rfl
theorem occL_one (x : List Nat) (c : Nat) : occL x [c] 0 x.length (x.length + 1) = posL c 0 x := by
  unfold occL
  rw [occG_one x c _ _ 0 0 0 (by omega) (by omega) (by omega), List.drop_zero]
theorem occL_one1 (x : List Nat) (c : Nat) : (occL x [c] 0 x.length 1).isEmpty = (posL c 0 x).isEmpty := by
  unfold occL
  rw [occG_one1 x c _ (by omega) _ 0 0 (by omega) (by omega), List.drop_zero]
theorem posL_nil {c : Nat} : ∀ {x : List Nat} {k : Nat}, posL c k x = [] → ∀ z, x.flatMap (fun a => if a = c then z else [a]) = x
  | [], k, h, z => rfl
  | a :: r, k, h, z => by
    unfold posL at h
    by_cases e : a = c
    · rw [if_pos e] at h; cases h
    · rw [if_neg e] at h
      rw [List.flatMap_cons, if_neg e, posL_nil h z]; rfl
theorem posL_count (c : Nat) : ∀ (x : List Nat) (k : Nat), (posL c k x).length = x.countP (· == c)
  | [], k => rfl
  | a :: r, k => by
    unfold posL
    by_cases e : a = c
    · rw [if_pos e, List.length_cons, posL_count c r, List.countP_cons, if_pos (by simp [e])]
    · rw [if_neg e, posL_count c r, List.countP_cons, if_neg (by simp [e]), Nat.add_zero]
theorem countL_one (x : List Nat) (c : Nat) : countL x [c] = ((x.countP (· == c) : Nat) : Int) := by
  unfold countL; rw [occL_one, posL_count]
noncomputable def partsF (x : List Nat) (s : Nat) (cuts : List Nat) : List (List Nat) := ((s :: cuts.map (· + 1)).zip (cuts ++ [x.length])).map fun p => (x.drop p.1).take (p.2 - p.1)
theorem partsF_cons (x : List Nat) (s a : Nat) (cuts : List Nat) : partsF x s (a :: cuts) = (x.drop s).take (a - s) :: partsF x (a + 1) cuts := rfl
theorem joinL_cons (z p : List Nat) (q : List (List Nat)) (h : q ≠ []) : joinL z (p :: q) = p ++ z ++ joinL z q := by
  cases q with
  | nil => exact absurd rfl h
  | cons a b => rfl
theorem partsF_ne (x : List Nat) (s : Nat) (cuts : List Nat) : partsF x s cuts ≠ [] := by
  cases cuts <;> simp [partsF]
theorem join_parts (c : Nat) (z : List Nat) (x : List Nat) : ∀ (r pre : List Nat) (s : Nat), x = pre ++ r → s ≤ pre.length →
    joinL z (partsF x s (posL c pre.length r)) = pre.drop s ++ r.flatMap (fun a => if a = c then z else [a])
  | [], pre, s, h, hs => by
    have : x = pre := by simpa using h
    subst this
    simp [posL, partsF, joinL]
    rw [List.take_of_length_le (by simp)]
  | a :: r, pre, s, h, hs => by
    have h' : x = (pre ++ [a]) ++ r := by simpa using h
    unfold posL
    by_cases e : a = c
    · rw [if_pos e, partsF_cons, joinL_cons _ _ _ (partsF_ne _ _ _)]
      have := join_parts c z x r (pre ++ [a]) (pre.length + 1) h' (by simp)
      rw [List.length_append, List.length_singleton] at this
      rw [this, List.flatMap_cons, if_pos e]
      have e1 : (x.drop s).take (pre.length - s) = pre.drop s := by
        rw [h, List.drop_append_of_le_length hs, List.take_append_of_le_length (by simp), List.take_of_length_le (by simp)]
      have e2 : (pre ++ [a]).drop (pre.length + 1) = [] := List.drop_eq_nil_of_le (by simp)
      rw [e1, e2]; simp
    · rw [if_neg e]
      have := join_parts c z x r (pre ++ [a]) s h' (by simp; omega)
      rw [List.length_append, List.length_singleton] at this
      rw [this, List.flatMap_cons, if_neg e, List.drop_append_of_le_length hs]; simp
theorem replL_one (x : List Nat) (c : Nat) (z : List Nat) : replL x [c] z = x.flatMap (fun a => if a = c then z else [a]) := by
  unfold replL
  rw [occL_one]
  split
  · rename_i h
    simp at h
    exact (posL_nil h z).symm
  · have := join_parts c z x x [] 0 rfl (by simp)
    simpa [partsF, partsL] using this
end Mine

namespace Mine
noncomputable def seqF (f g : SF) : SF := fun σ => match f σ with | some (.next, σ') => g σ' | x => x
noncomputable def repF (c : Nat) (z : List Nat) : SF := fun σ => 
              match
                match some (R.val (V.str [c])), rd 0 σ with
                | some a, some b => (inR a b).bind boolR
                | x, x_1 => none with
              | some true =>
               (match
                match
                  (match rd 0 σ with
                      | some (R.val (V.str x)) =>
                        if x.length ≤ 65536 then some (R.val (V.str (replL x [c] z))) else none
                      | x => none).bind
                    R.fz with
                | some v => some (Fl.next, σ.set 0 (S.val v))
                | none => none with
              | some (Fl.next, σ') => some (Fl.next, σ')
              | x => x)
              | some false => some (Fl.next, σ)
              | none => none
noncomputable def retF : SF := fun σ => 
                match
                  match (rd 0 σ).bind R.fz with
                  | some v => some (Fl.ret v, σ)
                  | none => none with
                | some (Fl.next, σ') => some (Fl.next, σ')
                | x => x
noncomputable def nxt : SF := fun σ => some (Fl.next, σ)
noncomputable def amp : List Nat := [38, 97, 109, 112, 59]
noncomputable def rp (c : Nat) (z : List Nat) (a : Nat) : List Nat := if a = c then z else [a]
theorem repF_eq (c : Nat) (z x : List Nat) (h : x.length ≤ 65536) : repF c z [.val (.str x)] = some (.next, [.val (.str (x.flatMap (rp c z)))]) := by
  unfold repF
  have e1 : rd 0 [S.val (V.str x)] = some (R.val (V.str x)) := rfl
  rw [e1]
  have e2 : (inR (R.val (V.str [c])) (R.val (V.str x))).bind boolR = some (!(posL c 0 x).isEmpty) := by
    rw [← occL_one1]; rfl
  simp only [e2]
  cases hp : posL c 0 x with
  | nil =>
    have e3 := posL_nil hp z
    show some (Fl.next, [S.val (V.str x)]) = _
    unfold rp; rw [e3]
  | cons a b =>
    simp only [List.isEmpty_cons, Bool.not_false]
    rw [if_pos h, replL_one]
    rfl

noncomputable def seqs : List (Nat × List Nat) → SF
  | [] => retF
  | (c, z) :: r => seqF (repF c z) (seqs r)
noncomputable def fold (x : List Nat) : List (Nat × List Nat) → List Nat
  | [] => x
  | (c, z) :: r => fold (x.flatMap (rp c z)) r
noncomputable def okL : List Nat → List (Nat × List Nat) → Prop
  | x, [] => True
  | x, (c, z) :: r => x.length ≤ 65536 ∧ okL (x.flatMap (rp c z)) r
noncomputable def stB (m : Nat) : List Nat → List (Nat × List Nat) → Bool
  | w, [] => true
  | w, (c, z) :: r => decide (w.length ≤ m) && stB m (w.flatMap (rp c z)) r
theorem len_flat {m : Nat} {g : Nat → List Nat} : ∀ (y : List Nat), (∀ a ∈ y, (g a).length ≤ m) → (y.flatMap g).length ≤ m * y.length
  | [], h => by simp
  | a :: r, h => by
    have h1 := h a (List.mem_cons_self)
    have h2 := len_flat r fun b hb => h b (List.mem_cons_of_mem _ hb)
    rw [List.flatMap_cons, List.length_append, List.length_cons, Nat.mul_succ]; omega
theorem okL_of {m : Nat} : ∀ (L : List (Nat × List Nat)) (y : List Nat) (g : Nat → List Nat), (∀ a ∈ y, stB m (g a) L = true) → m * y.length ≤ 65536 → okL (y.flatMap g) L
  | [], y, g, h, hm => trivial
  | (c, z) :: r, y, g, h, hm => by
    refine ⟨Nat.le_trans (len_flat y fun a ha => ?_) hm, ?_⟩
    · have := h a ha
      unfold stB at this
      rw [Bool.and_eq_true, decide_eq_true_eq] at this
      exact this.1
    · rw [List.flatMap_assoc]
      refine okL_of r y _ (fun a ha => ?_) hm
      have := h a ha
      unfold stB at this
      rw [Bool.and_eq_true] at this
      exact this.2
theorem seqs_eq : ∀ (L : List (Nat × List Nat)) (x : List Nat), okL x L → seqs L [.val (.str x)] = some (.ret (.str (fold x L)), [.val (.str (fold x L))])
  | [], x, h => rfl
  | (c, z) :: r, x, h => by
    unfold seqs seqF
    rw [repF_eq c z x h.1]
    exact seqs_eq r _ h.2
noncomputable def escF : List (Nat × List Nat) → Nat → List Nat
  | [], a => [a]
  | (c, z) :: r, a => (rp c z a).flatMap (escF r)
theorem fold_eq : ∀ (L : List (Nat × List Nat)) (x : List Nat), fold x L = x.flatMap (escF L)
  | [], x => by
    have : escF [] = List.singleton := rfl
    unfold fold; rw [this]; exact (List.flatMap_singleton' x).symm
  | (c, z) :: r, x => by
    show fold (x.flatMap (rp c z)) r = x.flatMap (fun a => (rp c z a).flatMap (escF r))
    rw [fold_eq r, List.flatMap_assoc]
noncomputable def e0 : List (Nat × List Nat) := [(38, amp), (60, [38,108,116,59]), (62, [38,103,116,59])]
noncomputable def e1 : List (Nat × List Nat) := [(38, amp), (60, [38,108,116,59]), (62, [38,103,116,59]), (34, [38,113,117,111,116,59]), (13, [38,35,49,51,59]), (10, [38,35,49,48,59]), (9, [38,35,48,57,59])]
noncomputable def e2 : List (Nat × List Nat) := [(38, amp), (62, [38,103,116,59]), (34, [38,113,117,111,116,59])]
noncomputable def e3 : List (Nat × List Nat) := [(38, amp), (60, [38,108,116,59]), (62, [38,103,116,59]), (13, [38,35,120,68,59])]
noncomputable def e4 : List (Nat × List Nat) := [(38, amp), (60, [38,108,116,59]), (34, [38,113,117,111,116,59]), (9, [38,35,120,57,59]), (10, [38,35,120,65,59]), (13, [38,35,120,68,59])]
noncomputable def es : Nat → List (Nat × List Nat)
  | 0 => e0 | 1 => e1 | 2 => e2 | 3 => e3 | _ => e4
theorem sh0 : b__escape_cdata.1 = seqF (seqs e0) nxt := rfl
theorem sh1 : b__escape_attrib.1 = seqF (seqs e1) nxt := rfl
theorem sh2 : b__escape_attrib_html.1 = seqF (seqs e2) nxt := rfl
theorem sh3 : b__escape_cdata_c14n.1 = seqF (seqs e3) nxt := rfl
theorem sh4 : b__escape_attrib_c14n.1 = seqF (seqs e4) nxt := rfl
theorem stB_all : ([e0, e1, e2, e3, e4].all fun L => (List.range 128).all fun a => stB 16 [a] L) = true := by decide +kernel
theorem okx {x : List Nat} {L : List (Nat × List Nat)} (hL : L ∈ [e0, e1, e2, e3, e4]) (h : ∀ a ∈ x, a < 128) (hl : x.length ≤ 4000) : okL x L := by
  have := okL_of (m := 16) L x (fun a => [a]) (fun a ha => by
    have h1 := List.all_eq_true.mp (List.all_eq_true.mp stB_all L hL) a (List.mem_range.mpr (h a ha))
    exact h1) (by omega)
  have e : x.flatMap (fun a => [a]) = x := List.flatMap_singleton' x
  rw [e] at this
  exact this
theorem run_esc {f : SF} {L : List (Nat × List Nat)} (hf : f = seqF (seqs L) nxt) (hL : L ∈ [e0, e1, e2, e3, e4]) {x : List Nat} (h : ∀ a ∈ x, a < 128) (hl : x.length ≤ 4000) :
    f [.val (.str x)] = some (.ret (.str (x.flatMap (escF L))), [.val (.str (x.flatMap (escF L)))]) := by
  rw [hf]; unfold seqF; rw [seqs_eq L x (okx hL h hl), fold_eq]
theorem g0_eq {x : List Nat} (h : ∀ a ∈ x, a < 128) (hl : x.length ≤ 4000) : g__escape_cdata [.str x] = some (.str (x.flatMap (escF e0))) := by
  unfold g__escape_cdata
  refine Eq.trans (if_pos (by rfl)) ?_
  show (match b__escape_cdata.1 [.val (.str x)] with | some (Fl.ret v, _) => some v | some (Fl.next, _) => some V.non | x => none) = _
  rw [run_esc sh0 (by simp) h hl]
theorem g1_eq {x : List Nat} (h : ∀ a ∈ x, a < 128) (hl : x.length ≤ 4000) : g__escape_attrib [.str x] = some (.str (x.flatMap (escF e1))) := by
  unfold g__escape_attrib
  refine Eq.trans (if_pos (by rfl)) ?_
  show (match b__escape_attrib.1 [.val (.str x)] with | some (Fl.ret v, _) => some v | some (Fl.next, _) => some V.non | x => none) = _
  rw [run_esc sh1 (by simp) h hl]
theorem g2_eq {x : List Nat} (h : ∀ a ∈ x, a < 128) (hl : x.length ≤ 4000) : g__escape_attrib_html [.str x] = some (.str (x.flatMap (escF e2))) := by
  unfold g__escape_attrib_html
  refine Eq.trans (if_pos (by rfl)) ?_
  show (match b__escape_attrib_html.1 [.val (.str x)] with | some (Fl.ret v, _) => some v | some (Fl.next, _) => some V.non | x => none) = _
  rw [run_esc sh2 (by simp) h hl]
theorem g3_eq {x : List Nat} (h : ∀ a ∈ x, a < 128) (hl : x.length ≤ 4000) : g__escape_cdata_c14n [.str x] = some (.str (x.flatMap (escF e3))) := by
  unfold g__escape_cdata_c14n
  refine Eq.trans (if_pos (by rfl)) ?_
  show (match b__escape_cdata_c14n.1 [.val (.str x)] with | some (Fl.ret v, _) => some v | some (Fl.next, _) => some V.non | x => none) = _
  rw [run_esc sh3 (by simp) h hl]
theorem g4_eq {x : List Nat} (h : ∀ a ∈ x, a < 128) (hl : x.length ≤ 4000) : g__escape_attrib_c14n [.str x] = some (.str (x.flatMap (escF e4))) := by
  unfold g__escape_attrib_c14n
  refine Eq.trans (if_pos (by rfl)) ?_
  show (match b__escape_attrib_c14n.1 [.val (.str x)] with | some (Fl.ret v, _) => some v | some (Fl.next, _) => some V.non | x => none) = _
  rw [run_esc sh4 (by simp) h hl]
theorem gw0 (x : List Nat) : g__law_write [.int 0, .str x] = (g__escape_cdata [.str x]).bind some := by
  unfold g__law_write b__law_write
  cases h : g__escape_cdata [.str x] <;> simp [rd, padU, eqR, veq, boolR, R.asV, R.fz, h]
theorem gw1 (x : List Nat) : g__law_write [.int 1, .str x] = (g__escape_attrib [.str x]).bind some := by
  unfold g__law_write b__law_write
  cases h : g__escape_attrib [.str x] <;> simp [rd, padU, eqR, veq, boolR, R.asV, R.fz, h]
theorem gw2 (x : List Nat) : g__law_write [.int 2, .str x] = (g__escape_attrib_html [.str x]).bind some := by
  unfold g__law_write b__law_write
  cases h : g__escape_attrib_html [.str x] <;> simp [rd, padU, eqR, veq, boolR, R.asV, R.fz, h]
theorem gw3 (x : List Nat) : g__law_write [.int 3, .str x] = (g__escape_cdata_c14n [.str x]).bind some := by
  unfold g__law_write b__law_write
  cases h : g__escape_cdata_c14n [.str x] <;> simp [rd, padU, eqR, veq, boolR, R.asV, R.fz, h]
theorem gw4 (x : List Nat) : g__law_write [.int 4, .str x] = (g__escape_attrib_c14n [.str x]).bind some := by
  unfold g__law_write b__law_write
  cases h : g__escape_attrib_c14n [.str x] <;> simp [rd, padU, eqR, veq, boolR, R.asV, R.fz, h]
theorem gw (k : Nat) (hk : k < 5) {x : List Nat} (h : ∀ a ∈ x, a < 128) (hl : x.length ≤ 4000) : g__law_write [.int k, .str x] = some (.str (x.flatMap (escF (es k)))) := by
  have : k = 0 ∨ k = 1 ∨ k = 2 ∨ k = 3 ∨ k = 4 := by omega
  rcases this with rfl | rfl | rfl | rfl | rfl
  · exact (gw0 x).trans (by rw [g0_eq h hl]; rfl)
  · exact (gw1 x).trans (by rw [g1_eq h hl]; rfl)
  · exact (gw2 x).trans (by rw [g2_eq h hl]; rfl)
  · exact (gw3 x).trans (by rw [g3_eq h hl]; rfl)
  · exact (gw4 x).trans (by rw [g4_eq h hl]; rfl)
end Mine

namespace Mine
theorem stepL_map {α β : Type} (f : α → β) (l : List α) (lo st : Int) : stepL (l.map f) lo st = (stepL l lo st).map f := by
  unfold stepL
  rw [List.length_map, List.map_filterMap]
  congr 1
  funext i
  simp
theorem ofI_map : ∀ l : List Int, ofI (l.map V.int) = some l
  | [] => rfl
  | i :: r => by simp [ofI, ofI_map r]
theorem ofS_map : ∀ l : List (List Nat), ofS (l.map V.str) = some l
  | [] => rfl
  | i :: r => by simp [ofS, ofS_map r]
theorem joinL_nil : ∀ l : List (List Nat), joinL [] l = l.flatten
  | [] => rfl
  | [a] => by simp [joinL]
  | a :: b :: r => by
    have := joinL_nil (b :: r)
    simp only [joinL, this, List.flatten_cons, List.append_nil]
end Mine

namespace Mine
structure Pr where
  (sc : List Int) (tot : Int) (k : Nat) (x3 x4 : S) (c d : Nat) (sn wn : List Nat) (t5 t7 : Tok) (u6 u8 : Value)
noncomputable def Pr.st (P : Pr) (l : List S) : List S := .val (.lst (P.sc.map .int)) :: .val (.int P.tot) :: .val (.int P.k) :: P.x3 :: P.x4 :: .pin (.str [P.c]) (.str ⟨#[P.c]⟩ P.t5) :: .pin (.str P.sn) P.u6 :: .pin (.str [P.d]) (.str ⟨#[P.d]⟩ P.t7) :: .pin (.str P.wn) P.u8 :: l
noncomputable def sg (c d : Nat) (b : Bool) : Nat := if b then d else c
noncomputable def Pr.tx (P : Pr) (bs : List Bool) : List Nat := bs.map (sg P.c P.d)
/-- what stands of the signs so far -/
noncomputable def Inv (bs : List Bool) (p : Nat) : Prop := bs.length = p ∧ bs.count true ≤ 4 ∧ 4 ≤ bs.count true + (9 - p)
theorem count_tx (P : Pr) (h : P.c ≠ P.d) : ∀ bs : List Bool, (P.tx bs).countP (· == P.d) = bs.count true
  | [] => rfl
  | b :: r => by
    have := count_tx P h r
    unfold Pr.tx at this ⊢
    rw [List.map_cons, List.countP_cons, this, List.count_cons]
    cases b <;> simp [sg, h]
theorem tx_t (P : Pr) (bs : List Bool) : P.tx (bs ++ [true]) = P.tx bs ++ [P.d] := by simp [Pr.tx, sg]
theorem tx_f (P : Pr) (bs : List Bool) : P.tx (bs ++ [false]) = P.tx bs ++ [P.c] := by simp [Pr.tx, sg]
theorem compL_map {α : Type} {ft : List S → Option Bool} {fe : List S → Option R} {σf : List S} (g f : α → V) : ∀ l : List α, (∀ a ∈ l, ft (.val (g a) :: σf) = some true ∧ (fe (.val (g a) :: σf)).bind R.fz = some (f a)) → compL ft fe σf (l.map g) = some (l.map f)
  | [], h => rfl
  | a :: r, h => by
    obtain ⟨h1, h2⟩ := h a List.mem_cons_self
    rw [List.map_cons]
    unfold compL
    rw [h1]
    dsimp only
    rw [h2]
    dsimp only
    rw [compL_map g f r fun b hb => h b (List.mem_cons_of_mem _ hb)]
    rfl
theorem idx6 : ∀ p < 9, ∃ x : Int, idxR (.val (.tup [.int 4, .int 1, .int 5, .int 2, .int 0, .int 3, .int 1, .int 0, .int 0])) (.val (.int (p : Nat))) = some (.val (.int x)) := by
  intro p hp
  match p, hp with
  | 0, _ => exact ⟨_, rfl⟩
  | 1, _ => exact ⟨_, rfl⟩
  | 2, _ => exact ⟨_, rfl⟩
  | 3, _ => exact ⟨_, rfl⟩
  | 4, _ => exact ⟨_, rfl⟩
  | 5, _ => exact ⟨_, rfl⟩
  | 6, _ => exact ⟨_, rfl⟩
  | 7, _ => exact ⟨_, rfl⟩
  | 8, _ => exact ⟨_, rfl⟩
theorem l6_it (P : Pr) (t0 : Nat) (hcd : P.c ≠ P.d) (hsc : P.sc.length ≤ 63) : ∃ fb : SF, (l_6 t0).1 = (fun σ => forL fb 10 (rngL 0 9) σ) ∧
    ∀ (bs : List Bool) (p : Nat) (y10 y11 : S) (r : List S), p < 9 → Inv bs p → ∃ (b : Bool) (w : Int), Inv (bs ++ [b]) (p + 1) ∧
      fb ((P.st (.val (.str (P.tx bs)) :: y10 :: y11 :: r)).set 10 (.val (.int p))) = some (.next, P.st (.val (.str (P.tx (bs ++ [b]))) :: .val (.int p) :: .val (.int w) :: r)) := by
  refine ⟨?fb, ?h1, ?h2⟩
  case h1 =>
    funext σ
    unfold l_6
    have e : (some (R.val (V.rng 0 9))).bind R.iter = some (rngL 0 9) := rfl
    simp only [rangeR]
    rw [e]
  intro bs p y10 y11 r hp hi
  obtain ⟨x, hx⟩ := idx6 p hp
  have hsum : sumR [R.new (stepL (P.sc.map .int) p 9)] = some (.val (.int (stepL P.sc p 9).sum)) := by simp [sumR, R.items, stepL_map, ofI_map]
  have hcnt : countR [.val (.str (P.tx bs)), .val (.str [P.d])] = some (.val (.int (bs.count true : Nat))) := by
    show some (R.val (V.int (countL (P.tx bs) [P.d]))) = _
    rw [countL_one, count_tx P hcd]
  have hlen : (P.tx bs).length = p := by simpa [Pr.tx] using hi.1
  have h9 : (9 : Int) - p ≠ 0 := by omega
  have hm1 : 0 ≤ (x + (stepL P.sc p 9).sum).fmod (9 - p) := Int.fmod_nonneg_of_pos _ (by omega)
  have hm2 : (x + (stepL P.sc p 9).sum).fmod (9 - p) < 9 - p := Int.fmod_lt_of_pos _ (by omega)
  obtain ⟨i1, i2', i3⟩ := hi
  have hlim : p ≤ 1048575 := by omega
  unfold Pr.st
  by_cases hb : (x + (stepL P.sc p 9).sum).fmod (9 - p) < 4 - ((bs.count true : Nat) : Int)
  · refine ⟨true, x + (stepL P.sc p 9).sum, ⟨by simp [i1], by simp; omega, by simp; omega⟩, ?_⟩
    simp [rd, hsum, hcnt, R.items, R.fz, hx, addR, subR, i2, modR, h9, ltR, c2, boolR, tyR, iaddR, hb, hlen, hlim, Nat.le_trans hsc, tx_t, tx_f]
  · refine ⟨false, x + (stepL P.sc p 9).sum, ⟨by simp [i1], by simp; omega, by simp; omega⟩, ?_⟩
    simp [rd, hsum, hcnt, R.items, R.fz, hx, addR, subR, i2, modR, h9, ltR, c2, boolR, tyR, iaddR, hb, hlen, hlim, Nat.le_trans hsc, tx_t, tx_f]

theorem l6_loop (P : Pr) (fb : SF) (h : ∀ (bs : List Bool) (p : Nat) (y10 y11 : S) (r : List S), p < 9 → Inv bs p → ∃ (b : Bool) (w : Int), Inv (bs ++ [b]) (p + 1) ∧
      fb ((P.st (.val (.str (P.tx bs)) :: y10 :: y11 :: r)).set 10 (.val (.int p))) = some (.next, P.st (.val (.str (P.tx (bs ++ [b]))) :: .val (.int p) :: .val (.int w) :: r))) :
    ∀ (n p : Nat) (bs : List Bool) (y10 y11 : S) (r : List S), p + n = 9 → Inv bs p → ∃ (bs' : List Bool) (z10 z11 : S), Inv bs' 9 ∧ forL fb 10 (rngL p n) (P.st (.val (.str (P.tx bs)) :: y10 :: y11 :: r)) = some (.next, P.st (.val (.str (P.tx bs')) :: z10 :: z11 :: r))
  | 0, p, bs, y10, y11, r, hp, hi => by
    obtain rfl : p = 9 := by omega
    exact ⟨bs, y10, y11, hi, rfl⟩
  | n + 1, p, bs, y10, y11, r, hp, hi => by
    obtain ⟨b, w, hi', e⟩ := h bs p y10 y11 r (by omega) hi
    obtain ⟨bs', z10, z11, i2, e2⟩ := l6_loop P fb h n (p + 1) (bs ++ [b]) _ _ r (by omega) hi'
    refine ⟨bs', z10, z11, i2, ?_⟩
    show forL fb 10 (.int p :: rngL (p + 1) n) _ = _
    unfold forL
    rw [e]
    exact e2
theorem l6_eq (P : Pr) (t0 : Nat) (hcd : P.c ≠ P.d) (hsc : P.sc.length ≤ 63) (y10 y11 : S) (r : List S) :
    ∃ (bs : List Bool) (z10 z11 : S), Inv bs 9 ∧ (l_6 t0).1 (P.st (.val (.str []) :: y10 :: y11 :: r)) = some (.next, P.st (.val (.str (P.tx bs)) :: z10 :: z11 :: r)) := by
  obtain ⟨fb, e, h⟩ := l6_it P t0 hcd hsc
  rw [e]
  exact l6_loop P fb h 9 0 [] y10 y11 r (by omega) ⟨rfl, by simp, by simp⟩
theorem l5_eq (P : Pr) (t0 : Nat) (y9 : S) (r : List S) : (l_5 t0).1 (P.st (y9 :: r)) = some (.next, P.st (.val (.str []) :: r)) := rfl
/-- what is known of the signs and their names -/
structure Pr.Ok (P : Pr) (t0 : Nat) : Prop where
  sc : P.sc.length ≤ 63
  cd : P.c ≠ P.d
  c1 : P.c < 128
  d1 : P.d < 128
  k : P.k < 5
  esc : escF (es P.k) P.c = P.sn
  esd : escF (es P.k) P.d = P.wn
  esx : escF (es P.k) 120 = [120]
  sn : P.sn.length = 4
  wn : P.wn.length = 5
  p5 : 0 < P.t5 ∧ P.t5 < t0
  p7 : 0 < P.t7 ∧ P.t7 < t0
  c40 : P.c ≠ 40
  c41 : P.c ≠ 41
  d40 : P.d ≠ 40
theorem tx_lt {P : Pr} {t0 : Nat} (h : P.Ok t0) (bs : List Bool) : ∀ a ∈ P.tx bs, a < 128 := by
  intro a ha
  unfold Pr.tx at ha
  obtain ⟨b, _, rfl⟩ := List.mem_map.mp ha
  cases b
  · exact h.c1
  · exact h.d1
noncomputable def Pr.wr (P : Pr) (bs : List Bool) : List Nat := bs.flatMap fun b => if b then P.wn else P.sn
theorem gw_tx {P : Pr} {t0 : Nat} (h : P.Ok t0) (bs : List Bool) (hl : bs.length ≤ 9) : g__law_write [.int P.k, .str (P.tx bs)] = some (.str (P.wr bs)) := by
  rw [gw P.k h.k (tx_lt h bs) (by simp [Pr.tx]; omega)]
  unfold Pr.tx Pr.wr
  rw [List.flatMap_map]
  congr 3
  funext b
  cases b
  · exact h.esc
  · exact h.esd
theorem len_wr {P : Pr} {t0 : Nat} (h : P.Ok t0) : ∀ bs : List Bool, ((P.wr bs).length : Int) = 5 * (bs.count true : Nat) + 4 * (bs.count false : Nat)
  | [] => rfl
  | b :: r => by
    have := len_wr h r
    unfold Pr.wr at this ⊢
    rw [List.flatMap_cons, List.length_append, Int.natCast_add, this, List.count_cons, List.count_cons]
    cases b
    · simp [h.sn]; omega
    · simp [h.wn]; omega
theorem l7_eq {P : Pr} {t0 : Nat} (h : P.Ok t0) (bs : List Bool) (hl : bs.length = 9) (y10 y11 : S) (r : List S) : (l_7 t0).1 (P.st (.val (.str (P.tx bs)) :: r)) = some (.next, P.st (.val (.str (P.tx bs)) :: r)) := by
  unfold l_7 Pr.st
  have hw := gw_tx h bs (by omega)
  have e1 : (R.val (V.str (P.tx bs))).iterB = some (bs.map fun b => .str [sg P.c P.d b]) := by
    have : (P.tx bs).all (· < 128) = true := List.all_eq_true.mpr fun a ha => decide_eq_true (tx_lt h bs a ha)
    show (if (P.tx bs).all (· < 128) then some ((P.tx bs).map chV) else none) = _
    rw [if_pos this]
    unfold Pr.tx
    rw [List.map_map]
    rfl
  have hcd := h.cd
  have hcb : (P.c == P.d) = false := by simpa using hcd
  have hlw : (P.wr bs).length ≤ 1048576 := by
    have := len_wr h bs
    have a := List.count_le_length (l := bs) (a := true)
    have b := List.count_le_length (l := bs) (a := false)
    omega
  simp only [rd, R.fz, hw, compF, e1, List.getElem?_cons_succ, List.getElem?_cons_zero, Option.bind_some, Option.map_some, List.map_cons, List.map_nil, Option.getD_some]
  rw [compL_map (fun b => .str [sg P.c P.d b]) (fun b => .str (if b then P.wn else P.sn)) bs (by
    intro b _
    refine ⟨rfl, ?_⟩
    cases b <;> simp [sg, eqR, veq, R.asV, boolR, R.fz, hcb])]
  have e2 : ((bs.map fun b => V.str (if b then P.wn else P.sn))).length ≤ 1048576 := by rw [List.length_map]; omega
  have e3 : joinR [.val (.str []), .new (bs.map fun b => V.str (if b then P.wn else P.sn))] = some (.val (.str (P.wr bs))) := by
    have e4 : (bs.map fun b => V.str (if b then P.wn else P.sn)) = (bs.map fun b => (if b then P.wn else P.sn)).map V.str := by rw [List.map_map]; rfl
    have e5 : joinL [] (bs.map fun b => (if b then P.wn else P.sn)) = P.wr bs := by rw [joinL_nil, ← List.flatMap_def]; rfl
    have e6 : ((bs.map fun b => (if b then P.wn else P.sn)).map (·.length)).sum ≤ 1048576 := by
      rw [← List.length_flatten, ← List.flatMap_def]
      exact hlw
    rw [e4]
    simp only [joinR, R.items, Option.bind_some, ofS_map, List.length_nil, Nat.mul_zero, Nat.add_zero, e6, if_true, e5]
  have e7 : bs.length ≤ 1048576 := by omega
  simp [e7, e3, tyR, neR, veq, R.asV, boolR]
end Mine

namespace Mine
theorem slL_to {α : Type} (l : List α) (p : Nat) (h : p ≤ l.length) : slL l none (some (p : Int)) = l.take p := by
  unfold slL
  have : clipAt l.length (p : Int) = p := by unfold clipAt; rw [if_neg (by omega)]; omega
  simp only [Option.elim, this, List.drop_zero, Nat.sub_zero]
theorem slL_from {α : Type} (l : List α) (p : Nat) (h : p ≤ l.length) : slL l (some (p : Int)) none = l.drop p := by
  unfold slL
  have : clipAt l.length (p : Int) = p := by unfold clipAt; rw [if_neg (by omega)]; omega
  simp only [Option.elim, this]
  rw [List.take_of_length_le (by simp)]
theorem seqIndex_nat (p n : Nat) (h : p < n) : seqIndex? (p : Int) n = some p := by
  unfold seqIndex?
  have : ¬ ((p : Int) < 0) := by omega
  simp [this, h]
theorem idx_str (l : List Nat) (p : Nat) (h : p < l.length) (hl : l.length ≤ 1048576) : idxR (.val (.str l)) (.val (.int (p : Nat))) = some (.val (.str [l[p]])) := by
  show (if l.length ≤ 1048576 then (seqIndex? (p : Int) l.length).bind fun k => l[k]?.map fun c => R.val (.str [c]) else none) = _
  rw [if_pos hl, seqIndex_nat p _ h]
  simp [h]
theorem idx_items {a : R} {l : List V} (ha : a.items = some l) (p : Nat) (h : p < l.length) (hp : p ≤ 1000000) (hn : ∀ x, a ≠ .val x) : idxR a (.val (.int (p : Nat))) = some (.val l[p]) := by
  have : idxR a (.val (.int (p : Nat))) = (match a.items with
    | some l => if -1000000 ≤ (p : Int) ∧ (p : Int).toNat ≤ 1000000 then (seqIndex? (p : Int) l.length).bind fun k => l[k]?.map fun v => .val v else none
    | none => none) := by
    cases a with
    | val x => exact absurd rfl (hn x)
    | new l => rfl
    | own l => rfl
  rw [this, ha]
  dsimp only
  rw [if_pos (by omega), seqIndex_nat p _ h]
  simp [h]
theorem idx_lst (l : List V) (p : Nat) (h : p < l.length) (hp : p ≤ 1000000) : idxR (.val (.lst l)) (.val (.int (p : Nat))) = some (.val l[p]) := by
  show (if -1000000 ≤ (p : Int) ∧ (p : Int).toNat ≤ 1000000 then (seqIndex? (p : Int) l.length).bind fun k => l[k]?.map fun v => R.val v else none) = _
  rw [if_pos (by omega), seqIndex_nat p _ h]
  simp [h]
noncomputable def decoL : List (List Nat) := [[], [92, 41], [], [34, 41, 34], [], [92, 40], [], [], [92, 92]]
noncomputable def decoA (q : Nat) : List Nat := decoL[q]?.getD []
noncomputable def unitF (b : Bool) (q : Nat) : List Nat := (if b then [40] else [41]) ++ decoA (q % 9)
theorem idx10 : ∀ q < 9, idxR (.new [.str [], .str [92, 41], .str [], .str [34, 41, 34], .str [], .str [92, 40], .str [], .str [], .str [92, 92]]) (.val (.int (q : Nat))) = some (.val (.str (decoA q))) := by
  intro p hp
  match p, hp with
  | 0, _ => rfl
  | 1, _ => rfl
  | 2, _ => rfl
  | 3, _ => rfl
  | 4, _ => rfl
  | 5, _ => rfl
  | 6, _ => rfl
  | 7, _ => rfl
  | 8, _ => rfl
theorem decoA_len : ∀ q < 9, (decoA q).length ≤ 3 := by decide
noncomputable def lv (a : List Bool) : Int := 5 * (a.count true : Nat) - 4 * (a.count false : Nat)
noncomputable def lvV (bs : List Bool) (n : Nat) : List V := (List.range n).map fun i => .int (lv (bs.take i))
noncomputable def unV (bs : List Bool) (ph n : Nat) : List V := (List.range n).map fun i => .str (unitF (bs[i]?.getD false) (i + ph))
theorem lvV_succ (bs : List Bool) (n : Nat) : lvV bs (n + 1) = lvV bs n ++ [.int (lv (bs.take n))] := by simp [lvV, List.range_succ]
theorem unV_succ (bs : List Bool) (ph n : Nat) : unV bs ph (n + 1) = unV bs ph n ++ [.str (unitF (bs[n]?.getD false) (n + ph))] := by simp [unV, List.range_succ]
theorem repl_c {P : Pr} (h : P.c ≠ P.d) : ∀ a : List Bool, replL (P.tx a) [P.c] [] = P.tx (a.filter fun b => b) := by
  intro a
  rw [replL_one]
  unfold Pr.tx
  induction a with
  | nil => rfl
  | cons b r ih =>
    rw [List.map_cons, List.flatMap_cons, ih]
    have h2 := Ne.symm h
    cases b <;> simp [sg, h, h2]
theorem repl_d {P : Pr} (h : P.c ≠ P.d) : ∀ a : List Bool, replL (P.tx a) [P.d] [] = P.tx (a.filter fun b => !b) := by
  intro a
  rw [replL_one]
  unfold Pr.tx
  induction a with
  | nil => rfl
  | cons b r ih =>
    rw [List.map_cons, List.flatMap_cons, ih]
    have h2 := Ne.symm h
    cases b <;> simp [sg, h, h2]
theorem len_c {P : Pr} {t0 : Nat} (h : P.Ok t0) (a : List Bool) : ((P.wr (a.filter fun b => b)).length : Int) = 5 * (a.count true : Nat) := by
  rw [len_wr h, List.count_filter (by rfl)]
  have : (a.filter fun b => b).count false = 0 := by
    rw [List.count_eq_zero]
    intro hm
    simp at hm
  rw [this]; omega
theorem len_d {P : Pr} {t0 : Nat} (h : P.Ok t0) (a : List Bool) : ((P.wr (a.filter fun b => !b)).length : Int) = 4 * (a.count false : Nat) := by
  have e : (a.filter fun b => !b).count false = a.count false := List.count_filter (by rfl)
  rw [len_wr h, e]
  have : (a.filter fun b => !b).count true = 0 := by
    rw [List.count_eq_zero]
    intro hm
    simp at hm
  rw [this]; omega
theorem take_tx (P : Pr) (bs : List Bool) (p : Nat) (h : p ≤ bs.length) : slL (P.tx bs) none (some (p : Int)) = P.tx (bs.take p) := by
  rw [slL_to _ _ (by simpa [Pr.tx] using h)]
  simp [Pr.tx, List.map_take]
noncomputable def Pr.ph (P : Pr) : Nat := ((P.tot.fdiv 40).fmod 9).toNat
theorem ph_eq (P : Pr) (p : Nat) : ((p : Int) + P.tot.fdiv 40).fmod 9 = (((p + P.ph) % 9 : Nat) : Int) := by
  unfold Pr.ph
  generalize P.tot.fdiv 40 = x
  rw [Int.fmod_eq_emod_of_nonneg _ (by omega), Int.fmod_eq_emod_of_nonneg _ (by omega)]
  omega
theorem l10_it {P : Pr} {t0 : Nat} (h : P.Ok t0) (bs : List Bool) (hl : bs.length = 9) : ∃ fb : SF, (l_10 t0).1 = (fun σ => forL fb 10 (rngL 0 9) σ) ∧
    ∀ (p : Nat) (y10 y11 y14 y15 : S) (r : List S), p < 9 → ∃ (z14 z15 : S), 
      fb ((P.st (.val (.str (P.tx bs)) :: y10 :: y11 :: .own (lvV bs p) :: .own (unV bs P.ph p) :: y14 :: y15 :: r)).set 10 (.val (.int p))) = some (.next, P.st (.val (.str (P.tx bs)) :: .val (.int p) :: y11 :: .own (lvV bs (p + 1)) :: .own (unV bs P.ph (p + 1)) :: z14 :: z15 :: r)) := by
  refine ⟨?fb, ?h1, ?h2⟩
  case h1 =>
    funext σ
    unfold l_10
    have e : (some (R.val (V.rng 0 9))).bind R.iter = some (rngL 0 9) := rfl
    simp only [rangeR]
    rw [e]
  intro p y10 y11 y14 y15 r hp
  refine ⟨.val (.str (P.tx (bs.take p))), .val (.str (if bs[p]?.getD false then [40] else [41])), ?_⟩
  have hcd := h.cd
  have hcb : (P.c == P.d) = false := by simpa using hcd
  have htl : (P.tx bs).length = 9 := by simpa [Pr.tx] using hl
  have htl2 : (P.tx bs).length ≤ 1048576 := by omega
  have e1 := take_tx P bs p (by omega)
  have e2 := repl_c hcd (bs.take p)
  have e3 := repl_d hcd (bs.take p)
  have c1 := List.length_filter_le (fun b => b) (bs.take p)
  have c2 := List.length_filter_le (fun b => !b) (bs.take p)
  have htk : (bs.take p).length = p := by simp; omega
  have w1 := gw_tx h ((bs.take p).filter fun b => b) (by omega)
  have w2 := gw_tx h ((bs.take p).filter fun b => !b) (by omega)
  have n1 := len_c h (bs.take p)
  have n2 := len_d h (bs.take p)
  have a1 := List.count_le_length (l := bs.take p) (a := true)
  have a2 := List.count_le_length (l := bs.take p) (a := false)
  have m1 : (P.wr ((bs.take p).filter fun b => b)).length ≤ 1048576 := by omega
  have m2 : (P.wr ((bs.take p).filter fun b => !b)).length ≤ 1048576 := by omega
  have ht : (P.tx (bs.take p)).length ≤ 65536 := by simp [Pr.tx]; omega
  have p5 := h.p5
  have p7 := h.p7
  have hx : idxR (.val (.str (P.tx bs))) (.val (.int (p : Nat))) = some (.val (.str [sg P.c P.d (bs[p]?.getD false)])) := by
    rw [idx_str _ p (by omega) htl2]
    simp [Pr.tx, show p < bs.length by omega]
  have hq : (p + P.ph) % 9 < 9 := Nat.mod_lt _ (by omega)
  have hu := idx10 _ hq
  have hph := ph_eq P p
  have hul := decoA_len _ hq
  have f1 : (lvV bs p).length ≤ 1048576 := by simp [lvV]; omega
  have f2 : (unV bs P.ph p).length ≤ 1048576 := by simp [unV]; omega
  have g1 : 1 + (decoA ((p + P.ph) % 9)).length ≤ 1048576 := by omega
  rw [lvV_succ, unV_succ]
  unfold Pr.st
  unfold lv unitF
  generalize hqq : (p + P.ph) % 9 = q at *
  cases hb : bs[p]?.getD false with
  | false =>
    rw [hb] at hx
    simp [rd, slR, e1, e2, e3, htl2, p5, p7, ht, w1, w2, R.fz, lenR, m1, m2, n1, n2, subR, i2, getOwn, f1, f2, hx, sg, eqR, veq, R.asV, hcb, boolR, addR, fdivR, modR, hph, hu, g1]
  | true =>
    rw [hb] at hx
    simp [rd, slR, e1, e2, e3, htl2, p5, p7, ht, w1, w2, R.fz, lenR, m1, m2, n1, n2, subR, i2, getOwn, f1, f2, hx, sg, eqR, veq, R.asV, hcb, boolR, addR, fdivR, modR, hph, hu, g1]
theorem l10_loop (P : Pr) (bs : List Bool) (fb : SF) (h : ∀ (p : Nat) (y10 y11 y14 y15 : S) (r : List S), p < 9 → ∃ (z14 z15 : S), 
      fb ((P.st (.val (.str (P.tx bs)) :: y10 :: y11 :: .own (lvV bs p) :: .own (unV bs P.ph p) :: y14 :: y15 :: r)).set 10 (.val (.int p))) = some (.next, P.st (.val (.str (P.tx bs)) :: .val (.int p) :: y11 :: .own (lvV bs (p + 1)) :: .own (unV bs P.ph (p + 1)) :: z14 :: z15 :: r))) :
    ∀ (n p : Nat) (y10 y11 y14 y15 : S) (r : List S), p + n = 9 → ∃ (z10 z14 z15 : S), forL fb 10 (rngL p n) (P.st (.val (.str (P.tx bs)) :: y10 :: y11 :: .own (lvV bs p) :: .own (unV bs P.ph p) :: y14 :: y15 :: r)) = some (.next, P.st (.val (.str (P.tx bs)) :: z10 :: y11 :: .own (lvV bs 9) :: .own (unV bs P.ph 9) :: z14 :: z15 :: r))
  | 0, p, y10, y11, y14, y15, r, hp => by
    obtain rfl : p = 9 := by omega
    exact ⟨y10, y14, y15, rfl⟩
  | n + 1, p, y10, y11, y14, y15, r, hp => by
    obtain ⟨z14, z15, e⟩ := h p y10 y11 y14 y15 r (by omega)
    obtain ⟨w10, w14, w15, e2⟩ := l10_loop P bs fb h n (p + 1) (.val (.int p)) y11 z14 z15 r (by omega)
    refine ⟨w10, w14, w15, ?_⟩
    show forL fb 10 (.int p :: rngL (p + 1) n) _ = _
    unfold forL
    rw [e]
    exact e2
theorem l10_eq {P : Pr} {t0 : Nat} (h : P.Ok t0) (bs : List Bool) (hl : bs.length = 9) (y10 y11 y14 y15 : S) (r : List S) :
    ∃ (z10 z14 z15 : S), (l_10 t0).1 (P.st (.val (.str (P.tx bs)) :: y10 :: y11 :: .own [] :: .own [] :: y14 :: y15 :: r)) = some (.next, P.st (.val (.str (P.tx bs)) :: z10 :: y11 :: .own (lvV bs 9) :: .own (unV bs P.ph 9) :: z14 :: z15 :: r)) := by
  obtain ⟨fb, e, h⟩ := l10_it h bs hl
  rw [e]
  exact l10_loop P bs fb h 9 0 y10 y11 y14 y15 r (by omega)
theorem l8_eq (P : Pr) (t0 : Nat) (y9 y10 y11 y12 : S) (r : List S) : (l_8 t0).1 (P.st (y9 :: y10 :: y11 :: y12 :: r)) = some (.next, P.st (y9 :: y10 :: y11 :: .own [] :: r)) := rfl
theorem l9_eq (P : Pr) (t0 : Nat) (y9 y10 y11 y12 y13 : S) (r : List S) : (l_9 t0).1 (P.st (y9 :: y10 :: y11 :: y12 :: y13 :: r)) = some (.next, P.st (y9 :: y10 :: y11 :: y12 :: .own [] :: r)) := rfl
end Mine

namespace Mine
noncomputable def words : Nat → Nat → List (List Bool)
  | 0, _ => [[]]
  | n + 1, w => (if w > 0 then (words n (w - 1)).map (true :: ·) else []) ++ (if w < n + 1 then (words n w).map (false :: ·) else [])
theorem mem_words : ∀ (n w : Nat) (bs : List Bool), bs.length = n → bs.count true = w → bs ∈ words n w
  | 0, w, bs, hl, hc => by
    obtain rfl := List.length_eq_zero_iff.mp hl
    exact List.mem_cons_self
  | n + 1, w, [], hl, hc => by simp at hl
  | n + 1, w, b :: r, hl, hc => by
    have hr : r.length = n := by simpa using hl
    have hle := List.count_le_length (l := r) (a := true)
    unfold words
    rw [List.mem_append]
    cases b with
    | true =>
      rw [List.count_cons] at hc
      simp at hc
      refine .inl ?_
      rw [if_pos (by omega)]
      exact List.mem_map_of_mem (mem_words n (w - 1) r hr (by omega))
    | false =>
      rw [List.count_cons] at hc
      simp at hc
      refine .inr ?_
      rw [if_pos (by omega)]
      exact List.mem_map_of_mem (mem_words n w r hr hc)
theorem inv_words {bs : List Bool} (h : Inv bs 9) : bs ∈ words 9 4 := mem_words 9 4 bs h.1 (by have := h.2.1; have := h.2.2; omega)
noncomputable def rotL {α : Type} (n : Nat) (l : List α) : List α := l.drop n ++ l.take n
theorem rot_words {bs : List Bool} (h : Inv bs 9) (n : Nat) : Inv (rotL n bs) 9 := by
  obtain ⟨h1, h2, h3⟩ := h
  have e : (rotL n bs).count true = bs.count true := by
    have : bs.count true = (bs.take n ++ bs.drop n).count true := by rw [List.take_append_drop]
    unfold rotL
    rw [this, List.count_append, List.count_append, Nat.add_comm]
  have el : (rotL n bs).length = bs.length := by unfold rotL; simp; omega
  exact ⟨by rw [el, h1], by rw [e]; exact h2, by rw [e]; exact h3⟩
noncomputable def lvs (bs : List Bool) : List Int := (List.range 9).map fun i => lv (bs.take i)
theorem lvV_eq (bs : List Bool) : lvV bs 9 = (lvs bs).map V.int := by simp [lvV, lvs, List.map_map]
noncomputable def startN (bs : List Bool) : Nat := (idxI (minL (lvs bs)) (lvs bs)).getD 9
noncomputable def domi (w : List Bool) : Bool := ((w.foldl (fun (o : Option Int) b => o.bind fun x => if b then some (x + 5) else if x < 4 then none else some (x - 4)) (some 0))).isSome
theorem start_all : ((words 9 4).all fun bs => (idxI (minL (lvs bs)) (lvs bs) == some (startN bs)) && decide (startN bs < 9) && ((List.range 9).all fun p => domi (rotL p bs) == (p == startN bs))) = true := by decide +kernel
theorem start_of {bs : List Bool} (h : Inv bs 9) : idxI (minL (lvs bs)) (lvs bs) = some (startN bs) ∧ startN bs < 9 ∧ ∀ p < 9, domi (rotL p bs) = (p == startN bs) := by
  have := List.all_eq_true.mp start_all bs (inv_words h)
  rw [Bool.and_eq_true, Bool.and_eq_true, decide_eq_true_eq, beq_iff_eq, List.all_eq_true] at this
  exact ⟨this.1.1, this.1.2, fun p hp => by simpa using this.2 p (List.mem_range.mpr hp)⟩
theorem l11_eq {P : Pr} {t0 : Nat} {bs : List Bool} (h : Inv bs 9) (y9 y10 y11 y13 y14 y15 y16 : S) (r : List S) :
    (l_11 t0).1 (P.st (y9 :: y10 :: y11 :: .own (lvV bs 9) :: y13 :: y14 :: y15 :: y16 :: r)) = some (.next, P.st (y9 :: y10 :: y11 :: .own (lvV bs 9) :: y13 :: y14 :: y15 :: .val (.int (startN bs)) :: r)) := by
  obtain ⟨h1, h2, h3⟩ := start_of h
  have e1 : minR [.own (lvV bs 9)] = some (.val (.int (minL (lvs bs)))) := by
    rw [lvV_eq]
    have : lvs bs ≠ [] := by simp [lvs]
    simp only [minR, R.items, Option.bind_some, ofI_map]
  have e2 : lindexR [.own (lvV bs 9), .val (.int (minL (lvs bs)))] = some (.val (.int (startN bs))) := by
    rw [lvV_eq]
    have : (lvs bs).length ≤ 1048576 := by simp [lvs]
    simp only [lindexR, R.items, Option.bind_some, ofI_map, this, if_true, h1, Option.map_some]
  unfold l_11 Pr.st
  simp [rd, e1, e2, tyR, R.fz]
noncomputable def usL (bs : List Bool) (ph : Nat) : List (List Nat) := (List.range 9).map fun i => unitF (bs[i]?.getD false) (i + ph)
theorem unV_eq (bs : List Bool) (ph : Nat) : unV bs ph 9 = (usL bs ph).map V.str := by simp [unV, usL, List.map_map]
/-- the row from a place on: the signs gone round, and the place of the first one -/
noncomputable def rowF (w : List Bool) (q : Nat) : List Nat := ((w.take 8).zipIdx.flatMap fun x => unitF x.1 (q + x.2))
theorem unitF_congr {b : Bool} {x y : Nat} (h : x % 9 = y % 9) : unitF b x = unitF b y := by unfold unitF; rw [h]
theorem mod_l (i p j ph : Nat) (h : p + j = i ∨ p + j = i + 9) : (i + ph) % 9 = ((p + ph) % 9 + j) % 9 := by omega
theorem eight {b0 b1 b2 b3 b4 b5 b6 b7 : Bool} {x0 x1 x2 x3 x4 x5 x6 x7 y0 y1 y2 y3 y4 y5 y6 y7 : Nat} (h0 : x0 % 9 = y0 % 9) (h1 : x1 % 9 = y1 % 9) (h2 : x2 % 9 = y2 % 9) (h3 : x3 % 9 = y3 % 9) (h4 : x4 % 9 = y4 % 9) (h5 : x5 % 9 = y5 % 9) (h6 : x6 % 9 = y6 % 9) (h7 : x7 % 9 = y7 % 9) :
    [unitF b0 x0, unitF b1 x1, unitF b2 x2, unitF b3 x3, unitF b4 x4, unitF b5 x5, unitF b6 x6, unitF b7 x7] = [unitF b0 y0, unitF b1 y1, unitF b2 y2, unitF b3 y3, unitF b4 y4, unitF b5 y5, unitF b6 y6, unitF b7 y7] := by
  rw [unitF_congr h0, unitF_congr h1, unitF_congr h2, unitF_congr h3, unitF_congr h4, unitF_congr h5, unitF_congr h6, unitF_congr h7]
theorem row_eq {bs : List Bool} (hl : bs.length = 9) (ph p : Nat) (hp : p < 9) : (((usL bs ph).drop p ++ (usL bs ph).take p).take 8).flatten = rowF (rotL p bs) ((p + ph) % 9) := by
  match bs, hl with
  | [b0, b1, b2, b3, b4, b5, b6, b7, b8], _ =>
    have : p = 0 ∨ p = 1 ∨ p = 2 ∨ p = 3 ∨ p = 4 ∨ p = 5 ∨ p = 6 ∨ p = 7 ∨ p = 8 := by omega
    unfold rowF
    rw [List.flatMap_def]
    refine congrArg List.flatten ?_
    rcases this with rfl | rfl | rfl | rfl | rfl | rfl | rfl | rfl | rfl
    all_goals
      simp only [usL, rotL, List.range, List.range.loop, List.map_cons, List.map_nil, List.take, List.drop, List.cons_append, List.nil_append, List.append_nil, List.zipIdx_cons, List.zipIdx_nil, List.getElem?_cons_succ, List.getElem?_cons_zero, Option.getD_some]
      refine eight (mod_l _ _ _ _ ?_) (mod_l _ _ _ _ ?_) (mod_l _ _ _ _ ?_) (mod_l _ _ _ _ ?_) (mod_l _ _ _ _ ?_) (mod_l _ _ _ _ ?_) (mod_l _ _ _ _ ?_) (mod_l _ _ _ _ ?_)
      all_goals (first | exact .inl rfl | exact .inr rfl)
theorem unitF_len (b : Bool) (q : Nat) : (unitF b q).length ≤ 4 := by
  have := decoA_len (q % 9) (Nat.mod_lt _ (by omega))
  unfold unitF
  cases b <;> simp <;> omega
theorem sum_le (l : List (List Nat)) (h : ∀ x ∈ l, x.length ≤ 4) : (l.map List.length).sum ≤ 4 * l.length := by
  induction l with
  | nil => simp
  | cons a r ih =>
    have h1 := h a List.mem_cons_self
    have h2 := ih fun x hx => h x (List.mem_cons_of_mem _ hx)
    simp only [List.map_cons, List.sum_cons, List.length_cons]; omega
theorem row_len {bs : List Bool} (hl : bs.length = 9) (ph p : Nat) : (rowF (rotL p bs) ((p + ph) % 9)).length ≤ 64 := by
  unfold rowF
  have := sum_le (((rotL p bs).take 8).zipIdx.map fun x => unitF x.1 ((p + ph) % 9 + x.2)) (fun x hx => by
    obtain ⟨y, _, rfl⟩ := List.mem_map.mp hx
    exact unitF_len _ _)
  rw [List.flatMap_def, List.length_flatten]
  simp only [List.length_map, List.length_zipIdx, List.length_take] at this ⊢
  omega
/-- what the rows are to answer -/
noncomputable def RowsOk : Prop := ∀ w, Inv w 9 → ∀ q < 9, g__check_parenthesis [.str (rowF w q)] = some (.bool (domi w)) ∧ (domi w = true → g__check_parenthesis [.str (40 :: rowF w q)] = some (.bool false))
theorem row_parts {bs : List Bool} (hl : bs.length = 9) (ph p : Nat) (hp : p < 9) : ∃ A B D : List V, slL (unV bs ph 9) (some (p : Int)) none = A ∧ slL (unV bs ph 9) none (some (p : Int)) = B ∧ slL (A ++ B) none (some 8) = D ∧
    joinR [.val (.str []), .new D] = some (.val (.str (rowF (rotL p bs) ((p + ph) % 9)))) ∧ (unV bs ph 9).length ≤ 1048576 ∧ A.length + B.length ≤ 1048576 := by
  have hul : (usL bs ph).length = 9 := by simp [usL]
  have hrow := row_eq hl ph p hp
  have hrl := row_len hl ph p
  have d1 : slL ((usL bs ph).map V.str) (some (p : Int)) none = ((usL bs ph).drop p).map V.str := by rw [slL_from _ _ (by rw [List.length_map, hul]; omega), List.map_drop]
  have d2 : slL ((usL bs ph).map V.str) none (some (p : Int)) = ((usL bs ph).take p).map V.str := by rw [slL_to _ _ (by rw [List.length_map, hul]; omega), List.map_take]
  have d3 : slL (((usL bs ph).drop p).map V.str ++ ((usL bs ph).take p).map V.str) none (some (8 : Int)) = (((usL bs ph).drop p ++ (usL bs ph).take p).take 8).map V.str := by
    rw [show (8 : Int) = ((8 : Nat) : Int) from rfl, slL_to _ _ (by simp [hul]; omega), ← List.map_append, List.map_take]
  have d4 : joinR [.val (.str []), .new ((((usL bs ph).drop p ++ (usL bs ph).take p).take 8).map V.str)] = some (.val (.str (rowF (rotL p bs) ((p + ph) % 9)))) := by
    have e6 : ((((usL bs ph).drop p ++ (usL bs ph).take p).take 8).map (·.length)).sum ≤ 1048576 := by
      rw [← List.length_flatten, hrow]; omega
    simp only [joinR, R.items, Option.bind_some, ofS_map, List.length_nil, Nat.mul_zero, Nat.add_zero, e6, if_true, joinL_nil, hrow]
  rw [unV_eq]
  refine ⟨_, _, _, d1, d2, d3, d4, ?_, ?_⟩
  · rw [List.length_map, hul]; omega
  · simp only [List.length_map, List.length_drop, List.length_take, hul]; omega
theorem l12_it {P : Pr} {t0 : Nat} {bs : List Bool} (h : Inv bs 9) (hR : RowsOk) : ∃ fb : SF, (l_12 t0).1 = (fun σ => forL fb 10 (rngL 0 9) σ) ∧
    ∀ (p : Nat) (y9 y10 y11 y12 y14 y15 y17 : S) (r : List S), p < 9 → ∃ (z17 : S), 
      fb ((P.st (y9 :: y10 :: y11 :: y12 :: .own (unV bs P.ph 9) :: y14 :: y15 :: .val (.int (startN bs)) :: y17 :: r)).set 10 (.val (.int p))) = some (.next, P.st (y9 :: .val (.int p) :: y11 :: y12 :: .own (unV bs P.ph 9) :: y14 :: y15 :: .val (.int (startN bs)) :: z17 :: r)) := by
  refine ⟨?fb, ?h1, ?h2⟩
  case h1 =>
    funext σ
    unfold l_12
    have e : (some (R.val (V.rng 0 9))).bind R.iter = some (rngL 0 9) := rfl
    simp only [rangeR]
    rw [e]
  intro p y9 y10 y11 y12 y14 y15 y17 r hp
  obtain ⟨s1, s2, s3⟩ := start_of h
  have hl := h.1
  have c1 := (hR _ (rot_words h p) ((p + P.ph) % 9) (Nat.mod_lt _ (by omega)))
  rw [s3 p hp] at c1
  obtain ⟨A, B, D, d1, d2, d3, d4, n1, n2⟩ := row_parts hl P.ph p hp
  have hrl := row_len hl P.ph p
  refine ⟨.val (.str (rowF (rotL p bs) ((p + P.ph) % 9))), ?_⟩
  generalize rowF (rotL p bs) ((p + P.ph) % 9) = row at *
  have n3 : 1 + row.length ≤ 1048576 := by omega
  have n4 : row.length + 1 ≤ 1048576 := by omega
  generalize unV bs P.ph 9 = U at *
  unfold Pr.st
  by_cases hps : p = startN bs
  · have hb : (p == startN bs) = true := by simpa using hps
    have hb2 : ((p : Int) == (startN bs : Int)) = true := by simp [hps]
    rw [hb] at c1
    obtain ⟨q1, q2⟩ := c1
    have q2 := q2 rfl
    simp [rd, slR, R.items, n1, d1, d2, addR, n2, d3, d4, tyR, R.fz, q1, q2, eqR, veq, R.asV, boolR, hb2, isNotR, isB, n3, n4]
  · have hb : (p == startN bs) = false := by simpa using hps
    have hb2 : ((p : Int) == (startN bs : Int)) = false := by simp; omega
    rw [hb] at c1
    obtain ⟨q1, _⟩ := c1
    simp [rd, slR, R.items, n1, d1, d2, addR, n2, d3, d4, tyR, R.fz, q1, eqR, veq, R.asV, boolR, hb2, isNotR, isB]
theorem l12_loop (P : Pr) (bs : List Bool) (fb : SF) (h : ∀ (p : Nat) (y9 y10 y11 y12 y14 y15 y17 : S) (r : List S), p < 9 → ∃ (z17 : S), 
      fb ((P.st (y9 :: y10 :: y11 :: y12 :: .own (unV bs P.ph 9) :: y14 :: y15 :: .val (.int (startN bs)) :: y17 :: r)).set 10 (.val (.int p))) = some (.next, P.st (y9 :: .val (.int p) :: y11 :: y12 :: .own (unV bs P.ph 9) :: y14 :: y15 :: .val (.int (startN bs)) :: z17 :: r))) :
    ∀ (n p : Nat) (y9 y10 y11 y12 y14 y15 y17 : S) (r : List S), p + n = 9 → ∃ (z10 z17 : S), forL fb 10 (rngL p n) (P.st (y9 :: y10 :: y11 :: y12 :: .own (unV bs P.ph 9) :: y14 :: y15 :: .val (.int (startN bs)) :: y17 :: r)) = some (.next, P.st (y9 :: z10 :: y11 :: y12 :: .own (unV bs P.ph 9) :: y14 :: y15 :: .val (.int (startN bs)) :: z17 :: r))
  | 0, p, y9, y10, y11, y12, y14, y15, y17, r, hp => ⟨y10, y17, rfl⟩
  | n + 1, p, y9, y10, y11, y12, y14, y15, y17, r, hp => by
    obtain ⟨z17, e⟩ := h p y9 y10 y11 y12 y14 y15 y17 r (by omega)
    obtain ⟨w10, w17, e2⟩ := l12_loop P bs fb h n (p + 1) y9 (.val (.int p)) y11 y12 y14 y15 z17 r (by omega)
    refine ⟨w10, w17, ?_⟩
    show forL fb 10 (.int p :: rngL (p + 1) n) _ = _
    unfold forL
    rw [e]
    exact e2
theorem l12_eq {P : Pr} {t0 : Nat} {bs : List Bool} (h : Inv bs 9) (hR : RowsOk) (y9 y10 y11 y12 y14 y15 y17 : S) (r : List S) :
    ∃ (z10 z17 : S), (l_12 t0).1 (P.st (y9 :: y10 :: y11 :: y12 :: .own (unV bs P.ph 9) :: y14 :: y15 :: .val (.int (startN bs)) :: y17 :: r)) = some (.next, P.st (y9 :: z10 :: y11 :: y12 :: .own (unV bs P.ph 9) :: y14 :: y15 :: .val (.int (startN bs)) :: z17 :: r)) := by
  obtain ⟨fb, e, h⟩ := l12_it (P := P) (t0 := t0) h hR
  rw [e]
  exact l12_loop P bs fb h 9 0 y9 y10 y11 y12 y14 y15 y17 r (by omega)
end Mine

namespace Mine
theorem rot_all : ((words 9 4).all fun bs => ((rotL (startN bs) (lvs bs)).map fun x => x - (lvs bs)[startN bs]?.getD 0) == lvs (rotL (startN bs) bs)) = true := by decide +kernel
theorem rot_of {bs : List Bool} (h : Inv bs 9) : ((rotL (startN bs) (lvs bs)).map fun x => x - (lvs bs)[startN bs]?.getD 0) = lvs (rotL (startN bs) bs) := by
  have := List.all_eq_true.mp rot_all bs (inv_words h)
  simpa using this
noncomputable def lvW (w : List Bool) : List V := (lvs w).map V.int ++ [.int 0]
theorem l13_eq {P : Pr} {t0 : Nat} {bs : List Bool} (h : Inv bs 9) (y9 y10 y11 y13 y14 y15 : S) (r : List S) :
    (l_13 t0).1 (P.st (y9 :: y10 :: y11 :: .own (lvV bs 9) :: y13 :: y14 :: y15 :: .val (.int (startN bs)) :: r)) = some (.next, P.st (y9 :: y10 :: y11 :: .val (.lst (lvW (rotL (startN bs) bs))) :: y13 :: y14 :: y15 :: .val (.int (startN bs)) :: r)) := by
  obtain ⟨h1, h2, h3⟩ := start_of h
  have hr := rot_of h
  rw [lvV_eq]
  have hll : (lvs bs).length = 9 := by simp [lvs]
  have hll2 : (lvs bs).length ≤ 1048576 := by omega
  have d1 : slL ((lvs bs).map V.int) (some (startN bs : Int)) none = ((lvs bs).drop (startN bs)).map V.int := by rw [slL_from _ _ (by rw [List.length_map, hll]; omega), List.map_drop]
  have d2 : slL ((lvs bs).map V.int) none (some (startN bs : Int)) = ((lvs bs).take (startN bs)).map V.int := by rw [slL_to _ _ (by rw [List.length_map, hll]; omega), List.map_take]
  have d3 : ((lvs bs).drop (startN bs)).map V.int ++ ((lvs bs).take (startN bs)).map V.int = (rotL (startN bs) (lvs bs)).map V.int := by unfold rotL; rw [List.map_append]
  have hx : idxR (.own ((lvs bs).map V.int)) (.val (.int (startN bs : Nat))) = some (.val (.int ((lvs bs)[startN bs]?.getD 0))) := by
    rw [idx_items (l := (lvs bs).map V.int) rfl _ (by rw [List.length_map, hll]; omega) (by omega) (by intro x; simp)]
    rw [List.getElem_map]
    simp [show startN bs < (lvs bs).length by omega]
  have n1 : ((lvs bs).drop (startN bs)).length + min (startN bs) (lvs bs).length ≤ 1048576 := by simp [hll]; omega
  have n2 : (lvs bs).length - startN bs + min (startN bs) (lvs bs).length ≤ 1048576 := by omega
  have n3 : (rotL (startN bs) (lvs bs)).length = 9 := by unfold rotL; simp [hll]; omega
  unfold l_13 Pr.st
  have key : ∀ (ft : List S → Option Bool) (fe : List S → Option R), (∀ x : Int, ft [.val (.int x), .own ((lvs bs).map V.int), .val (.int (startN bs))] = some true) →
      (∀ x : Int, (fe [.val (.int x), .own ((lvs bs).map V.int), .val (.int (startN bs))]).bind R.fz = some (.int (x - (lvs bs)[startN bs]?.getD 0))) →
      compL ft fe [.own ((lvs bs).map V.int), .val (.int (startN bs))] ((rotL (startN bs) (lvs bs)).map V.int) = some ((lvs (rotL (startN bs) bs)).map V.int) := by
    intro ft fe q1 q2
    rw [compL_map V.int (fun x => .int (x - (lvs bs)[startN bs]?.getD 0)) (rotL (startN bs) (lvs bs)) (fun a _ => ⟨q1 a, q2 a⟩), ← hr, List.map_map]
    rfl
  have n4 : (lvs (rotL (startN bs) bs)).length = 9 := by simp [lvs]
  have n5 : (lvs (rotL (startN bs) bs)).length + 1 ≤ 1048576 := by omega
  have n6 : (lvs (rotL (startN bs) bs)).length ≤ 1048576 := by omega
  simp only [rd, compF, List.getElem?_cons_succ, List.getElem?_cons_zero, Option.bind_some, Option.map_some, List.map_cons, List.map_nil, Option.getD_some, slR, R.items, List.length_map, hll2, if_true, d1, d2, addR, n1, n2, List.length_take, List.length_drop, d3, R.iterB]
  rw [key _ _ (fun _ => rfl) (fun x => by
    simp only [rd, List.getElem?_cons_succ, List.getElem?_cons_zero, hx, subR, i2, Option.bind_some, Option.map_some, R.fz])]
  simp [n5, n6, R.fz, lvW, R.items]
theorem drop_tx (P : Pr) (bs : List Bool) (p : Nat) (h : p ≤ bs.length) : slL (P.tx bs) (some (p : Int)) none = P.tx (bs.drop p) := by
  rw [slL_from _ _ (by simpa [Pr.tx] using h)]
  simp [Pr.tx, List.map_drop]
theorem l14_eq {P : Pr} {t0 : Nat} {bs : List Bool} (h : Inv bs 9) (y10 y11 y12 y13 y14 y15 : S) (r : List S) :
    (l_14 t0).1 (P.st (.val (.str (P.tx bs)) :: y10 :: y11 :: y12 :: y13 :: y14 :: y15 :: .val (.int (startN bs)) :: r)) = some (.next, P.st (.val (.str (P.tx (rotL (startN bs) bs))) :: y10 :: y11 :: y12 :: y13 :: y14 :: y15 :: .val (.int (startN bs)) :: r)) := by
  obtain ⟨h1, h2, h3⟩ := start_of h
  have hl := h.1
  have d1 := drop_tx P bs (startN bs) (by omega)
  have d2 := take_tx P bs (startN bs) (by omega)
  have d3 : P.tx (bs.drop (startN bs)) ++ P.tx (bs.take (startN bs)) = P.tx (rotL (startN bs) bs) := by simp [Pr.tx, rotL]
  have n1 : (P.tx bs).length ≤ 1048576 := by simp [Pr.tx]; omega
  have n2 : (P.tx (bs.drop (startN bs))).length + (P.tx (bs.take (startN bs))).length ≤ 1048576 := by simp [Pr.tx]; omega
  unfold l_14 Pr.st
  simp only [rd, List.getElem?_cons_succ, List.getElem?_cons_zero, slR, n1, if_true, d1, d2, addR, n2, d3, Option.bind_some, R.fz, List.set_cons_succ, List.set_cons_zero]
noncomputable def begs (w : List Bool) : List Int := ((List.range 9).filter fun i => w[i]?.getD false).map fun i => lv (w.take i)
theorem compL_filt {α : Type} {ft : List S → Option Bool} {fe : List S → Option R} {σf : List S} (g f : α → V) (q : α → Bool) : ∀ l : List α, (∀ a ∈ l, ft (.val (g a) :: σf) = some (q a) ∧ (fe (.val (g a) :: σf)).bind R.fz = some (f a)) → compL ft fe σf (l.map g) = some ((l.filter q).map f)
  | [], h => rfl
  | a :: r, h => by
    obtain ⟨h1, h2⟩ := h a List.mem_cons_self
    have ih := compL_filt g f q r fun b hb => h b (List.mem_cons_of_mem _ hb)
    rw [List.map_cons]
    unfold compL
    rw [h1]
    cases hq : q a with
    | true =>
      dsimp only
      rw [h2]
      dsimp only
      rw [ih, List.filter_cons_of_pos hq]
      rfl
    | false =>
      dsimp only
      rw [ih, List.filter_cons_of_neg (by rw [hq]; exact Bool.false_ne_true)]
theorem rng9 : rngL 0 9 = (List.range 9).map fun i => V.int (i : Nat) := rfl
theorem lvW_idx (w : List Bool) (p : Nat) (hp : p < 9) : idxR (.val (.lst (lvW w))) (.val (.int (p : Nat))) = some (.val (.int (lv (w.take p)))) := by
  have hll : (lvs w).length = 9 := by simp [lvs]
  rw [idx_lst _ p (by simp [lvW, hll]; omega) (by omega)]
  have : (lvW w)[p]? = some (.int (lv (w.take p))) := by
    unfold lvW lvs
    rw [List.getElem?_append_left (by simp; omega)]
    simp [hp]
  rw [List.getElem?_eq_some_iff] at this
  obtain ⟨_, e⟩ := this
  rw [e]
theorem tx_idx (P : Pr) (w : List Bool) (hl : w.length = 9) (p : Nat) (hp : p < 9) : idxR (.val (.str (P.tx w))) (.val (.int (p : Nat))) = some (.val (.str [sg P.c P.d (w[p]?.getD false)])) := by
  rw [idx_str _ p (by simp [Pr.tx]; omega) (by simp [Pr.tx]; omega)]
  simp [Pr.tx, show p < w.length by omega]
theorem l15_eq {P : Pr} {t0 : Nat} (hP : P.Ok t0) {w : List Bool} (hl : w.length = 9) (y10 y11 y13 y14 y15 y16 y17 y18 : S) (r : List S) :
    (l_15 t0).1 (P.st (.val (.str (P.tx w)) :: y10 :: y11 :: .val (.lst (lvW w)) :: y13 :: y14 :: y15 :: y16 :: y17 :: y18 :: r)) = some (.next, P.st (.val (.str (P.tx w)) :: y10 :: y11 :: .val (.lst (lvW w)) :: y13 :: y14 :: y15 :: y16 :: y17 :: .val (.lst ((begs w).map .int)) :: r)) := by
  have hcd := hP.cd
  have hcb : (P.c == P.d) = false := by simpa using hcd
  have key : ∀ (ft : List S → Option Bool) (fe : List S → Option R), (∀ i < 9, ft [.val (.int (i : Nat)), .val (.lst (lvW w)), .pin (.str [P.d]) (.str ⟨#[P.d]⟩ P.t7), .val (.str (P.tx w))] = some (w[i]?.getD false)) →
      (∀ i < 9, (fe [.val (.int (i : Nat)), .val (.lst (lvW w)), .pin (.str [P.d]) (.str ⟨#[P.d]⟩ P.t7), .val (.str (P.tx w))]).bind R.fz = some (.int (lv (w.take i)))) →
      compL ft fe [.val (.lst (lvW w)), .pin (.str [P.d]) (.str ⟨#[P.d]⟩ P.t7), .val (.str (P.tx w))] (rngL 0 9) = some ((begs w).map .int) := by
    intro ft fe q1 q2
    rw [rng9, compL_filt (fun i : Nat => V.int (i : Nat)) (fun i => .int (lv (w.take i))) (fun i => w[i]?.getD false) (List.range 9) (fun a ha => ⟨q1 a (List.mem_range.mp ha), q2 a (List.mem_range.mp ha)⟩)]
    unfold begs
    rw [List.map_map]
    rfl
  have hb : (begs w).length ≤ 1048576 := by
    unfold begs
    have := List.length_filter_le (fun i => w[i]?.getD false) (List.range 9)
    simp at this ⊢; omega
  have er : (R.val (V.rng 0 9)).iterB = some (rngL 0 9) := rfl
  unfold l_15 Pr.st
  simp only [rd, compF, List.getElem?_cons_succ, List.getElem?_cons_zero, Option.bind_some, Option.map_some, List.map_cons, List.map_nil, Option.getD_some, rangeR, er]
  rw [key _ _ (fun i hi => by
      have e := tx_idx P w hl i hi
      cases hb : w[i]?.getD false <;> rw [hb] at e <;> simp [rd, e, sg, eqR, veq, R.asV, boolR, hcb])
    (fun i hi => by simp [rd, lvW_idx w i hi, R.fz])]
  simp [hb, R.fz]
theorem l16_eq (P : Pr) (t0 : Nat) (y9 y10 y11 y12 y13 y14 y15 y16 y17 y18 y19 : S) (r : List S) : (l_16 t0).1 (P.st (y9 :: y10 :: y11 :: y12 :: y13 :: y14 :: y15 :: y16 :: y17 :: y18 :: y19 :: r)) = some (.next, P.st (y9 :: y10 :: y11 :: y12 :: y13 :: y14 :: y15 :: y16 :: y17 :: y18 :: .own [] :: r)) := rfl
end Mine

namespace Mine
noncomputable def rowChk (q : Nat) (ws : List (List Bool)) : Bool := ws.all fun w =>
  (match g__check_parenthesis [.str (rowF w q)] with | some (.bool b) => b == domi w | _ => false) &&
  (!domi w || (match g__check_parenthesis [.str (40 :: rowF w q)] with | some (.bool b) => !b | _ => false))
theorem rc_0_0 : rowChk 0 (((words 9 4).drop 0).take 21) = true := by decide +kernel
theorem rc_0_1 : rowChk 0 (((words 9 4).drop 21).take 21) = true := by decide +kernel
theorem rc_0_2 : rowChk 0 (((words 9 4).drop 42).take 21) = true := by decide +kernel
theorem rc_0_3 : rowChk 0 (((words 9 4).drop 63).take 21) = true := by decide +kernel
theorem rc_0_4 : rowChk 0 (((words 9 4).drop 84).take 21) = true := by decide +kernel
theorem rc_0_5 : rowChk 0 (((words 9 4).drop 105).take 21) = true := by decide +kernel
theorem rc_1_0 : rowChk 1 (((words 9 4).drop 0).take 21) = true := by decide +kernel
theorem rc_1_1 : rowChk 1 (((words 9 4).drop 21).take 21) = true := by decide +kernel
theorem rc_1_2 : rowChk 1 (((words 9 4).drop 42).take 21) = true := by decide +kernel
theorem rc_1_3 : rowChk 1 (((words 9 4).drop 63).take 21) = true := by decide +kernel
theorem rc_1_4 : rowChk 1 (((words 9 4).drop 84).take 21) = true := by decide +kernel
theorem rc_1_5 : rowChk 1 (((words 9 4).drop 105).take 21) = true := by decide +kernel
theorem rc_2_0 : rowChk 2 (((words 9 4).drop 0).take 21) = true := by decide +kernel
theorem rc_2_1 : rowChk 2 (((words 9 4).drop 21).take 21) = true := by decide +kernel
theorem rc_2_2 : rowChk 2 (((words 9 4).drop 42).take 21) = true := by decide +kernel
theorem rc_2_3 : rowChk 2 (((words 9 4).drop 63).take 21) = true := by decide +kernel
theorem rc_2_4 : rowChk 2 (((words 9 4).drop 84).take 21) = true := by decide +kernel
theorem rc_2_5 : rowChk 2 (((words 9 4).drop 105).take 21) = true := by decide +kernel
theorem rc_3_0 : rowChk 3 (((words 9 4).drop 0).take 21) = true := by decide +kernel
theorem rc_3_1 : rowChk 3 (((words 9 4).drop 21).take 21) = true := by decide +kernel
theorem rc_3_2 : rowChk 3 (((words 9 4).drop 42).take 21) = true := by decide +kernel
theorem rc_3_3 : rowChk 3 (((words 9 4).drop 63).take 21) = true := by decide +kernel
theorem rc_3_4 : rowChk 3 (((words 9 4).drop 84).take 21) = true := by decide +kernel
theorem rc_3_5 : rowChk 3 (((words 9 4).drop 105).take 21) = true := by decide +kernel
theorem rc_4_0 : rowChk 4 (((words 9 4).drop 0).take 21) = true := by decide +kernel
theorem rc_4_1 : rowChk 4 (((words 9 4).drop 21).take 21) = true := by decide +kernel
theorem rc_4_2 : rowChk 4 (((words 9 4).drop 42).take 21) = true := by decide +kernel
theorem rc_4_3 : rowChk 4 (((words 9 4).drop 63).take 21) = true := by decide +kernel
theorem rc_4_4 : rowChk 4 (((words 9 4).drop 84).take 21) = true := by decide +kernel
theorem rc_4_5 : rowChk 4 (((words 9 4).drop 105).take 21) = true := by decide +kernel
theorem rc_5_0 : rowChk 5 (((words 9 4).drop 0).take 21) = true := by decide +kernel
theorem rc_5_1 : rowChk 5 (((words 9 4).drop 21).take 21) = true := by decide +kernel
theorem rc_5_2 : rowChk 5 (((words 9 4).drop 42).take 21) = true := by decide +kernel
theorem rc_5_3 : rowChk 5 (((words 9 4).drop 63).take 21) = true := by decide +kernel
theorem rc_5_4 : rowChk 5 (((words 9 4).drop 84).take 21) = true := by decide +kernel
theorem rc_5_5 : rowChk 5 (((words 9 4).drop 105).take 21) = true := by decide +kernel
theorem rc_6_0 : rowChk 6 (((words 9 4).drop 0).take 21) = true := by decide +kernel
theorem rc_6_1 : rowChk 6 (((words 9 4).drop 21).take 21) = true := by decide +kernel
theorem rc_6_2 : rowChk 6 (((words 9 4).drop 42).take 21) = true := by decide +kernel
theorem rc_6_3 : rowChk 6 (((words 9 4).drop 63).take 21) = true := by decide +kernel
theorem rc_6_4 : rowChk 6 (((words 9 4).drop 84).take 21) = true := by decide +kernel
theorem rc_6_5 : rowChk 6 (((words 9 4).drop 105).take 21) = true := by decide +kernel
theorem rc_7_0 : rowChk 7 (((words 9 4).drop 0).take 21) = true := by decide +kernel
theorem rc_7_1 : rowChk 7 (((words 9 4).drop 21).take 21) = true := by decide +kernel
theorem rc_7_2 : rowChk 7 (((words 9 4).drop 42).take 21) = true := by decide +kernel
theorem rc_7_3 : rowChk 7 (((words 9 4).drop 63).take 21) = true := by decide +kernel
theorem rc_7_4 : rowChk 7 (((words 9 4).drop 84).take 21) = true := by decide +kernel
theorem rc_7_5 : rowChk 7 (((words 9 4).drop 105).take 21) = true := by decide +kernel
theorem rc_8_0 : rowChk 8 (((words 9 4).drop 0).take 21) = true := by decide +kernel
theorem rc_8_1 : rowChk 8 (((words 9 4).drop 21).take 21) = true := by decide +kernel
theorem rc_8_2 : rowChk 8 (((words 9 4).drop 42).take 21) = true := by decide +kernel
theorem rc_8_3 : rowChk 8 (((words 9 4).drop 63).take 21) = true := by decide +kernel
theorem rc_8_4 : rowChk 8 (((words 9 4).drop 84).take 21) = true := by decide +kernel
theorem rc_8_5 : rowChk 8 (((words 9 4).drop 105).take 21) = true := by decide +kernel
theorem all_cut {α : Type} (f : α → Bool) (n : Nat) (l : List α) (h1 : (l.take n).all f = true) (h2 : (l.drop n).all f = true) : l.all f = true := by
  rw [← List.take_append_drop n l, List.all_append, h1, h2]; rfl
theorem words_end : ((words 9 4).drop 126) = [] := by decide +kernel
theorem rc_0 : rowChk 0 (words 9 4) = true := by
  have step : ∀ k, rowChk 0 (((words 9 4).drop k).take 21) = true → rowChk 0 ((words 9 4).drop (k + 21)) = true → rowChk 0 ((words 9 4).drop k) = true := fun k a b => all_cut _ 21 _ a (by rw [List.drop_drop]; exact b)
  have h126 : rowChk 0 ((words 9 4).drop 126) = true := by rw [words_end]; rfl
  exact step 0 rc_0_0 (step 21 rc_0_1 (step 42 rc_0_2 (step 63 rc_0_3 (step 84 rc_0_4 (step 105 rc_0_5 h126)))))
theorem rc_1 : rowChk 1 (words 9 4) = true := by
  have step : ∀ k, rowChk 1 (((words 9 4).drop k).take 21) = true → rowChk 1 ((words 9 4).drop (k + 21)) = true → rowChk 1 ((words 9 4).drop k) = true := fun k a b => all_cut _ 21 _ a (by rw [List.drop_drop]; exact b)
  have h126 : rowChk 1 ((words 9 4).drop 126) = true := by rw [words_end]; rfl
  exact step 0 rc_1_0 (step 21 rc_1_1 (step 42 rc_1_2 (step 63 rc_1_3 (step 84 rc_1_4 (step 105 rc_1_5 h126)))))
theorem rc_2 : rowChk 2 (words 9 4) = true := by
  have step : ∀ k, rowChk 2 (((words 9 4).drop k).take 21) = true → rowChk 2 ((words 9 4).drop (k + 21)) = true → rowChk 2 ((words 9 4).drop k) = true := fun k a b => all_cut _ 21 _ a (by rw [List.drop_drop]; exact b)
  have h126 : rowChk 2 ((words 9 4).drop 126) = true := by rw [words_end]; rfl
  exact step 0 rc_2_0 (step 21 rc_2_1 (step 42 rc_2_2 (step 63 rc_2_3 (step 84 rc_2_4 (step 105 rc_2_5 h126)))))
theorem rc_3 : rowChk 3 (words 9 4) = true := by
  have step : ∀ k, rowChk 3 (((words 9 4).drop k).take 21) = true → rowChk 3 ((words 9 4).drop (k + 21)) = true → rowChk 3 ((words 9 4).drop k) = true := fun k a b => all_cut _ 21 _ a (by rw [List.drop_drop]; exact b)
  have h126 : rowChk 3 ((words 9 4).drop 126) = true := by rw [words_end]; rfl
  exact step 0 rc_3_0 (step 21 rc_3_1 (step 42 rc_3_2 (step 63 rc_3_3 (step 84 rc_3_4 (step 105 rc_3_5 h126)))))
theorem rc_4 : rowChk 4 (words 9 4) = true := by
  have step : ∀ k, rowChk 4 (((words 9 4).drop k).take 21) = true → rowChk 4 ((words 9 4).drop (k + 21)) = true → rowChk 4 ((words 9 4).drop k) = true := fun k a b => all_cut _ 21 _ a (by rw [List.drop_drop]; exact b)
  have h126 : rowChk 4 ((words 9 4).drop 126) = true := by rw [words_end]; rfl
  exact step 0 rc_4_0 (step 21 rc_4_1 (step 42 rc_4_2 (step 63 rc_4_3 (step 84 rc_4_4 (step 105 rc_4_5 h126)))))
theorem rc_5 : rowChk 5 (words 9 4) = true := by
  have step : ∀ k, rowChk 5 (((words 9 4).drop k).take 21) = true → rowChk 5 ((words 9 4).drop (k + 21)) = true → rowChk 5 ((words 9 4).drop k) = true := fun k a b => all_cut _ 21 _ a (by rw [List.drop_drop]; exact b)
  have h126 : rowChk 5 ((words 9 4).drop 126) = true := by rw [words_end]; rfl
  exact step 0 rc_5_0 (step 21 rc_5_1 (step 42 rc_5_2 (step 63 rc_5_3 (step 84 rc_5_4 (step 105 rc_5_5 h126)))))
theorem rc_6 : rowChk 6 (words 9 4) = true := by
  have step : ∀ k, rowChk 6 (((words 9 4).drop k).take 21) = true → rowChk 6 ((words 9 4).drop (k + 21)) = true → rowChk 6 ((words 9 4).drop k) = true := fun k a b => all_cut _ 21 _ a (by rw [List.drop_drop]; exact b)
  have h126 : rowChk 6 ((words 9 4).drop 126) = true := by rw [words_end]; rfl
  exact step 0 rc_6_0 (step 21 rc_6_1 (step 42 rc_6_2 (step 63 rc_6_3 (step 84 rc_6_4 (step 105 rc_6_5 h126)))))
theorem rc_7 : rowChk 7 (words 9 4) = true := by
  have step : ∀ k, rowChk 7 (((words 9 4).drop k).take 21) = true → rowChk 7 ((words 9 4).drop (k + 21)) = true → rowChk 7 ((words 9 4).drop k) = true := fun k a b => all_cut _ 21 _ a (by rw [List.drop_drop]; exact b)
  have h126 : rowChk 7 ((words 9 4).drop 126) = true := by rw [words_end]; rfl
  exact step 0 rc_7_0 (step 21 rc_7_1 (step 42 rc_7_2 (step 63 rc_7_3 (step 84 rc_7_4 (step 105 rc_7_5 h126)))))
theorem rc_8 : rowChk 8 (words 9 4) = true := by
  have step : ∀ k, rowChk 8 (((words 9 4).drop k).take 21) = true → rowChk 8 ((words 9 4).drop (k + 21)) = true → rowChk 8 ((words 9 4).drop k) = true := fun k a b => all_cut _ 21 _ a (by rw [List.drop_drop]; exact b)
  have h126 : rowChk 8 ((words 9 4).drop 126) = true := by rw [words_end]; rfl
  exact step 0 rc_8_0 (step 21 rc_8_1 (step 42 rc_8_2 (step 63 rc_8_3 (step 84 rc_8_4 (step 105 rc_8_5 h126)))))
theorem rc_all : ∀ q < 9, rowChk q (words 9 4) = true := by
  intro q hq
  match q, hq with
  | 0, _ => exact rc_0
  | 1, _ => exact rc_1
  | 2, _ => exact rc_2
  | 3, _ => exact rc_3
  | 4, _ => exact rc_4
  | 5, _ => exact rc_5
  | 6, _ => exact rc_6
  | 7, _ => exact rc_7
  | 8, _ => exact rc_8
theorem rowsOk : RowsOk := by
  intro w hw q hq
  have := List.all_eq_true.mp (rc_all q hq) w (inv_words hw)
  rw [Bool.and_eq_true, Bool.or_eq_true] at this
  obtain ⟨h1, h2⟩ := this
  constructor
  · split at h1
    · rename_i b e
      rw [e, beq_iff_eq.mp h1]
    · cases h1
  · intro hd
    rcases h2 with h2 | h2
    · rw [hd] at h2; cases h2
    · split at h2
      · rename_i b e
        rw [e]
        cases b
        · rfl
        · cases h2
      · cases h2
end Mine

namespace Mine
noncomputable def doms : List (List Bool) := (words 9 4).filter domi
theorem mem_doms {w : List Bool} (h : Inv w 9) (hd : domi w = true) : w ∈ doms := List.mem_filter.mpr ⟨inv_words h, hd⟩
noncomputable def lvn (w : List Bool) (p : Nat) : Nat := (lv (w.take p)).toNat
theorem lvn_all : (doms.all fun w => (List.range 10).all fun p => ((lvs w ++ [0])[p]? == some ((lvn w p : Nat) : Int)) && decide (lvn w p ≤ 40)) = true := by decide +kernel
theorem doms_len : (doms.all fun w => w.length == 9) = true := by decide +kernel
theorem dom_len {w : List Bool} (h : w ∈ doms) : w.length = 9 := by simpa using List.all_eq_true.mp doms_len w h
theorem lvn_idx {w : List Bool} (h : w ∈ doms) (p : Nat) (hp : p < 10) : idxR (.val (.lst (lvW w))) (.val (.int (p : Nat))) = some (.val (.int (lvn w p : Nat))) ∧ lvn w p ≤ 40 := by
  have := List.all_eq_true.mp (List.all_eq_true.mp lvn_all w h) p (List.mem_range.mpr hp)
  rw [Bool.and_eq_true, decide_eq_true_eq, beq_iff_eq] at this
  obtain ⟨e, hb⟩ := this
  have hl : (lvW w).length = 10 := by simp [lvW, lvs]
  have e2 : (lvW w)[p]? = some (.int (lvn w p : Nat)) := by
    have : lvW w = (lvs w ++ [0]).map V.int := by simp [lvW]
    rw [this, List.getElem?_map, e]
    rfl
  refine ⟨?_, hb⟩
  rw [idx_lst _ p (by omega) (by omega)]
  rw [List.getElem?_eq_some_iff] at e2
  obtain ⟨_, e3⟩ := e2
  rw [e3]
theorem mul_one (a n : Nat) (h : n ≤ 1000) : mulR (.val (.str [a])) (.val (.int (n : Nat))) = some (.val (.str (List.replicate n a))) := by
  show (if -1000000 ≤ (n : Int) ∧ (n : Int).toNat ≤ 1000000 ∧ [a].length * (n : Int).toNat ≤ 1048576 then some (R.val (.str (repL (n : Int).toNat [a]))) else none) = _
  rw [if_pos (by simp; omega)]
  have : (n : Int).toNat = n := by simp
  rw [this]
  unfold repL
  simp
theorem write_len {P : Pr} {t0 : Nat} (h : P.Ok t0) (n t : Nat) (hn : n ≤ 40) (ht : t ≤ 4) : ∃ s, g__law_write [.int P.k, .str (List.replicate n 120 ++ List.replicate t P.d)] = some (.str s) ∧ s.length = n + 5 * t := by
  refine ⟨_, gw P.k h.k (fun a ha => ?_) (by simp; omega), ?_⟩
  · rcases List.mem_append.mp ha with ha | ha
    · rw [(List.mem_replicate.mp ha).2]; decide
    · rw [(List.mem_replicate.mp ha).2]; exact h.d1
  · rw [List.flatMap_append, List.length_append, List.flatMap_replicate, List.flatMap_replicate, h.esx, h.esd]
    simp [List.length_flatten, h.wn]; omega
noncomputable def szP (n t : Nat) : List V := if n + 5 * t < 16 then [.int (n + 5 * t : Nat)] else []
noncomputable def szI (n : Nat) : Nat → List V
  | 0 => []
  | t + 1 => szI n t ++ szP n t
noncomputable def szW (w : List Bool) : Nat → List V
  | 0 => []
  | p + 1 => szW w p ++ (if w[p]?.getD false then [] else szI (lvn w (p + 1)) 4)
theorem szI_len (n : Nat) : ∀ t, (szI n t).length ≤ t
  | 0 => by simp [szI]
  | t + 1 => by
    have := szI_len n t
    unfold szI
    rw [List.length_append]
    unfold szP
    split <;> simp <;> omega
theorem szW_len (w : List Bool) : ∀ p, (szW w p).length ≤ 4 * p
  | 0 => by simp [szW]
  | p + 1 => by
    have := szW_len w p
    have h2 := szI_len (lvn w (p + 1)) 4
    unfold szW
    rw [List.length_append]
    split <;> simp <;> omega
theorem st0 (P : Pr) (l : List S) : rd 0 (P.st l) = some (.val (.lst (P.sc.map .int))) := rfl
theorem st1 (P : Pr) (l : List S) : rd 1 (P.st l) = some (.val (.int P.tot)) := rfl
theorem st2 (P : Pr) (l : List S) : rd 2 (P.st l) = some (.val (.int P.k)) := rfl
theorem st5 (P : Pr) (l : List S) : rd 5 (P.st l) = some (.val (.str [P.c])) := rfl
theorem st7 (P : Pr) (l : List S) : rd 7 (P.st l) = some (.val (.str [P.d])) := rfl
theorem sv9 (P : Pr) (v : V) (l : List S) : rd 9 (P.st (.val v :: l)) = some (.val v) := rfl
theorem so9 (P : Pr) (v : List V) (l : List S) : rd 9 (P.st (.own v :: l)) = some (.own v) := rfl
theorem sg9 (P : Pr) (v : List V) (l : List S) : getOwn 9 (P.st (.own v :: l)) = some v := rfl
theorem ss9 (P : Pr) (v y : S) (l : List S) : (P.st (y :: l)).set 9 v = P.st (v :: l) := rfl
theorem sv10 (P : Pr) (y9 : S) (v : V) (l : List S) : rd 10 (P.st (y9 :: .val v :: l)) = some (.val v) := rfl
theorem so10 (P : Pr) (y9 : S) (v : List V) (l : List S) : rd 10 (P.st (y9 :: .own v :: l)) = some (.own v) := rfl
theorem sg10 (P : Pr) (y9 : S) (v : List V) (l : List S) : getOwn 10 (P.st (y9 :: .own v :: l)) = some v := rfl
theorem ss10 (P : Pr) (y9 : S) (v y : S) (l : List S) : (P.st (y9 :: y :: l)).set 10 v = P.st (y9 :: v :: l) := rfl
theorem sv11 (P : Pr) (y9 y10 : S) (v : V) (l : List S) : rd 11 (P.st (y9 :: y10 :: .val v :: l)) = some (.val v) := rfl
theorem so11 (P : Pr) (y9 y10 : S) (v : List V) (l : List S) : rd 11 (P.st (y9 :: y10 :: .own v :: l)) = some (.own v) := rfl
theorem sg11 (P : Pr) (y9 y10 : S) (v : List V) (l : List S) : getOwn 11 (P.st (y9 :: y10 :: .own v :: l)) = some v := rfl
theorem ss11 (P : Pr) (y9 y10 : S) (v y : S) (l : List S) : (P.st (y9 :: y10 :: y :: l)).set 11 v = P.st (y9 :: y10 :: v :: l) := rfl
theorem sv12 (P : Pr) (y9 y10 y11 : S) (v : V) (l : List S) : rd 12 (P.st (y9 :: y10 :: y11 :: .val v :: l)) = some (.val v) := rfl
theorem so12 (P : Pr) (y9 y10 y11 : S) (v : List V) (l : List S) : rd 12 (P.st (y9 :: y10 :: y11 :: .own v :: l)) = some (.own v) := rfl
theorem sg12 (P : Pr) (y9 y10 y11 : S) (v : List V) (l : List S) : getOwn 12 (P.st (y9 :: y10 :: y11 :: .own v :: l)) = some v := rfl
theorem ss12 (P : Pr) (y9 y10 y11 : S) (v y : S) (l : List S) : (P.st (y9 :: y10 :: y11 :: y :: l)).set 12 v = P.st (y9 :: y10 :: y11 :: v :: l) := rfl
theorem sv13 (P : Pr) (y9 y10 y11 y12 : S) (v : V) (l : List S) : rd 13 (P.st (y9 :: y10 :: y11 :: y12 :: .val v :: l)) = some (.val v) := rfl
theorem so13 (P : Pr) (y9 y10 y11 y12 : S) (v : List V) (l : List S) : rd 13 (P.st (y9 :: y10 :: y11 :: y12 :: .own v :: l)) = some (.own v) := rfl
theorem sg13 (P : Pr) (y9 y10 y11 y12 : S) (v : List V) (l : List S) : getOwn 13 (P.st (y9 :: y10 :: y11 :: y12 :: .own v :: l)) = some v := rfl
theorem ss13 (P : Pr) (y9 y10 y11 y12 : S) (v y : S) (l : List S) : (P.st (y9 :: y10 :: y11 :: y12 :: y :: l)).set 13 v = P.st (y9 :: y10 :: y11 :: y12 :: v :: l) := rfl
theorem sv14 (P : Pr) (y9 y10 y11 y12 y13 : S) (v : V) (l : List S) : rd 14 (P.st (y9 :: y10 :: y11 :: y12 :: y13 :: .val v :: l)) = some (.val v) := rfl
theorem so14 (P : Pr) (y9 y10 y11 y12 y13 : S) (v : List V) (l : List S) : rd 14 (P.st (y9 :: y10 :: y11 :: y12 :: y13 :: .own v :: l)) = some (.own v) := rfl
theorem sg14 (P : Pr) (y9 y10 y11 y12 y13 : S) (v : List V) (l : List S) : getOwn 14 (P.st (y9 :: y10 :: y11 :: y12 :: y13 :: .own v :: l)) = some v := rfl
theorem ss14 (P : Pr) (y9 y10 y11 y12 y13 : S) (v y : S) (l : List S) : (P.st (y9 :: y10 :: y11 :: y12 :: y13 :: y :: l)).set 14 v = P.st (y9 :: y10 :: y11 :: y12 :: y13 :: v :: l) := rfl
theorem sv15 (P : Pr) (y9 y10 y11 y12 y13 y14 : S) (v : V) (l : List S) : rd 15 (P.st (y9 :: y10 :: y11 :: y12 :: y13 :: y14 :: .val v :: l)) = some (.val v) := rfl
theorem so15 (P : Pr) (y9 y10 y11 y12 y13 y14 : S) (v : List V) (l : List S) : rd 15 (P.st (y9 :: y10 :: y11 :: y12 :: y13 :: y14 :: .own v :: l)) = some (.own v) := rfl
theorem sg15 (P : Pr) (y9 y10 y11 y12 y13 y14 : S) (v : List V) (l : List S) : getOwn 15 (P.st (y9 :: y10 :: y11 :: y12 :: y13 :: y14 :: .own v :: l)) = some v := rfl
theorem ss15 (P : Pr) (y9 y10 y11 y12 y13 y14 : S) (v y : S) (l : List S) : (P.st (y9 :: y10 :: y11 :: y12 :: y13 :: y14 :: y :: l)).set 15 v = P.st (y9 :: y10 :: y11 :: y12 :: y13 :: y14 :: v :: l) := rfl
theorem sv16 (P : Pr) (y9 y10 y11 y12 y13 y14 y15 : S) (v : V) (l : List S) : rd 16 (P.st (y9 :: y10 :: y11 :: y12 :: y13 :: y14 :: y15 :: .val v :: l)) = some (.val v) := rfl
theorem so16 (P : Pr) (y9 y10 y11 y12 y13 y14 y15 : S) (v : List V) (l : List S) : rd 16 (P.st (y9 :: y10 :: y11 :: y12 :: y13 :: y14 :: y15 :: .own v :: l)) = some (.own v) := rfl
theorem sg16 (P : Pr) (y9 y10 y11 y12 y13 y14 y15 : S) (v : List V) (l : List S) : getOwn 16 (P.st (y9 :: y10 :: y11 :: y12 :: y13 :: y14 :: y15 :: .own v :: l)) = some v := rfl
theorem ss16 (P : Pr) (y9 y10 y11 y12 y13 y14 y15 : S) (v y : S) (l : List S) : (P.st (y9 :: y10 :: y11 :: y12 :: y13 :: y14 :: y15 :: y :: l)).set 16 v = P.st (y9 :: y10 :: y11 :: y12 :: y13 :: y14 :: y15 :: v :: l) := rfl
theorem sv17 (P : Pr) (y9 y10 y11 y12 y13 y14 y15 y16 : S) (v : V) (l : List S) : rd 17 (P.st (y9 :: y10 :: y11 :: y12 :: y13 :: y14 :: y15 :: y16 :: .val v :: l)) = some (.val v) := rfl
theorem so17 (P : Pr) (y9 y10 y11 y12 y13 y14 y15 y16 : S) (v : List V) (l : List S) : rd 17 (P.st (y9 :: y10 :: y11 :: y12 :: y13 :: y14 :: y15 :: y16 :: .own v :: l)) = some (.own v) := rfl
theorem sg17 (P : Pr) (y9 y10 y11 y12 y13 y14 y15 y16 : S) (v : List V) (l : List S) : getOwn 17 (P.st (y9 :: y10 :: y11 :: y12 :: y13 :: y14 :: y15 :: y16 :: .own v :: l)) = some v := rfl
theorem ss17 (P : Pr) (y9 y10 y11 y12 y13 y14 y15 y16 : S) (v y : S) (l : List S) : (P.st (y9 :: y10 :: y11 :: y12 :: y13 :: y14 :: y15 :: y16 :: y :: l)).set 17 v = P.st (y9 :: y10 :: y11 :: y12 :: y13 :: y14 :: y15 :: y16 :: v :: l) := rfl
theorem sv18 (P : Pr) (y9 y10 y11 y12 y13 y14 y15 y16 y17 : S) (v : V) (l : List S) : rd 18 (P.st (y9 :: y10 :: y11 :: y12 :: y13 :: y14 :: y15 :: y16 :: y17 :: .val v :: l)) = some (.val v) := rfl
theorem so18 (P : Pr) (y9 y10 y11 y12 y13 y14 y15 y16 y17 : S) (v : List V) (l : List S) : rd 18 (P.st (y9 :: y10 :: y11 :: y12 :: y13 :: y14 :: y15 :: y16 :: y17 :: .own v :: l)) = some (.own v) := rfl
theorem sg18 (P : Pr) (y9 y10 y11 y12 y13 y14 y15 y16 y17 : S) (v : List V) (l : List S) : getOwn 18 (P.st (y9 :: y10 :: y11 :: y12 :: y13 :: y14 :: y15 :: y16 :: y17 :: .own v :: l)) = some v := rfl
theorem ss18 (P : Pr) (y9 y10 y11 y12 y13 y14 y15 y16 y17 : S) (v y : S) (l : List S) : (P.st (y9 :: y10 :: y11 :: y12 :: y13 :: y14 :: y15 :: y16 :: y17 :: y :: l)).set 18 v = P.st (y9 :: y10 :: y11 :: y12 :: y13 :: y14 :: y15 :: y16 :: y17 :: v :: l) := rfl
theorem sv19 (P : Pr) (y9 y10 y11 y12 y13 y14 y15 y16 y17 y18 : S) (v : V) (l : List S) : rd 19 (P.st (y9 :: y10 :: y11 :: y12 :: y13 :: y14 :: y15 :: y16 :: y17 :: y18 :: .val v :: l)) = some (.val v) := rfl
theorem so19 (P : Pr) (y9 y10 y11 y12 y13 y14 y15 y16 y17 y18 : S) (v : List V) (l : List S) : rd 19 (P.st (y9 :: y10 :: y11 :: y12 :: y13 :: y14 :: y15 :: y16 :: y17 :: y18 :: .own v :: l)) = some (.own v) := rfl
theorem sg19 (P : Pr) (y9 y10 y11 y12 y13 y14 y15 y16 y17 y18 : S) (v : List V) (l : List S) : getOwn 19 (P.st (y9 :: y10 :: y11 :: y12 :: y13 :: y14 :: y15 :: y16 :: y17 :: y18 :: .own v :: l)) = some v := rfl
theorem ss19 (P : Pr) (y9 y10 y11 y12 y13 y14 y15 y16 y17 y18 : S) (v y : S) (l : List S) : (P.st (y9 :: y10 :: y11 :: y12 :: y13 :: y14 :: y15 :: y16 :: y17 :: y18 :: y :: l)).set 19 v = P.st (y9 :: y10 :: y11 :: y12 :: y13 :: y14 :: y15 :: y16 :: y17 :: y18 :: v :: l) := rfl
theorem sv20 (P : Pr) (y9 y10 y11 y12 y13 y14 y15 y16 y17 y18 y19 : S) (v : V) (l : List S) : rd 20 (P.st (y9 :: y10 :: y11 :: y12 :: y13 :: y14 :: y15 :: y16 :: y17 :: y18 :: y19 :: .val v :: l)) = some (.val v) := rfl
theorem so20 (P : Pr) (y9 y10 y11 y12 y13 y14 y15 y16 y17 y18 y19 : S) (v : List V) (l : List S) : rd 20 (P.st (y9 :: y10 :: y11 :: y12 :: y13 :: y14 :: y15 :: y16 :: y17 :: y18 :: y19 :: .own v :: l)) = some (.own v) := rfl
theorem sg20 (P : Pr) (y9 y10 y11 y12 y13 y14 y15 y16 y17 y18 y19 : S) (v : List V) (l : List S) : getOwn 20 (P.st (y9 :: y10 :: y11 :: y12 :: y13 :: y14 :: y15 :: y16 :: y17 :: y18 :: y19 :: .own v :: l)) = some v := rfl
theorem ss20 (P : Pr) (y9 y10 y11 y12 y13 y14 y15 y16 y17 y18 y19 : S) (v y : S) (l : List S) : (P.st (y9 :: y10 :: y11 :: y12 :: y13 :: y14 :: y15 :: y16 :: y17 :: y18 :: y19 :: y :: l)).set 20 v = P.st (y9 :: y10 :: y11 :: y12 :: y13 :: y14 :: y15 :: y16 :: y17 :: y18 :: y19 :: v :: l) := rfl
theorem sv21 (P : Pr) (y9 y10 y11 y12 y13 y14 y15 y16 y17 y18 y19 y20 : S) (v : V) (l : List S) : rd 21 (P.st (y9 :: y10 :: y11 :: y12 :: y13 :: y14 :: y15 :: y16 :: y17 :: y18 :: y19 :: y20 :: .val v :: l)) = some (.val v) := rfl
theorem so21 (P : Pr) (y9 y10 y11 y12 y13 y14 y15 y16 y17 y18 y19 y20 : S) (v : List V) (l : List S) : rd 21 (P.st (y9 :: y10 :: y11 :: y12 :: y13 :: y14 :: y15 :: y16 :: y17 :: y18 :: y19 :: y20 :: .own v :: l)) = some (.own v) := rfl
theorem sg21 (P : Pr) (y9 y10 y11 y12 y13 y14 y15 y16 y17 y18 y19 y20 : S) (v : List V) (l : List S) : getOwn 21 (P.st (y9 :: y10 :: y11 :: y12 :: y13 :: y14 :: y15 :: y16 :: y17 :: y18 :: y19 :: y20 :: .own v :: l)) = some v := rfl
theorem ss21 (P : Pr) (y9 y10 y11 y12 y13 y14 y15 y16 y17 y18 y19 y20 : S) (v y : S) (l : List S) : (P.st (y9 :: y10 :: y11 :: y12 :: y13 :: y14 :: y15 :: y16 :: y17 :: y18 :: y19 :: y20 :: y :: l)).set 21 v = P.st (y9 :: y10 :: y11 :: y12 :: y13 :: y14 :: y15 :: y16 :: y17 :: y18 :: y19 :: y20 :: v :: l) := rfl
theorem sv22 (P : Pr) (y9 y10 y11 y12 y13 y14 y15 y16 y17 y18 y19 y20 y21 : S) (v : V) (l : List S) : rd 22 (P.st (y9 :: y10 :: y11 :: y12 :: y13 :: y14 :: y15 :: y16 :: y17 :: y18 :: y19 :: y20 :: y21 :: .val v :: l)) = some (.val v) := rfl
theorem so22 (P : Pr) (y9 y10 y11 y12 y13 y14 y15 y16 y17 y18 y19 y20 y21 : S) (v : List V) (l : List S) : rd 22 (P.st (y9 :: y10 :: y11 :: y12 :: y13 :: y14 :: y15 :: y16 :: y17 :: y18 :: y19 :: y20 :: y21 :: .own v :: l)) = some (.own v) := rfl
theorem sg22 (P : Pr) (y9 y10 y11 y12 y13 y14 y15 y16 y17 y18 y19 y20 y21 : S) (v : List V) (l : List S) : getOwn 22 (P.st (y9 :: y10 :: y11 :: y12 :: y13 :: y14 :: y15 :: y16 :: y17 :: y18 :: y19 :: y20 :: y21 :: .own v :: l)) = some v := rfl
theorem ss22 (P : Pr) (y9 y10 y11 y12 y13 y14 y15 y16 y17 y18 y19 y20 y21 : S) (v y : S) (l : List S) : (P.st (y9 :: y10 :: y11 :: y12 :: y13 :: y14 :: y15 :: y16 :: y17 :: y18 :: y19 :: y20 :: y21 :: y :: l)).set 22 v = P.st (y9 :: y10 :: y11 :: y12 :: y13 :: y14 :: y15 :: y16 :: y17 :: y18 :: y19 :: y20 :: y21 :: v :: l) := rfl
theorem sv23 (P : Pr) (y9 y10 y11 y12 y13 y14 y15 y16 y17 y18 y19 y20 y21 y22 : S) (v : V) (l : List S) : rd 23 (P.st (y9 :: y10 :: y11 :: y12 :: y13 :: y14 :: y15 :: y16 :: y17 :: y18 :: y19 :: y20 :: y21 :: y22 :: .val v :: l)) = some (.val v) := rfl
theorem so23 (P : Pr) (y9 y10 y11 y12 y13 y14 y15 y16 y17 y18 y19 y20 y21 y22 : S) (v : List V) (l : List S) : rd 23 (P.st (y9 :: y10 :: y11 :: y12 :: y13 :: y14 :: y15 :: y16 :: y17 :: y18 :: y19 :: y20 :: y21 :: y22 :: .own v :: l)) = some (.own v) := rfl
theorem sg23 (P : Pr) (y9 y10 y11 y12 y13 y14 y15 y16 y17 y18 y19 y20 y21 y22 : S) (v : List V) (l : List S) : getOwn 23 (P.st (y9 :: y10 :: y11 :: y12 :: y13 :: y14 :: y15 :: y16 :: y17 :: y18 :: y19 :: y20 :: y21 :: y22 :: .own v :: l)) = some v := rfl
theorem ss23 (P : Pr) (y9 y10 y11 y12 y13 y14 y15 y16 y17 y18 y19 y20 y21 y22 : S) (v y : S) (l : List S) : (P.st (y9 :: y10 :: y11 :: y12 :: y13 :: y14 :: y15 :: y16 :: y17 :: y18 :: y19 :: y20 :: y21 :: y22 :: y :: l)).set 23 v = P.st (y9 :: y10 :: y11 :: y12 :: y13 :: y14 :: y15 :: y16 :: y17 :: y18 :: y19 :: y20 :: y21 :: y22 :: v :: l) := rfl
theorem sv24 (P : Pr) (y9 y10 y11 y12 y13 y14 y15 y16 y17 y18 y19 y20 y21 y22 y23 : S) (v : V) (l : List S) : rd 24 (P.st (y9 :: y10 :: y11 :: y12 :: y13 :: y14 :: y15 :: y16 :: y17 :: y18 :: y19 :: y20 :: y21 :: y22 :: y23 :: .val v :: l)) = some (.val v) := rfl
theorem so24 (P : Pr) (y9 y10 y11 y12 y13 y14 y15 y16 y17 y18 y19 y20 y21 y22 y23 : S) (v : List V) (l : List S) : rd 24 (P.st (y9 :: y10 :: y11 :: y12 :: y13 :: y14 :: y15 :: y16 :: y17 :: y18 :: y19 :: y20 :: y21 :: y22 :: y23 :: .own v :: l)) = some (.own v) := rfl
theorem sg24 (P : Pr) (y9 y10 y11 y12 y13 y14 y15 y16 y17 y18 y19 y20 y21 y22 y23 : S) (v : List V) (l : List S) : getOwn 24 (P.st (y9 :: y10 :: y11 :: y12 :: y13 :: y14 :: y15 :: y16 :: y17 :: y18 :: y19 :: y20 :: y21 :: y22 :: y23 :: .own v :: l)) = some v := rfl
theorem ss24 (P : Pr) (y9 y10 y11 y12 y13 y14 y15 y16 y17 y18 y19 y20 y21 y22 y23 : S) (v y : S) (l : List S) : (P.st (y9 :: y10 :: y11 :: y12 :: y13 :: y14 :: y15 :: y16 :: y17 :: y18 :: y19 :: y20 :: y21 :: y22 :: y23 :: y :: l)).set 24 v = P.st (y9 :: y10 :: y11 :: y12 :: y13 :: y14 :: y15 :: y16 :: y17 :: y18 :: y19 :: y20 :: y21 :: y22 :: y23 :: v :: l) := rfl
theorem sv25 (P : Pr) (y9 y10 y11 y12 y13 y14 y15 y16 y17 y18 y19 y20 y21 y22 y23 y24 : S) (v : V) (l : List S) : rd 25 (P.st (y9 :: y10 :: y11 :: y12 :: y13 :: y14 :: y15 :: y16 :: y17 :: y18 :: y19 :: y20 :: y21 :: y22 :: y23 :: y24 :: .val v :: l)) = some (.val v) := rfl
theorem so25 (P : Pr) (y9 y10 y11 y12 y13 y14 y15 y16 y17 y18 y19 y20 y21 y22 y23 y24 : S) (v : List V) (l : List S) : rd 25 (P.st (y9 :: y10 :: y11 :: y12 :: y13 :: y14 :: y15 :: y16 :: y17 :: y18 :: y19 :: y20 :: y21 :: y22 :: y23 :: y24 :: .own v :: l)) = some (.own v) := rfl
theorem sg25 (P : Pr) (y9 y10 y11 y12 y13 y14 y15 y16 y17 y18 y19 y20 y21 y22 y23 y24 : S) (v : List V) (l : List S) : getOwn 25 (P.st (y9 :: y10 :: y11 :: y12 :: y13 :: y14 :: y15 :: y16 :: y17 :: y18 :: y19 :: y20 :: y21 :: y22 :: y23 :: y24 :: .own v :: l)) = some v := rfl
theorem ss25 (P : Pr) (y9 y10 y11 y12 y13 y14 y15 y16 y17 y18 y19 y20 y21 y22 y23 y24 : S) (v y : S) (l : List S) : (P.st (y9 :: y10 :: y11 :: y12 :: y13 :: y14 :: y15 :: y16 :: y17 :: y18 :: y19 :: y20 :: y21 :: y22 :: y23 :: y24 :: y :: l)).set 25 v = P.st (y9 :: y10 :: y11 :: y12 :: y13 :: y14 :: y15 :: y16 :: y17 :: y18 :: y19 :: y20 :: y21 :: y22 :: y23 :: y24 :: v :: l) := rfl
theorem l17_in {P : Pr} {t0 : Nat} (hP : P.Ok t0) {w : List Bool} (hw : w ∈ doms) (p : Nat) (hp : p < 9) (fb : SF)
    (Z : List V) (hZ : Z.length ≤ 100) (y11 y13 y14 y15 y16 y17 y18 : S) (r : List S)
    (h : ∀ (t : Nat) (y21 : S) (Z : List V), t < 4 → Z.length ≤ 200 → 
      fb (P.st (.val (.str (P.tx w)) :: .val (.int (p : Nat)) :: y11 :: .val (.lst (lvW w)) :: y13 :: y14 :: y15 :: y16 :: y17 :: y18 :: .own Z :: .val (.int (t : Nat)) :: y21 :: r)) = some (.next, P.st (.val (.str (P.tx w)) :: .val (.int (p : Nat)) :: y11 :: .val (.lst (lvW w)) :: y13 :: y14 :: y15 :: y16 :: y17 :: y18 :: .own (Z ++ szP (lvn w (p + 1)) t) :: .val (.int (t : Nat)) :: .val (.int ((lvn w (p + 1) + 5 * t : Nat))) :: r))) :
    ∀ (m t : Nat) (y20 y21 : S), t + m = 4 → ∃ z20 z21 : S, forL fb 20 (rngL t m) (P.st (.val (.str (P.tx w)) :: .val (.int (p : Nat)) :: y11 :: .val (.lst (lvW w)) :: y13 :: y14 :: y15 :: y16 :: y17 :: y18 :: .own (Z ++ szI (lvn w (p + 1)) t) :: y20 :: y21 :: r)) = some (.next, P.st (.val (.str (P.tx w)) :: .val (.int (p : Nat)) :: y11 :: .val (.lst (lvW w)) :: y13 :: y14 :: y15 :: y16 :: y17 :: y18 :: .own (Z ++ szI (lvn w (p + 1)) 4) :: z20 :: z21 :: r))
  | 0, t, y20, y21, ht => by
    obtain rfl : t = 4 := by omega
    exact ⟨y20, y21, rfl⟩
  | m + 1, t, y20, y21, ht => by
    have hz := szI_len (lvn w (p + 1)) t
    have e := h t y21 (Z ++ szI (lvn w (p + 1)) t) (by omega) (by rw [List.length_append]; omega)
    obtain ⟨z20, z21, e2⟩ := l17_in hP hw p hp fb Z hZ y11 y13 y14 y15 y16 y17 y18 r h m (t + 1) (.val (.int (t : Nat))) (.val (.int ((lvn w (p + 1) + 5 * t : Nat)))) (by omega)
    refine ⟨z20, z21, ?_⟩
    show forL fb 20 (.int (t : Nat) :: rngL (t + 1) m) _ = _
    unfold forL
    rw [ss20, e]
    rw [List.append_assoc]
    exact e2
theorem l17_in0 {P : Pr} {t0 : Nat} (hP : P.Ok t0) {w : List Bool} (hw : w ∈ doms) (p : Nat) (hp : p < 9) (Z : List V) (hZ : Z.length ≤ 100) (y11 y13 y14 y15 y16 y17 y18 y20 y21 : S) (r : List S) (fb : SF) 
    (h : ∀ (t : Nat) (y21 : S) (Z : List V), t < 4 → Z.length ≤ 200 → 
      fb (P.st (.val (.str (P.tx w)) :: .val (.int (p : Nat)) :: y11 :: .val (.lst (lvW w)) :: y13 :: y14 :: y15 :: y16 :: y17 :: y18 :: .own Z :: .val (.int (t : Nat)) :: y21 :: r)) = some (.next, P.st (.val (.str (P.tx w)) :: .val (.int (p : Nat)) :: y11 :: .val (.lst (lvW w)) :: y13 :: y14 :: y15 :: y16 :: y17 :: y18 :: .own (Z ++ szP (lvn w (p + 1)) t) :: .val (.int (t : Nat)) :: .val (.int ((lvn w (p + 1) + 5 * t : Nat))) :: r))) :
    ∃ z20 z21 : S, forL fb 20 (rngL 0 4) (P.st (.val (.str (P.tx w)) :: .val (.int (p : Nat)) :: y11 :: .val (.lst (lvW w)) :: y13 :: y14 :: y15 :: y16 :: y17 :: y18 :: .own Z :: y20 :: y21 :: r)) = some (.next, P.st (.val (.str (P.tx w)) :: .val (.int (p : Nat)) :: y11 :: .val (.lst (lvW w)) :: y13 :: y14 :: y15 :: y16 :: y17 :: y18 :: .own (Z ++ szI (lvn w (p + 1)) 4) :: z20 :: z21 :: r)) := by
  have := l17_in hP hw p hp fb Z hZ y11 y13 y14 y15 y16 y17 y18 r h 4 0 y20 y21 (by omega)
  rw [show szI (lvn w (p + 1)) 0 = [] from rfl, List.append_nil] at this
  exact this
theorem l17_it {P : Pr} {t0 : Nat} (hP : P.Ok t0) {w : List Bool} (hw : w ∈ doms) : ∃ fb : SF, (l_17 t0).1 = (fun σ => forL fb 10 (rngL 0 9) σ) ∧
    ∀ (p : Nat) (y11 y13 y14 y15 y16 y17 y18 y20 y21 : S) (r : List S), p < 9 → ∃ (z20 z21 : S), 
      fb (P.st (.val (.str (P.tx w)) :: .val (.int p) :: y11 :: .val (.lst (lvW w)) :: y13 :: y14 :: y15 :: y16 :: y17 :: y18 :: .own (szW w p) :: y20 :: y21 :: r)) = some (.next, P.st (.val (.str (P.tx w)) :: .val (.int p) :: y11 :: .val (.lst (lvW w)) :: y13 :: y14 :: y15 :: y16 :: y17 :: y18 :: .own (szW w (p + 1)) :: z20 :: z21 :: r)) := by
  refine ⟨?fb, ?h1, ?h2⟩
  case h1 =>
    funext σ
    unfold l_17
    have e : (some (R.val (V.rng 0 9))).bind R.iter = some (rngL 0 9) := rfl
    simp only [rangeR]
    rw [e]
  intro p y11 y13 y14 y15 y16 y17 y18 y20 y21 r hp
  have hl := dom_len hw
  have hcd := hP.cd
  have hcb : (P.d == P.c) = false := by simpa using Ne.symm hcd
  have e1 := tx_idx P w hl p hp
  have hszl := szW_len w p
  obtain ⟨e2, e3⟩ := lvn_idx hw (p + 1) (by omega)
  have hszW : szW w (p + 1) = szW w p ++ (if w[p]?.getD false then [] else szI (lvn w (p + 1)) 4) := by rw [szW]
  rw [hszW]
  have er4 : (some (R.val (V.rng 0 4))).bind R.iter = some (rngL 0 4) := rfl
  cases hb : w[p]?.getD false with
  | true =>
    rw [hb] at e1
    refine ⟨y20, y21, ?_⟩
    simp only [st0, st1, st2, st5, st7, sv9, so9, sg9, ss9, sv10, so10, sg10, ss10, sv11, so11, sg11, ss11, sv12, so12, sg12, ss12, sv13, so13, sg13, ss13, sv14, so14, sg14, ss14, sv15, so15, sg15, ss15, sv16, so16, sg16, ss16, sv17, so17, sg17, ss17, sv18, so18, sg18, ss18, sv19, so19, sg19, ss19, sv20, so20, sg20, ss20, sv21, so21, sg21, ss21, sv22, so22, sg22, ss22, sv23, so23, sg23, ss23, sv24, so24, sg24, ss24, sv25, so25, sg25, ss25]
    simp [e1, sg, eqR, veq, R.asV, boolR, hcb]
  | false =>
    rw [hb] at e1
    have key := l17_in0 hP hw p hp (szW w p) (by omega) y11 y13 y14 y15 y16 y17 y18 y20 y21 r
    simp only [st0, st1, st2, st5, st7, sv9, so9, sg9, ss9, sv10, so10, sg10, ss10, sv11, so11, sg11, ss11, sv12, so12, sg12, ss12, sv13, so13, sg13, ss13, sv14, so14, sg14, ss14, sv15, so15, sg15, ss15, sv16, so16, sg16, ss16, sv17, so17, sg17, ss17, sv18, so18, sg18, ss18, sv19, so19, sg19, ss19, sv20, so20, sg20, ss20, sv21, so21, sg21, ss21, sv22, so22, sg22, ss22, sv23, so23, sg23, ss23, sv24, so24, sg24, ss24, sv25, so25, sg25, ss25, e1, sg, eqR, veq, R.asV, boolR, er4, rangeR, Option.map_some, Option.bind_some, Bool.false_eq_true, if_false, beq_self_eq_true]
    apply Exists.elim (key _ ?hF)
    · intro z20 hz
      apply Exists.elim hz
      intro z21 e
      refine ⟨z20, z21, ?_⟩
      rw [e]
    case hF =>
      intro t y21 Z ht hZ
      obtain ⟨s, g1, g2⟩ := write_len hP (lvn w (p + 1)) t e3 (by omega)
      have m1 := mul_one 120 (lvn w (p + 1)) (by omega)
      have m2 := mul_one P.d t (by omega)
      have n1 : (List.replicate (lvn w (p + 1)) 120).length + (List.replicate t P.d).length ≤ 1048576 := by simp; omega
      have n2 : s.length ≤ 1048576 := by omega
      have n3 : Z.length ≤ 1048576 := by omega
      have n4 : lvn w (p + 1) + 5 * t ≤ 1048576 := by omega
      have e2' : idxR (R.val (V.lst (lvW w))) (R.val (V.int (↑p + 1))) = some (R.val (V.int ↑(lvn w (p + 1)))) := e2
      unfold szP
      simp only [st0, st1, st2, st5, st7, sv9, so9, sg9, ss9, sv10, so10, sg10, ss10, sv11, so11, sg11, ss11, sv12, so12, sg12, ss12, sv13, so13, sg13, ss13, sv14, so14, sg14, ss14, sv15, so15, sg15, ss15, sv16, so16, sg16, ss16, sv17, so17, sg17, ss17, sv18, so18, sg18, ss18, sv19, so19, sg19, ss19, sv20, so20, sg20, ss20, sv21, so21, sg21, ss21, sv22, so22, sg22, ss22, sv23, so23, sg23, ss23, sv24, so24, sg24, ss24, sv25, so25, sg25, ss25, addR, e2', m1, m2, Option.bind_some, R.fz, n1, if_true, g1, lenR, Option.map_some, n2, g2, n4]
      by_cases hlt : lvn w (p + 1) + 5 * t < 16
      · have hlt2 : (((lvn w (p + 1) + 5 * t : Nat) : Int) < 16) := by omega
        simp only [ltR, c2, hlt2, hlt, decide_true, Option.bind_some, boolR, st0, st1, st2, st5, st7, sv9, so9, sg9, ss9, sv10, so10, sg10, ss10, sv11, so11, sg11, ss11, sv12, so12, sg12, ss12, sv13, so13, sg13, ss13, sv14, so14, sg14, ss14, sv15, so15, sg15, ss15, sv16, so16, sg16, ss16, sv17, so17, sg17, ss17, sv18, so18, sg18, ss18, sv19, so19, sg19, ss19, sv20, so20, sg20, ss20, sv21, so21, sg21, ss21, sv22, so22, sg22, ss22, sv23, so23, sg23, ss23, sv24, so24, sg24, ss24, sv25, so25, sg25, ss25, n3, if_true, R.fz]
      · have hlt2 : ¬ (((lvn w (p + 1) + 5 * t : Nat) : Int) < 16) := by omega
        simp only [ltR, c2, hlt2, hlt, decide_false, Option.bind_some, boolR, if_false, List.append_nil]
theorem l17_loop (P : Pr) {w : List Bool} (fb : SF) (h : ∀ (p : Nat) (y11 y13 y14 y15 y16 y17 y18 y20 y21 : S) (r : List S), p < 9 → ∃ (z20 z21 : S), 
      fb (P.st (.val (.str (P.tx w)) :: .val (.int p) :: y11 :: .val (.lst (lvW w)) :: y13 :: y14 :: y15 :: y16 :: y17 :: y18 :: .own (szW w p) :: y20 :: y21 :: r)) = some (.next, P.st (.val (.str (P.tx w)) :: .val (.int p) :: y11 :: .val (.lst (lvW w)) :: y13 :: y14 :: y15 :: y16 :: y17 :: y18 :: .own (szW w (p + 1)) :: z20 :: z21 :: r))) :
    ∀ (n p : Nat) (y10 y11 y13 y14 y15 y16 y17 y18 y20 y21 : S) (r : List S), p + n = 9 → ∃ (z10 z20 z21 : S), forL fb 10 (rngL p n) (P.st (.val (.str (P.tx w)) :: y10 :: y11 :: .val (.lst (lvW w)) :: y13 :: y14 :: y15 :: y16 :: y17 :: y18 :: .own (szW w p) :: y20 :: y21 :: r)) = some (.next, P.st (.val (.str (P.tx w)) :: z10 :: y11 :: .val (.lst (lvW w)) :: y13 :: y14 :: y15 :: y16 :: y17 :: y18 :: .own (szW w 9) :: z20 :: z21 :: r))
  | 0, p, y10, y11, y13, y14, y15, y16, y17, y18, y20, y21, r, hp => by
    obtain rfl : p = 9 := by omega
    exact ⟨y10, y20, y21, rfl⟩
  | n + 1, p, y10, y11, y13, y14, y15, y16, y17, y18, y20, y21, r, hp => by
    obtain ⟨z20, z21, e⟩ := h p y11 y13 y14 y15 y16 y17 y18 y20 y21 r (by omega)
    obtain ⟨w10, w20, w21, e2⟩ := l17_loop P fb h n (p + 1) (.val (.int p)) y11 y13 y14 y15 y16 y17 y18 z20 z21 r (by omega)
    refine ⟨w10, w20, w21, ?_⟩
    show forL fb 10 (.int p :: rngL (p + 1) n) _ = _
    unfold forL
    rw [ss10, e]
    exact e2
theorem l17_eq {P : Pr} {t0 : Nat} (hP : P.Ok t0) {w : List Bool} (hw : w ∈ doms) (y10 y11 y13 y14 y15 y16 y17 y18 y20 y21 : S) (r : List S) :
    ∃ (z10 z20 z21 : S), (l_17 t0).1 (P.st (.val (.str (P.tx w)) :: y10 :: y11 :: .val (.lst (lvW w)) :: y13 :: y14 :: y15 :: y16 :: y17 :: y18 :: .own [] :: y20 :: y21 :: r)) = some (.next, P.st (.val (.str (P.tx w)) :: z10 :: y11 :: .val (.lst (lvW w)) :: y13 :: y14 :: y15 :: y16 :: y17 :: y18 :: .own (szW w 9) :: z20 :: z21 :: r)) := by
  obtain ⟨fb, e, h⟩ := l17_it hP hw
  rw [e]
  exact l17_loop P fb h 9 0 y10 y11 y13 y14 y15 y16 y17 y18 y20 y21 r (by omega)
end Mine

namespace Mine
noncomputable def szNP (n t : Nat) : List Nat := if n + 5 * t < 16 then [n + 5 * t] else []
noncomputable def szNI (n : Nat) : Nat → List Nat
  | 0 => []
  | t + 1 => szNI n t ++ szNP n t
noncomputable def szNW (w : List Bool) : Nat → List Nat
  | 0 => []
  | p + 1 => szNW w p ++ (if w[p]?.getD false then [] else szNI (lvn w (p + 1)) 4)
theorem szP_eq (n t : Nat) : szP n t = (szNP n t).map fun n => V.int (n : Nat) := by
  unfold szP szNP
  split <;> rfl
theorem szI_eq (n : Nat) : ∀ t, szI n t = (szNI n t).map fun n => V.int (n : Nat)
  | 0 => rfl
  | t + 1 => by rw [szI, szNI, List.map_append, szI_eq n t, szP_eq]
theorem szW_eq (w : List Bool) : ∀ p, szW w p = (szNW w p).map fun n => V.int (n : Nat)
  | 0 => rfl
  | p + 1 => by
    rw [szW, szNW, List.map_append, szW_eq w p]
    split
    · rfl
    · rw [szI_eq]
theorem szN_all : (doms.all fun w => (szNW w 9).all fun n => decide (n < 16)) = true := by decide +kernel
theorem szN_lt {w : List Bool} (h : w ∈ doms) : ∀ n ∈ szNW w 9, n < 16 := fun n hn => by
  have := List.all_eq_true.mp (List.all_eq_true.mp szN_all w h) n hn
  simpa using this
noncomputable def sumN (w : List Bool) : Int := ((szNW w 9).map fun n => (2 : Int) ^ n).sum
noncomputable def wordF (w : List Bool) : List UInt8 := match g_Int2AP [.int (sumN w)] with | some (.byt l) => l | _ => []
noncomputable def wordChk (w : List Bool) (s : Int) : Bool := match g_Int2AP [.int (sumN w * s)] with | some (.byt l) => l == wordF w | _ => false
theorem word_all1 : (doms.all fun w => wordChk w 1) = true := by decide +kernel
theorem word_all2 : (doms.all fun w => wordChk w (-1)) = true := by decide +kernel
theorem word_of {w : List Bool} (h : w ∈ doms) {s : Int} (hs : s = 1 ∨ s = -1) : g_Int2AP [.int (sumN w * s)] = some (.byt (wordF w)) := by
  have : wordChk w s = true := by
    rcases hs with rfl | rfl
    · exact List.all_eq_true.mp word_all1 w h
    · exact List.all_eq_true.mp word_all2 w h
  unfold wordChk at this
  split at this
  · rename_i l e
    rw [e, beq_iff_eq.mp this]
  · cases this
theorem l18_eq {P : Pr} {t0 : Nat} {w : List Bool} (h : w ∈ doms) (y9 y10 y11 y12 y13 y14 y15 y16 y17 y18 y20 y21 y22 : S) (r : List S) :
    (l_18 t0).1 (P.st (y9 :: y10 :: y11 :: y12 :: y13 :: y14 :: y15 :: y16 :: y17 :: y18 :: .own (szW w 9) :: y20 :: y21 :: y22 :: r)) = some (.next, P.st (y9 :: y10 :: y11 :: y12 :: y13 :: y14 :: y15 :: y16 :: y17 :: y18 :: .own (szW w 9) :: y20 :: y21 :: .val (.byt (wordF w)) :: r)) := by
  have hx : 0 ≤ (P.tot.fdiv 3).fmod 2 ∧ (P.tot.fdiv 3).fmod 2 < 2 := ⟨Int.fmod_nonneg_of_pos _ (by omega), Int.fmod_lt_of_pos _ (by omega)⟩
  have hs : 1 - (P.tot.fdiv 3).fmod 2 * 2 = 1 ∨ 1 - (P.tot.fdiv 3).fmod 2 * 2 = -1 := by omega
  have hw := word_of h hs
  have hna : ((P.tot.fdiv 3).fmod 2).natAbs < 18446744073709551616 ∨ (2 : Int).natAbs < 18446744073709551616 := .inr (by decide)
  have hnb : (sumN w).natAbs < 18446744073709551616 ∨ (1 - (P.tot.fdiv 3).fmod 2 * 2).natAbs < 18446744073709551616 := .inr (by omega)
  have key : ∀ (ft : List S → Option Bool) (fe : List S → Option R), (∀ x, ft x = some true) → (∀ n : Nat, n < 16 → (fe [.val (.int (n : Nat))]).bind R.fz = some (.int (2 ^ n))) →
      compL ft fe [] (szW w 9) = some (((szNW w 9).map fun n => (2 : Int) ^ n).map V.int) := by
    intro ft fe q1 q2
    rw [szW_eq, compL_map (fun n : Nat => V.int (n : Nat)) (fun n => .int (2 ^ n)) (szNW w 9) (fun a ha => ⟨q1 _, q2 a (szN_lt h a ha)⟩), List.map_map]
    rfl
  have hl1 : (szW w 9).length ≤ 1048576 := by have := szW_len w 9; omega
  have hl : (((szNW w 9).map fun n => (2 : Int) ^ n).map V.int).length ≤ 1048576 := by
    rw [szW_eq, List.length_map] at hl1
    rw [List.length_map, List.length_map]; exact hl1
  have er : (R.own (szW w 9)).iterB = some (szW w 9) := rfl
  have hsum : sumR [R.new (((szNW w 9).map fun n => (2 : Int) ^ n).map V.int)] = some (.val (.int (sumN w))) := by
    simp only [sumR, R.items, Option.bind_some, ofI_map]
    rfl
  have m1 : mulR (.val (.int ((P.tot.fdiv 3).fmod 2))) (.val (.int 2)) = some (.val (.int ((P.tot.fdiv 3).fmod 2 * 2))) := by
    show (if _ then _ else _) = _
    rw [if_pos hna]
  have m2 : mulR (.val (.int (sumN w))) (.val (.int (1 - (P.tot.fdiv 3).fmod 2 * 2))) = some (.val (.int (sumN w * (1 - (P.tot.fdiv 3).fmod 2 * 2)))) := by
    show (if _ then _ else _) = _
    rw [if_pos hnb]
  have f1 : fdivR (.val (.int P.tot)) (.val (.int 3)) = some (.val (.int (P.tot.fdiv 3))) := rfl
  have f2 : modR (.val (.int (P.tot.fdiv 3))) (.val (.int 2)) = some (.val (.int ((P.tot.fdiv 3).fmod 2))) := rfl
  have f3 : subR (.val (.int 1)) (.val (.int ((P.tot.fdiv 3).fmod 2 * 2))) = some (.val (.int (1 - (P.tot.fdiv 3).fmod 2 * 2))) := rfl
  unfold l_18
  simp only [so19, st1, compF, er, Option.bind_some, List.map_nil]
  rw [key _ _ (fun _ => rfl) (fun n hn => by
    have e1 : rd 0 [S.val (V.int (n : Nat))] = some (.val (.int n)) := rfl
    simp only [e1, powR, i2]
    rw [if_pos (by omega)]
    simp [R.fz])]
  simp only [Option.bind_some, hl, if_true, hsum, f1, f2, m1, f3, m2, R.fz, hw, Option.map_some, ss22]
theorem l19_eq (P : Pr) (t0 : Nat) (b : List UInt8) (y9 y10 y11 y12 y13 y14 y15 y16 y17 y18 y19 y20 y21 : S) (r : List S) :
    (l_19 t0).1 (P.st (y9 :: y10 :: y11 :: y12 :: y13 :: y14 :: y15 :: y16 :: y17 :: y18 :: y19 :: y20 :: y21 :: .val (.byt b) :: r)) = some (.next, P.st (y9 :: y10 :: y11 :: y12 :: y13 :: y14 :: y15 :: y16 :: y17 :: y18 :: y19 :: y20 :: y21 :: .val (.byt b) :: r)) := rfl
noncomputable def rightF (bg : List Int) (four : Int) : Int := ((bg.filter fun b => decide (b.fdiv 4 ≤ four)).map fun b => (2 : Int) ^ (b.fmod 4).toNat).sum
theorem words_all : (doms.all fun w => ((wordF w).map fun c => (c.toNat : Int) - 65) == [rightF (begs w) 3, rightF (begs w) 2, rightF (begs w) 1, rightF (begs w) 0]) = true := by decide +kernel
theorem allO_true : ∀ l : List Int, allO (List.zipWith (veq 4) (l.map V.int) (l.map V.int)) = some true
  | [] => rfl
  | a :: r => by
    have := allO_true r
    rw [List.map_cons, List.zipWith_cons_cons]
    have e : veq 4 (V.int a) (V.int a) = some true := by simp [veq]
    rw [e, allO, this]
    rfl
theorem neR_same (l : List Int) : neR (.new (l.map V.int)) (.new (l.map V.int)) = some (.val (.bool false)) := by
  unfold neR R.asV
  have : veq 5 (.lst (l.map V.int)) (.lst (l.map V.int)) = some true := by
    show (if (l.map V.int).length = (l.map V.int).length then allO (List.zipWith (veq 4) (l.map V.int) (l.map V.int)) else some false) = _
    rw [if_pos rfl, allO_true]
  rw [this]
  rfl
theorem begs_len (w : List Bool) : (begs w).length ≤ 9 := by
  unfold begs
  have := List.length_filter_le (fun i => w[i]?.getD false) (List.range 9)
  simp at this ⊢; omega
theorem right_in (bg : List Int) (hb : bg.length ≤ 9) (four : Int) (fi : List S → Option R) (ft : List S → Option Bool) (fe : List S → Option R) (σ : List S) (h0 : fi σ = some (.val (.lst (bg.map V.int)))) (hσ : σ[0]? = some (.val (.int four))) 
    (q1 : ∀ b : Int, ft [.val (.int b), .val (.int four)] = some (decide (b.fdiv 4 ≤ four))) (q2 : ∀ b : Int, (fe [.val (.int b), .val (.int four)]).bind R.fz = some (.int (2 ^ (b.fmod 4).toNat))) :
    compF fi ft fe [0] σ = some (.new (((bg.filter fun b => decide (b.fdiv 4 ≤ four)).map fun b => (2 : Int) ^ (b.fmod 4).toNat).map V.int)) := by
  unfold compF
  have e0 : ([0].map fun i => (σ[i]?).getD .unb) = [.val (.int four)] := by simp [hσ]
  rw [h0, e0]
  have e1 : (R.val (.lst (bg.map V.int))).iterB = some (bg.map V.int) := rfl
  rw [Option.bind_some, e1, Option.bind_some]
  rw [compL_filt V.int (fun b => .int (2 ^ (b.fmod 4).toNat)) (fun b => decide (b.fdiv 4 ≤ four)) bg (fun a _ => ⟨q1 a, q2 a⟩)]
  have h1 := List.length_filter_le (fun b => decide (b.fdiv 4 ≤ four)) bg
  rw [Option.bind_some, if_pos (by rw [List.length_map]; omega), List.map_map]
  rfl
theorem l20_eq {P : Pr} {t0 : Nat} {w : List Bool} (h : w ∈ doms) (y9 y10 y11 y12 y13 y14 y15 y16 y17 y19 y20 y21 : S) (r : List S) :
    (l_20 t0).1 (P.st (y9 :: y10 :: y11 :: y12 :: y13 :: y14 :: y15 :: y16 :: y17 :: .val (.lst ((begs w).map .int)) :: y19 :: y20 :: y21 :: .val (.byt (wordF w)) :: r)) = some (.next, P.st (y9 :: y10 :: y11 :: y12 :: y13 :: y14 :: y15 :: y16 :: y17 :: .val (.lst ((begs w).map .int)) :: y19 :: y20 :: y21 :: .val (.byt (wordF w)) :: r)) := by
  have ht := beq_iff_eq.mp (List.all_eq_true.mp words_all w h)
  have hlen : (wordF w).length = 4 := by
    have := congrArg List.length ht
    simpa using this
  have key1 : ∀ (ft : List S → Option Bool) (fe : List S → Option R), (∀ x, ft x = some true) → (∀ c : UInt8, (fe [.val (byV c)]).bind R.fz = some (.int ((c.toNat : Int) - 65))) →
      compL ft fe [] ((wordF w).map byV) = some (([rightF (begs w) 3, rightF (begs w) 2, rightF (begs w) 1, rightF (begs w) 0] : List Int).map V.int) := by
    intro ft fe q1 q2
    rw [compL_map byV (fun c : UInt8 => V.int ((c.toNat : Int) - 65)) (wordF w) (fun a ha => ⟨q1 _, q2 a⟩), ← ht, List.map_map]
    rfl
  have key2 : ∀ (ft : List S → Option Bool) (fe : List S → Option R), (∀ x, ft x = some true) → (∀ f : Int, (fe [.val (.int f), .val (.lst ((begs w).map .int))]).bind R.fz = some (.int (rightF (begs w) f))) →
      compL ft fe [.val (.lst ((begs w).map .int))] [.int 3, .int 2, .int 1, .int 0] = some (([rightF (begs w) 3, rightF (begs w) 2, rightF (begs w) 1, rightF (begs w) 0] : List Int).map V.int) := by
    intro ft fe q1 q2
    exact compL_map V.int (fun f => V.int (rightF (begs w) f)) ([3, 2, 1, 0] : List Int) (fun a ha => ⟨q1 _, q2 a⟩)
  have i1 : (R.val (V.byt (wordF w))).iterB = some ((wordF w).map byV) := rfl
  have i2 : (R.val (V.tup [.int 3, .int 2, .int 1, .int 0])).iterB = some [.int 3, .int 2, .int 1, .int 0] := rfl
  have hn := neR_same [rightF (begs w) 3, rightF (begs w) 2, rightF (begs w) 1, rightF (begs w) 0]
  have hl : (([rightF (begs w) 3, rightF (begs w) 2, rightF (begs w) 1, rightF (begs w) 0] : List Int).map V.int).length ≤ 1048576 := by simp
  unfold l_20
  have c18 : ((P.st (y9 :: y10 :: y11 :: y12 :: y13 :: y14 :: y15 :: y16 :: y17 :: .val (.lst ((begs w).map .int)) :: y19 :: y20 :: y21 :: .val (.byt (wordF w)) :: r))[18]?).getD .unb = .val (.lst ((begs w).map .int)) := rfl
  have cA : ∀ (fi : List S → Option R) (ft : List S → Option Bool) (fe : List S → Option R) (σ : List S), fi σ = some (.val (.byt (wordF w))) → (∀ x, ft x = some true) → (∀ c : UInt8, (fe [.val (byV c)]).bind R.fz = some (.int ((c.toNat : Int) - 65))) →
      compF fi ft fe [] σ = some (.new (([rightF (begs w) 3, rightF (begs w) 2, rightF (begs w) 1, rightF (begs w) 0] : List Int).map V.int)) := by
    intro fi ft fe σ a b c
    unfold compF
    rw [a, Option.bind_some, i1, Option.bind_some, List.map_nil, key1 ft fe b c, Option.bind_some, if_pos hl]
  have cB : ∀ (fi : List S → Option R) (ft : List S → Option Bool) (fe : List S → Option R), fi (P.st (y9 :: y10 :: y11 :: y12 :: y13 :: y14 :: y15 :: y16 :: y17 :: .val (.lst ((begs w).map .int)) :: y19 :: y20 :: y21 :: .val (.byt (wordF w)) :: r)) = some (.val (.tup [.int 3, .int 2, .int 1, .int 0])) → (∀ x, ft x = some true) → (∀ f : Int, (fe [.val (.int f), .val (.lst ((begs w).map .int))]).bind R.fz = some (.int (rightF (begs w) f))) →
      compF fi ft fe [18] (P.st (y9 :: y10 :: y11 :: y12 :: y13 :: y14 :: y15 :: y16 :: y17 :: .val (.lst ((begs w).map .int)) :: y19 :: y20 :: y21 :: .val (.byt (wordF w)) :: r)) = some (.new (([rightF (begs w) 3, rightF (begs w) 2, rightF (begs w) 1, rightF (begs w) 0] : List Int).map V.int)) := by
    intro fi ft fe a b c
    unfold compF
    rw [a, Option.bind_some, i2, Option.bind_some, List.map_cons, List.map_nil, c18, key2 ft fe b c, Option.bind_some, if_pos hl]
  dsimp only
  rw [cA _ _ _ _ (sv22 _ _ _ _ _ _ _ _ _ _ _ _ _ _ _ _) (fun _ => rfl) (fun c => rfl), cB _ _ _ rfl (fun _ => rfl) (fun f => by
    rw [right_in (begs w) (begs_len w) f _ _ _ _ rfl rfl (fun b => rfl) (fun b => by
      have m0 := Int.fmod_nonneg_of_pos b (show (0 : Int) < 4 by omega)
      have m1 := Int.fmod_lt_of_pos b (show (0 : Int) < 4 by omega)
      have e1 : modR (.val (.int b)) (.val (.int 4)) = some (.val (.int (b.fmod 4))) := rfl
      have e2 : powR (.val (.int 2)) (.val (.int (b.fmod 4))) = some (.val (.int (2 ^ (b.fmod 4).toNat))) := by
        show Option.map _ (if _ then _ else _) = _
        rw [if_pos (by constructor <;> first | decide | omega)]
        rfl
      have e3 : rd 0 [S.val (V.int b), S.val (V.int f)] = some (.val (.int b)) := rfl
      try dsimp only
      rw [e3]
      try dsimp only
      rw [e1]
      try dsimp only
      rw [e2]
      rfl)]
    simp only [sumR, R.items, Option.bind_some, ofI_map, R.fz, rightF])]
  dsimp only
  rw [hn]
  rfl
end Mine

namespace Mine
noncomputable def par (w : List Bool) : List Nat := w.map fun b => if b then 40 else 41
noncomputable def rowP (w : List Bool) : List Nat := par (w.take 8)
theorem repl_p1 {P : Pr} (h : P.c ≠ P.d) : ∀ a : List Bool, replL (P.tx a) [P.d] [40] = a.map (sg P.c 40) := by
  intro a
  rw [replL_one]
  unfold Pr.tx
  induction a with
  | nil => rfl
  | cons b r ih =>
    rw [List.map_cons, List.flatMap_cons, ih]
    cases b <;> simp [sg, h]
theorem repl_p2 {c : Nat} (h : c ≠ 40) : ∀ a : List Bool, replL (a.map (sg c 40)) [c] [41] = par a := by
  intro a
  rw [replL_one]
  unfold par
  induction a with
  | nil => rfl
  | cons b r ih =>
    rw [List.map_cons, List.flatMap_cons, ih]
    have h2 := Ne.symm h
    cases b <;> simp [sg, h2]
theorem get5 (P : Pr) (l : List S) : (P.st l)[5]? = some (.pin (.str [P.c]) (.str ⟨#[P.c]⟩ P.t5)) := rfl
theorem get7 (P : Pr) (l : List S) : (P.st l)[7]? = some (.pin (.str [P.d]) (.str ⟨#[P.d]⟩ P.t7)) := rfl
theorem l21_eq {P : Pr} {t0 : Nat} (hP : P.Ok t0) {w : List Bool} (hl : w.length = 9) (y10 y11 y12 y13 y14 y15 y16 y17 : S) (r : List S) :
    (l_21 t0).1 (P.st (.val (.str (P.tx w)) :: y10 :: y11 :: y12 :: y13 :: y14 :: y15 :: y16 :: y17 :: r)) = some (.next, P.st (.val (.str (P.tx w)) :: y10 :: y11 :: y12 :: y13 :: y14 :: y15 :: y16 :: .val (.str (rowP w)) :: r)) := by
  have n1 : (P.tx w).length ≤ 1048576 := by simp [Pr.tx]; omega
  have e1 : slL (P.tx w) none (some (8 : Int)) = P.tx (w.take 8) := take_tx P w 8 (by omega)
  have e2 := repl_p1 hP.cd (w.take 8)
  have e3 := repl_p2 hP.c40 (w.take 8)
  have n2 : (P.tx (w.take 8)).length ≤ 65536 := by simp [Pr.tx]; omega
  have n3 : ((w.take 8).map (sg P.c 40)).length ≤ 65536 := by simp; omega
  have b1 : (([P.d] : List Nat) == [40]) = false := by have := hP.d40; simp [this]
  have b2 : (([P.c] : List Nat) == [41]) = false := by have := hP.c41; simp [this]
  have p5 := hP.p5
  have p7 := hP.p7
  have d1 : slR (.val (.str (P.tx w))) none (some 8) = some (.val (.str (P.tx (w.take 8)))) := by
    show (if _ then _ else _) = _
    rw [if_pos n1, e1]
  unfold l_21
  simp only [sv9, d1, get7, get5]
  rw [if_pos ⟨trivial, p7, b1, n2⟩]
  dsimp only
  rw [e2, if_pos ⟨rfl, p5, b2, n3⟩, e3]
  rfl
noncomputable def wantN (up down : Nat) : List Nat := joinL [46, 46, 46] ((List.replicate up 40 ++ List.replicate (5 - down) 41).map fun c => [c])
noncomputable def ellChk (up : Nat) (ws : List (List Bool)) : Bool := ws.all fun w => ([1, 2, 3, 4] : List Nat).all fun down =>
  match g__ellipsis_match [.str (wantN up down), .str (rowP w)], notInR (.val (.int (5 * ((up : Nat) - 1) - 4 * (down : Nat)))) (.own (szW w 9)) with | some (.bool a), some (.val (.bool b)) => a == b | _, _ => false
theorem ell_1a : ellChk 1 (doms.take 7) = true := by decide +kernel
theorem ell_1b : ellChk 1 (doms.drop 7) = true := by decide +kernel
theorem ell_2a : ellChk 2 (doms.take 7) = true := by decide +kernel
theorem ell_2b : ellChk 2 (doms.drop 7) = true := by decide +kernel
theorem ell_3a : ellChk 3 (doms.take 7) = true := by decide +kernel
theorem ell_3b : ellChk 3 (doms.drop 7) = true := by decide +kernel
theorem ell_4a : ellChk 4 (doms.take 7) = true := by decide +kernel
theorem ell_4b : ellChk 4 (doms.drop 7) = true := by decide +kernel
theorem cut2 {α : Type} (f : α → Bool) (n : Nat) (l : List α) (h1 : (l.take n).all f = true) (h2 : (l.drop n).all f = true) : l.all f = true := by
  rw [← List.take_append_drop n l, List.all_append, h1, h2]; rfl
theorem ell_up (up : Nat) (h1 : 1 ≤ up) (h4 : up ≤ 4) : ellChk up doms = true := by
  have : up = 1 ∨ up = 2 ∨ up = 3 ∨ up = 4 := by omega
  rcases this with rfl | rfl | rfl | rfl
  · exact cut2 _ 7 doms ell_1a ell_1b
  · exact cut2 _ 7 doms ell_2a ell_2b
  · exact cut2 _ 7 doms ell_3a ell_3b
  · exact cut2 _ 7 doms ell_4a ell_4b
theorem ell_of {w : List Bool} (h : w ∈ doms) (up down : Nat) (h1 : 1 ≤ up) (h4 : up ≤ 4) (g1 : 1 ≤ down) (g4 : down ≤ 4) :
    ∃ b : Bool, g__ellipsis_match [.str (wantN up down), .str (rowP w)] = some (.bool b) ∧ notInR (.val (.int (5 * ((up : Nat) - 1) - 4 * (down : Nat)))) (.own (szW w 9)) = some (.val (.bool b)) := by
  have hd : down ∈ ([1, 2, 3, 4] : List Nat) := by
    have : down = 1 ∨ down = 2 ∨ down = 3 ∨ down = 4 := by omega
    simpa using this
  have := List.all_eq_true.mp (List.all_eq_true.mp (ell_up up h1 h4) w h) down hd
  split at this
  · rename_i a b ea eb
    exact ⟨b, by rw [ea, beq_iff_eq.mp this], eb⟩
  · cases this
noncomputable def endChk (w : List Bool) : Bool := (match g__ellipsis_match [.str [40, 46, 46, 46, 41], .str (41 :: rowP w)] with | some (.bool a) => !a | _ => false) && (match g__ellipsis_match [.str [40, 46, 46, 46, 41], .str (rowP w ++ [40])] with | some (.bool a) => !a | _ => false)
theorem end_all : (doms.all endChk) = true := by decide +kernel
theorem end_of {w : List Bool} (h : w ∈ doms) : g__ellipsis_match [.str [40, 46, 46, 46, 41], .str (41 :: rowP w)] = some (.bool false) ∧ g__ellipsis_match [.str [40, 46, 46, 46, 41], .str (rowP w ++ [40])] = some (.bool false) := by
  have := List.all_eq_true.mp end_all w h
  unfold endChk at this
  rw [Bool.and_eq_true] at this
  obtain ⟨a, b⟩ := this
  constructor
  · split at a
    · rename_i x e; rw [e]; cases x; · rfl
      · cases a
    · cases a
  · split at b
    · rename_i x e; rw [e]; cases x; · rfl
      · cases b
    · cases b
theorem mul_ii (a b : Int) (h : a.natAbs < 18446744073709551616 ∨ b.natAbs < 18446744073709551616) : mulR (.val (.int a)) (.val (.int b)) = some (.val (.int (a * b))) := by
  simp only [mulR, if_pos h]
theorem joinR_want (up down : Nat) (h1 : up ≤ 4) (g1 : down ≤ 4) : joinR [.val (.str [46, 46, 46]), .val (.str (List.replicate up 40 ++ List.replicate (5 - down) 41))] = some (.val (.str (wantN up down))) := by
  show (if _ then _ else _) = _
  rw [if_pos (by simp; omega)]
  rfl
theorem l22_in {P : Pr} {w : List Bool} (up : Nat) (h1 : 1 ≤ up) (h4 : up ≤ 4) (y9 y10 y11 y12 y13 y14 y15 y16 y18 y20 y21 y22 : S) (r : List S) (fb : SF)
    (h : ∀ (down : Nat) (y25 : S), 1 ≤ down → down ≤ 4 → fb (P.st (y9 :: y10 :: y11 :: y12 :: y13 :: y14 :: y15 :: y16 :: .val (.str (rowP w)) :: y18 :: .own (szW w 9) :: y20 :: y21 :: y22 :: .val (.int (up : Nat)) :: .val (.int (down : Nat)) :: y25 :: r)) = some (.next, P.st (y9 :: y10 :: y11 :: y12 :: y13 :: y14 :: y15 :: y16 :: .val (.str (rowP w)) :: y18 :: .own (szW w 9) :: y20 :: y21 :: y22 :: .val (.int (up : Nat)) :: .val (.int (down : Nat)) :: .val (.str (wantN up down)) :: r))) :
    ∀ (n down : Nat) (y24 y25 : S), down + n = 5 → 1 ≤ down → ∃ z24 z25, forL fb 24 (rngL down n) (P.st (y9 :: y10 :: y11 :: y12 :: y13 :: y14 :: y15 :: y16 :: .val (.str (rowP w)) :: y18 :: .own (szW w 9) :: y20 :: y21 :: y22 :: .val (.int (up : Nat)) :: y24 :: y25 :: r)) = some (.next, P.st (y9 :: y10 :: y11 :: y12 :: y13 :: y14 :: y15 :: y16 :: .val (.str (rowP w)) :: y18 :: .own (szW w 9) :: y20 :: y21 :: y22 :: .val (.int (up : Nat)) :: z24 :: z25 :: r))
  | 0, down, y24, y25, hd, hd1 => ⟨y24, y25, rfl⟩
  | n + 1, down, y24, y25, hd, hd1 => by
    have e := h down y25 hd1 (by omega)
    obtain ⟨z24, z25, e2⟩ := l22_in up h1 h4 y9 y10 y11 y12 y13 y14 y15 y16 y18 y20 y21 y22 r fb h n (down + 1) (.val (.int (down : Nat))) (.val (.str (wantN up down))) (by omega) (by omega)
    refine ⟨z24, z25, ?_⟩
    show forL fb 24 (.int (down : Nat) :: rngL (down + 1) n) _ = _
    unfold forL
    rw [ss24, e]
    exact e2
theorem l22_in0 {P : Pr} {w : List Bool} (up : Nat) (h1 : 1 ≤ up) (h4 : up ≤ 4) (y9 y10 y11 y12 y13 y14 y15 y16 y18 y20 y21 y22 y24 y25 : S) (r : List S) (fb : SF)
    (h : ∀ (down : Nat) (y25 : S), 1 ≤ down → down ≤ 4 → fb (P.st (y9 :: y10 :: y11 :: y12 :: y13 :: y14 :: y15 :: y16 :: .val (.str (rowP w)) :: y18 :: .own (szW w 9) :: y20 :: y21 :: y22 :: .val (.int (up : Nat)) :: .val (.int (down : Nat)) :: y25 :: r)) = some (.next, P.st (y9 :: y10 :: y11 :: y12 :: y13 :: y14 :: y15 :: y16 :: .val (.str (rowP w)) :: y18 :: .own (szW w 9) :: y20 :: y21 :: y22 :: .val (.int (up : Nat)) :: .val (.int (down : Nat)) :: .val (.str (wantN up down)) :: r))) :
    ∃ z24 z25, forL fb 24 (rngL 1 4) (P.st (y9 :: y10 :: y11 :: y12 :: y13 :: y14 :: y15 :: y16 :: .val (.str (rowP w)) :: y18 :: .own (szW w 9) :: y20 :: y21 :: y22 :: .val (.int (up : Nat)) :: y24 :: y25 :: r)) = some (.next, P.st (y9 :: y10 :: y11 :: y12 :: y13 :: y14 :: y15 :: y16 :: .val (.str (rowP w)) :: y18 :: .own (szW w 9) :: y20 :: y21 :: y22 :: .val (.int (up : Nat)) :: z24 :: z25 :: r)) := l22_in up h1 h4 y9 y10 y11 y12 y13 y14 y15 y16 y18 y20 y21 y22 r fb h 4 1 y24 y25 (by omega) (by omega)
theorem l22_it {P : Pr} {t0 : Nat} {w : List Bool} (hw : w ∈ doms) : ∃ fb : SF, (l_22 t0).1 = (fun σ => forL fb 23 (rngL 1 4) σ) ∧
    ∀ (up : Nat) (y9 y10 y11 y12 y13 y14 y15 y16 y18 y20 y21 y22 y24 y25 : S) (r : List S), 1 ≤ up → up ≤ 4 → ∃ z24 z25, fb (P.st (y9 :: y10 :: y11 :: y12 :: y13 :: y14 :: y15 :: y16 :: .val (.str (rowP w)) :: y18 :: .own (szW w 9) :: y20 :: y21 :: y22 :: .val (.int (up : Nat)) :: y24 :: y25 :: r)) = some (.next, P.st (y9 :: y10 :: y11 :: y12 :: y13 :: y14 :: y15 :: y16 :: .val (.str (rowP w)) :: y18 :: .own (szW w 9) :: y20 :: y21 :: y22 :: .val (.int (up : Nat)) :: z24 :: z25 :: r)) := by
  refine ⟨?fb, ?h1, ?h2⟩
  case h1 =>
    funext σ
    unfold l_22
    have e : (some (R.val (V.rng 1 5))).bind R.iter = some (rngL 1 4) := rfl
    simp only [rangeR]
    rw [e]
  intro up y9 y10 y11 y12 y13 y14 y15 y16 y18 y20 y21 y22 y24 y25 r h1 h4
  have er : (some (R.val (V.rng 1 5))).bind R.iter = some (rngL 1 4) := rfl
  have key := l22_in0 (P := P) (w := w) up h1 h4 y9 y10 y11 y12 y13 y14 y15 y16 y18 y20 y21 y22 y24 y25 r
  simp only [rangeR, er]
  apply Exists.elim (key _ ?hF)
  · intro z24 hz
    apply Exists.elim hz
    intro z25 e
    refine ⟨z24, z25, ?_⟩
    rw [e]
  case hF =>
    intro down y25 g1 g4
    obtain ⟨b, q1, q2⟩ := ell_of hw up down h1 h4 g1 g4
    have m1 := mul_one 40 up (by omega)
    have m2 := mul_one 41 (5 - down) (by omega)
    have ed : ((5 : Int) - (down : Nat)) = ((5 - down : Nat) : Int) := by omega
    have s1 : subR (.val (.int 5)) (.val (.int (down : Nat))) = some (.val (.int ((5 - down : Nat) : Int))) := by
      rw [← ed]; rfl
    have s2 : subR (.val (.int (up : Nat))) (.val (.int 1)) = some (.val (.int ((up : Nat) - 1))) := rfl
    have m3 : mulR (.val (.int 5)) (.val (.int ((up : Nat) - 1))) = some (.val (.int (5 * ((up : Nat) - 1)))) := mul_ii _ _ (.inl (by decide))
    have m4 : mulR (.val (.int 4)) (.val (.int (down : Nat))) = some (.val (.int (4 * (down : Nat)))) := mul_ii _ _ (.inl (by decide))
    have s3 : subR (.val (.int (5 * ((up : Nat) - 1)))) (.val (.int (4 * (down : Nat)))) = some (.val (.int (5 * ((up : Nat) - 1) - 4 * (down : Nat)))) := rfl
    have a1 : addR (.val (.str (List.replicate up 40))) (.val (.str (List.replicate (5 - down) 41))) = some (.val (.str (List.replicate up 40 ++ List.replicate (5 - down) 41))) := by
      show (if _ then _ else _) = _
      rw [if_pos (by simp; omega)]
    have j1 := joinR_want up down h4 g4
    have ty : tyR (.val (.str [46, 46, 46])) = some "str" := rfl
    have nb : isNotR (.val (.bool b)) (.val (.bool b)) = some (.val (.bool false)) := by cases b <;> rfl
    simp only [st0, st1, st2, st5, st7, sv9, so9, sg9, ss9, sv10, so10, sg10, ss10, sv11, so11, sg11, ss11, sv12, so12, sg12, ss12, sv13, so13, sg13, ss13, sv14, so14, sg14, ss14, sv15, so15, sg15, ss15, sv16, so16, sg16, ss16, sv17, so17, sg17, ss17, sv18, so18, sg18, ss18, sv19, so19, sg19, ss19, sv20, so20, sg20, ss20, sv21, so21, sg21, ss21, sv22, so22, sg22, ss22, sv23, so23, sg23, ss23, sv24, so24, sg24, ss24, sv25, so25, sg25, ss25, m1, s1, m2, a1, ty, j1, if_true, Option.bind_some, R.fz, q1, Option.map_some, s2, m3, m4, s3, q2, nb, boolR]
theorem l22_loop (P : Pr) {w : List Bool} (fb : SF) (h : ∀ (up : Nat) (y9 y10 y11 y12 y13 y14 y15 y16 y18 y20 y21 y22 y24 y25 : S) (r : List S), 1 ≤ up → up ≤ 4 → ∃ z24 z25, fb (P.st (y9 :: y10 :: y11 :: y12 :: y13 :: y14 :: y15 :: y16 :: .val (.str (rowP w)) :: y18 :: .own (szW w 9) :: y20 :: y21 :: y22 :: .val (.int (up : Nat)) :: y24 :: y25 :: r)) = some (.next, P.st (y9 :: y10 :: y11 :: y12 :: y13 :: y14 :: y15 :: y16 :: .val (.str (rowP w)) :: y18 :: .own (szW w 9) :: y20 :: y21 :: y22 :: .val (.int (up : Nat)) :: z24 :: z25 :: r))) :
    ∀ (n up : Nat) (y9 y10 y11 y12 y13 y14 y15 y16 y18 y20 y21 y22 y23 y24 y25 : S) (r : List S), up + n = 5 → 1 ≤ up → ∃ z23 z24 z25, forL fb 23 (rngL up n) (P.st (y9 :: y10 :: y11 :: y12 :: y13 :: y14 :: y15 :: y16 :: .val (.str (rowP w)) :: y18 :: .own (szW w 9) :: y20 :: y21 :: y22 :: y23 :: y24 :: y25 :: r)) = some (.next, P.st (y9 :: y10 :: y11 :: y12 :: y13 :: y14 :: y15 :: y16 :: .val (.str (rowP w)) :: y18 :: .own (szW w 9) :: y20 :: y21 :: y22 :: z23 :: z24 :: z25 :: r))
  | 0, up, y9, y10, y11, y12, y13, y14, y15, y16, y18, y20, y21, y22, y23, y24, y25, r, hp, hp1 => ⟨y23, y24, y25, rfl⟩
  | n + 1, up, y9, y10, y11, y12, y13, y14, y15, y16, y18, y20, y21, y22, y23, y24, y25, r, hp, hp1 => by
    obtain ⟨z24, z25, e⟩ := h up y9 y10 y11 y12 y13 y14 y15 y16 y18 y20 y21 y22 y24 y25 r hp1 (by omega)
    obtain ⟨w23, w24, w25, e2⟩ := l22_loop P fb h n (up + 1) y9 y10 y11 y12 y13 y14 y15 y16 y18 y20 y21 y22 (.val (.int (up : Nat))) z24 z25 r (by omega) (by omega)
    refine ⟨w23, w24, w25, ?_⟩
    show forL fb 23 (.int (up : Nat) :: rngL (up + 1) n) _ = _
    unfold forL
    rw [ss23, e]
    exact e2
theorem l22_eq {P : Pr} {t0 : Nat} {w : List Bool} (hw : w ∈ doms) (y9 y10 y11 y12 y13 y14 y15 y16 y18 y20 y21 y22 y23 y24 y25 : S) (r : List S) :
    ∃ z23 z24 z25, (l_22 t0).1 (P.st (y9 :: y10 :: y11 :: y12 :: y13 :: y14 :: y15 :: y16 :: .val (.str (rowP w)) :: y18 :: .own (szW w 9) :: y20 :: y21 :: y22 :: y23 :: y24 :: y25 :: r)) = some (.next, P.st (y9 :: y10 :: y11 :: y12 :: y13 :: y14 :: y15 :: y16 :: .val (.str (rowP w)) :: y18 :: .own (szW w 9) :: y20 :: y21 :: y22 :: z23 :: z24 :: z25 :: r)) := by
  obtain ⟨fb, e, h⟩ := l22_it (P := P) (t0 := t0) hw
  rw [e]
  exact l22_loop P fb h 4 1 y9 y10 y11 y12 y13 y14 y15 y16 y18 y20 y21 y22 y23 y24 y25 r (by omega) (by omega)
theorem l23_eq {P : Pr} {t0 : Nat} {w : List Bool} (hw : w ∈ doms) (y9 y10 y11 y12 y13 y14 y15 y16 : S) (r : List S) :
    (l_23 t0).1 (P.st (y9 :: y10 :: y11 :: y12 :: y13 :: y14 :: y15 :: y16 :: .val (.str (rowP w)) :: r)) = some (.ret (.bool true), P.st (y9 :: y10 :: y11 :: y12 :: y13 :: y14 :: y15 :: y16 :: .val (.str (rowP w)) :: r)) := by
  obtain ⟨q1, q2⟩ := end_of hw
  have hl := dom_len hw
  have hr : (rowP w).length = 8 := by simp [rowP, par]; omega
  have a1 : addR (.val (.str [41])) (.val (.str (rowP w))) = some (.val (.str (41 :: rowP w))) := by
    show (if _ then _ else _) = _
    rw [if_pos (by simp; omega)]
    rfl
  have a2 : addR (.val (.str (rowP w))) (.val (.str [40])) = some (.val (.str (rowP w ++ [40]))) := by
    show (if _ then _ else _) = _
    rw [if_pos (by simp; omega)]
  have i1 : isR (.val (.bool false)) (.val (.bool false)) = some (.val (.bool true)) := rfl
  unfold l_23
  simp only [sv17, a1, a2, Option.bind_some, R.fz, q1, q2, Option.map_some, i1, truth]
end Mine

namespace Mine
theorem seq_next {f g : SF} {σ σ' : List S} (h : f σ = some (.next, σ')) : seqF f g σ = g σ' := by unfold seqF; rw [h]
theorem seq_ret {f g : SF} {σ σ' : List S} {v : V} (h : f σ = some (.ret v, σ')) : seqF f g σ = some (.ret v, σ') := by unfold seqF; rw [h]
theorem rest_sh (t0 : Nat) : (l_rest t0).1 = seqF (l_5 t0).1 (seqF (l_6 t0).1 (seqF (l_7 t0).1 (seqF (l_8 t0).1 (seqF (l_9 t0).1 (seqF (l_10 t0).1 (seqF (l_11 t0).1 (seqF (l_12 t0).1 (seqF (l_13 t0).1 (seqF (l_14 t0).1 (seqF (l_15 t0).1 (seqF (l_16 t0).1 (seqF (l_17 t0).1 (seqF (l_18 t0).1 (seqF (l_19 t0).1 (seqF (l_20 t0).1 (seqF (l_21 t0).1 (seqF (l_22 t0).1 (seqF (l_23 t0).1 nxt)))))))))))))))))) := rfl
theorem rest_eq {P : Pr} {t0 : Nat} (hP : P.Ok t0) : ∃ σ', (l_rest t0).1 (P.st (List.replicate 17 .unb)) = some (.ret (.bool true), σ') := by
  rw [rest_sh]
  have e5 := l5_eq P t0 .unb (List.replicate 16 .unb)
  obtain ⟨bs, z10, z11, inv, e6⟩ := l6_eq P t0 hP.cd hP.sc .unb .unb (List.replicate 14 .unb)
  have e7 := l7_eq hP bs inv.1 .unb .unb (z10 :: z11 :: List.replicate 14 .unb)
  have e8 := l8_eq P t0 (.val (.str (P.tx bs))) z10 z11 .unb (List.replicate 13 .unb)
  have e9 := l9_eq P t0 (.val (.str (P.tx bs))) z10 z11 (.own []) .unb (List.replicate 12 .unb)
  obtain ⟨w10, w14, w15, e10⟩ := l10_eq hP bs inv.1 z10 z11 .unb .unb (List.replicate 10 .unb)
  have e11 := l11_eq (P := P) (t0 := t0) inv (.val (.str (P.tx bs))) w10 z11 (.own (unV bs P.ph 9)) w14 w15 .unb (List.replicate 9 .unb)
  obtain ⟨v10, v17, e12⟩ := l12_eq (P := P) (t0 := t0) inv rowsOk (.val (.str (P.tx bs))) w10 z11 (.own (lvV bs 9)) w14 w15 .unb (List.replicate 8 .unb)
  have e13 := l13_eq (P := P) (t0 := t0) inv (.val (.str (P.tx bs))) v10 z11 (.own (unV bs P.ph 9)) w14 w15 (v17 :: List.replicate 8 .unb)
  have e14 := l14_eq (P := P) (t0 := t0) inv v10 z11 (.val (.lst (lvW (rotL (startN bs) bs)))) (.own (unV bs P.ph 9)) w14 w15 (v17 :: List.replicate 8 .unb)
  obtain ⟨s1, s2, s3⟩ := start_of inv
  have hw : rotL (startN bs) bs ∈ doms := mem_doms (rot_words inv _) (by rw [s3 _ s2]; simp)
  generalize hwe : rotL (startN bs) bs = w at *
  generalize S.val (V.int (startN bs)) = y16 at *
  generalize S.own (unV bs P.ph 9) = y13 at *
  have e15 := l15_eq hP (dom_len hw) v10 z11 y13 w14 w15 y16 v17 .unb (List.replicate 7 .unb)
  have e16 := l16_eq P t0 (.val (.str (P.tx w))) v10 z11 (.val (.lst (lvW w))) y13 w14 w15 y16 v17 (.val (.lst ((begs w).map .int))) .unb (List.replicate 6 .unb)
  obtain ⟨x10, x20, x21, e17⟩ := l17_eq hP hw v10 z11 y13 w14 w15 y16 v17 (.val (.lst ((begs w).map .int))) .unb .unb (List.replicate 4 .unb)
  have e18 := l18_eq (P := P) (t0 := t0) hw (.val (.str (P.tx w))) x10 z11 (.val (.lst (lvW w))) y13 w14 w15 y16 v17 (.val (.lst ((begs w).map .int))) x20 x21 .unb (List.replicate 3 .unb)
  have e19 := l19_eq P t0 (wordF w) (.val (.str (P.tx w))) x10 z11 (.val (.lst (lvW w))) y13 w14 w15 y16 v17 (.val (.lst ((begs w).map .int))) (.own (szW w 9)) x20 x21 (List.replicate 3 .unb)
  have e20 := l20_eq (P := P) (t0 := t0) hw (.val (.str (P.tx w))) x10 z11 (.val (.lst (lvW w))) y13 w14 w15 y16 v17 (.own (szW w 9)) x20 x21 (List.replicate 3 .unb)
  have e21 := l21_eq hP (dom_len hw) x10 z11 (.val (.lst (lvW w))) y13 w14 w15 y16 v17 (.val (.lst ((begs w).map .int)) :: .own (szW w 9) :: x20 :: x21 :: .val (.byt (wordF w)) :: List.replicate 3 .unb)
  obtain ⟨q23, q24, q25, e22⟩ := l22_eq (P := P) (t0 := t0) hw (.val (.str (P.tx w))) x10 z11 (.val (.lst (lvW w))) y13 w14 w15 y16 (.val (.lst ((begs w).map .int))) x20 x21 (.val (.byt (wordF w))) .unb .unb .unb []
  have e23 := l23_eq (P := P) (t0 := t0) hw (.val (.str (P.tx w))) x10 z11 (.val (.lst (lvW w))) y13 w14 w15 y16 (.val (.lst ((begs w).map .int)) :: .own (szW w 9) :: x20 :: x21 :: .val (.byt (wordF w)) :: q23 :: q24 :: q25 :: [])
  exact ⟨_, (seq_next e5).trans ((seq_next e6).trans ((seq_next e7).trans ((seq_next e8).trans ((seq_next e9).trans ((seq_next e10).trans ((seq_next e11).trans ((seq_next e12).trans ((seq_next e13).trans ((seq_next e14).trans ((seq_next e15).trans ((seq_next e16).trans ((seq_next e17).trans ((seq_next e18).trans ((seq_next e19).trans ((seq_next e20).trans ((seq_next e21).trans ((seq_next e22).trans (seq_ret e23))))))))))))))))))⟩
open Classical in
noncomputable def fx : List S → Option V := fun ρ => if (∀ t0 σ, PinOk t0 σ → er σ = ρ → ∃ σ', (l_rest t0).1 σ = some (.ret (.bool true), σ')) then some (.bool true) else none
theorem hx : ∀ t0 σ v, PinOk t0 σ → fx (er σ) = some v → ∃ σ', (l_rest t0).1 σ = some (.ret v, σ') := by
  intro t0 σ v hp h
  unfold fx at h
  split at h
  · rename_i hq
    cases h
    exact hq t0 σ hp rfl
  · cases h
structure Combo (k c d : Nat) (sn wn : List Nat) : Prop where
  cd : c ≠ d
  c1 : c < 128
  d1 : d < 128
  k5 : k < 5
  esc : escF (es k) c = sn
  esd : escF (es k) d = wn
  esx : escF (es k) 120 = [120]
  sn : sn.length = 4
  wn : wn.length = 5
  c40 : c ≠ 40
  c41 : c ≠ 41
  d40 : d ≠ 40
theorem er_cons {σ : List S} {a : S} {l : List S} (h : er σ = a :: l) : ∃ s σ', σ = s :: σ' ∧ er1 s = a ∧ er σ' = l := by
  cases σ with
  | nil => cases h
  | cons s σ' => cases h; exact ⟨s, σ', rfl, rfl, rfl⟩
theorem er1_val {s : S} {v : V} (h : er1 s = .val v) : s = .val v := by cases s <;> first | exact h | cases h
theorem er1_unb {s : S} (h : er1 s = .unb) : s = .unb := by cases s <;> first | exact h | cases h
theorem er1_pin {s : S} {v : V} {u : Value} (h : er1 s = .pin v u) : ∃ u', s = .pin v u' := by
  cases s with
  | pin v' u' => cases h; exact ⟨u', rfl⟩
  | _ => cases h
theorem er_unbs : ∀ (n : Nat) {σ : List S}, er σ = List.replicate n .unb → σ = List.replicate n .unb
  | 0, σ, h => by
    cases σ with
    | nil => rfl
    | cons s r => cases h
  | n + 1, σ, h => by
    obtain ⟨s, σ', rfl, h1, h2⟩ := er_cons h
    rw [er1_unb h1, er_unbs n h2]; rfl
theorem fx_of {is : List Int} (hlen : is.length ≤ 63) (tot : Int) (x3 x4 : V) {k c d : Nat} {sn wn : List Nat} (hc : Combo k c d sn wn) :
    fx (.val (.lst (is.map .int)) :: .val (.int tot) :: .val (.int k) :: .pin x3 .none :: .pin x4 .none :: .pin (.str [c]) .none :: .pin (.str sn) .none :: .pin (.str [d]) .none :: .pin (.str wn) .none :: List.replicate 17 .unb) = some (.bool true) := by
  unfold fx
  rw [if_pos]
  intro t0 σ hp her
  obtain ⟨s0, σ, rfl, h0, her⟩ := er_cons her
  obtain ⟨s1, σ, rfl, h1, her⟩ := er_cons her
  obtain ⟨s2, σ, rfl, h2, her⟩ := er_cons her
  obtain ⟨s3, σ, rfl, h3, her⟩ := er_cons her
  obtain ⟨s4, σ, rfl, h4, her⟩ := er_cons her
  obtain ⟨s5, σ, rfl, h5, her⟩ := er_cons her
  obtain ⟨s6, σ, rfl, h6, her⟩ := er_cons her
  obtain ⟨s7, σ, rfl, h7, her⟩ := er_cons her
  obtain ⟨s8, σ, rfl, h8, her⟩ := er_cons her
  obtain rfl := er_unbs 17 her
  obtain rfl := er1_val h0
  obtain rfl := er1_val h1
  obtain rfl := er1_val h2
  obtain ⟨u3, rfl⟩ := er1_pin h3
  obtain ⟨u4, rfl⟩ := er1_pin h4
  obtain ⟨u5, rfl⟩ := er1_pin h5
  obtain ⟨u6, rfl⟩ := er1_pin h6
  obtain ⟨u7, rfl⟩ := er1_pin h7
  obtain ⟨u8, rfl⟩ := er1_pin h8
  obtain ⟨t5, rfl, p5⟩ := hp 5 [c] u5 rfl
  obtain ⟨t7, rfl, p7⟩ := hp 7 [d] u7 rfl
  exact rest_eq (P := ⟨is, tot, k, .pin x3 u3, .pin x4 u4, c, d, sn, wn, t5, t7, u6, u8⟩) ⟨hlen, hc.cd, hc.c1, hc.d1, hc.k5, hc.esc, hc.esd, hc.esx, hc.sn, hc.wn, p5, p7, hc.c40, hc.c41, hc.d40⟩
theorem fmod_lt (x : Int) (n : Nat) (h : 0 < n) : ∃ i : Nat, x.fmod (n : Int) = i ∧ i < n := by
  have h0 := Int.fmod_nonneg_of_pos x (show (0 : Int) < n by omega)
  have h1 := Int.fmod_lt_of_pos x (show (0 : Int) < n by omega)
  exact ⟨(x.fmod n).toNat, by omega, by omega⟩
theorem pairs0 : g__law_pairs [.int 0] = some (.lst [.lst [.lst [.str [60], .str [38,108,116,59]], .lst [.str [62], .str [38,103,116,59]]], .lst [.lst [.str [38], .str amp]]]) := rfl
theorem pairs1 : g__law_pairs [.int 1] = some (.lst [.lst [.lst [.str [60], .str [38,108,116,59]], .lst [.str [62], .str [38,103,116,59]]], .lst [.lst [.str [38], .str amp], .lst [.str [13], .str [38,35,49,51,59]], .lst [.str [10], .str [38,35,49,48,59]], .lst [.str [9], .str [38,35,48,57,59]]]]) := rfl
theorem pairs2 : g__law_pairs [.int 2] = some (.lst [.lst [.lst [.str [62], .str [38,103,116,59]]], .lst [.lst [.str [38], .str amp]]]) := rfl
theorem pairs3 : g__law_pairs [.int 3] = some (.lst [.lst [.lst [.str [60], .str [38,108,116,59]], .lst [.str [62], .str [38,103,116,59]]], .lst [.lst [.str [38], .str amp], .lst [.str [13], .str [38,35,120,68,59]]]]) := rfl
theorem pairs4 : g__law_pairs [.int 4] = some (.lst [.lst [.lst [.str [60], .str [38,108,116,59]]], .lst [.lst [.str [38], .str amp], .lst [.str [13], .str [38,35,120,68,59]], .lst [.str [10], .str [38,35,120,65,59]], .lst [.str [9], .str [38,35,120,57,59]]]]) := rfl
theorem len1 (a : V) : lenR [R.val (V.lst [a])] = some (R.val (V.int 1)) := rfl
theorem len2 (a b : V) : lenR [R.val (V.lst [a, b])] = some (R.val (V.int 2)) := rfl
theorem len4 (a b c d : V) : lenR [R.val (V.lst [a, b, c, d])] = some (R.val (V.int 4)) := rfl
theorem pn3 (a b c : S) (v : V) (u : Value) (l : List S) : pn 3 (a :: b :: c :: .pin v u :: l) = some v := rfl
theorem pn4 (a b c d : S) (v : V) (u : Value) (l : List S) : pn 4 (a :: b :: c :: d :: .pin v u :: l) = some v := rfl
theorem cb_0_0_0 : Combo 0 60 38 [38,108,116,59] amp := by constructor <;> decide
theorem cb_0_1_0 : Combo 0 62 38 [38,103,116,59] amp := by constructor <;> decide
theorem cb_1_0_0 : Combo 1 60 38 [38,108,116,59] amp := by constructor <;> decide
theorem cb_1_0_1 : Combo 1 60 13 [38,108,116,59] [38,35,49,51,59] := by constructor <;> decide
theorem cb_1_0_2 : Combo 1 60 10 [38,108,116,59] [38,35,49,48,59] := by constructor <;> decide
theorem cb_1_0_3 : Combo 1 60 9 [38,108,116,59] [38,35,48,57,59] := by constructor <;> decide
theorem cb_1_1_0 : Combo 1 62 38 [38,103,116,59] amp := by constructor <;> decide
theorem cb_1_1_1 : Combo 1 62 13 [38,103,116,59] [38,35,49,51,59] := by constructor <;> decide
theorem cb_1_1_2 : Combo 1 62 10 [38,103,116,59] [38,35,49,48,59] := by constructor <;> decide
theorem cb_1_1_3 : Combo 1 62 9 [38,103,116,59] [38,35,48,57,59] := by constructor <;> decide
theorem cb_2_0_0 : Combo 2 62 38 [38,103,116,59] amp := by constructor <;> decide
theorem cb_3_0_0 : Combo 3 60 38 [38,108,116,59] amp := by constructor <;> decide
theorem cb_3_0_1 : Combo 3 60 13 [38,108,116,59] [38,35,120,68,59] := by constructor <;> decide
theorem cb_3_1_0 : Combo 3 62 38 [38,103,116,59] amp := by constructor <;> decide
theorem cb_3_1_1 : Combo 3 62 13 [38,103,116,59] [38,35,120,68,59] := by constructor <;> decide
theorem cb_4_0_0 : Combo 4 60 38 [38,108,116,59] amp := by constructor <;> decide
theorem cb_4_0_1 : Combo 4 60 13 [38,108,116,59] [38,35,120,68,59] := by constructor <;> decide
theorem cb_4_0_2 : Combo 4 60 10 [38,108,116,59] [38,35,120,65,59] := by constructor <;> decide
theorem cb_4_0_3 : Combo 4 60 9 [38,108,116,59] [38,35,120,57,59] := by constructor <;> decide
theorem plain2 (is : List Int) (hlen : is.length ≤ 63) : (b_law fx hx).1 (padU 25 [.lst (is.map .int)]) = some (.bool true) := by
  have hsum : sumR [R.val (.lst (is.map V.int))] = some (.val (.int is.sum)) := by simp [sumR, R.items, ofI_map]
  have hpow : powR (.val (.int 10)) (.val (.int 6)) = some (.val (.int 1000000)) := rfl
  have hfin := fun tot x3 x4 k c d sn wn h => fx_of (is := is) hlen tot x3 x4 (k := k) (c := c) (d := d) (sn := sn) (wn := wn) h
  have hpad : padU 25 [.lst (is.map .int)] = .val (.lst (is.map .int)) :: .unb :: .unb :: .unb :: .unb :: .unb :: .unb :: .unb :: .unb :: List.replicate 17 .unb := rfl
  have hall : (List.replicate 17 S.unb).all noPin = true := rfl
  rw [hpad]
  unfold b_law
  generalize List.replicate 17 S.unb = U at *
  generalize hL : is.map V.int = L at *
  have hadd : addR (.val (.int is.sum)) (.val (.int 2025)) = some (.val (.int (is.sum + 2025))) := rfl
  have hmod : modR (.val (.int (is.sum + 2025))) (.val (.int 1000000)) = some (.val (.int ((is.sum + 2025).fmod 1000000))) := rfl
  generalize (is.sum + 2025).fmod 1000000 = tot at *
  have hm5 : modR (.val (.int tot)) (.val (.int 5)) = some (.val (.int (tot.fmod 5))) := rfl
  obtain ⟨k, hk, hk5⟩ := fmod_lt tot 5 (by omega)
  have hk' : tot.fmod 5 = (k : Int) := hk
  rw [hk'] at hm5
  have hf5 : fdivR (.val (.int tot)) (.val (.int 5)) = some (.val (.int (tot.fdiv 5))) := rfl
  have hf10 : fdivR (.val (.int tot)) (.val (.int 10)) = some (.val (.int (tot.fdiv 10))) := rfl
  have hmm : ∀ (x n : Int), n ≠ 0 → modR (.val (.int x)) (.val (.int n)) = some (.val (.int (x.fmod n))) := fun x n h => by simp only [modR, i2, if_pos h]; rfl
  simp only [rd, List.getElem?_cons_zero, List.getElem?_cons_succ, List.set_cons_zero, List.set_cons_succ, List.all_cons, noPin, hall, Bool.and_self, if_true, hsum, hpow, hadd, hmod, hm5, Option.bind_some, R.fz, hf5, hf10]
  have : k = 0 ∨ k = 1 ∨ k = 2 ∨ k = 3 ∨ k = 4 := by omega
  rcases this with rfl | rfl | rfl | rfl | rfl
  · have hp := pairs0
    have hkk0 : (((0 : Nat) : Int)) = 0 := rfl
    obtain ⟨i, hi, hi2⟩ := fmod_lt (tot.fdiv 5) 2 (by omega)
    obtain ⟨j, hj, hj2⟩ := fmod_lt (tot.fdiv 10) 1 (by omega)
    have hi' : (tot.fdiv 5).fmod 2 = (i : Int) := hi
    have hj' : (tot.fdiv 10).fmod 1 = (j : Int) := hj
    have hn2 := hmm (tot.fdiv 5) 2 (by decide)
    have hm1 := hmm (tot.fdiv 10) 1 (by decide)
    simp only [hkk0, hp, pn3, pn4, len2, len1, hn2, hm1, hi', hj']
    have hic : i = 0 ∨ i = 1 := by omega
    have hjc : j = 0 := by omega
    obtain rfl := hjc
    rcases hic with rfl | rfl
    · exact hfin tot _ _ 0 _ _ _ _ cb_0_0_0
    · exact hfin tot _ _ 0 _ _ _ _ cb_0_1_0
  · have hp := pairs1
    have hkk1 : (((1 : Nat) : Int)) = 1 := rfl
    obtain ⟨i, hi, hi2⟩ := fmod_lt (tot.fdiv 5) 2 (by omega)
    obtain ⟨j, hj, hj2⟩ := fmod_lt (tot.fdiv 10) 4 (by omega)
    have hi' : (tot.fdiv 5).fmod 2 = (i : Int) := hi
    have hj' : (tot.fdiv 10).fmod 4 = (j : Int) := hj
    have hn2 := hmm (tot.fdiv 5) 2 (by decide)
    have hm4 := hmm (tot.fdiv 10) 4 (by decide)
    simp only [hkk1, hp, pn3, pn4, len2, len4, hn2, hm4, hi', hj']
    have hic : i = 0 ∨ i = 1 := by omega
    have hjc : j = 0 ∨ j = 1 ∨ j = 2 ∨ j = 3 := by omega
    rcases hic with rfl | rfl <;> rcases hjc with rfl | rfl | rfl | rfl
    · exact hfin tot _ _ 1 _ _ _ _ cb_1_0_0
    · exact hfin tot _ _ 1 _ _ _ _ cb_1_0_1
    · exact hfin tot _ _ 1 _ _ _ _ cb_1_0_2
    · exact hfin tot _ _ 1 _ _ _ _ cb_1_0_3
    · exact hfin tot _ _ 1 _ _ _ _ cb_1_1_0
    · exact hfin tot _ _ 1 _ _ _ _ cb_1_1_1
    · exact hfin tot _ _ 1 _ _ _ _ cb_1_1_2
    · exact hfin tot _ _ 1 _ _ _ _ cb_1_1_3
  · have hp := pairs2
    have hkk2 : (((2 : Nat) : Int)) = 2 := rfl
    obtain ⟨i, hi, hi2⟩ := fmod_lt (tot.fdiv 5) 1 (by omega)
    obtain ⟨j, hj, hj2⟩ := fmod_lt (tot.fdiv 10) 1 (by omega)
    have hi' : (tot.fdiv 5).fmod 1 = (i : Int) := hi
    have hj' : (tot.fdiv 10).fmod 1 = (j : Int) := hj
    have hn1 := hmm (tot.fdiv 5) 1 (by decide)
    have hm1 := hmm (tot.fdiv 10) 1 (by decide)
    simp only [hkk2, hp, pn3, pn4, len1, len1, hn1, hm1, hi', hj']
    have hic : i = 0 := by omega
    have hjc : j = 0 := by omega
    obtain rfl := hic
    obtain rfl := hjc
    · exact hfin tot _ _ 2 _ _ _ _ cb_2_0_0
  · have hp := pairs3
    have hkk3 : (((3 : Nat) : Int)) = 3 := rfl
    obtain ⟨i, hi, hi2⟩ := fmod_lt (tot.fdiv 5) 2 (by omega)
    obtain ⟨j, hj, hj2⟩ := fmod_lt (tot.fdiv 10) 2 (by omega)
    have hi' : (tot.fdiv 5).fmod 2 = (i : Int) := hi
    have hj' : (tot.fdiv 10).fmod 2 = (j : Int) := hj
    have hn2 := hmm (tot.fdiv 5) 2 (by decide)
    have hm2 := hmm (tot.fdiv 10) 2 (by decide)
    simp only [hkk3, hp, pn3, pn4, len2, len2, hn2, hm2, hi', hj']
    have hic : i = 0 ∨ i = 1 := by omega
    have hjc : j = 0 ∨ j = 1 := by omega
    rcases hic with rfl | rfl <;> rcases hjc with rfl | rfl
    · exact hfin tot _ _ 3 _ _ _ _ cb_3_0_0
    · exact hfin tot _ _ 3 _ _ _ _ cb_3_0_1
    · exact hfin tot _ _ 3 _ _ _ _ cb_3_1_0
    · exact hfin tot _ _ 3 _ _ _ _ cb_3_1_1
  · have hp := pairs4
    have hkk4 : (((4 : Nat) : Int)) = 4 := rfl
    obtain ⟨i, hi, hi2⟩ := fmod_lt (tot.fdiv 5) 1 (by omega)
    obtain ⟨j, hj, hj2⟩ := fmod_lt (tot.fdiv 10) 4 (by omega)
    have hi' : (tot.fdiv 5).fmod 1 = (i : Int) := hi
    have hj' : (tot.fdiv 10).fmod 4 = (j : Int) := hj
    have hn1 := hmm (tot.fdiv 5) 1 (by decide)
    have hm4 := hmm (tot.fdiv 10) 4 (by decide)
    simp only [hkk4, hp, pn3, pn4, len1, len4, hn1, hm4, hi', hj']
    have hic : i = 0 := by omega
    have hjc : j = 0 ∨ j = 1 ∨ j = 2 ∨ j = 3 := by omega
    obtain rfl := hic
    rcases hjc with rfl | rfl | rfl | rfl
    · exact hfin tot _ _ 4 _ _ _ _ cb_4_0_0
    · exact hfin tot _ _ 4 _ _ _ _ cb_4_0_1
    · exact hfin tot _ _ 4 _ _ _ _ cb_4_0_2
    · exact hfin tot _ _ 4 _ _ _ _ cb_4_0_3
end Mine

namespace Mine
theorem RVs.ofInts {P : Params} {h : Heap} {N : Addr → Prop} : ∀ {is : List Int} {us : List Value}, WellAll P h us (is.map fun i => WData.int i) → RVs h N (is.map .int) us
  | [], us, x => by cases x; exact RVs.nil
  | i :: is, us, x => by
    cases x with
    | cons a b =>
      cases a with
      | int i t => exact RVs.cons (by unfold RV; exact ⟨t, rfl⟩) (RVs.ofInts b)
theorem RV.ofWell {P : Params} {h : Heap} {u : Value} {is : List Int} (x : Well P h u (.list (is.map fun i => WData.int i))) : RV h (fun _ => False) (.lst (is.map .int)) u := by
  cases x with
  | list e y => unfold RV; exact ⟨_, _, rfl, id, ⟨0, e⟩, RVs.ofInts y⟩
theorem ofPys_ints : ∀ is : List Int, ofPys (is.map PyData.int) = is.map fun i => WData.int i
  | [] => by simp [ofPys]
  | i :: is => by simp [ofPys, ofPy, ofPys_ints is]
theorem ofPy_ints (is : List Int) : ofPy (.list (is.map PyData.int)) = .list (is.map fun i => WData.int i) := by simp only [ofPy, ofPys_ints]

theorem fnOf {p : Program} {loose : List Str} {mean : ExcName → Option Value} {mg mb : Str → Option Value} {h : Heap} (T : Top p loose mean mg mb h) {prog : Program} {w : World} {d : DefRec} (j : Nat) (hd : (recsOf p)[j]? = some d) :
    ∃ a o pm code doc, (Cx.mk prog w h (fun _ => False) mg mb).mg d.name = some (.ref a) ∧ (Cx.mk prog w h (fun _ => False) mg mb).base.get? a = some o ∧ o.data = .func (Calls.docDef d.name d.params d.body d.scope pm code doc) ∧ (Cx.mk prog w h (fun _ => False) mg mb).base.CodeRec code d.name ∧ ¬ (Cx.mk prog w h (fun _ => False) mg mb).Px a ∧ ∀ c, code = .ref c → ¬ (Cx.mk prog w h (fun _ => False) mg mb).Px c :=
  let ⟨a, o, pm, code, doc, h1, h2, h3, h4⟩ := T.fn d (List.mem_of_getElem? hd)
  ⟨a, o, pm, code, doc, h1, h2, h3, h4, fun x => x.elim, fun _ _ x => x.elim⟩
theorem okOf {p : Program} {loose : List Str} {mean : ExcName → Option Value} {mg mb : Str → Option Value} {h : Heap} (T : Top p loose mean mg mb h) {prog : Program} {w : World} : (Cx.mk prog w h (fun _ => False) mg mb).Ok := ⟨T.g, fun x => x.elim, T.b, fun x => x.elim, T.nolimit, fun x => x.elim⟩
noncomputable def biNames : List Str := ["len", "abs", "int", "divmod", "chr", "range", "sum", "min", "max", "enumerate", "isinstance", "bytes", "sorted"]
theorem biOf {p : Program} {loose : List Str} {mean : ExcName → Option Value} {mg mb : Str → Option Value} {h : Heap} (T : Top p loose mean mg mb h) {prog : Program} {w : World} (hf : ∀ x ∈ biNames, x ∉ startupNames ∧ x ∉ loose ∧ x ∉ (recsOf p).map (·.name) ∧ x ∉ (litsOf p).map (·.1) ∧ x ∉ (clssOf p loose).map (·.name)) : BI (Cx.mk prog w h (fun _ => False) mg mb) := by
  have fr : ∀ x ∈ biNames, mg x = none := fun x hx => T.free x (hf x hx).1 (hf x hx).2.1 (hf x hx).2.2.1 (hf x hx).2.2.2.1 (hf x hx).2.2.2.2
  constructor
  · exact ⟨fr "len" (by decide), (T.builtins "len" (by decide)).trans (by rfl)⟩
  · exact ⟨fr "abs" (by decide), (T.builtins "abs" (by decide)).trans (by rfl)⟩
  · exact ⟨fr "int" (by decide), (T.builtins "int" (by decide)).trans (by rfl)⟩
  · exact ⟨fr "divmod" (by decide), (T.builtins "divmod" (by decide)).trans (by rfl)⟩
  · exact ⟨fr "chr" (by decide), (T.builtins "chr" (by decide)).trans (by rfl)⟩
  · exact ⟨fr "range" (by decide), (T.builtins "range" (by decide)).trans (by rfl)⟩
  · exact ⟨fr "sum" (by decide), (T.builtins "sum" (by decide)).trans (by rfl)⟩
  · exact ⟨fr "min" (by decide), (T.builtins "min" (by decide)).trans (by rfl)⟩
  · exact ⟨fr "max" (by decide), (T.builtins "max" (by decide)).trans (by rfl)⟩
  · exact ⟨fr "enumerate" (by decide), (T.builtins "enumerate" (by decide)).trans (by rfl)⟩
  · exact ⟨fr "isinstance" (by decide), (T.builtins "isinstance" (by decide)).trans (by rfl)⟩
  · exact ⟨fr "bytes" (by decide), (T.builtins "bytes" (by decide)).trans (by rfl)⟩
  · exact ⟨fr "sorted" (by decide), (T.builtins "sorted" (by decide)).trans (by rfl)⟩
theorem lawNames : ∀ x ∈ (["script"] : List Str) ++ (["total", "kind", "shorts", "longs", "short", "short_name", "wide", "wide_name", "text", "place", "cell", "levels", "units", "ahead", "unit", "start", "row", "begins", "sizes", "times", "size", "word", "up", "down", "wanted"] : List Str), lawScope.1.names.lookup x = some .local ∨ (lawScope.1.names.lookup x = some .cell ∧ ∀ L, ((cellsFrom (L + 1) lawScope.1.names []).lookup x).isSome = true) := by
  simp only [List.cons_append, List.nil_append]
  repeat (first | exact (fun _ h => absurd h List.not_mem_nil) | refine List.forall_mem_cons.mpr ⟨by first | exact .inl (by rfl) | exact .inr ⟨by rfl, fun L => by rfl⟩, ?_⟩)
end Mine
namespace Mine
/-- the program without the lines that set __name__ -/
noncomputable def viewQ : Program := { PySem.Challenge.pw_wr0032_02 with main := { PySem.Challenge.pw_wr0032_02.main with body := [1, 2, 3, 5, 6, 8, 10, 11, 12, 13, 14, 15, 17, 18, 19].map (stAt PySem.Challenge.pw_wr0032_02) } }
end Mine
open Mine
theorem PySem.Challenge.cw_wr0032_02_holds : PySem.Challenge.rw_wr0032_02.Holds := by
  w_on
  refine holds_law (by kernel_rfl) fun said => ?_
  refine holds_open (q := viewQ) (loose := []) (Xt := fun s => xlAt viewQ [] s && recOk PySem.Challenge.rw_wr0032_02.row.toRowW.records s) (XP := XL viewQ []) (Yf := Hook.obs Hook.none) (Ya := Hook.val Hook.none) (YP := Hook.says Hook.none) (N := 1090) ?hl (Hook.of Hook.none) (Hook.keeps Hook.none) (fun s e => xl_of s (Bool.and_eq_true_iff.mp e).1) XL.keeps (by rfl) (by rfl) (by rfl) (fun s e => recFacts_of (Bool.and_eq_true_iff.mp e).2) (by rfl) (by first | assumption | decide +kernel) (by decide +kernel) ⟨rfl, rfl, rfl, rfl, rfl, by decide +kernel⟩ ?hw ?hc
  (case hl => intro w; kernel_rfl)
  (case hw => w_witness2)
  intro w s₀ s₁ mg mb G Y fa o pm cd doc dV kV ho hd hcd hD hmg hg args vals as hpre hlay hrd hwl hlo
  refine Ground.open G ?_
  intro T B D TE TW
  try (refine guard_noD D (by decide +kernel) ?_; clear D)
  wrow_args hpre hlay hrd hwl hlo
  refine enter_call ?_
  have hdV := Dflts.none hD rfl
  have hkV := Dflts.noKw hD
  subst hdV hkV
  rename_i is _ _ _ _ _ _ _ _ _ _ _ _ wl _ _ _ _ _
  clear hD
  have hC := okOf T (prog := PySem.Challenge.rw_wr0032_02.row.prog) (w := w)
  have hB := biOf T (prog := PySem.Challenge.rw_wr0032_02.row.prog) (w := w) (by decide +kernel)
  obtain ⟨v, hv1, hv2⟩ := T.const "ELLIPSIS_MARKER" (.str ⟨[46, 46, 46].toArray⟩) (by rfl)
  have hv : mg "ELLIPSIS_MARKER" = some v ∧ ∃ t, v = .str ⟨[46, 46, 46].toArray⟩ t := ⟨hv1, by cases hv2 s₁.heap; exact ⟨_, rfl⟩⟩
  have h_Int2AP := ok_Int2AP hC hB (by first | exact fnOf T 0 (by rfl) | exact fnOf T 1 (by rfl) | exact fnOf T 2 (by rfl) | exact fnOf T 3 (by rfl) | exact fnOf T 4 (by rfl) | exact fnOf T 5 (by rfl) | exact fnOf T 6 (by rfl) | exact fnOf T 7 (by rfl) | exact fnOf T 8 (by rfl) | exact fnOf T 9 (by rfl) | exact fnOf T 10 (by rfl) | exact fnOf T 11 (by rfl) | exact fnOf T 12 (by rfl) | exact fnOf T 13 (by rfl))
  have h__ellipsis_match := ok__ellipsis_match hC hB v hv (by first | exact fnOf T 0 (by rfl) | exact fnOf T 1 (by rfl) | exact fnOf T 2 (by rfl) | exact fnOf T 3 (by rfl) | exact fnOf T 4 (by rfl) | exact fnOf T 5 (by rfl) | exact fnOf T 6 (by rfl) | exact fnOf T 7 (by rfl) | exact fnOf T 8 (by rfl) | exact fnOf T 9 (by rfl) | exact fnOf T 10 (by rfl) | exact fnOf T 11 (by rfl) | exact fnOf T 12 (by rfl) | exact fnOf T 13 (by rfl))
  have h__iter_escaped_chars := ok__iter_escaped_chars hC hB (by first | exact fnOf T 0 (by rfl) | exact fnOf T 1 (by rfl) | exact fnOf T 2 (by rfl) | exact fnOf T 3 (by rfl) | exact fnOf T 4 (by rfl) | exact fnOf T 5 (by rfl) | exact fnOf T 6 (by rfl) | exact fnOf T 7 (by rfl) | exact fnOf T 8 (by rfl) | exact fnOf T 9 (by rfl) | exact fnOf T 10 (by rfl) | exact fnOf T 11 (by rfl) | exact fnOf T 12 (by rfl) | exact fnOf T 13 (by rfl))
  have h__strip_quoted_realnames := ok__strip_quoted_realnames hC hB h__iter_escaped_chars (by first | exact fnOf T 0 (by rfl) | exact fnOf T 1 (by rfl) | exact fnOf T 2 (by rfl) | exact fnOf T 3 (by rfl) | exact fnOf T 4 (by rfl) | exact fnOf T 5 (by rfl) | exact fnOf T 6 (by rfl) | exact fnOf T 7 (by rfl) | exact fnOf T 8 (by rfl) | exact fnOf T 9 (by rfl) | exact fnOf T 10 (by rfl) | exact fnOf T 11 (by rfl) | exact fnOf T 12 (by rfl) | exact fnOf T 13 (by rfl))
  have h__check_parenthesis := ok__check_parenthesis hC hB h__strip_quoted_realnames h__iter_escaped_chars (by first | exact fnOf T 0 (by rfl) | exact fnOf T 1 (by rfl) | exact fnOf T 2 (by rfl) | exact fnOf T 3 (by rfl) | exact fnOf T 4 (by rfl) | exact fnOf T 5 (by rfl) | exact fnOf T 6 (by rfl) | exact fnOf T 7 (by rfl) | exact fnOf T 8 (by rfl) | exact fnOf T 9 (by rfl) | exact fnOf T 10 (by rfl) | exact fnOf T 11 (by rfl) | exact fnOf T 12 (by rfl) | exact fnOf T 13 (by rfl))
  have h__escape_cdata := ok__escape_cdata hC hB (by first | exact fnOf T 0 (by rfl) | exact fnOf T 1 (by rfl) | exact fnOf T 2 (by rfl) | exact fnOf T 3 (by rfl) | exact fnOf T 4 (by rfl) | exact fnOf T 5 (by rfl) | exact fnOf T 6 (by rfl) | exact fnOf T 7 (by rfl) | exact fnOf T 8 (by rfl) | exact fnOf T 9 (by rfl) | exact fnOf T 10 (by rfl) | exact fnOf T 11 (by rfl) | exact fnOf T 12 (by rfl) | exact fnOf T 13 (by rfl))
  have h__escape_attrib := ok__escape_attrib hC hB (by first | exact fnOf T 0 (by rfl) | exact fnOf T 1 (by rfl) | exact fnOf T 2 (by rfl) | exact fnOf T 3 (by rfl) | exact fnOf T 4 (by rfl) | exact fnOf T 5 (by rfl) | exact fnOf T 6 (by rfl) | exact fnOf T 7 (by rfl) | exact fnOf T 8 (by rfl) | exact fnOf T 9 (by rfl) | exact fnOf T 10 (by rfl) | exact fnOf T 11 (by rfl) | exact fnOf T 12 (by rfl) | exact fnOf T 13 (by rfl))
  have h__escape_attrib_html := ok__escape_attrib_html hC hB (by first | exact fnOf T 0 (by rfl) | exact fnOf T 1 (by rfl) | exact fnOf T 2 (by rfl) | exact fnOf T 3 (by rfl) | exact fnOf T 4 (by rfl) | exact fnOf T 5 (by rfl) | exact fnOf T 6 (by rfl) | exact fnOf T 7 (by rfl) | exact fnOf T 8 (by rfl) | exact fnOf T 9 (by rfl) | exact fnOf T 10 (by rfl) | exact fnOf T 11 (by rfl) | exact fnOf T 12 (by rfl) | exact fnOf T 13 (by rfl))
  have h__escape_cdata_c14n := ok__escape_cdata_c14n hC hB (by first | exact fnOf T 0 (by rfl) | exact fnOf T 1 (by rfl) | exact fnOf T 2 (by rfl) | exact fnOf T 3 (by rfl) | exact fnOf T 4 (by rfl) | exact fnOf T 5 (by rfl) | exact fnOf T 6 (by rfl) | exact fnOf T 7 (by rfl) | exact fnOf T 8 (by rfl) | exact fnOf T 9 (by rfl) | exact fnOf T 10 (by rfl) | exact fnOf T 11 (by rfl) | exact fnOf T 12 (by rfl) | exact fnOf T 13 (by rfl))
  have h__escape_attrib_c14n := ok__escape_attrib_c14n hC hB (by first | exact fnOf T 0 (by rfl) | exact fnOf T 1 (by rfl) | exact fnOf T 2 (by rfl) | exact fnOf T 3 (by rfl) | exact fnOf T 4 (by rfl) | exact fnOf T 5 (by rfl) | exact fnOf T 6 (by rfl) | exact fnOf T 7 (by rfl) | exact fnOf T 8 (by rfl) | exact fnOf T 9 (by rfl) | exact fnOf T 10 (by rfl) | exact fnOf T 11 (by rfl) | exact fnOf T 12 (by rfl) | exact fnOf T 13 (by rfl))
  have h__law_write := ok__law_write hC hB h__escape_cdata h__escape_attrib h__escape_attrib_html h__escape_cdata_c14n h__escape_attrib_c14n (by first | exact fnOf T 0 (by rfl) | exact fnOf T 1 (by rfl) | exact fnOf T 2 (by rfl) | exact fnOf T 3 (by rfl) | exact fnOf T 4 (by rfl) | exact fnOf T 5 (by rfl) | exact fnOf T 6 (by rfl) | exact fnOf T 7 (by rfl) | exact fnOf T 8 (by rfl) | exact fnOf T 9 (by rfl) | exact fnOf T 10 (by rfl) | exact fnOf T 11 (by rfl) | exact fnOf T 12 (by rfl) | exact fnOf T 13 (by rfl))
  have h__law_pairs := ok__law_pairs hC  (by first | exact fnOf T 0 (by rfl) | exact fnOf T 1 (by rfl) | exact fnOf T 2 (by rfl) | exact fnOf T 3 (by rfl) | exact fnOf T 4 (by rfl) | exact fnOf T 5 (by rfl) | exact fnOf T 6 (by rfl) | exact fnOf T 7 (by rfl) | exact fnOf T 8 (by rfl) | exact fnOf T 9 (by rfl) | exact fnOf T 10 (by rfl) | exact fnOf T 11 (by rfl) | exact fnOf T 12 (by rfl) | exact fnOf T 13 (by rfl))
  have hlen63 : is.length ≤ 63 := by
    clear hcd hd Y G ho
    first | assumption | omega | (simp_all; done) | (simp_all; omega)
  refine callLawR (d := ⟨"law", (recAt PySem.Challenge.pw_wr0032_02 19).params, (recAt PySem.Challenge.pw_wr0032_02 19).body, lawScope.1, ⟨0, 0, 0, 0⟩⟩) (ps := ["script"]) (loc := ["total", "kind", "shorts", "longs", "short", "short_name", "wide", "wide_name", "text", "place", "cell", "levels", "units", "ahead", "unit", "start", "row", "begins", "sizes", "times", "size", "word", "up", "down", "wanted"]) hC ho (fun x => x.elim) hd hcd (fun _ _ x => x.elim) (fun us hu => match us, hu with | [u0], _ => by rfl) (by decide) ?_ (by rfl) (by rfl) (by rfl) (fun L => @Eq.subst _ (fun b => BR _ _ 4 b _) _ _ law_body.symm ((b_law fx hx).2 _ hC hB h_Int2AP h__ellipsis_match h__check_parenthesis h__law_write h__law_pairs L fa cd)) ?_ ?_ (RVs.cons (RV.ofWell (ofPy_ints is ▸ wl)) RVs.nil) (by rfl) (plain2 is hlen63) ?_
  · exact lawNames
  · exact ⟨rfl, by decide, by decide⟩
  · exact ⟨fun _ _ e _ => e, fun _ x => x.elim, fun _ x => x.elim⟩
  · intro u s' keep os gb rv
    unfold RV at rv
    subst rv
    refine ⟨.inl ⟨.bool true, .bool true, [], rfl, fun cls => by rfl, .bool true, ?_, ?_⟩, OldK.of_keep keep, os, gb.1 (.of_eq hg)⟩
    · first | rfl | (with_unfolding_all rfl) | decide +kernel
    · exact fun _ => ⟨List.nodup_nil, fun a h => absurd h List.not_mem_nil⟩

