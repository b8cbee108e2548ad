import Derived.Test.YbulkeacaC9
import Derived.Test.YbulkeacaC8
namespace Go.Proofs.Ybulkeaca.CW
open Go.RowKit Go.Proofs.Ybulkeaca.Kit

/-! ### the mark -/
def Mod.mark (M : Mod) (s k : Nat) (p : Pl) (r : Int) : Mod := { M with by_ := up2 M.by_ s k p, re := up2 M.re s k r }
theorem reF_mark (M : Mod) (s k : Nat) (p : Pl) (r : Int) : (reF M s).set k (vi r) = reF (M.mark s k p r) s := by
  unfold reF
  rw [rowF_set]
  refine rowF_congr (fun i _ => ?_)
  simp only [Mod.mark]
  by_cases e : i = k
  · subst e; rw [up2_same]; simp
  · rw [if_neg e, up2_other (fun h => e h.2)]
theorem reF_mark_other (M : Mod) (s k t : Nat) (p : Pl) (r : Int) (h : t ≠ s) : reF (M.mark s k p r) t = reF M t := rowF_congr (fun i _ => by simp only [Mod.mark]; rw [up2_other (fun e => h e.1)])
theorem bysF_mark (M : Mod) (s k : Nat) (p : Pl) (r : Int) : ((bysF M s).set (k * 2) (.string p.1)).set (k * 2 + 1) (vi p.2) = bysF (M.mark s k p r) s := by
  unfold bysF
  rw [rowF_set, rowF_set]
  refine rowF_congr (fun i _ => ?_)
  simp only [Mod.mark]
  by_cases e1 : i = k * 2 + 1
  · rw [if_pos e1, e1, byF_1]; simp only [up2_same]
  · rw [if_neg e1]
    by_cases e0 : i = k * 2
    · rw [if_pos e0, e0, byF_0]; simp only [up2_same]
    · rw [if_neg e0]
      have hne : ¬(s = s ∧ i / 2 = k) := fun e => by omega
      simp only [byF, up2_other hne]
theorem bysF_mark_other (M : Mod) (s k t : Nat) (p : Pl) (r : Int) (h : t ≠ s) : bysF (M.mark s k p r) t = bysF M t := rowF_congr (fun i _ => by
  have hne : ¬(t = s ∧ i / 2 = k) := fun e => h e.1
  simp only [byF, Mod.mark, up2_other hne])
theorem WF.mark {M : Mod} (h : WF M) (s k : Nat) (p : Pl) (r : Int) : WF (M.mark s k p r) := ⟨h.file, h.el, h.emp⟩
theorem WF2.mark {M : Mod} (h : WF2 M) (s k : Nat) (p : Pl) (r : Int) : WF2 (M.mark s k p r) := h
theorem NE.mark {M : Mod} (h : NE M) (s k : Nat) (p : Pl) (r : Int) : NE (M.mark s k p r) := h
theorem ModD.mark {D D' : Desc} {M : Mod} {bS bA : Nat} {vsts : Value} {V : Nat → Tri} (h : ModD D M bS bA vsts V) {s k : Nat} (p : Pl) (r : Int) (h1 : Sl D' (.mb s) 78 2 (V s).2.1 (((bysF M s).set (k * 2) (.string p.1)).set (k * 2 + 1) (vi p.2))) (h2 : Sl D' (.mr s) 3 1 (V s).2.2 ((reF M s).set k (vi r)))
    (hd : ∀ t, usedM t = true → t ≠ .mb s → t ≠ .mr s → D' t = D t) : ModD D' (M.mark s k p r) bS bA vsts V := by
  refine ⟨(hd _ rfl (by simp) (by simp)).trans h.fs, (hd _ rfl (by simp) (by simp)).trans h.fa, h.sts.congr (hd _ rfl (by simp) (by simp)), fun t ht => ?_⟩
  obtain ⟨k1, k2, k3⟩ := h.st t ht
  by_cases e : t = s
  · subst e
    rw [← bysF_mark, ← reF_mark M t k p r]
    exact ⟨k1.congr (hd _ rfl (by simp) (by simp)), h1, h2⟩
  · rw [bysF_mark_other _ _ _ _ _ _ e, reF_mark_other _ _ _ _ _ _ e]
    exact ⟨k1.congr (hd _ rfl (by simp) (by simp)), k2.congr (hd _ rfl (by simp [e]) (by simp)), k3.congr (hd _ rfl (by simp) (by simp [e]))⟩
theorem RealD.mark {D D' : Desc} {M : Mod} {P pts : Nat → Nat} {mb : Nat} (h : RealD D M P pts mb) {s k : Nat} (p : Pl) (r : Int) {vl vb vr : Value} (h0 : D (.st s) = some (pts s, row [vl, vb, vr] 103)) (h1 : Sl D' (.rb s) 78 2 vb (((bysF M s).set (k * 2) (.string p.1)).set (k * 2 + 1) (vi p.2))) (h2 : Sl D' (.rr s) 3 1 vr ((reF M s).set k (vi r)))
    (hd : ∀ t, usedR t = true → t ≠ .rb s → t ≠ .rr s → D' t = D t) : RealD D' (M.mark s k p r) P pts mb := by
  refine ⟨fun f hf => by rw [hd _ rfl (by simp) (by simp)]; exact h.files f hf, by rw [hd _ rfl (by simp) (by simp)]; exact h.mp, fun t ht => ?_⟩
  obtain ⟨wl, wb, wr, k0, k1, k2, k3⟩ := h.st t ht
  by_cases e : t = s
  · subst e
    rw [h0] at k0
    have e3 : [vl, vb, vr] = [wl, wb, wr] := by simpa using k0
    cases e3
    rw [← bysF_mark, ← reF_mark M t k p r]
    exact ⟨vl, vb, vr, by rw [hd _ rfl (by simp) (by simp)]; exact h0, k1.congr (hd _ rfl (by simp) (by simp)), h1, h2⟩
  · rw [bysF_mark_other _ _ _ _ _ _ e, reF_mark_other _ _ _ _ _ _ e]
    exact ⟨wl, wb, wr, by rw [hd _ rfl (by simp) (by simp)]; exact k0, k1.congr (hd _ rfl (by simp) (by simp)), k2.congr (hd _ rfl (by simp [e]) (by simp)), k3.congr (hd _ rfl (by simp) (by simp [e]))⟩

/-! ### a conditional of the law's body, by its test's slot -/
def isTmp : Operand → Nat → Bool
  | .tmp t, n => t == n
  | _, _ => false
def condOf : Code → Nat → Option Code
  | .cond c a b, n => if isTmp c n then some (.cond c a b) else match condOf a n with | some x => some x | none => condOf b n
  | .seq a b, n => match condOf a n with | some x => some x | none => condOf b n
  | .block _ b, n => condOf b n
  | .loop b, n => condOf b n
  | .scope b, n => condOf b n
  | _, _ => none
end Go.Proofs.Ybulkeaca.CW
