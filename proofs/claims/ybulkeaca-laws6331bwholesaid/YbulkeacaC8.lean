import Derived.Test.YbulkeacaC3
namespace Go.Proofs.Ybulkeaca.CW

/-! ### what the whole keeps -/
def WF2 (M : Mod) : Prop := ∀ s k, s < M.ns → k < M.ln s → M.S (M.El s k) = s
def NE (M : Mod) : Prop := ∀ s, s < M.ns → 0 < M.ln s
theorem WF2.push {M : Mod} (h : WF2 M) {s f : Nat} (hneg : M.S f < 0) : WF2 (M.push s f) := by
  intro t k ht hk
  simp only [Mod.push] at ht hk ⊢
  by_cases e : t = s ∧ k = M.ln s
  · obtain ⟨rfl, rfl⟩ := e
    rw [up2_same, up_same]
  · have hk' : k < M.ln t := by
      by_cases et : t = s
      · subst et; rw [up_same] at hk; omega
      · rw [up_other et] at hk; exact hk
    have hS := h t k ht hk'
    rw [up2_other e, up_other (fun e2 => by rw [e2] at hS; omega)]
    exact hS
theorem WF2.open_ {M : Mod} (h : WF2 M) (wf : WF M) : WF2 M.open_ := by
  intro t k ht hk
  have hk : k < M.ln t := hk
  by_cases e : t = M.ns
  · subst e; rw [wf.emp _ (Nat.le_refl _)] at hk; omega
  · exact h t k (by simp only [Mod.open_] at ht; omega) hk
theorem ext_inv {L : Nat → Nat} {n s : Nat} (hL : ∀ j, j < n → L j < 6) : ∀ (fuel : Nat) (M : Mod) (i : Nat) {M2 : Mod} {i2 : Nat}, ext L n s fuel M i = (M2, i2) → WF M → WF2 M → s < M.ns → WF M2 ∧ WF2 M2 ∧ M2.ns = M.ns ∧ ∀ t, M.ln t ≤ M2.ln t
  | 0, M, i, M2, i2, h, wf, w2, hs => by
    simp only [ext, Prod.mk.injEq] at h
    obtain ⟨rfl, rfl⟩ := h
    exact ⟨wf, w2, rfl, fun _ => Nat.le_refl _⟩
  | fuel + 1, M, i, M2, i2, h, wf, w2, hs => by
    rw [ext] at h
    split at h
    · rename_i hc
      obtain ⟨h1, h2, h3, h4⟩ := ext_inv hL fuel _ _ h (wf.push hs (hL i hc.1) hc.2) (w2.push hc.2) hs
      refine ⟨h1, h2, h3, fun t => Nat.le_trans ?_ (h4 t)⟩
      simp only [Mod.push]
      by_cases e : t = s
      · subst e; rw [up_same]; omega
      · rw [up_other e]; omega
    · simp only [Prod.mk.injEq] at h
      obtain ⟨rfl, rfl⟩ := h
      exact ⟨wf, w2, rfl, fun _ => Nat.le_refl _⟩
theorem round_inv {L : Nat → Nat} {n i : Nat} {M : Mod} (hL : ∀ j, j < n → L j < 6) (hi : i < n) (wf : WF M) (w2 : WF2 M) (ne : NE M) : WF (round L n M i).1 ∧ WF2 (round L n M i).1 ∧ NE (round L n M i).1 := by
  obtain ⟨⟨M1, s, p⟩, hb⟩ : ∃ R, begin_ M (L i) = R := ⟨_, rfl⟩
  obtain ⟨⟨i1, q⟩, hm⟩ : ∃ R, mrun M1 L n s (n - i) i p = R := ⟨_, rfl⟩
  obtain ⟨wf1, hs1, hp1, hln, hn1, hn2, hS⟩ := begin_spec wf (hL i hi) hb
  have hpg := progress1 wf hi (hL i hi) hb hm
  have hopen : (M1 = M ∧ ¬ M.S (L i) < 0) ∨ (M1 = M.open_ ∧ s = M.ns ∧ i1 = i ∧ q = M1.ln s ∧ M1.S (L i) < 0) := by
    unfold begin_ at hb
    split at hb
    · rename_i hneg
      simp only [Prod.mk.injEq] at hb
      obtain ⟨rfl, rfl, rfl⟩ := hb
      have e0 : M.open_.ln M.ns = 0 := wf.emp _ (Nat.le_refl _)
      rw [mrun_stop (by omega)] at hm
      simp only [Prod.mk.injEq] at hm
      exact .inr ⟨rfl, rfl, hm.1.symm, by omega, hneg⟩
    · rename_i hneg
      simp only [Prod.mk.injEq] at hb
      exact .inl ⟨hb.1.symm, hneg⟩
  have w21 : WF2 M1 := by
    rcases hopen with ⟨rfl, _⟩ | ⟨rfl, _⟩
    · exact w2
    · exact w2.open_ wf
  by_cases hq : q = M1.ln s
  · obtain ⟨⟨M9, i9⟩, hE⟩ : ∃ R, ext L n s (n - i1) M1 i1 = R := ⟨_, rfl⟩
    rw [round_eq hb hm (tail_ext hq hE)]
    obtain ⟨h1, h2, h3, h4⟩ := ext_inv hL _ _ _ hE wf1 w21 hs1
    refine ⟨h1, h2, fun t ht => ?_⟩
    have ht1 : t < M1.ns := by rw [← h3]; exact ht
    show 0 < M9.ln t
    rcases hopen with ⟨rfl, _⟩ | ⟨rfl, rfl, rfl, _, hneg⟩
    · exact Nat.lt_of_lt_of_le (ne t ht1) (h4 t)
    · by_cases e : t = M.ns
      · subst e
        rw [ext_step ⟨hi, hneg⟩] at hE
        obtain ⟨_, _, _, h8⟩ := ext_inv hL _ _ _ hE (wf1.push hs1 (hL _ hi) hneg) (w21.push hneg) hs1
        have := h8 M.ns
        simp only [Mod.push, up_same] at this
        omega
      · exact Nat.lt_of_lt_of_le (ne t (by have : t < M.ns + 1 := ht1; omega)) (h4 t)
  · rw [round_eq hb hm (tail_ne hq)]
    rcases hopen with ⟨rfl, _⟩ | ⟨_, _, _, h, _⟩
    · exact ⟨wf, w2, ne⟩
    · exact absurd h hq
theorem Whole.inv {L : Nat → Nat} {n : Nat} (hL : ∀ j, j < n → L j < 6) {M : Mod} {i : Nat} {acc : List Leg} {M' : Mod} {acc' : List Leg} (h : Whole L n M i acc M' acc') : WF M → WF2 M → NE M → WF M' ∧ WF2 M' ∧ NE M' := by
  induction h with
  | stop _ => intro h1 h2 h3; exact ⟨h1, h2, h3⟩
  | step hi _ ih =>
    intro h1 h2 h3
    obtain ⟨k1, k2, k3⟩ := round_inv hL hi h1 h2 h3
    exact ih k1 k2 k3
end Go.Proofs.Ybulkeaca.CW
