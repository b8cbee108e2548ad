import Derived.Test.YbulkeacaC6
namespace Go.Proofs.Ybulkeaca.CW
open Go.RowKit Go.Proofs.Ybulkeaca.Kit

/-! ### the law's own side -/
def isLaw : Tag → Bool
  | .fs | .fa | .sts | .ml _ | .mb _ | .mr _ | .want | .x _ => true
  | _ => false
abbrev Tri := Value × Value × Value
def stF (V : Nat → Tri) (i : Nat) : Value := if i % 3 = 0 then (V (i / 3)).1 else if i % 3 = 1 then (V (i / 3)).2.1 else (V (i / 3)).2.2
def stsF (n : Nat) (V : Nat → Tri) : List Value := rowF (n * 3) (stF V)
theorem stF_0 (V : Nat → Tri) (s : Nat) : stF V (s * 3) = (V s).1 := by unfold stF; rw [if_pos (by omega), show s * 3 / 3 = s by omega]
theorem stF_1 (V : Nat → Tri) (s : Nat) : stF V (s * 3 + 1) = (V s).2.1 := by unfold stF; rw [if_neg (by omega), if_pos (by omega), show (s * 3 + 1) / 3 = s by omega]
theorem stF_2 (V : Nat → Tri) (s : Nat) : stF V (s * 3 + 2) = (V s).2.2 := by unfold stF; rw [if_neg (by omega), if_neg (by omega), show (s * 3 + 2) / 3 = s by omega]
theorem stsF_get {n : Nat} {V : Nat → Tri} {i : Nat} {v : Value} (h : i < n * 3) (e : stF V i = v) : (stsF n V)[i]? = some v := by rw [stsF, rowF_get h, e]
theorem stsF_length (n : Nat) (V : Nat → Tri) : (stsF n V).length = n * 3 := by rw [stsF, rowF_length]
def nil3 : Tri := (.slice none 0 0, .slice none 0 0, .slice none 0 0)
theorem stsF_open (n : Nat) (V : Nat → Tri) : stsF (n + 1) (up V n nil3) = stsF n V ++ [.slice none 0 0, .slice none 0 0, .slice none 0 0] := by
  unfold stsF
  rw [show (n + 1) * 3 = n * 3 + 1 + 1 + 1 by omega, rowF_succ, rowF_succ, rowF_succ, stF_2, stF_1, stF_0, up_same]
  have e : rowF (n * 3) (stF (up V n nil3)) = rowF (n * 3) (stF V) := rowF_congr (fun i hi => by unfold stF; rw [up_other (by omega)])
  rw [e]; simp [nil3]
theorem stsF_set0 {n : Nat} {V : Nat → Tri} {s : Nat} (v : Value) : (stsF n V).set (s * 3) v = stsF n (up V s (v, (V s).2.1, (V s).2.2)) := by
  unfold stsF
  rw [rowF_set]
  refine rowF_congr (fun i hi => ?_)
  by_cases e : i = s * 3
  · rw [if_pos e, e, stF_0, up_same]
  · rw [if_neg e]
    unfold stF
    by_cases e2 : i / 3 = s
    · have h0 : ¬ i % 3 = 0 := by omega
      simp only [e2, up_same, if_neg h0]
    · rw [up_other e2]
theorem stsF_set1 {n : Nat} {V : Nat → Tri} {s : Nat} (v : Value) : (stsF n V).set (s * 3 + 1) v = stsF n (up V s ((V s).1, v, (V s).2.2)) := by
  unfold stsF
  rw [rowF_set]
  refine rowF_congr (fun i hi => ?_)
  by_cases e : i = s * 3 + 1
  · rw [if_pos e, e, stF_1, up_same]
  · rw [if_neg e]
    unfold stF
    by_cases e2 : i / 3 = s
    · rw [e2, up_same]
      by_cases e3 : i % 3 = 0
      · rw [if_pos e3, if_pos e3]
      · rw [if_neg e3, if_neg e3, if_neg (by omega), if_neg (by omega)]
    · rw [up_other e2]
theorem stsF_set2 {n : Nat} {V : Nat → Tri} {s : Nat} (v : Value) : (stsF n V).set (s * 3 + 2) v = stsF n (up V s ((V s).1, (V s).2.1, v)) := by
  unfold stsF
  rw [rowF_set]
  refine rowF_congr (fun i hi => ?_)
  by_cases e : i = s * 3 + 2
  · rw [if_pos e, e, stF_2, up_same]
  · rw [if_neg e]
    unfold stF
    by_cases e2 : i / 3 = s
    · rw [e2, up_same]
      by_cases e3 : i % 3 = 0
      · rw [if_pos e3, if_pos e3]
      · rw [if_neg e3, if_neg e3, if_pos (by omega), if_pos (by omega)]
    · rw [up_other e2]

abbrev fsF (S : Nat → Int) : List Value := rowF 6 fun f => vi (S f)
abbrev faF (At : Nat → Nat) : List Value := rowF 6 fun f => vi (At f)
structure ModD (D : Desc) (M : Mod) (bS bA : Nat) (vsts : Value) (V : Nat → Tri) : Prop where
  fs : D .fs = some (bS, row (fsF M.S) 3)
  fa : D .fa = some (bA, row (faF M.At) 3)
  sts : Sl D .sts 76 3 vsts (stsF M.ns V)
  st : ∀ s, s < M.ns → Sl D (.ml s) 3 1 (V s).1 (intsF M s) ∧ Sl D (.mb s) 78 2 (V s).2.1 (bysF M s) ∧ Sl D (.mr s) 3 1 (V s).2.2 (reF M s)
def usedM : Tag → Bool
  | .fs | .fa | .sts | .ml _ | .mb _ | .mr _ => true
  | _ => false
theorem usedM_x {t : Tag} (h : usedM t = true) (n : Nat) : t ≠ .x n := by rintro rfl; simp [usedM] at h
theorem isLaw_x {t : Tag} (h : isLaw t = false) (n : Nat) : t ≠ .x n := by rintro rfl; simp [isLaw] at h
theorem ModD.congr {D D' : Desc} {M : Mod} {bS bA : Nat} {vsts : Value} {V : Nat → Tri} (h : ModD D M bS bA vsts V) (hd : ∀ t, usedM t = true → D' t = D t) : ModD D' M bS bA vsts V :=
  ⟨(hd _ rfl).trans h.fs, (hd _ rfl).trans h.fa, h.sts.congr (hd _ rfl), fun s hs => ⟨(h.st s hs).1.congr (hd _ rfl), (h.st s hs).2.1.congr (hd _ rfl), (h.st s hs).2.2.congr (hd _ rfl)⟩⟩
theorem ModD.open_ {D D' : Desc} {M : Mod} {bS bA : Nat} {vsts vsts' : Value} {V : Nat → Tri} (h : ModD D M bS bA vsts V) (wf : WF M) (hs : Sl D' .sts 76 3 vsts' (stsF M.ns V ++ [.slice none 0 0, .slice none 0 0, .slice none 0 0])) (hd : ∀ t, usedM t = true → t ≠ .sts → D' t = D t) : ModD D' M.open_ bS bA vsts' (up V M.ns nil3) := by
  refine ⟨(hd _ rfl (by simp)).trans h.fs, (hd _ rfl (by simp)).trans h.fa, by rw [show M.open_.ns = M.ns + 1 from rfl, stsF_open]; exact hs, fun s hs => ?_⟩
  by_cases e : s = M.ns
  · subst e
    have e0 : M.open_.ln M.ns = 0 := wf.emp _ (Nat.le_refl _)
    rw [up_same]
    refine ⟨?_, ?_, ?_⟩
    · simp only [intsF, e0]; exact Sl.nil _ _ _ _
    · simp only [bysF, e0]; exact Sl.nil _ _ _ _
    · simp only [reF, e0]; exact Sl.nil _ _ _ _
  · rw [up_other e]
    obtain ⟨h1, h2, h3⟩ := h.st s (by simp only [Mod.open_] at hs; omega)
    exact ⟨h1.congr (hd _ rfl (by simp)), h2.congr (hd _ rfl (by simp)), h3.congr (hd _ rfl (by simp))⟩
theorem fsF_up {S : Nat → Int} {f : Nat} {v : Int} : (fsF S).set f (vi v) = fsF (up S f v) := by
  rw [rowF_set]; exact rowF_congr (fun i _ => by unfold up; by_cases e : i = f <;> simp [e])
theorem faF_up {S : Nat → Nat} {f : Nat} {v : Nat} : (faF S).set f (vi v) = faF (up S f v) := by
  rw [rowF_set]; exact rowF_congr (fun i _ => by unfold up; by_cases e : i = f <;> simp [e])
theorem ModD.push {D D' : Desc} {M : Mod} {bS bA : Nat} {vsts : Value} {V : Nat → Tri} {s f : Nat} (h : ModD D M bS bA vsts V) {vl vb vr : Value} (h0 : Sl D' .sts 76 3 vsts (stsF M.ns (up V s (vl, vb, vr)))) (h1 : Sl D' (.ml s) 3 1 vl (intsF M s ++ [vi f])) (h2 : Sl D' (.mb s) 78 2 vb (bysF M s ++ [.string .empty, vi 0])) (h3 : Sl D' (.mr s) 3 1 vr (reF M s ++ [vi 0]))
    (h4 : D' .fs = some (bS, row ((fsF M.S).set f (vi s)) 3)) (h5 : D' .fa = some (bA, row ((faF M.At).set f (vi (M.ln s))) 3)) (hd : ∀ t, usedM t = true → t ≠ .fs → t ≠ .fa → t ≠ .sts → t ≠ .ml s → t ≠ .mb s → t ≠ .mr s → D' t = D t) : ModD D' (M.push s f) bS bA vsts (up V s (vl, vb, vr)) := by
  refine ⟨by rw [h4, fsF_up]; rfl, by rw [h5, faF_up]; rfl, h0, fun t ht => ?_⟩
  by_cases e : t = s
  · subst e
    rw [up_same, intsF_push, bysF_push, reF_push]
    exact ⟨h1, h2, h3⟩
  · rw [up_other e, intsF_push_other _ _ _ _ e, bysF_push_other _ _ _ _ e, reF_push_other _ _ _ _ e]
    obtain ⟨k1, k2, k3⟩ := h.st t ht
    exact ⟨k1.congr (hd _ rfl (by simp) (by simp) (by simp) (by simp [e]) (by simp) (by simp)), k2.congr (hd _ rfl (by simp) (by simp) (by simp) (by simp) (by simp [e]) (by simp)), k3.congr (hd _ rfl (by simp) (by simp) (by simp) (by simp) (by simp) (by simp [e]))⟩

/-- one cell of a slice of one's own -/
theorem Sl.setAt {D : Desc} {t : Tag} {e : TypeId} {sz g k cap : Nat} {vs spare : List Value} (hl : vs.length = k * sz) (h2 : (vs ++ spare).length = cap * sz) (hc : cap ≤ maxLen) {i : Nat} (hi : i < vs.length) (u : Value) : Sl (upd D t g (row ((vs ++ spare).set i u) e)) t e sz (.slice (some ⟨g, 0, none⟩) k cap) (vs.set i u) :=
  .inr ⟨g, k, cap, spare, rfl, by rw [List.length_set]; exact hl, by rw [List.length_append, List.length_set, ← List.length_append]; exact h2, hc, by rw [upd_same, List.set_append_left _ _ hi]⟩
theorem Sl.open_ {D : Desc} {t : Tag} {e : TypeId} {sz : Nat} {v : Value} {vs : List Value} {len : Nat} (h : Sl D t e sz v vs) (hl : vs.length = len * sz) (hpos : 0 < len) (hp : 0 < sz := by decide) : ∃ g cap spare, v = .slice (some ⟨g, 0, none⟩) len cap ∧ (vs ++ spare).length = cap * sz ∧ cap ≤ maxLen ∧ D t = some (g, row (vs ++ spare) e) := by
  rcases h with ⟨rfl, rfl⟩ | ⟨g, k, cap, spare, rfl, h1, h2, h3, h4⟩
  · have := Nat.mul_pos hpos hp
    simp at hl; omega
  · have : len = k := Nat.eq_of_mul_eq_mul_right hp (hl.symm.trans h1)
    subst this
    exact ⟨g, cap, spare, rfl, h2, h3, h4⟩

def legM (l : Leg) : List Value := [vi l.sid, vi l.from_, vi l.to, .string l.as.1, vi l.as.2]
def legsM (ls : List Leg) : List Value := ls.flatMap legM
theorem legsM_app (a b : List Leg) : legsM (a ++ b) = legsM a ++ legsM b := by simp [legsM]
theorem legsM_one (l : Leg) : legsM [l] = legM l := by simp [legsM]
theorem legsM_length : ∀ ls : List Leg, (legsM ls).length = ls.length * 5
  | [] => by simp [legsM]
  | l :: ls => by
    have := legsM_length ls
    simp only [legsM] at this
    simp [legsM, legM, this]; omega

/-- What stands while the law reckons its model. -/
structure Mdl (w0 : World) (D0 : Desc) (M0 : Mod) (bS bA nb b a : Nat) (M : Mod) (V : Nat → Tri) (acc : List Leg) (vsts vw : Value) (D : Desc) (w : World) : Prop where
  h : Holds w0 w D
  md : ModD D M bS bA vsts V
  wf : WF M
  wt : Sl D .want 80 5 vw (legsM acc)
  same : ∀ t, isLaw t = false → D t = D0 t
  sid : ∀ l ∈ acc, l.sid < M.ns
  ns0 : M0.ns ≤ M.ns
  nsB : M.ns ≤ nb
  lnB : ∀ s, M.ln s ≤ b
  accB : acc.length ≤ a
section
variable {w0 : World} {D0 : Desc} {M0 : Mod} {bS bA nb b a : Nat} {M : Mod} {V : Nat → Tri} {acc : List Leg} {vsts vw : Value} {D D' : Desc} {w w' : World}
theorem Mdl.scratch (d : Mdl w0 D0 M0 bS bA nb b a M V acc vsts vw D w) (h : Holds w0 w' D') (hd : ∀ t, (∀ m, t ≠ .x m) → D' t = D t) : Mdl w0 D0 M0 bS bA nb b a M V acc vsts vw D' w' :=
  ⟨h, d.md.congr (fun t ht => hd t (usedM_x ht)), d.wf, d.wt.congr (hd _ (by simp)), fun t ht => (hd t (isLaw_x ht)).trans (d.same t ht), d.sid, d.ns0, d.nsB, d.lnB, d.accB⟩
theorem Mdl.bounds (d : Mdl w0 D0 M0 bS bA nb b a M V acc vsts vw D w) {nb' b' a' : Nat} (h1 : nb ≤ nb') (h2 : b ≤ b') (h3 : acc.length ≤ a') : Mdl w0 D0 M0 bS bA nb' b' a' M V acc vsts vw D w :=
  ⟨d.h, d.md, d.wf, d.wt, d.same, d.sid, d.ns0, Nat.le_trans d.nsB h1, fun s => Nat.le_trans (d.lnB s) h2, h3⟩
theorem Mdl.open_ (d : Mdl w0 D0 M0 bS bA nb b a M V acc vsts vw D w) (h : Holds w0 w' D') {vsts' : Value} (hs : Sl D' .sts 76 3 vsts' (stsF M.ns V ++ [.slice none 0 0, .slice none 0 0, .slice none 0 0])) (hd : ∀ t, (∀ m, t ≠ .x m) → t ≠ .sts → D' t = D t) : Mdl w0 D0 M0 bS bA (nb + 1) b a M.open_ (up V M.ns nil3) acc vsts' vw D' w' :=
  ⟨h, d.md.open_ d.wf hs (fun t ht h1 => hd t (usedM_x ht) h1), d.wf.open_, d.wt.congr (hd _ (by simp) (by simp)), fun t ht => (hd t (isLaw_x ht) (by rintro rfl; simp [isLaw] at ht)).trans (d.same t ht), fun l hl => by have := d.sid l hl; simp only [Mod.open_]; omega, by have := d.ns0; simp only [Mod.open_]; omega, by have := d.nsB; simp only [Mod.open_]; omega, d.lnB, d.accB⟩
theorem Mdl.leg (d : Mdl w0 D0 M0 bS bA nb b a M V acc vsts vw D w) (l : Leg) (hs : l.sid < M.ns) (h : Holds w0 w' D') {vw' : Value} (hw : Sl D' .want 80 5 vw' (legsM acc ++ legM l)) (hd : ∀ t, (∀ m, t ≠ .x m) → t ≠ .want → D' t = D t) {a' : Nat} (ha : acc.length + 1 ≤ a') : Mdl w0 D0 M0 bS bA nb b a' M V (acc ++ [l]) vsts vw' D' w' :=
  ⟨h, d.md.congr (fun t ht => hd t (usedM_x ht) (by rintro rfl; simp [usedM] at ht)), d.wf, by rw [legsM_app, legsM_one]; exact hw, fun t ht => (hd t (isLaw_x ht) (by rintro rfl; simp [isLaw] at ht)).trans (d.same t ht), fun x hx => by simp only [List.mem_append, List.mem_singleton] at hx; rcases hx with hx | rfl; exact d.sid x hx; exact hs, d.ns0, d.nsB, d.lnB, by simp; omega⟩
theorem Mdl.push (d : Mdl w0 D0 M0 bS bA nb b a M V acc vsts vw D w) {s f : Nat} (hs : s < M.ns) (hf : f < 6) (hneg : M.S f < 0) (h : Holds w0 w' D') {V' : Nat → Tri} (md : ModD D' (M.push s f) bS bA vsts V') (hd : ∀ t, (∀ m, t ≠ .x m) → t ≠ .fs → t ≠ .fa → t ≠ .sts → t ≠ .ml s → t ≠ .mb s → t ≠ .mr s → D' t = D t) : Mdl w0 D0 M0 bS bA nb (b + 1) a (M.push s f) V' acc vsts vw D' w' :=
  ⟨h, md, d.wf.push hs hf hneg, d.wt.congr (hd _ (by simp) (by simp) (by simp) (by simp) (by simp) (by simp) (by simp)), fun t ht => (hd t (isLaw_x ht) (by rintro rfl; simp [isLaw] at ht) (by rintro rfl; simp [isLaw] at ht) (by rintro rfl; simp [isLaw] at ht) (by rintro rfl; simp [isLaw] at ht) (by rintro rfl; simp [isLaw] at ht) (by rintro rfl; simp [isLaw] at ht)).trans (d.same t ht), d.sid, d.ns0, d.nsB, fun t => by
    have := d.lnB t
    simp only [Mod.push]
    by_cases e : t = s
    · subst e; rw [up_same]; omega
    · rw [up_other e]; omega, d.accB⟩
end

/-! ### a block of the law's body -/
def blockOf : Code → Nat → Option Code
  | .block i b, n => if i = n then some (.block i b) else blockOf b n
  | .seq a b, n => match blockOf a n with | some x => some x | none => blockOf b n
  | .cond _ a b, n => match blockOf a n with | some x => some x | none => blockOf b n
  | .loop b, n => blockOf b n
  | .scope b, n => blockOf b n
  | _, _ => none
noncomputable def B3 (n : Nat) : Code := (Yba.f3.body.bind fun c => blockOf c n).getD .skip
theorem code_gen {P : Program} {Q : Exit → Act → World → Prop} {c : Code} {a : Act} {w : World} (h : ∀ c0, c0 = c → c0.wp P Q a w) : c.wp P Q a w := h c rfl
end Go.Proofs.Ybulkeaca.CW
