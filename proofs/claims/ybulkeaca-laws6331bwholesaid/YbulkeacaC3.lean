import Derived.WalkKit
namespace Go.Proofs.Ybulkeaca.CW

/-! ### The plain model: no Go in sight -/
abbrev Pl := ByteArray × Int
structure Mod where
  ns : Nat
  S : Nat → Int
  At : Nat → Nat
  ln : Nat → Nat
  El : Nat → Nat → Nat
  by_ : Nat → Nat → Pl
  re : Nat → Nat → Int
structure Leg where
  sid : Nat
  from_ : Nat
  to : Nat
  as : Pl
def nopl : Pl := (.empty, 0)

def up {α : Type} (f : Nat → α) (k : Nat) (v : α) : Nat → α := fun i => if i = k then v else f i
def up2 {α : Type} (f : Nat → Nat → α) (s k : Nat) (v : α) : Nat → Nat → α := fun t i => if t = s ∧ i = k then v else f t i
theorem up_same {α : Type} (f : Nat → α) (k : Nat) (v : α) : up f k v k = v := by simp [up]
theorem up_other {α : Type} {f : Nat → α} {k i : Nat} {v : α} (h : i ≠ k) : up f k v i = f i := by simp [up, h]
theorem up2_same {α : Type} (f : Nat → Nat → α) (s k : Nat) (v : α) : up2 f s k v s k = v := by simp [up2]
theorem up2_other {α : Type} {f : Nat → Nat → α} {s k t i : Nat} {v : α} (h : ¬(t = s ∧ i = k)) : up2 f s k v t i = f t i := by simp only [up2, if_neg h]

/-- a new stretch, empty -/
def Mod.open_ (M : Mod) : Mod := { M with ns := M.ns + 1 }
/-- list f onto the end of stretch s -/
def Mod.push (M : Mod) (s f : Nat) : Mod :=
  { M with S := up M.S f s, At := up M.At f (M.ln s), ln := up M.ln s (M.ln s + 1), El := up2 M.El s (M.ln s) f, by_ := up2 M.by_ s (M.ln s) nopl, re := up2 M.re s (M.ln s) 0 }

def mrun (M : Mod) (L : Nat → Nat) (n s : Nat) : Nat → Nat → Nat → Nat × Nat
  | 0, i, q => (i, q)
  | fuel + 1, i, q => if i < n ∧ q < M.ln s ∧ M.El s q = L i then mrun M L n s fuel (i + 1) (q + 1) else (i, q)
def nextK (M : Mod) (s q k : Nat) : Nat := (min (max (M.re s k) (k + 1)) q).toNat
def legsOf (M : Mod) (s q : Nat) : Nat → Nat → List Leg
  | 0, _ => []
  | fuel + 1, k => if k < q then ⟨s, k, nextK M s q k, M.by_ s k⟩ :: legsOf M s q fuel (nextK M s q k) else []
def ext (L : Nat → Nat) (n s : Nat) : Nat → Mod → Nat → Mod × Nat
  | 0, M, i => (M, i)
  | fuel + 1, M, i => if i < n ∧ M.S (L i) < 0 then ext L n s fuel (M.push s (L i)) (i + 1) else (M, i)

theorem nextK_gt {M : Mod} {s q k : Nat} (h : k < q) : k < nextK M s q k := by unfold nextK; omega
theorem nextK_le {M : Mod} {s q k : Nat} : nextK M s q k ≤ q := by unfold nextK; omega
theorem mrun_step {M : Mod} {L : Nat → Nat} {n s i q : Nat} (h : i < n ∧ q < M.ln s ∧ M.El s q = L i) : mrun M L n s (n - i) i q = mrun M L n s (n - (i + 1)) (i + 1) (q + 1) := by
  rw [show n - i = (n - (i + 1)) + 1 by omega, mrun, if_pos h]
theorem mrun_stop {M : Mod} {L : Nat → Nat} {n s i q : Nat} (h : ¬(i < n ∧ q < M.ln s ∧ M.El s q = L i)) : mrun M L n s (n - i) i q = (i, q) := by
  cases hf : n - i with
  | zero => rfl
  | succ f => rw [mrun, if_neg h]
theorem legsOf_step {M : Mod} {s q k : Nat} (h : k < q) : legsOf M s q (q - k) k = ⟨s, k, nextK M s q k, M.by_ s k⟩ :: legsOf M s q (q - nextK M s q k) (nextK M s q k) := by
  have key : ∀ f1 f2 j, q - j ≤ f1 → q - j ≤ f2 → legsOf M s q f1 j = legsOf M s q f2 j := by
    intro f1
    induction f1 with
    | zero =>
      intro f2 j h1 h2
      cases f2 with
      | zero => rfl
      | succ f2 => rw [legsOf, legsOf, if_neg (by omega)]
    | succ f1 ih =>
      intro f2 j h1 h2
      cases f2 with
      | zero => rw [legsOf, legsOf, if_neg (by omega)]
      | succ f2 =>
        rw [legsOf, legsOf]
        by_cases hj : j < q
        · have := nextK_gt (M := M) (s := s) hj
          rw [if_pos hj, if_pos hj, ih f2 _ (by omega) (by omega)]
        · rw [if_neg hj, if_neg hj]
  have hg := nextK_gt (M := M) (s := s) h
  rw [show q - k = (q - (k + 1)) + 1 by omega, legsOf, if_pos h, key _ (q - nextK M s q k) _ (by omega) (by omega)]
theorem legsOf_stop {M : Mod} {s q k : Nat} (h : ¬ k < q) : legsOf M s q (q - k) k = [] := by
  rw [show q - k = 0 by omega, legsOf]
theorem ext_step {M : Mod} {L : Nat → Nat} {n s i : Nat} (h : i < n ∧ M.S (L i) < 0) : ext L n s (n - i) M i = ext L n s (n - (i + 1)) (M.push s (L i)) (i + 1) := by
  rw [show n - i = (n - (i + 1)) + 1 by omega, ext, if_pos h]
theorem ext_stop {M : Mod} {L : Nat → Nat} {n s i : Nat} (h : ¬(i < n ∧ M.S (L i) < 0)) : ext L n s (n - i) M i = (M, i) := by
  cases hf : n - i with
  | zero => rfl
  | succ f => rw [ext, if_neg h]

/-- one round of the outer loop -/
def begin_ (M : Mod) (f : Nat) : Mod × Nat × Nat := if M.S f < 0 then (M.open_, M.ns, 0) else (M, (M.S f).toNat, M.At f)
def tail (L : Nat → Nat) (n s : Nat) (M : Mod) (i q : Nat) : Mod × Nat × List Leg :=
  if q = M.ln s then
    let r := ext L n s (n - i) M i
    (r.1, r.2, if q < r.1.ln s then [⟨s, q, r.1.ln s, nopl⟩] else [])
  else (M, i, [])
def round (L : Nat → Nat) (n : Nat) (M : Mod) (i : Nat) : Mod × Nat × List Leg :=
  let b := begin_ M (L i)
  let r := mrun b.1 L n b.2.1 (n - i) i b.2.2
  let t := tail L n b.2.1 b.1 r.1 r.2
  (t.1, t.2.1, legsOf b.1 b.2.1 r.2 (r.2 - b.2.2) b.2.2 ++ t.2.2)
inductive Whole (L : Nat → Nat) (n : Nat) : Mod → Nat → List Leg → Mod → List Leg → Prop
  | stop {M : Mod} {i : Nat} {acc : List Leg} : ¬ i < n → Whole L n M i acc M acc
  | step {M : Mod} {i : Nat} {acc : List Leg} {M' : Mod} {acc' : List Leg} : i < n → Whole L n (round L n M i).1 (round L n M i).2.1 (acc ++ (round L n M i).2.2) M' acc' → Whole L n M i acc M' acc'
theorem Whole.det {L : Nat → Nat} {n : Nat} {M : Mod} {i : Nat} {acc : List Leg} {M1 : Mod} {a1 : List Leg} (h : Whole L n M i acc M1 a1) : ∀ {M2 : Mod} {a2 : List Leg}, Whole L n M i acc M2 a2 → M1 = M2 ∧ a1 = a2 := by
  induction h with
  | stop h => intro M2 a2 h2; cases h2 with
    | stop _ => exact ⟨rfl, rfl⟩
    | step h' _ => exact absurd h' h
  | step h _ ih => intro M2 a2 h2; cases h2 with
    | stop h' => exact absurd h h'
    | step _ h'' => exact ih h''
theorem round_eq {L : Nat → Nat} {n : Nat} {M M1 M2 : Mod} {i s p i1 q i2 : Nat} {tl : List Leg} (hb : begin_ M (L i) = (M1, s, p)) (hm : mrun M1 L n s (n - i) i p = (i1, q)) (ht : tail L n s M1 i1 q = (M2, i2, tl)) :
    round L n M i = (M2, i2, legsOf M1 s q (q - p) p ++ tl) := by
  simp only [round, hb, hm, ht]
theorem tail_ext {L : Nat → Nat} {n s i q : Nat} {M M2 : Mod} {i2 : Nat} (hq : q = M.ln s) (he : ext L n s (n - i) M i = (M2, i2)) : tail L n s M i q = (M2, i2, if q < M2.ln s then [⟨s, q, M2.ln s, nopl⟩] else []) := by
  simp only [tail, if_pos hq, he]
theorem tail_ne {L : Nat → Nat} {n s i q : Nat} {M : Mod} (hq : q ≠ M.ln s) : tail L n s M i q = (M, i, []) := by
  simp only [tail, if_neg hq]
theorem mrun_spec {M : Mod} {L : Nat → Nat} {n s : Nat} : ∀ (fuel i q : Nat) {i' q' : Nat}, mrun M L n s fuel i q = (i', q') → i ≤ n → q ≤ M.ln s → i ≤ i' ∧ i' ≤ n ∧ q' ≤ M.ln s ∧ q' + i = q + i'
  | 0, i, q, i', q', h, hn, hq => by simp only [mrun, Prod.mk.injEq] at h; omega
  | fuel + 1, i, q, i', q', h, hn, hq => by
    rw [mrun] at h
    split at h
    · have := mrun_spec fuel (i + 1) (q + 1) h (by omega) (by omega); omega
    · simp only [Prod.mk.injEq] at h; omega
theorem legsOf_length {M : Mod} {s q : Nat} : ∀ (fuel k : Nat), (legsOf M s q fuel k).length ≤ q - k
  | 0, k => by simp [legsOf]
  | fuel + 1, k => by
    rw [legsOf]
    split
    · have := legsOf_length (M := M) (s := s) (q := q) fuel (nextK M s q k)
      have := nextK_gt (M := M) (s := s) (q := q) (k := k) (by omega)
      simp only [List.length_cons]; omega
    · simp
theorem legsOf_sid {M : Mod} {s q : Nat} : ∀ (fuel k : Nat), ∀ l ∈ legsOf M s q fuel k, l.sid = s
  | 0, k, l, h => by simp [legsOf] at h
  | fuel + 1, k, l, h => by
    rw [legsOf] at h
    split at h
    · simp only [List.mem_cons] at h
      rcases h with rfl | h
      · rfl
      · exact legsOf_sid fuel _ l h
    · simp at h

/-- what every state bears -/
structure WF (M : Mod) : Prop where
  file : ∀ f, f < 6 → M.S f = -1 ∨ ∃ s : Nat, M.S f = s ∧ s < M.ns ∧ M.At f < M.ln s ∧ M.El s (M.At f) = f
  el : ∀ s k, s < M.ns → k < M.ln s → M.El s k < 6
  emp : ∀ s, M.ns ≤ s → M.ln s = 0

theorem WF.open_ {M : Mod} (h : WF M) : WF M.open_ := by
  refine ⟨fun f hf => ?_, fun s k hs hk => ?_, fun s hs => ?_⟩
  · rcases h.file f hf with h1 | ⟨s, h1, h2, h3, h4⟩
    · exact .inl h1
    · exact .inr ⟨s, h1, by simp only [Mod.open_]; omega, h3, h4⟩
  · have hk : k < M.ln s := hk
    by_cases e : s = M.ns
    · rw [e, h.emp _ (Nat.le_refl _)] at hk; omega
    · exact h.el s k (by simp only [Mod.open_] at hs; omega) hk
  · exact h.emp s (by simp only [Mod.open_] at hs; omega)
theorem WF.push {M : Mod} (h : WF M) {s f : Nat} (hs : s < M.ns) (hf : f < 6) (hneg : M.S f < 0) : WF (M.push s f) := by
  refine ⟨fun g hg => ?_, fun t k ht hk => ?_, fun t ht => ?_⟩
  · by_cases e : g = f
    · subst e
      exact .inr ⟨s, by simp only [Mod.push, up_same], hs, by simp only [Mod.push, up_same]; omega, by simp only [Mod.push, up_same, up2_same]⟩
    · rcases h.file g hg with h1 | ⟨t, h1, h2, h3, h4⟩
      · exact .inl (by simp only [Mod.push, up_other e]; exact h1)
      · refine .inr ⟨t, by simp only [Mod.push, up_other e]; exact h1, h2, ?_, ?_⟩
        · simp only [Mod.push, up_other e]
          by_cases et : t = s
          · subst et; rw [up_same]; omega
          · rw [up_other et]; exact h3
        · simp only [Mod.push, up_other e]
          rw [up2_other (fun hh => by have h5 := h3; rw [hh.1, hh.2] at h5; omega)]; exact h4
  · simp only [Mod.push] at hk ht ⊢
    by_cases et : t = s
    · subst et
      rw [up_same] at hk
      by_cases ek : k = M.ln t
      · subst ek; rw [up2_same]; exact hf
      · rw [up2_other (fun hh => ek hh.2)]; exact h.el t k hs (by omega)
    · rw [up_other et] at hk
      rw [up2_other (fun hh => et hh.1)]; exact h.el t k ht hk
  · simp only [Mod.push] at ht ⊢
    rw [up_other (by omega)]; exact h.emp t ht
theorem WF.setMark {M : Mod} (h : WF M) (by' : Nat → Nat → Pl) (re' : Nat → Nat → Int) : WF { M with by_ := by', re := re' } := ⟨h.file, h.el, h.emp⟩
theorem begin_spec {M M1 : Mod} {f s p : Nat} (wf : WF M) (hf : f < 6) (hb : begin_ M f = (M1, s, p)) : WF M1 ∧ s < M1.ns ∧ p ≤ M1.ln s ∧ M1.ln = M.ln ∧ M.ns ≤ M1.ns ∧ M1.ns ≤ M.ns + 1 ∧ M1.S = M.S := by
  unfold begin_ at hb
  split at hb
  · simp only [Prod.mk.injEq] at hb
    obtain ⟨rfl, rfl, rfl⟩ := hb
    exact ⟨wf.open_, by simp only [Mod.open_]; omega, Nat.zero_le _, rfl, by simp only [Mod.open_]; omega, by simp only [Mod.open_]; omega, rfl⟩
  · simp only [Prod.mk.injEq] at hb
    obtain ⟨rfl, rfl, rfl⟩ := hb
    rcases wf.file f hf with h1 | ⟨t, h1, h2, h3, _⟩
    · omega
    · have e : (M.S f).toNat = t := by omega
      rw [e]
      exact ⟨wf, h2, by omega, rfl, Nat.le_refl _, by omega, rfl⟩
theorem mrun_ge {M : Mod} {L : Nat → Nat} {n s : Nat} : ∀ (fuel i q : Nat) {i' q' : Nat}, mrun M L n s fuel i q = (i', q') → i ≤ i'
  | 0, i, q, i', q', h => by simp only [mrun, Prod.mk.injEq] at h; omega
  | fuel + 1, i, q, i', q', h => by
    rw [mrun] at h
    split at h
    · have := mrun_ge fuel (i + 1) (q + 1) h; omega
    · simp only [Prod.mk.injEq] at h; omega
theorem ext_ge {L : Nat → Nat} {n s : Nat} : ∀ (fuel : Nat) (M : Mod) (i : Nat) {M' : Mod} {i' : Nat}, ext L n s fuel M i = (M', i') → i ≤ i'
  | 0, M, i, M', i', h => by simp only [ext, Prod.mk.injEq] at h; omega
  | fuel + 1, M, i, M', i', h => by
    rw [ext] at h
    split at h
    · have := ext_ge fuel _ (i + 1) h; omega
    · simp only [Prod.mk.injEq] at h; omega
theorem progress1 {L : Nat → Nat} {n i s p i1 q : Nat} {M M1 : Mod} (wf : WF M) (hi : i < n) (hf : L i < 6) (hb : begin_ M (L i) = (M1, s, p)) (hm : mrun M1 L n s (n - i) i p = (i1, q)) : i < i1 ∨ (i1 = i ∧ q = M1.ln s ∧ M1.S (L i) < 0) := by
  unfold begin_ at hb
  split at hb
  · rename_i hneg
    simp only [Prod.mk.injEq] at hb
    obtain ⟨rfl, rfl, rfl⟩ := hb
    have e0 : M.open_.ln M.ns = 0 := wf.emp _ (Nat.le_refl _)
    rw [mrun_stop (by omega)] at hm
    simp only [Prod.mk.injEq] at hm
    exact .inr ⟨hm.1.symm, by omega, hneg⟩
  · rename_i hneg
    simp only [Prod.mk.injEq] at hb
    obtain ⟨rfl, rfl, rfl⟩ := hb
    rcases wf.file _ hf with h1 | ⟨t, h1, h2, h3, h4⟩
    · omega
    · have e : (M.S (L i)).toNat = t := by omega
      rw [e, mrun_step ⟨hi, h3, h4⟩] at hm
      have := mrun_ge _ _ _ hm
      exact .inl (by omega)
theorem progress2 {L : Nat → Nat} {n i s i1 q i9 : Nat} {M1 M9 : Mod} (hi : i < n) (hpg : i < i1 ∨ (i1 = i ∧ q = M1.ln s ∧ M1.S (L i) < 0)) (hE : ext L n s (n - i1) M1 i1 = (M9, i9)) : i < i9 := by
  rcases hpg with h | ⟨rfl, _, h⟩
  · have := ext_ge _ _ _ hE; omega
  · rw [ext_step ⟨hi, h⟩] at hE
    have := ext_ge _ _ _ hE; omega
end Go.Proofs.Ybulkeaca.CW
