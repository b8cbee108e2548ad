import Derived.Test.YbulkeacaC2
import Derived.Test.YbulkeacaC3
namespace Go.Proofs.Ybulkeaca.CW
open Go.RowKit Go.Proofs.Ybulkeaca.Kit

/-! ### rows given by a function of the index -/
def rowF (n : Nat) (f : Nat → Value) : List Value := (List.range n).map f
theorem rowF_length (n : Nat) (f : Nat → Value) : (rowF n f).length = n := by simp [rowF]
theorem rowF_get {n : Nat} {f : Nat → Value} {i : Nat} (h : i < n) : (rowF n f)[i]? = some (f i) := by simp [rowF, h]
theorem rowF_congr {n : Nat} {f g : Nat → Value} (h : ∀ i, i < n → f i = g i) : rowF n f = rowF n g := by
  unfold rowF; exact List.map_congr_left (fun i hi => h i (by simpa using hi))
theorem rowF_succ (n : Nat) (f : Nat → Value) : rowF (n + 1) f = rowF n f ++ [f n] := by simp [rowF, List.range_succ]
theorem rowF_set (n : Nat) (f : Nat → Value) (k : Nat) (v : Value) : (rowF n f).set k v = rowF n (fun i => if i = k then v else f i) := by
  apply List.ext_getElem?
  intro i
  rw [List.getElem?_set]
  by_cases h : i < n
  · rw [rowF_get h, rowF_length, rowF_get h]
    by_cases e : k = i
    · subst e; simp [h]
    · have e' : i ≠ k := fun x => e x.symm
      simp [e, e']
  · have h1 : (rowF n f)[i]? = none := by simp [rowF_length]; omega
    have h2 : (rowF n fun i => if i = k then v else f i)[i]? = none := by simp [rowF_length]; omega
    rw [h1, h2, rowF_length]
    by_cases e : k = i
    · subst e; simp [h]
    · simp [e]

abbrev vi (n : Int) : Value := .int .i64 n
def listsF (M : Mod) (P : Nat → Nat) (s : Nat) : List Value := rowF (M.ln s) (fun k => pt (P (M.El s k)))
def intsF (M : Mod) (s : Nat) : List Value := rowF (M.ln s) (fun k => vi (M.El s k))
def byF (M : Mod) (s i : Nat) : Value := if i % 2 = 0 then .string (M.by_ s (i / 2)).1 else vi (M.by_ s (i / 2)).2
def bysF (M : Mod) (s : Nat) : List Value := rowF (M.ln s * 2) (byF M s)
def reF (M : Mod) (s : Nat) : List Value := rowF (M.ln s) (fun k => vi (M.re s k))
theorem byF_0 (M : Mod) (s k : Nat) : byF M s (k * 2) = .string (M.by_ s k).1 := by unfold byF; rw [if_pos (by omega), show k * 2 / 2 = k by omega]
theorem byF_1 (M : Mod) (s k : Nat) : byF M s (k * 2 + 1) = vi (M.by_ s k).2 := by unfold byF; rw [if_neg (by omega), show (k * 2 + 1) / 2 = k by omega]

section
variable (M : Mod) (P : Nat → Nat) (s f t : Nat)
theorem listsF_push : listsF (M.push s f) P s = listsF M P s ++ [pt (P f)] := by
  simp only [listsF, Mod.push, up_same]
  rw [rowF_succ, up2_same]
  congr 1
  exact rowF_congr (fun i hi => by rw [up2_other (fun h => by omega)])
theorem intsF_push : intsF (M.push s f) s = intsF M s ++ [vi f] := by
  simp only [intsF, Mod.push, up_same]
  rw [rowF_succ, up2_same]
  congr 1
  exact rowF_congr (fun i hi => by rw [up2_other (fun h => by omega)])
theorem reF_push : reF (M.push s f) s = reF M s ++ [vi 0] := by
  simp only [reF, Mod.push, up_same]
  rw [rowF_succ, up2_same]
  congr 1
  exact rowF_congr (fun i hi => by rw [up2_other (fun h => by omega)])
theorem bysF_push : bysF (M.push s f) s = bysF M s ++ [.string .empty, vi 0] := by
  simp only [bysF, Mod.push, up_same]
  rw [show (M.ln s + 1) * 2 = M.ln s * 2 + 1 + 1 by omega, rowF_succ, rowF_succ, List.append_assoc]
  congr 1
  · exact rowF_congr (fun i hi => by simp only [byF]; rw [up2_other (fun h => by omega)])
  · simp only [byF]
    rw [if_pos (by omega), if_neg (by omega), show M.ln s * 2 / 2 = M.ln s by omega, show (M.ln s * 2 + 1) / 2 = M.ln s by omega, up2_same]
    rfl
variable (hne : t ≠ s)
include hne
theorem listsF_push_other : listsF (M.push s f) P t = listsF M P t := by
  simp only [listsF, Mod.push, up_other hne]
  exact rowF_congr (fun i hi => by rw [up2_other (fun h => hne h.1)])
theorem intsF_push_other : intsF (M.push s f) t = intsF M t := by
  simp only [intsF, Mod.push, up_other hne]
  exact rowF_congr (fun i hi => by rw [up2_other (fun h => hne h.1)])
theorem reF_push_other : reF (M.push s f) t = reF M t := by
  simp only [reF, Mod.push, up_other hne]
  exact rowF_congr (fun i hi => by rw [up2_other (fun h => hne h.1)])
theorem bysF_push_other : bysF (M.push s f) t = bysF M t := by
  simp only [bysF, Mod.push, up_other hne]
  exact rowF_congr (fun i hi => by simp only [byF]; rw [up2_other (fun h => hne h.1)])
end

/-! ### counting -/
def cnt (S : Nat → Int) : Nat → Nat
  | 0 => 0
  | k + 1 => cnt S k + (if 0 ≤ S k then 1 else 0)
theorem cnt_up_out {S : Nat → Int} {f : Nat} {v : Int} : ∀ {k : Nat}, k ≤ f → cnt (up S f v) k = cnt S k
  | 0, _ => rfl
  | k + 1, h => by rw [cnt, cnt, cnt_up_out (by omega), up_other (by omega)]
theorem cnt_up {S : Nat → Int} {f : Nat} {v : Int} (h1 : S f < 0) (h2 : 0 ≤ v) : ∀ {k : Nat}, f < k → cnt (up S f v) k = cnt S k + 1
  | 0, h => by omega
  | k + 1, h => by
    by_cases e : f = k
    · subst e
      rw [cnt, cnt, cnt_up_out (Nat.le_refl _), up_same, if_pos h2, if_neg (by omega)]
    · rw [cnt, cnt, cnt_up h1 h2 (by omega), up_other (fun x => e x.symm)]; omega

/-! ### the real side -/
def stAt (M : Mod) (pts : Nat → Nat) (f : Nat) : Value := .agg #[pt (pts (M.S f).toNat), vi (M.At f)]
def MapIs (M : Mod) (P pts : Nat → Nat) (es : Array MapEntry) : Prop :=
  ∃ ord : List Nat, EntriesAre es.toList (ord.map fun f => (P f, stAt M pts f)) ∧ (∀ f, f ∈ ord ↔ f < 6 ∧ 0 ≤ M.S f) ∧ ord.length = cnt M.S 6
structure RealD (D : Desc) (M : Mod) (P pts : Nat → Nat) (mb : Nat) : Prop where
  files : ∀ f, f < 6 → ∃ cs e, D (.file f) = some (P f, row cs e)
  mp : ∃ es ck, D .mp = some (mb, .map es ck) ∧ MapIs M P pts es
  st : ∀ s, s < M.ns → ∃ vl vb vr, D (.st s) = some (pts s, row [vl, vb, vr] 103) ∧ Sl D (.rl s) 27 1 vl (listsF M P s) ∧ Sl D (.rb s) 78 2 vb (bysF M s) ∧ Sl D (.rr s) 3 1 vr (reF M s)

def usedR : Tag → Bool
  | .file _ | .mp | .st _ | .rl _ | .rb _ | .rr _ => true
  | _ => false
theorem RealD.congr {D D' : Desc} {M : Mod} {P pts : Nat → Nat} {mb : Nat} (h : RealD D M P pts mb) (hd : ∀ t, usedR t = true → D' t = D t) : RealD D' M P pts mb := by
  refine ⟨fun f hf => ?_, ?_, fun s hs => ?_⟩
  · rw [hd _ rfl]; exact h.files f hf
  · rw [hd _ rfl]; exact h.mp
  · obtain ⟨vl, vb, vr, h1, h2, h3, h4⟩ := h.st s hs
    exact ⟨vl, vb, vr, by rw [hd _ rfl]; exact h1, h2.congr (hd _ rfl), h3.congr (hd _ rfl), h4.congr (hd _ rfl)⟩
theorem RealD.inj {w0 w : World} {D : Desc} {M : Mod} {P pts : Nat → Nat} {mb : Nat} (h : RealD D M P pts mb) (hh : Holds w0 w D) {f g : Nat} (hf : f < 6) (hg : g < 6) (e : P f = P g) : f = g := by
  obtain ⟨c1, e1, h1⟩ := h.files f hf
  obtain ⟨c2, e2, h2⟩ := h.files g hg
  rw [← e] at h2
  have := hh.inj _ _ _ _ _ h1 h2
  cases this; rfl
theorem RealD.isFile {w0 w : World} {D : Desc} {M : Mod} {P pts : Nat → Nat} {mb : Nat} (h : RealD D M P pts mb) (hh : Holds w0 w D) {f : Nat} (hf : f < 6) : IsCells w (P f) := by
  obtain ⟨c1, e1, h1⟩ := h.files f hf
  exact ⟨_, _, hh.at_ _ _ _ h1⟩

/-- the look-up, whichever world -/
theorem RealD.look {w0 w : World} {D : Desc} {M : Mod} {P pts : Nat → Nat} {mb : Nat} (h : RealD D M P pts mb) (hh : Holds w0 w D) {f : Nat} (hf : f < 6) (ok : Bool) :
    (Instr.lookup 53 (.map (some mb)) (pt (P f)) ok).run Yba.prog w = .ok (if 0 ≤ M.S f then (if ok then .tuple #[stAt M pts f, .bool true] else stAt M pts f) else (if ok then .tuple #[.agg #[.pointer none, vi 0], .bool false] else .agg #[.pointer none, vi 0])) w := by
  obtain ⟨es, ck, h1, ord, h2, h3, h4⟩ := h.mp
  have hr := run_lookup53 mb (P f) w es ck _ (hh.at_ _ _ _ h1) (h.isFile hh hf) h2 (fun p hp => by
    simp only [List.mem_map] at hp
    obtain ⟨g, hg, rfl⟩ := hp
    exact h.isFile hh ((h3 g).1 hg).1) ok
  rw [hr]
  by_cases e : 0 ≤ M.S f
  · obtain ⟨j, hj⟩ := findQ_some (b := P f) (v := stAt M pts f) (i := 0) (ps := ord.map fun f => (P f, stAt M pts f)) (List.mem_map.2 ⟨f, (h3 f).2 ⟨hf, e⟩, rfl⟩) (fun u hu => by
      obtain ⟨g, hg, hx⟩ := List.mem_map.1 hu
      simp only [Prod.mk.injEq] at hx
      have := h.inj hh ((h3 g).1 hg).1 hf hx.1
      rw [← hx.2, this])
    rw [hj, if_pos e]; simp [lookV]
  · have hn : findQ (P f) (ord.map fun f => (P f, stAt M pts f)) 0 = none := findQ_none (fun p hp => by
      obtain ⟨g, hg, rfl⟩ := List.mem_map.1 hp
      intro hx
      have := h.inj hh ((h3 g).1 hg).1 hf hx
      subst this
      exact e ((h3 g).1 hg).2)
    rw [hn, if_neg e]; simp [lookV]
/-- the store under a new key -/
theorem RealD.store {w0 w : World} {D : Desc} {M : Mod} {P pts : Nat → Nat} {mb : Nat} (h : RealD D M P pts mb) (hh : Holds w0 w D) {s f : Nat} (hf : f < 6) (hneg : M.S f < 0) :
    ∃ es ck w', MapIs (M.push s f) P pts es ∧ (Instr.mapUpdate 53 (.map (some mb)) (pt (P f)) (.agg #[pt (pts s), vi (M.ln s)])).run Yba.prog w = .ok () w' ∧ Holds w0 w' (upd D .mp mb (.map es ck)) := by
  obtain ⟨es, ck, h1, ord, h2, h3, h4⟩ := h.mp
  have hni : ∀ g ∈ ord, g ≠ f := fun g hg e => by have := ((h3 g).1 hg).2; rw [e] at this; omega
  have hn : findQ (P f) (ord.map fun f => (P f, stAt M pts f)) 0 = none := findQ_none (fun p hp => by
    obtain ⟨g, hg, rfl⟩ := List.mem_map.1 hp
    intro hx
    exact hni g hg (h.inj hh ((h3 g).1 hg).1 hf hx))
  have hr := run_mapUpdate53 mb (P f) (.agg #[pt (pts s), vi (M.ln s)]) w es ck _ (hh.at_ _ _ _ h1) (h.isFile hh hf) h2 (fun p hp => by
    simp only [List.mem_map] at hp
    obtain ⟨g, hg, rfl⟩ := hp
    exact h.isFile hh ((h3 g).1 hg).1) hn
  refine ⟨es.push { key := pt (P f), val := .agg #[pt (pts s), vi (M.ln s)], born := ck }, ck + 1, _, ⟨ord ++ [f], ?_, fun g => ?_, ?_⟩, hr, ?_⟩
  · have hp := h2.push (P f) (.agg #[pt (pts s), vi (M.ln s)]) ck
    have e1 : ord.map (fun g => (P g, stAt (M.push s f) pts g)) = ord.map (fun g => (P g, stAt M pts g)) := List.map_congr_left (fun g hg => by
      simp only [stAt, Mod.push, up_other (hni g hg)])
    rw [List.map_append, e1]
    have e2 : stAt (M.push s f) pts f = .agg #[pt (pts s), vi (M.ln s)] := by simp only [stAt, Mod.push, up_same]; rfl
    simp only [List.map_cons, List.map_nil, e2]
    exact hp
  · simp only [List.mem_append, List.mem_singleton, Mod.push]
    by_cases e : g = f
    · subst e; simp [up_same, hf]
    · simp [e, up_other e, h3 g]
  · simp only [List.length_append, List.length_cons, List.length_nil, Mod.push]
    rw [cnt_up hneg (by omega) hf, h4]
  · refine hh.put (S := [mb]) ⟨rfl, rfl, rfl, by simp, fun k hk hn => ?_⟩ ?_ (fun x hx => by simp at hx; subst hx; exact ⟨_, h1⟩) (.inr ⟨_, h1⟩)
    · have : mb ≠ k := fun e => hn (by simp [e])
      simp [this]
    · have := hh.lt h1
      simp [this]

theorem RealD.open_ {D : Desc} {M : Mod} {P pts : Nat → Nat} {mb : Nat} (h : RealD D M P pts mb) (wf : WF M) (b : Nat) : RealD (upd D (.st M.ns) b (row [.slice none 0 0, .slice none 0 0, .slice none 0 0] 103)) M.open_ P (up pts M.ns b) mb := by
  refine ⟨fun f hf => ?_, ?_, fun s hs => ?_⟩
  · rw [upd_other (by simp)]; exact h.files f hf
  · rw [upd_other (by simp)]
    obtain ⟨es, ck, h1, ord, h2, h3, h4⟩ := h.mp
    refine ⟨es, ck, h1, ord, ?_, h3, h4⟩
    have e : ord.map (fun f => (P f, stAt M.open_ (up pts M.ns b) f)) = ord.map (fun f => (P f, stAt M pts f)) := List.map_congr_left (fun f hf => by
      have := (h3 f).1 hf
      rcases wf.file f this.1 with h5 | ⟨s, h5, h6, _⟩
      · omega
      · simp only [stAt, Mod.open_, h5, Int.toNat_natCast]
        rw [up_other (by omega)])
    rw [e]; exact h2
  · by_cases e : s = M.ns
    · subst e
      have e0 : M.open_.ln M.ns = 0 := wf.emp _ (Nat.le_refl _)
      refine ⟨.slice none 0 0, .slice none 0 0, .slice none 0 0, by rw [upd_same, up_same], ?_, ?_, ?_⟩
      · simp only [listsF, e0]; exact Sl.nil _ _ _ _
      · simp only [bysF, e0]; exact Sl.nil _ _ _ _
      · simp only [reF, e0]; exact Sl.nil _ _ _ _
    · obtain ⟨vl, vb, vr, h1, h2, h3, h4⟩ := h.st s (by simp only [Mod.open_] at hs; omega)
      exact ⟨vl, vb, vr, by rw [upd_other (by simpa using e), up_other e]; exact h1, h2.other (by simp) _ _, h3.other (by simp) _ _, h4.other (by simp) _ _⟩

theorem RealD.push {D D' : Desc} {M : Mod} {P pts : Nat → Nat} {mb s f : Nat} (h : RealD D M P pts mb) {vl vb vr : Value} {es : Array MapEntry} {ck : Nat} (h0 : D' (.st s) = some (pts s, row [vl, vb, vr] 103))
    (h1 : Sl D' (.rl s) 27 1 vl (listsF M P s ++ [pt (P f)])) (h2 : Sl D' (.rb s) 78 2 vb (bysF M s ++ [.string .empty, vi 0])) (h3 : Sl D' (.rr s) 3 1 vr (reF M s ++ [vi 0])) (h4 : D' .mp = some (mb, .map es ck)) (h5 : MapIs (M.push s f) P pts es)
    (hd : ∀ t, usedR t = true → t ≠ .mp → t ≠ .st s → t ≠ .rl s → t ≠ .rb s → t ≠ .rr s → D' t = D t) : RealD D' (M.push s f) P pts mb := by
  refine ⟨fun g hg => ?_, ⟨es, ck, h4, h5⟩, fun t ht => ?_⟩
  · rw [hd _ rfl (by simp) (by simp) (by simp) (by simp) (by simp)]; exact h.files g hg
  · by_cases e : t = s
    · subst e
      exact ⟨vl, vb, vr, h0, by rw [listsF_push]; exact h1, by rw [bysF_push]; exact h2, by rw [reF_push]; exact h3⟩
    · obtain ⟨vl, vb, vr, k1, k2, k3, k4⟩ := h.st t ht
      have hx : ∀ t', usedR t' = true → (t' = .st t ∨ t' = .rl t ∨ t' = .rb t ∨ t' = .rr t) → D' t' = D t' := fun t' hu ht' => by
        rcases ht' with rfl | rfl | rfl | rfl <;> exact hd _ hu (by simp) (by simp [e]) (by simp [e]) (by simp [e]) (by simp [e])
      exact ⟨vl, vb, vr, by rw [hx _ rfl (by simp)]; exact k1, by rw [listsF_push_other _ _ _ _ _ e]; exact k2.congr (hx _ rfl (by simp)), by rw [bysF_push_other _ _ _ _ e]; exact k3.congr (hx _ rfl (by simp)), by rw [reF_push_other _ _ _ _ e]; exact k4.congr (hx _ rfl (by simp))⟩
end Go.Proofs.Ybulkeaca.CW
