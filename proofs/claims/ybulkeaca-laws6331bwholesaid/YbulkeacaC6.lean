import Derived.Test.YbulkeacaK3
import Derived.Deep.CutBlock
namespace Go.Proofs.Ybulkeaca.CW
open Go.RowKit Go.Proofs.Ybulkeaca.Kit

def isReal : Tag → Bool
  | .lr | .mp | .st _ | .rl _ | .rb _ | .rr _ | .ch | .legs | .x _ => true
  | _ => false
def legR (pts : Nat → Nat) (l : Leg) : List Value := [pt (pts l.sid), vi l.from_, vi l.to, .string l.as.1, vi l.as.2]
def legsR (pts : Nat → Nat) (ls : List Leg) : List Value := ls.flatMap (legR pts)
theorem legsR_app (pts : Nat → Nat) (a b : List Leg) : legsR pts (a ++ b) = legsR pts a ++ legsR pts b := by simp [legsR]
theorem legsR_one (pts : Nat → Nat) (l : Leg) : legsR pts [l] = legR pts l := by simp [legsR]
theorem legsR_length (pts : Nat → Nat) : ∀ ls : List Leg, (legsR pts ls).length = ls.length * 5
  | [] => by simp [legsR]
  | l :: ls => by
    have := legsR_length pts ls
    simp only [legsR] at this
    simp [legsR, legR, this]; omega
theorem legsR_congr {pts pts' : Nat → Nat} {ls : List Leg} (h : ∀ l ∈ ls, pts' l.sid = pts l.sid) : legsR pts' ls = legsR pts ls := by
  simp only [legsR]
  induction ls with
  | nil => rfl
  | cons l ls ih =>
    simp only [List.flatMap_cons]
    rw [ih (fun x hx => h x (by simp [hx]))]
    simp only [legR, h l (by simp)]

theorem Sl.read {D : Desc} {t : Tag} {e : TypeId} {sz : Nat} {v : Value} {vs : List Value} {len : Nat} (h : Sl D t e sz v vs) (hl : vs.length = len * sz) (hp : 0 < sz := by decide) : ∃ a cap, v = .slice a len cap ∧ (0 < len → ∃ g spare, a = some ⟨g, 0, none⟩ ∧ D t = some (g, row (vs ++ spare) e)) := by
  rcases h with ⟨rfl, rfl⟩ | ⟨g, k, cap, spare, rfl, h1, h2, h3, h4⟩
  · have : len = 0 := by
      rcases Nat.eq_zero_or_pos len with h0 | h0
      · exact h0
      · have := Nat.mul_pos h0 hp; simp at hl; omega
    subst this
    exact ⟨none, 0, rfl, fun h => by omega⟩
  · have : len = k := Nat.eq_of_mul_eq_mul_right hp (hl.symm.trans h1)
    subst this
    exact ⟨_, cap, rfl, fun _ => ⟨g, spare, rfl, h4⟩⟩
theorem nextK_cast {M : Mod} {s q k : Nat} (h : k < q) : ((nextK M s q k : Nat) : Int) = min (max (M.re s k) (k + 1)) q := by unfold nextK; omega
/-- the chain's cells -/
abbrev chainC (n : Nat) (vl : Value) : List Value := [vi n, vl, .string .empty, vi 0, .string .empty]
/-- What stands in tooDeep at the head of its outer loop. -/
structure Deep (w0 : World) (D0 : Desc) (M0 : Mod) (pts0 P : Nat → Nat) (mb lrb cb rb n : Nat) (cs : List Value) (nb b a : Nat) (M : Mod) (pts : Nat → Nat) (acc : List Leg) (vl : Value) (D : Desc) (w : World) : Prop where
  h : Holds w0 w D
  rd : RealD D M P pts mb
  wf : WF M
  lr : D .lr = some (lrb, row cs 70)
  ch : D .ch = some (cb, row (chainC n vl) 97)
  lg : Sl D .legs 99 5 vl (legsR pts acc)
  res : D (.x 9) = some (rb, row [.pointer none, .pointer none, vi 0, .pointer none, vi 0] 86)
  same : ∀ t, isReal t = false → D t = D0 t
  ptsS : ∀ s, s < M0.ns → pts s = pts0 s
  sid : ∀ l ∈ acc, l.sid < M.ns
  ns0 : M0.ns ≤ M.ns
  nsB : M.ns ≤ nb
  lnB : ∀ s, M.ln s ≤ b
  accB : acc.length ≤ a

theorem usedR_x {t : Tag} (h : usedR t = true) (n : Nat) : t ≠ .x n := by rintro rfl; simp [usedR] at h
theorem isReal_x {t : Tag} (h : isReal t = false) (n : Nat) : t ≠ .x n := by rintro rfl; simp [isReal] at h
/-- a scratch block more or less -/
theorem Deep.scratch {w0 : World} {D0 : Desc} {M0 : Mod} {pts0 P : Nat → Nat} {mb lrb cb rb n : Nat} {cs : List Value} {nb b a : Nat} {M : Mod} {pts : Nat → Nat} {acc : List Leg} {vl : Value} {D D' : Desc} {w w' : World} (d : Deep w0 D0 M0 pts0 P mb lrb cb rb n cs nb b a M pts acc vl D w)
    (h : Holds w0 w' D') (hd : ∀ t, (∀ m, t = .x m → m = 9) → D' t = D t) : Deep w0 D0 M0 pts0 P mb lrb cb rb n cs nb b a M pts acc vl D' w' :=
  ⟨h, d.rd.congr (fun t ht => hd t (fun m e => absurd e (usedR_x ht m))), d.wf, (hd _ (by simp)).trans d.lr, (hd _ (by simp)).trans d.ch, d.lg.congr (hd _ (by simp)), (hd _ (by simp)).trans d.res, fun t ht => (hd t (fun m e => absurd e (isReal_x ht m))).trans (d.same t ht), d.ptsS, d.sid, d.ns0, d.nsB, d.lnB, d.accB⟩
theorem Deep.nb1 {w0 : World} {D0 : Desc} {M0 : Mod} {pts0 P : Nat → Nat} {mb lrb cb rb n : Nat} {cs : List Value} {nb b a : Nat} {M : Mod} {pts : Nat → Nat} {acc : List Leg} {vl : Value} {D : Desc} {w : World} (d : Deep w0 D0 M0 pts0 P mb lrb cb rb n cs nb b a M pts acc vl D w) : Deep w0 D0 M0 pts0 P mb lrb cb rb n cs (nb + 1) b a M pts acc vl D w :=
  ⟨d.h, d.rd, d.wf, d.lr, d.ch, d.lg, d.res, d.same, d.ptsS, d.sid, d.ns0, by have := d.nsB; omega, d.lnB, d.accB⟩
theorem Deep.accTo {w0 : World} {D0 : Desc} {M0 : Mod} {pts0 P : Nat → Nat} {mb lrb cb rb n : Nat} {cs : List Value} {nb b a : Nat} {M : Mod} {pts : Nat → Nat} {acc : List Leg} {vl : Value} {D : Desc} {w : World} (d : Deep w0 D0 M0 pts0 P mb lrb cb rb n cs nb b a M pts acc vl D w) {a' : Nat} (ha : acc.length ≤ a') : Deep w0 D0 M0 pts0 P mb lrb cb rb n cs nb b a' M pts acc vl D w :=
  ⟨d.h, d.rd, d.wf, d.lr, d.ch, d.lg, d.res, d.same, d.ptsS, d.sid, d.ns0, d.nsB, d.lnB, ha⟩
/-- a leg more -/
theorem Deep.leg {w0 : World} {D0 : Desc} {M0 : Mod} {pts0 P : Nat → Nat} {mb lrb cb rb n : Nat} {cs : List Value} {nb b a : Nat} {M : Mod} {pts : Nat → Nat} {acc : List Leg} {vl : Value} {D D' : Desc} {w w' : World} (d : Deep w0 D0 M0 pts0 P mb lrb cb rb n cs nb b a M pts acc vl D w) (l : Leg) (hs : l.sid < M.ns) (h : Holds w0 w' D') {vl' : Value} (hch : D' .ch = some (cb, row (chainC n vl') 97))
    (hlg : Sl D' .legs 99 5 vl' (legsR pts acc ++ legR pts l)) (hd : ∀ t, (∀ m, t = .x m → m = 9) → t ≠ .ch → t ≠ .legs → D' t = D t) {a' : Nat} (ha : acc.length + 1 ≤ a') : Deep w0 D0 M0 pts0 P mb lrb cb rb n cs nb b a' M pts (acc ++ [l]) vl' D' w' :=
  ⟨h, d.rd.congr (fun t ht => hd t (fun m e => absurd e (usedR_x ht m)) (by rintro rfl; simp [usedR] at ht) (by rintro rfl; simp [usedR] at ht)), d.wf, (hd _ (by simp) (by simp) (by simp)).trans d.lr, hch, by rw [legsR_app, legsR_one]; exact hlg, (hd _ (by simp) (by simp) (by simp)).trans d.res, fun t ht => (hd t (fun m e => absurd e (isReal_x ht m)) (by rintro rfl; simp [isReal] at ht) (by rintro rfl; simp [isReal] at ht)).trans (d.same t ht), d.ptsS,
    fun x hx => by simp only [List.mem_append, List.mem_singleton] at hx; rcases hx with hx | rfl; exact d.sid x hx; exact hs, d.ns0, d.nsB, d.lnB, by simp; omega⟩
/-- a list more at a stretch's end -/
theorem Deep.push {w0 : World} {D0 : Desc} {M0 : Mod} {pts0 P : Nat → Nat} {mb lrb cb rb n : Nat} {cs : List Value} {nb b a : Nat} {M : Mod} {pts : Nat → Nat} {acc : List Leg} {vl : Value} {D D' : Desc} {w w' : World} {s f : Nat} (d : Deep w0 D0 M0 pts0 P mb lrb cb rb n cs nb b a M pts acc vl D w) (hs : s < M.ns) (hf : f < 6) (hneg : M.S f < 0)
    (h : Holds w0 w' D') (rd : RealD D' (M.push s f) P pts mb) (hd : ∀ t, (∀ m, t = .x m → m = 9) → t ≠ .mp → t ≠ .st s → t ≠ .rl s → t ≠ .rb s → t ≠ .rr s → D' t = D t) : Deep w0 D0 M0 pts0 P mb lrb cb rb n cs nb (b + 1) a (M.push s f) pts acc vl D' w' :=
  ⟨h, rd, d.wf.push hs hf hneg, (hd _ (by simp) (by simp) (by simp) (by simp) (by simp) (by simp)).trans d.lr, (hd _ (by simp) (by simp) (by simp) (by simp) (by simp) (by simp)).trans d.ch, d.lg.congr (hd _ (by simp) (by simp) (by simp) (by simp) (by simp) (by simp)), (hd _ (by simp) (by simp) (by simp) (by simp) (by simp) (by simp)).trans d.res,
    fun t ht => (hd t (fun m e => absurd e (isReal_x ht m)) (by rintro rfl; simp [isReal] at ht) (by rintro rfl; simp [isReal] at ht) (by rintro rfl; simp [isReal] at ht) (by rintro rfl; simp [isReal] at ht) (by rintro rfl; simp [isReal] at ht)).trans (d.same t ht), d.ptsS, d.sid, d.ns0, d.nsB, fun t => by
      have := d.lnB t
      simp only [Mod.push]
      by_cases e : t = s
      · subst e; rw [up_same]; omega
      · rw [up_other e]; omega, d.accB⟩
theorem Deep.bounds {w0 : World} {D0 : Desc} {M0 : Mod} {pts0 P : Nat → Nat} {mb lrb cb rb n : Nat} {cs : List Value} {nb b a : Nat} {M : Mod} {pts : Nat → Nat} {acc : List Leg} {vl : Value} {D : Desc} {w : World} (d : Deep w0 D0 M0 pts0 P mb lrb cb rb n cs nb b a M pts acc vl D w) {nb' b' : Nat} (h1 : nb ≤ nb') (h2 : b ≤ b') : Deep w0 D0 M0 pts0 P mb lrb cb rb n cs nb' b' a M pts acc vl D w :=
  ⟨d.h, d.rd, d.wf, d.lr, d.ch, d.lg, d.res, d.same, d.ptsS, d.sid, d.ns0, by have := d.nsB; omega, fun s => by have := d.lnB s; omega, d.accB⟩
/-- the map's store, in whatever world in which the files and the map lie -/
theorem RealD.storeAt {w0 w : World} {D D' : Desc} {M : Mod} {P pts : Nat → Nat} {mb : Nat} (h : RealD D M P pts mb) (hh : Holds w0 w D') (hd : D' .mp = D .mp) (hf' : ∀ f, D' (.file f) = D (.file f)) {s f : Nat} (hf : f < 6) (hneg : M.S f < 0) :
    ∃ es ck w', MapIs (M.push s f) P pts es ∧ (Instr.mapUpdate 53 (.map (some mb)) (pt (P f)) (.agg #[pt (pts s), vi (M.ln s)])).run Yba.prog w = .ok () w' ∧ Holds w0 w' (upd D' .mp mb (.map es ck)) := by
  have rdx : RealD D' { M with ns := 0 } P pts mb := ⟨fun f hf => by rw [hf']; exact h.files f hf, by rw [hd]; exact h.mp, fun s hs => absurd hs (Nat.not_lt_zero _)⟩
  exact rdx.store hh hf hneg
/-- a new stretch -/
theorem Deep.open_ {w0 : World} {D0 : Desc} {M0 : Mod} {pts0 P : Nat → Nat} {mb lrb cb rb n : Nat} {cs : List Value} {nb b a : Nat} {M : Mod} {pts : Nat → Nat} {acc : List Leg} {vl : Value} {D D' : Desc} {w w' : World} (d : Deep w0 D0 M0 pts0 P mb lrb cb rb n cs nb b a M pts acc vl D w)
    (h : Holds w0 w' D') {sb : Nat} (hd : ∀ t, (∀ m, t = .x m → m = 9) → D' t = upd D (.st M.ns) sb (row [.slice none 0 0, .slice none 0 0, .slice none 0 0] 103) t) : Deep w0 D0 M0 pts0 P mb lrb cb rb n cs (nb + 1) b a M.open_ (up pts M.ns sb) acc vl D' w' :=
  ⟨h, (d.rd.open_ d.wf sb).congr (fun t ht => hd t (fun m e => absurd e (usedR_x ht m))), d.wf.open_, by rw [hd _ (by simp), upd_other (by simp)]; exact d.lr, by rw [hd _ (by simp), upd_other (by simp)]; exact d.ch,
    by rw [legsR_congr (pts := pts) (fun l hl => up_other (by have := d.sid l hl; omega))]; exact d.lg.congr (by rw [hd _ (by simp), upd_other (by simp)]), by rw [hd _ (by simp), upd_other (by simp)]; exact d.res,
    fun t ht => by rw [hd t (fun m e => absurd e (isReal_x ht m)), upd_other (by rintro rfl; simp [isReal] at ht)]; exact d.same t ht, fun s hs => by rw [up_other (by have := d.ns0; omega)]; exact d.ptsS s hs,
    fun l hl => by have := d.sid l hl; simp only [Mod.open_]; omega, by have := d.ns0; simp only [Mod.open_]; omega, by have := d.nsB; simp only [Mod.open_]; omega, d.lnB, d.accB⟩

set_option maxRecDepth 100000 in
set_option maxHeartbeats 20000000 in
theorem tooDeep_any (w0 w : World) (D0 : Desc) (M0 : Mod) (P pts0 L : Nat → Nat) (mb lrb lb n B : Nat) (cs : List Value) (v7 : Value) (h : Holds w0 w D0) (rd : RealD D0 M0 P pts0 mb) (wf : WF M0) (hlr : D0 .lr = some (lrb, row cs 70)) (h7 : cs[7]? = some v7) (h17 : cs[19]? = some (.map (some mb)))
    (hls : D0 .ls = some (lb, row (rowF n fun i => pt (P (L i))) 27)) (hL : ∀ i, i < n → L i < 6) (hn : n ≤ 65536) (hB : B ≤ 65536) (hnB : M0.ns ≤ B) (hlB : ∀ s, M0.ln s ≤ B) :
    Calls Yba.prog 4 #[pt lrb, .slice (some ⟨lb, 0, none⟩) n n] w fun e w' => ∃ D pts M acc vl cb db, e = .returned (werr db cb) ∧ Holds w0 w' D ∧ RealD D M P pts mb ∧ Whole L n M0 0 [] M acc ∧ D .lr = some (lrb, row (cs.set 7 (.slice (some ⟨lb, 0, none⟩) n n)) 70) ∧ D .ch = some (cb, row (chainC n vl) 97) ∧
      Sl D .legs 99 5 vl (legsR pts acc) ∧ D (.x 0) = some (db, row diagCells 94) ∧ (∀ t, isReal t = false → D t = D0 t) ∧ ∀ s, s < M0.ns → pts s = pts0 s := by
  have hn' : (n : Int) ≤ 65536 := by omega
  have c7 := fun o => (h.alloc o).cell hlr h7
  have f7 := fun o => (h.alloc o).free hlr 7
  go_enter Yba.func4, Yba.ntmps4
  go_wp2_with fail
  have h1 := h.new (.x 9) (row [.pointer none, .pointer none, vi 0, .pointer none, vi 0] 86)
  have h2 := h1.set (t := .lr) (b := lrb) (cs := cs) (by rw [upd_other (by simp)]; exact hlr) 7 (.slice (some ⟨lb, 0, none⟩) n n)
  have h3 := h2.new .ch (row (chainC n (.slice none 0 0)) 97)
  have e1 : ((w.alloc (row [.pointer none, .pointer none, vi 0, .pointer none, vi 0] 86)).setCell ⟨lrb, 7, none⟩ (.slice (some ⟨lb, 0, none⟩) n n)).heap.size = w.heap.size + 1 := by simp [World.setCell]
  rw [e1] at h3
  have hdp : Deep w0 D0 M0 pts0 P mb lrb (w.heap.size + 1) w.heap.size n (cs.set 7 (.slice (some ⟨lb, 0, none⟩) n n)) B B 0 M0 pts0 [] (.slice none 0 0) _ _ :=
    ⟨h3, rd.congr (fun t ht => by rw [upd_other (by rintro rfl; simp [usedR] at ht), upd_other (by rintro rfl; simp [usedR] at ht), upd_other (usedR_x ht 9)]), wf, by rw [upd_other (by simp), upd_same], upd_same _ _ _ _, Sl.nil _ _ _ _, by rw [upd_other (by simp), upd_other (by simp), upd_same],
      fun t ht => by rw [upd_other (by rintro rfl; simp [isReal] at ht), upd_other (by rintro rfl; simp [isReal] at ht), upd_other (isReal_x ht 9)], fun _ _ => rfl, by simp, Nat.le_refl _, hnB, hlB, by simp⟩
  clear h1 h2 h3 e1 c7 f7 h
  have h17' : (cs.set 7 (.slice (some ⟨lb, 0, none⟩) n n))[19]? = some (.map (some mb)) := by rw [List.getElem?_set_ne (by decide)]; exact h17
  generalize hcs : cs.set 7 (.slice (some ⟨lb, 0, none⟩) n n) = cs1 at *
  generalize w.heap.size = rb at *
  go_loopw [6] (fun i wr => ∃ k M pts acc vl D, k ≤ n ∧ i = .int .i64 (k : Nat) ∧ Deep w0 D0 M0 pts0 P mb lrb (rb + 1) rb n cs1 (B + k) (B + k) k M pts acc vl D wr ∧ ∀ M' acc', Whole L n M k acc M' acc' → Whole L n M0 0 [] M' acc') (fun i _ => n - (intOf i).toNat)
  case atStart => exact ⟨0, M0, pts0, [], _, _, by omega, rfl, hdp, fun _ _ x => x⟩
  case round =>
    clear hdp rd wf
    obtain ⟨k, M, pts, acc, vl, D, hk, rfl, dp, hwh⟩ := hrel
    by_cases hlt : k < n
    · have z1 : (k : Int) < n := by omega
      have hf : L k < 6 := hL k hlt
      have hls' : D .ls = some (lb, row (rowF n fun i => pt (P (L i))) 27) := (dp.same _ rfl).trans hls
      have ck := dp.h.cell hls' (i := k) (rowF_get hlt)
      have c17 := dp.h.cell dp.lr h17'
      go_upto_region 5 with fail
      go_cut [7, 8] from 28 to 39 (fun v7 v8 wc => ∃ atb, v7 = pt atb ∧ v8 = .bool (decide (0 ≤ M.S (L k))) ∧ Holds w0 wc (upd D (.x 1) atb (row (if 0 ≤ M.S (L k) then [pt (pts (M.S (L k)).toNat), vi (M.At (L k))] else [.pointer none, vi 0]) 90)))
      case first =>
        have hlk := dp.rd.look dp.h.drew hf true
        have hlk2 := fun o => dp.rd.look (dp.h.alloc o).drew hf true
        have ck2 := fun o => (dp.h.alloc o).cell hls' (i := k) (rowF_get hlt)
        have c172 := fun o => (dp.h.alloc o).cell dp.lr h17'
        by_cases hS : 0 ≤ M.S (L k)
        · simp only [if_pos hS, if_true, stAt] at hlk hlk2
          go_region
          all_goals go_wp2_with fail
          all_goals go_meet
          all_goals exact ⟨wr.heap.size, rfl, by simp [hS], by rw [if_pos hS]; exact (dp.h.new (.x 1) _).drew⟩
        · simp only [if_neg hS, if_true] at hlk hlk2
          go_region
          all_goals go_wp2_with fail
          all_goals go_meet
          all_goals exact ⟨wr.heap.size, rfl, by simp; omega, by rw [if_neg (by omega)]; exact (dp.h.new (.x 1) _).drew⟩
      case rest =>
        obtain ⟨atb, rfl, rfl, hA⟩ := hcut
        have dpwf := dp.wf
        clear ck c17
        generalize hok : decide (0 ≤ M.S (L k)) = ok at *
        go_upto_if 41 with fail
        go_cut [7] from 42 to 44 (fun v7 wc => v7 = pt atb ∧ ∃ M1 s p pts1 D1, begin_ M (L k) = (M1, s, p) ∧ D1 (.x 1) = some (atb, row [pt (pts1 s), vi (p : Nat)] 90) ∧ Deep w0 D0 M0 pts0 P mb lrb (rb + 1) rb n cs1 (B + k + 1) (B + k) k M1 pts1 acc vl D1 wc)
        case first =>
          cases ok
          case true =>
            have hS := of_decide_eq_true hok
            simp only [if_pos hS] at hA
            go_wp2_with fail
            go_meet
            exact ⟨rfl, M, (M.S (L k)).toNat, M.At (L k), pts, _, by rw [begin_, if_neg (by omega)], upd_same _ _ _ _, dp.nb1.scratch hA (fun t ht => upd_other (fun e => by have := ht 1 e; omega))⟩
          case false =>
            have hS := of_decide_eq_false hok
            simp only [if_neg hS] at hA
            have a0 := fun o => (hA.alloc o).cell (upd_same _ _ _ _) (i := 0) rfl
            have a1 := fun o => (hA.alloc o).free (upd_same _ _ _ _) 0
            go_wp2_with fail
            go_meet
            have g1 := hA.new (.st M.ns) (row [.slice none 0 0, .slice none 0 0, .slice none 0 0] 103)
            have g2 := g1.set (t := .x 1) (b := atb) (cs := [.pointer none, vi 0]) (e := 90) (by rw [upd_other (by simp), upd_same]) 0 (pt wc.heap.size)
            have g3 := dp.open_ g2 (sb := wc.heap.size) (fun t ht => by
              have hx : t ≠ .x 1 := fun e => by have := ht 1 e; omega
              rw [upd_other hx]
              by_cases e : t = .st M.ns
              · subst e; rw [upd_same, upd_same]
              · rw [upd_other e, upd_other e, upd_other hx])
            refine ⟨rfl, M.open_, M.ns, 0, up pts M.ns wc.heap.size, _, ?_, ?_, g3⟩
            · rw [begin_, if_pos (by omega)]
            · rw [upd_same, up_same]; rfl
        case rest =>
          clear hA dp hok
          obtain ⟨rfl, M1, s, p, pts1, D1, hbg, hx1, dp⟩ := hcut
          obtain ⟨wf1, hs1, hp1, -⟩ := begin_spec dpwf hf hbg
          have a0 := dp.h.cell hx1 (i := 0) rfl
          have a1 := dp.h.cell hx1 (i := 1) rfl
          go_upto_region 8 with fail
          go_quiet (fail)
          have dq := dp.scratch (dp.h.drewN nq) (fun t _ => rfl)
          have hls1 : D1 .ls = some (lb, row (rowF n fun i => pt (P (L i))) 27) := (dq.same _ rfl).trans hls
          clear a0 a1
          obtain ⟨⟨i1, q⟩, hR⟩ : ∃ R, mrun M1 L n s (n - k) k p = R := ⟨_, rfl⟩
          obtain ⟨vls, vbs, vrs, q1, q2, q3, q4⟩ := dq.rd.st s hs1
          obtain ⟨la, lc, rfl, q2'⟩ := q2.read (len := M1.ln s) (by simp [listsF, rowF_length])
          have hlnb := dq.lnB s
          go_upto_block 2 with fail
          go_cut [6, 10] from 49 to 79 (fun v6 v10 wc => v6 = vi i1 ∧ v10 = vi q ∧ Holds w0 wc D1)
          case first =>
            have hdq := dq.h
            clear dp
            go_wp2_with fail
            go_loopw [6, 10] (fun x y wr => ∃ i j : Nat, i ≤ n ∧ j ≤ M1.ln s ∧ x = vi i ∧ y = vi j ∧ Holds w0 wr D1 ∧ mrun M1 L n s (n - i) i j = (i1, q)) (fun x _ _ => n - (intOf x).toNat)
            case atStart => exact ⟨k, p, hk, hp1, rfl, rfl, hdq, hR⟩
            case round =>
              clear hdq
              obtain ⟨i, j, hi, hj, rfl, rfl, hh, hm⟩ := hrel
              have b0 := hh.cell q1 (i := 0) rfl
              by_cases h1 : i < n
              · have h1' : (i : Int) < n := by omega
                have hfi := hL i h1
                have ci := hh.cell hls1 (i := i) (rowF_get h1)
                by_cases h2 : j < M1.ln s
                · have h2' : (j : Int) < M1.ln s := by omega
                  obtain ⟨g, spare, rfl, hg⟩ := q2' (by omega)
                  have cj := hh.cell hg (i := j) (v := pt (P (M1.El s j))) (by rw [List.getElem?_append_left (by rw [listsF, rowF_length]; exact h2)]; exact rowF_get h2)
                  have hej := wf1.el s j hs1 h2
                  have heq := fun m => eql27 (P (M1.El s j)) (P (L i)) (wr.drewN m) (dq.rd.isFile (hh.drewN m) hej) (dq.rd.isFile (hh.drewN m) hfi)
                  by_cases h3 : M1.El s j = L i
                  · simp only [h3, decide_true] at heq cj
                    go_upto_region 9 with fail
                    go_quiet (fail)
                    go_wp2_with fail
                    go_roundw
                    case rel => exact ⟨i + 1, j + 1, by omega, by omega, by go_num, by go_num, hh.drewN nq, by rw [← hm, mrun_step ⟨h1, h2, h3⟩]⟩
                    case measure => simp [intOf]; omega
                  · have h4 : decide (P (M1.El s j) = P (L i)) = false := decide_eq_false (fun e => h3 (dq.rd.inj dq.h hej hfi e))
                    simp only [h4] at heq
                    rw [mrun_stop (fun e => h3 e.2.2)] at hm
                    go_upto_region 9 with fail
                    go_quiet (fail)
                    go_wp2_with fail
                    go_meet
                    cases hm
                    exact ⟨rfl, rfl, hh.drewN nq⟩
                · have h2' : decide ((j : Int) < (M1.ln s : Int)) = false := decide_eq_false (by omega)
                  rw [mrun_stop (fun e => h2 e.2.1)] at hm
                  go_upto_region 9 with fail
                  go_quiet (fail)
                  go_wp2_with fail
                  go_meet
                  cases hm
                  exact ⟨rfl, rfl, hh.drewN nq⟩
              · have h1' : decide ((i : Int) < (n : Int)) = false := decide_eq_false (by omega)
                rw [mrun_stop (fun e => h1 e.1)] at hm
                go_upto_region 9 with fail
                go_quiet (fail)
                go_wp2_with fail
                go_meet
                cases hm
                exact ⟨rfl, rfl, hh.drewN nq⟩
          case rest =>
            obtain ⟨rfl, rfl, hh⟩ := hcut
            have d2 := dq.scratch hh (fun _ _ => rfl)
            clear dq dp q1 q2 q3 q4 q2'
            obtain ⟨hm1, hm2, hm3, hm4⟩ := mrun_spec _ _ _ hR hk hp1
            have a1 := hh.cell hx1 (i := 1) rfl
            go_upto_block 4 with fail
            go_cut [11, 12] from 82 to 119 (fun v11 v12 wc => ∃ D2 vl2, Deep w0 D0 M0 pts0 P mb lrb (rb + 1) rb n cs1 (B + k + 1) (B + k) i1 M1 pts1 (acc ++ legsOf M1 s q (q - p) p) vl2 D2 wc)
            case first =>
              have hA : (acc ++ legsOf M1 s q (q - p) p).length ≤ i1 := by
                have := legsOf_length (M := M1) (s := s) (q := q) (q - p) p
                have := d2.accB
                rw [List.length_append]; omega
              go_wp2_with fail
              go_loopw [11, 12] (fun x y wr => ∃ kk acc' vl' D', kk ≤ q ∧ x = vi (kk : Nat) ∧ Deep w0 D0 M0 pts0 P mb lrb (rb + 1) rb n cs1 (B + k + 1) (B + k) i1 M1 pts1 acc' vl' D' wr ∧ acc' ++ legsOf M1 s q (q - kk) kk = acc ++ legsOf M1 s q (q - p) p) (fun x _ _ => q - (intOf x).toNat)
              case atStart => exact ⟨p, acc, vl, D1, by omega, rfl, d2.accTo (by rw [List.length_append] at hA; omega), rfl⟩
              case round =>
                clear hh d2 hx1 a1
                obtain ⟨kk, acc', vl', D', hkk, rfl, dd, hacc⟩ := hrel
                obtain ⟨vls, vbs, vrs, r1, r2, r3, r4⟩ := dd.rd.st s hs1
                have hlnb := dd.lnB s
                by_cases hkq : kk < q
                · have hkl : kk < M1.ln s := by omega
                  obtain ⟨ba, bc, rfl, r3'⟩ := r3.read (len := M1.ln s) (by simp [bysF, rowF_length])
                  obtain ⟨ra, rc, rfl, r4'⟩ := r4.read (len := M1.ln s) (by simp [reF, rowF_length])
                  obtain ⟨gb, sb, rfl, hgb⟩ := r3' (by omega)
                  obtain ⟨gr, sr, rfl, hgr⟩ := r4' (by omega)
                  have x1 := dd.h.cell r1 (i := 1) rfl
                  have x2 := dd.h.cell r1 (i := 2) rfl
                  have xr := dd.h.cell hgr (i := kk) (v := vi (M1.re s kk)) (by rw [List.getElem?_append_left (by rw [reF, rowF_length]; exact hkl)]; exact rowF_get hkl)
                  have xb := dd.h.cell hgb (i := kk * 2) (v := .string (M1.by_ s kk).1) (by rw [List.getElem?_append_left (by rw [bysF, rowF_length]; omega)]; rw [← byF_0]; exact rowF_get (by omega))
                  have xc := dd.h.cell hgb (i := kk * 2 + 1) (v := vi (M1.by_ s kk).2) (by rw [List.getElem?_append_left (by rw [bysF, rowF_length]; omega)]; rw [← byF_1]; exact rowF_get (by omega))
                  have xl := dd.h.cell dd.ch (i := 1) rfl
                  have z2 : (kk : Int) < q := by omega
                  have z3 : (kk : Int) < M1.ln s := by omega
                  have hlegs : (legsR pts1 acc').length ≤ 10000000 := by rw [legsR_length]; have := dd.accB; omega
                  go_upto_region 14 with fail
                  refine ops_gen (fun ops hops => ?_)
                  rw [show ops = R14 from hops.trans (by kernel_rfl)]
                  clear hops
                  refine region14 (D := D') (kk := kk) rfl rfl rfl rfl rfl rfl z3 dd.h dd.ch r1 hgb (by rw [List.getElem?_append_left (by rw [bysF, rowF_length]; omega)]; rw [← byF_0]; exact rowF_get (by omega)) (by rw [List.getElem?_append_left (by rw [bysF, rowF_length]; omega)]; rw [← byF_1]; exact rowF_get (by omega)) dd.lg hlegs ?_
                  intro us w' D'' vl'' g1 g2 g3 g4
                  have hnk := nextK_cast (M := M1) (s := s) hkq
                  have e1 : min (if M1.re s kk < (kk : Int) + 1 then (kk : Int) + 1 else M1.re s kk) (q : Int) = (nextK M1 s q kk : Nat) := by rw [hnk]; omega
                  rw [e1] at g3
                  have dl := dd.leg ⟨s, kk, nextK M1 s q kk, M1.by_ s kk⟩ hs1 g1 g2 g3 g4 (a' := i1) (by rw [← hacc, legsOf_step hkq] at hA; simp at hA; omega)
                  rw [show (List.range 22).map (· + 95) = [95, 96, 97, 98, 99, 100, 101, 102, 103, 104, 105, 106, 107, 108, 109, 110, 111, 112, 113, 114, 115, 116] from rfl]
                  simp only [puts, Act.put, List.setIfInBounds_toArray, List.set_cons_zero, List.set_cons_succ]
                  have e2 : (if (q : Int) < (if M1.re s kk < (kk : Int) + 1 then (kk : Int) + 1 else M1.re s kk) then (q : Int) else (if M1.re s kk < (kk : Int) + 1 then (kk : Int) + 1 else M1.re s kk)) = (nextK M1 s q kk : Nat) := by rw [hnk]; omega
                  have hgt := nextK_gt (M := M1) (s := s) hkq
                  go_wp2_with fail
                  go_roundw
                  case rel => exact ⟨nextK M1 s q kk, _, _, _, nextK_le, by rw [hnk], dl, by rw [← hacc, legsOf_step hkq]; simp⟩
                  case measure => simp only [intOf]; omega
                · rw [legsOf_stop hkq, List.append_nil] at hacc
                  have z2 : ¬ (kk : Int) < q := by omega
                  go_wp2_with fail
                  go_meet
                  rw [← hacc]
                  exact ⟨D', vl', dd⟩
            case rest =>
              obtain ⟨D2, vl2, d3⟩ := hcut
              clear d2 hh a1
              have hpg := progress1 dpwf hlt hf hbg hR
              generalize hA : acc ++ legsOf M1 s q (q - p) p = A at *
              go_upto_block 6 with fail
              go_cut [6, 10, 14, 15] from 121 to 193 (fun v6 v10 v14 v15 wc => ∃ M2 i2 q2 D4, v6 = vi (i2 : Nat) ∧ v10 = vi (q2 : Nat) ∧ tail L n s M1 i1 q = (M2, i2, if q < q2 then [⟨s, q, q2, nopl⟩] else []) ∧ k < i2 ∧ i2 ≤ n ∧ q2 + i1 = q + i2 ∧ q ≤ q2 ∧ s < M2.ns ∧ Deep w0 D0 M0 pts0 P mb lrb (rb + 1) rb n cs1 (B + k + 1) (B + i2) i1 M2 pts1 A vl2 D4 wc)
              case first =>
                by_cases hq : q = M1.ln s
                · obtain ⟨⟨M9, i9⟩, hE⟩ : ∃ R, ext L n s (n - i1) M1 i1 = R := ⟨_, rfl⟩
                  have hpr := progress2 hlt hpg hE
                  have htl := tail_ext hq hE
                  have hq0 := hq.symm
                  clear hq
                  go_wp2_with fail
                  go_loopw [6, 10, 14, 15] (fun x y _ _ wr => ∃ i M3 D4, i1 ≤ i ∧ i ≤ n ∧ x = vi (i : Nat) ∧ y = vi (M3.ln s : Nat) ∧ s < M3.ns ∧ M3.ln s + i1 = q + i ∧ Deep w0 D0 M0 pts0 P mb lrb (rb + 1) rb n cs1 (B + k + 1) (B + i) i1 M3 pts1 A vl2 D4 wr ∧ ext L n s (n - i) M3 i = (M9, i9)) (fun x _ _ _ _ => n - (intOf x).toNat)
                  case atStart => exact ⟨i1, M1, D2, by omega, hm2, rfl, by rw [hq0], hs1, by omega, d3.bounds (by omega) (by omega), hE⟩
                  case round =>
                    clear d3
                    obtain ⟨i, M3, D4, hi1, hi2, rfl, rfl, hs3, hq3, dd, hex⟩ := hrel
                    obtain ⟨vls, vbs, vrs, r1, r2, r3, r4⟩ := dd.rd.st s hs3
                    obtain ⟨la3, lc3, hvls, -⟩ := r2.read (len := M3.ln s) (by simp [listsF, rowF_length])
                    have x0 := dd.h.cell r1 (i := 0) rfl
                    rw [hvls] at x0
                    have hlnb3 := dd.lnB s
                    by_cases hin : i < n
                    · have z1 : (i : Int) < n := by omega
                      have hfi := hL i hin
                      have hlsD : D4 .ls = some (lb, row (rowF n fun i => pt (P (L i))) 27) := (dd.same _ rfl).trans hls
                      have ci := dd.h.cell hlsD (i := i) (rowF_get hin)
                      have c17 := dd.h.cell dd.lr h17'
                      have hlk := dd.rd.look dd.h.drew hfi true
                      have hlk2 := fun o => dd.rd.look (dd.h.alloc o).drew hfi true
                      have ck2 := fun o => (dd.h.alloc o).cell hlsD (i := i) (rowF_get hin)
                      have c172 := fun o => (dd.h.alloc o).cell dd.lr h17'
                      go_upto_region 19 with fail
                      by_cases hS : 0 ≤ M3.S (L i)
                      · simp only [if_pos hS, if_true, stAt] at hlk hlk2
                        rw [ext_stop (fun e => by omega)] at hex
                        go_region
                        all_goals go_wp2_with fail
                        all_goals go_meet
                        all_goals cases hex
                        all_goals exact ⟨_, _, _, D4, rfl, rfl, htl, hpr, hi2, hq3, by omega, hs3, dd.scratch (dd.h.alloc _).drew (fun _ _ => rfl)⟩
                      · simp only [if_neg hS, if_true] at hlk hlk2
                        go_region
                        all_goals (go_upto_region 21 with fail)
                        have hal := fun o => (dd.h.alloc o).drew
                        refine ops_gen (fun ops hops => ?_)
                        rw [show ops = R21 from hops.trans (by kernel_rfl)]
                        clear hops
                        refine region21 (D := D4) (s := s) (B := pts1 s) (i := i) (f := P (L i)) rfl rfl rfl rfl z1 (hal _) r1 hlsD (rowF_get hin) r2 r3 r4 (by rw [listsF, rowF_length]; omega) (by rw [bysF, rowF_length]; omega) (by rw [reF, rowF_length]; omega) ?_
                        intro us w1 D5 vl' vb' vr' g1 g2 g3 g4 g5 g6
                        rw [show (List.range 32).map (· + 151) = [151, 152, 153, 154, 155, 156, 157, 158, 159, 160, 161, 162, 163, 164, 165, 166, 167, 168, 169, 170, 171, 172, 173, 174, 175, 176, 177, 178, 179, 180, 181, 182] from rfl]
                        simp only [puts, Act.put, List.setIfInBounds_toArray, List.set_cons_zero, List.set_cons_succ]
                        have hneg : M3.S (L i) < 0 := by omega
                        obtain ⟨es, ck, w2, hmp, hupd, g7⟩ := dd.rd.storeAt (D' := D5) g1.drew (g6 _ (by simp) (by simp) (by simp) (by simp) (by simp)) (fun f => g6 _ (by simp) (by simp) (by simp) (by simp) (by simp)) (s := s) hfi hneg
                        have c17' := g1.cell ((g6 _ (by simp) (by simp) (by simp) (by simp) (by simp)).trans dd.lr) h17'
                        have ci' := g1.cell ((g6 _ (by simp) (by simp) (by simp) (by simp) (by simp)).trans hlsD) (i := i) (rowF_get hin)
                        have rd6 := dd.rd.push (D' := upd D5 .mp mb (.map es ck)) (s := s) (f := L i) (vl := vl') (vb := vb') (vr := vr') (by rw [upd_other (by simp)]; exact g2) (g3.other (by simp) _ _) (g4.other (by simp) _ _) (g5.other (by simp) _ _) (upd_same _ _ _ _) hmp (fun t hu h1 h2 h3 h4 h5 => by rw [upd_other h1]; exact g6 t (fun m e => absurd e (usedR_x hu m)) h2 h3 h4 h5)
                        have dp6 := dd.push hs3 hfi hneg g7 rd6 (fun t ht h1 h2 h3 h4 h5 => by rw [upd_other h1]; exact g6 t ht h2 h3 h4 h5)
                        clear g2 g3 g4 g5 g6 g7 rd6 hmp hlk hlk2 ck2 c172 ci c17 hal
                        go_upto_region 22 with fail
                        go_region
                        all_goals go_wp2_with fail
                        all_goals go_roundw
                        case rel =>
                          refine ⟨i + 1, M3.push s (L i), _, by omega, by omega, by go_num, ?_, hs3, ?_, dp6, by rw [← hex, ext_step ⟨hin, hneg⟩]⟩
                          · simp only [Mod.push, up_same]; go_num
                          · simp only [Mod.push, up_same]; omega
                        case measure => simp [intOf]; omega
                    · have z1 : ¬ (i : Int) < n := by omega
                      rw [ext_stop (fun e => hin e.1)] at hex
                      go_wp2_with fail
                      go_meet
                      cases hex
                      exact ⟨_, _, _, D4, rfl, rfl, htl, hpr, hi2, hq3, by omega, hs3, dd⟩
                · have hki : k < i1 := by
                    rcases hpg with h | ⟨_, h, _⟩
                    · exact h
                    · exact absurd h hq
                  have htl := tail_ne (L := L) (n := n) (i := i1) hq
                  go_wp2_with fail
                  go_loopw [6, 10, 14, 15] (fun x y _ _ wr => x = vi i1 ∧ y = vi q ∧ Deep w0 D0 M0 pts0 P mb lrb (rb + 1) rb n cs1 (B + k + 1) (B + i1) i1 M1 pts1 A vl2 D2 wr) (fun _ _ _ _ _ => 0)
                  case atStart => exact ⟨rfl, rfl, d3.bounds (by omega) (by omega)⟩
                  case round =>
                    clear d3
                    obtain ⟨rfl, rfl, dd⟩ := hrel
                    obtain ⟨vls, vbs, vrs, r1, r2, r3, r4⟩ := dd.rd.st s hs1
                    obtain ⟨la3, lc3, hvls, -⟩ := r2.read (len := M1.ln s) (by simp [listsF, rowF_length])
                    have x0 := dd.h.cell r1 (i := 0) rfl
                    rw [hvls] at x0
                    have z2 : ¬ (q : Int) = M1.ln s := by omega
                    by_cases hin : i1 < n
                    · have z1 : (i1 : Int) < n := by omega
                      go_wp2_with fail
                      go_meet
                      exact ⟨M1, i1, q, D2, rfl, rfl, by rw [htl, if_neg (by omega)], hki, hm2, rfl, by omega, hs1, dd⟩
                    · have z1 : ¬ (i1 : Int) < n := by omega
                      go_wp2_with fail
                      go_meet
                      exact ⟨M1, i1, q, D2, rfl, rfl, by rw [htl, if_neg (by omega)], hki, hm2, rfl, by omega, hs1, dd⟩
              case rest =>
                clear d3
                obtain ⟨M2, i2, q2, D4, rfl, rfl, htl, hk2, hn2, hqq, hq2, hs2, d4⟩ := hcut
                have hwn : ∀ tl, tail L n s M1 i1 q = (M2, i2, tl) → ∀ M' acc', Whole L n M2 i2 (A ++ tl) M' acc' → Whole L n M0 0 [] M' acc' := fun tl ht M' acc' hw => hwh M' acc' (Whole.step hlt (by
                  rw [round_eq hbg hR ht]
                  show Whole L n M2 i2 (acc ++ (legsOf M1 s q (q - p) p ++ tl)) M' acc'
                  rw [← List.append_assoc, hA]; exact hw))
                by_cases hgt : q < q2
                · rw [if_pos hgt] at htl
                  have z2 : (q : Int) < q2 := by omega
                  have xl := d4.h.cell d4.ch (i := 1) rfl
                  have xl2 := fun o => (d4.h.alloc o).cell d4.ch (i := 1) rfl
                  have hlegs : (legsR pts1 A).length ≤ 10000000 := by rw [legsR_length]; have := d4.accB; omega
                  have hN := fun cs : List Value => d4.h.new (.x 2) (row cs 99)
                  have hNs := fun cs : List Value => d4.lg.other (t' := .x 2) (by simp) wc.heap.size (row cs 99)
                  have hNr := fun cs : List Value => Row.new wc 99 cs
                  have hNc : ∀ (cs : List Value) g' o', upd (upd D4 (.x 2) wc.heap.size (row cs 99)) .legs g' o' .ch = some (rb + 1, row (chainC n vl2) 97) := fun cs g' o' => by rw [upd_other (by simp), upd_other (by simp)]; exact d4.ch
                  go_wp2_with (at_builtin; refine wpList_append_sl (c := 1) rfl (.tmp 201) (.tmp 206) 95 rfl elem95 (hN _) (hNs _) rfl rfl (hNr _) rfl (by simp [Value.oneCell']) hlegs ?_; intro g k' cap w' o' hk' h4 hs4; have x4 := h4.cell (hNc _ g o') (i := 1) rfl; have f4 := h4.free (hNc _ g o') 1)
                  have h5 := h4.set (hNc _ g o') 1 (.slice (some ⟨g, 0, none⟩) k' cap)
                  have dl := d4.leg ⟨s, q, q2, nopl⟩ hs2 h5 (vl' := .slice (some ⟨g, 0, none⟩) k' cap) (upd_same _ _ _ _) (hs4.other (by simp) _ _) (fun t ht h1 h2 => by rw [upd_other h1, upd_other h2, upd_other (fun e => by have := ht 2 e; omega)]) (a' := i2) (by have := d4.accB; omega)
                  go_roundw
                  case rel => exact ⟨i2, M2, pts1, A ++ [⟨s, q, q2, nopl⟩], _, _, hn2, rfl, dl.bounds (by omega) (Nat.le_refl _), hwn _ htl⟩
                  case measure => simp [intOf]; omega
                · rw [if_neg hgt] at htl
                  have z2 : ¬ (q : Int) < q2 := by omega
                  go_wp2_with fail
                  go_roundw
                  case rel => exact ⟨i2, M2, pts1, A, _, _, hn2, rfl, (d4.accTo (by have := d4.accB; omega)).bounds (by omega) (Nat.le_refl _), fun M' acc' hw => hwn _ htl M' acc' (by rw [List.append_nil]; exact hw)⟩
                  case measure => simp [intOf]; omega
    · obtain rfl : k = n := by omega
      go_wp2_with (go_at_call 5; refine (chainError_any (rb + 1) wr).mono ?_; rintro e w2 ⟨db, rfl, hdb, hrow, hk2⟩; have h5 := dp.h.put (t := .x 0) (S := []) hk2 hrow (by simp) (.inl hdb); have hres : upd D (.x 0) db (row diagCells 94) (.x 9) = some (rb, row [.pointer none, .pointer none, vi 0, .pointer none, vi 0] 86) := (by rw [upd_other (by simp)]; exact dp.res); have y0 := h5.cell hres (i := 0) rfl; have y1 := h5.cell hres (i := 1) rfl; have y2 := h5.cell hres (i := 2) rfl; have y3 := h5.cell hres (i := 3) rfl; have y4 := h5.cell hres (i := 4) rfl; have ff := fun i => h5.free hres i)
      have h6 := ((((h5.set hres 0 (pt db)).set (upd_same _ _ _ _) 1 (.pointer none)).set (upd_same _ _ _ _) 2 (vi 0)).set (upd_same _ _ _ _) 3 (pt (rb + 1))).set (upd_same _ _ _ _) 4 (vi 0)
      refine bodyPost_ret (results4 (h6.row (upd_same _ _ _ _)) _ rfl) rfl ?_
      have hoth : ∀ t, t ≠ .x 9 → t ≠ .x 0 → upd (upd (upd (upd (upd (upd D (.x 0) db (row diagCells 94)) (.x 9) rb (row ([.pointer none, .pointer none, vi 0, .pointer none, vi 0].set 0 (pt db)) 86)) (.x 9) rb (row (([.pointer none, .pointer none, vi 0, .pointer none, vi 0].set 0 (pt db)).set 1 (.pointer none)) 86)) (.x 9) rb (row ((([.pointer none, .pointer none, vi 0, .pointer none, vi 0].set 0 (pt db)).set 1 (.pointer none)).set 2 (vi 0)) 86)) (.x 9) rb (row (((([.pointer none, .pointer none, vi 0, .pointer none, vi 0].set 0 (pt db)).set 1 (.pointer none)).set 2 (vi 0)).set 3 (pt (rb + 1))) 86)) (.x 9) rb (row ((((([.pointer none, .pointer none, vi 0, .pointer none, vi 0].set 0 (pt db)).set 1 (.pointer none)).set 2 (vi 0)).set 3 (pt (rb + 1))).set 4 (vi 0)) 86) t = D t := fun t h1 h2 => by
        rw [upd_other h1, upd_other h1, upd_other h1, upd_other h1, upd_other h1, upd_other h2]
      refine ⟨_, pts, M, acc, vl, rb + 1, db, rfl, h6, dp.rd.congr (fun t ht => hoth t (usedR_x ht 9) (usedR_x ht 0)), hwh _ _ (Whole.stop (by omega)), (hoth _ (by simp) (by simp)).trans (dp.lr.trans (by rw [hcs])), (hoth _ (by simp) (by simp)).trans dp.ch, dp.lg.congr (hoth _ (by simp) (by simp)), ?_, fun t ht => (hoth t (isReal_x ht 9) (isReal_x ht 0)).trans (dp.same t ht), dp.ptsS⟩
      rw [upd_other (by simp), upd_other (by simp), upd_other (by simp), upd_other (by simp), upd_other (by simp), upd_same]
end Go.Proofs.Ybulkeaca.CW
