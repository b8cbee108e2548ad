import Derived.Test.YbulkeafgG7
import Derived.Deep.RegionHeld3
namespace Go.Proofs.Ybulkeafg.GW
open Go.RowKit Go.Proofs.Ybulkeafg.Kit

theorem held0 {w w' : World} (k : Keeps [] w w') {p : Addr} {v : Value} (h : w.cell? p = some v) : w'.cell? p = some v := (k.cell (World.block_lt_of_cell? _ _ h) (by simp)).trans h

/-- What stands while the terms are put together: s: the walk; s + 1: the rule; s + 1 + 1: the terms. -/
structure Terms (w : World) (s : Nat) (tag : Int) (a4 : Option Addr) (n : Nat) (T : Nat → ByteArray) (A : Nat → Int) (mp sp tm : Option Addr) (wc : World) : Prop where
  wr : Row wc s 26 [.int .i64 tag, .int .i64 0]
  rr : Row wc (s + 1) 29 [.int .i64 0, .pointer (some ⟨s, 0, none⟩)]
  tt : Row wc (s + 1 + 1) 36 [.iface 27 (.pointer (some ⟨s + 1, 0, none⟩)), .pointer mp, .pointer sp, .pointer tm]
  sh : SharesAt wc a4 n s T A
  kp : Keeps [] w wc
  sz : w.heap.size = s

theorem Terms.keep {w : World} {s : Nat} {tag : Int} {a4 : Option Addr} {n : Nat} {T : Nat → ByteArray} {A : Nat → Int} {mp sp tm : Option Addr} {wc : World} (h : Terms w s tag a4 n T A mp sp tm wc) {w' : World} {S : List Nat} (k : Keeps S wc w') (hS : ∀ b, b ≤ s + 1 + 1 → b ∉ S) (hW : ∀ i, i < w.heap.size → i ∈ S → i ∈ ([] : List Nat)) : Terms w s tag a4 n T A mp sp tm w' :=
  ⟨h.wr.keeps k (hS _ (by omega)), h.rr.keeps k (hS _ (by omega)), h.tt.keeps k (hS _ (by omega)), h.sh.keep k (fun b hb => hS b (by omega)), h.kp.after k hW, h.sz⟩
theorem Terms.keep0 {w : World} {s : Nat} {tag : Int} {a4 : Option Addr} {n : Nat} {T : Nat → ByteArray} {A : Nat → Int} {mp sp tm : Option Addr} {wc : World} (h : Terms w s tag a4 n T A mp sp tm wc) {w' : World} (k : Keeps [] wc w') : Terms w s tag a4 n T A mp sp tm w' := h.keep k (by simp) (by simp)
theorem Terms.stored {w : World} {s : Nat} {tag : Int} {a4 : Option Addr} {n : Nat} {T : Nat → ByteArray} {A : Nat → Int} {mp sp tm : Option Addr} {wc : World} (h : Terms w s tag a4 n T A mp sp tm wc) (i : Nat) (v : Value) {mp' sp' tm' : Option Addr} (e : [.iface 27 (.pointer (some ⟨s + 1, 0, none⟩)), .pointer mp, .pointer sp, .pointer tm].set i v = [.iface 27 (.pointer (some ⟨s + 1, 0, none⟩)), .pointer mp', .pointer sp', .pointer tm']) : Terms w s tag a4 n T A mp' sp' tm' (wc.setCell ⟨s + 1 + 1, i, none⟩ v) :=
  ⟨h.wr.other (by simp; omega) _, h.rr.other (by simp) _, by rw [← e]; exact h.tt.set i v, h.sh.keep (S := [s + 1 + 1]) ((Keeps.refl _ _).setCell (.inl (by simp)) _) (fun b hb => by simp; omega), h.kp.setCell (.inr (by have := h.sz; simp; omega)) _, h.sz⟩
theorem Terms.apart {w : World} {s : Nat} {tag : Int} {a4 : Option Addr} {n : Nat} {T : Nat → ByteArray} {A : Nat → Int} {mp sp tm : Option Addr} {wc : World} (h : Terms w s tag a4 n T A mp sp tm wc) : Apart [s + 1 + 1] wc := Apart.one h.tt (by decide)

theorem big42 {w w' : World} {sh p : Nat} {v : Int} {cs : List Value} (h : IsBig w p v) (hr : Row w sh 42 cs) (k : Keeps [sh] w w') : IsBig w' p v :=
  h.keeps k (fun b hb => by simp at hb; subst hb; exact ⟨42, cs, hr, by decide, by decide⟩)
theorem CapOk.keep42 {hasCap : Bool} {capV : Int} {mp : Option Addr} {sh : Nat} {cs : List Value} {w w' : World} (h : CapOk hasCap capV mp w) (hr : Row w sh 42 cs) (k : Keeps [sh] w w') : CapOk hasCap capV mp w' := by
  intro e; obtain ⟨p, h1, h2⟩ := h e; exact ⟨p, h1, big42 h2 hr k⟩
theorem info42 : (Yba.prog.info? 42).map (fun i => (i.zero, i.size, i.bytes)) = some (some (.agg #[.string .empty, .pointer none]), 2, 24) := by kernel_rfl
theorem made42 (T : Nat → ByteArray) (P : Nat → Nat) (n : Nat) : (madeCells #[Value.string .empty, .pointer none] (n * 2)).toList = rowF (n * 2) (shF T P 0) := by
  apply List.ext_getElem
  · simp [madeCells, rowF]
  · intro i h1 h2
    simp [madeCells, rowF, shF]
    rcases (show i % 2 = 0 ∨ i % 2 = 1 by omega) with h | h <;> simp [h]

theorem share_step {w w0 w3 : World} {s sh k n p : Nat} {tag capV : Int} {a4 mp : Option Addr} {T : Nat → ByteArray} {A : Nat → Int} {P : Nat → Nat} {hasCap : Bool} (hss : s + 1 + 1 < sh) (tr3 : Terms w s tag a4 n T A mp none none w3) (hsh3 : Row w3 sh 42 (rowF (n * 2) (shF T P k))) (hbig : IsBig w3 p (A k))
    (hbs : ∀ j, j < k → IsBig w0 (P j) (A j)) (hcap : CapOk hasCap capV mp w0) (hk : Keeps [] w0 w3) :
    ∃ P' : Nat → Nat, Row ((w3.setCell ⟨sh, k * 2, none⟩ (.string (T k))).setCell ⟨sh, k * 2 + 1, none⟩ (.pointer (some ⟨p, 0, none⟩))) sh 42 (rowF (n * 2) (shF T P' (k + 1))) ∧ Hid (∀ j, j < k + 1 → IsBig ((w3.setCell ⟨sh, k * 2, none⟩ (.string (T k))).setCell ⟨sh, k * 2 + 1, none⟩ (.pointer (some ⟨p, 0, none⟩))) (P' j) (A j)) ∧
      Terms w s tag a4 n T A mp none none ((w3.setCell ⟨sh, k * 2, none⟩ (.string (T k))).setCell ⟨sh, k * 2 + 1, none⟩ (.pointer (some ⟨p, 0, none⟩))) ∧ CapOk hasCap capV mp ((w3.setCell ⟨sh, k * 2, none⟩ (.string (T k))).setCell ⟨sh, k * 2 + 1, none⟩ (.pointer (some ⟨p, 0, none⟩))) := by
  have kk : Keeps [sh] w3 ((w3.setCell ⟨sh, k * 2, none⟩ (.string (T k))).setCell ⟨sh, k * 2 + 1, none⟩ (.pointer (some ⟨p, 0, none⟩))) := ((Keeps.refl _ _).setCell (.inl (by simp)) _).setCell (.inl (by simp)) _
  refine ⟨fun i => if i = k then p else P i, by rw [← shF_set]; exact (hsh3.set _ _).set _ _, fun j hj => ?_, tr3.keep kk (fun b hb => by simp; omega) (fun i h1 h2 => by have := tr3.sz; simp at h2; omega), (hcap.keep (Apart.nil _) hk).keep42 hsh3 kk⟩
  by_cases e : j = k
  · subst e; simp only [if_true]; exact big42 hbig hsh3 kk
  · simp only [e, if_false]; exact big42 ((Apart.nil _).big hk (hbs j (by omega))) hsh3 kk

theorem split_made {w wr w3 : World} {s sh n dp : Nat} {tag capV den rest : Int} {a4 mp : Option Addr} {T : Nat → ByteArray} {A : Nat → Int} {P : Nat → Nat} {hasCap : Bool} (tr3 : Terms w s tag a4 n T A mp none none w3) (hsh : Row wr sh 42 (rowF (n * 2) (shF T P n))) (hbs : ∀ j, j < n → IsBig wr (P j) (A j)) (hcap : CapOk hasCap capV mp wr) (hk : Keeps [] wr w3) (hbig : IsBig w3 dp den) :
    Terms w s tag a4 n T A mp (some ⟨w3.heap.size, 0, none⟩) none ((w3.alloc (.cells #[.pointer (some ⟨dp, 0, none⟩), .slice (some ⟨sh, 0, none⟩) n n, .int .i64 rest] 44)).setCell ⟨s + 1 + 1, 2, none⟩ (.pointer (some ⟨w3.heap.size, 0, none⟩))) ∧
    CapOk hasCap capV mp ((w3.alloc (.cells #[.pointer (some ⟨dp, 0, none⟩), .slice (some ⟨sh, 0, none⟩) n n, .int .i64 rest] 44)).setCell ⟨s + 1 + 1, 2, none⟩ (.pointer (some ⟨w3.heap.size, 0, none⟩))) ∧
    SplitOk true den rest n T A (some ⟨w3.heap.size, 0, none⟩) ((w3.alloc (.cells #[.pointer (some ⟨dp, 0, none⟩), .slice (some ⟨sh, 0, none⟩) n n, .int .i64 rest] 44)).setCell ⟨s + 1 + 1, 2, none⟩ (.pointer (some ⟨w3.heap.size, 0, none⟩))) := by
  have ka := (Keeps.refl [] w3).alloc (.cells #[.pointer (some ⟨dp, 0, none⟩), .slice (some ⟨sh, 0, none⟩) n n, .int .i64 rest] 44)
  have hrow := Row.new w3 44 [.pointer (some ⟨dp, 0, none⟩), .slice (some ⟨sh, 0, none⟩) n n, .int .i64 rest]
  have tra := tr3.keep0 ka
  have sp0 : SplitOk true den rest n T A (some ⟨w3.heap.size, 0, none⟩) (w3.alloc (.cells #[.pointer (some ⟨dp, 0, none⟩), .slice (some ⟨sh, 0, none⟩) n n, .int .i64 rest] 44)) := fun _ =>
    ⟨_, dp, sh, P, rfl, hrow, (Apart.nil _).big ka hbig, (hsh.keeps hk (by simp)).alloc _, fun i hi => (Apart.nil _).big ka ((Apart.nil _).big hk (hbs i hi))⟩
  have cp0 := (hcap.keep (Apart.nil _) hk).keep (Apart.nil _) ka
  generalize w3.alloc (.cells #[.pointer (some ⟨dp, 0, none⟩), .slice (some ⟨sh, 0, none⟩) n n, .int .i64 rest] 44) = wa at *
  have ks : Keeps [s + 1 + 1] wa (wa.setCell ⟨s + 1 + 1, 2, none⟩ (.pointer (some ⟨w3.heap.size, 0, none⟩))) := (Keeps.refl _ _).setCell (.inl (by simp)) _
  exact ⟨tra.stored 2 _ rfl, cp0.keep tra.apart ks, sp0.keep tra.apart ks⟩

/-- as 'Apart', for the numbers and the split alone -/
def Apart4 (S : List Nat) (w : World) : Prop := ∀ b ∈ S, ∃ t cs, Row w b t cs ∧ t ≠ 75 ∧ t ≠ 102 ∧ t ≠ 44 ∧ t ≠ 42
theorem Apart4.one {w : World} {b : Nat} {t : TypeId} {cs : List Value} (h : Row w b t cs) (ht : t ≠ 75 ∧ t ≠ 102 ∧ t ≠ 44 ∧ t ≠ 42) : Apart4 [b] w := by
  intro x hx; simp at hx; subst hx; exact ⟨t, cs, h, ht⟩
theorem Apart4.row {S : List Nat} {w w' : World} (h : Apart4 S w) (k : Keeps S w w') {b : Nat} {t : TypeId} {cs : List Value} (hr : Row w b t cs) (ht : t = 75 ∨ t = 102 ∨ t = 44 ∨ t = 42) : Row w' b t cs := by
  refine hr.keeps k (fun hm => ?_)
  obtain ⟨t', cs', hr', h1, h2, h3, h4⟩ := h b hm
  exact Row.ne hr hr' (by rcases ht with rfl | rfl | rfl | rfl <;> exact Ne.symm (by assumption)) rfl
theorem Apart4.big {S : List Nat} {w w' : World} (h : Apart4 S w) (k : Keeps S w w') {p : Nat} {v : Int} (hb : IsBig w p v) : IsBig w' p v :=
  hb.keeps k (fun b hb => by obtain ⟨t, cs, h1, h2, h3, _⟩ := h b hb; exact ⟨t, cs, h1, h2, h3⟩)
theorem CapOk.keep4 {hasCap : Bool} {capV : Int} {mp : Option Addr} {S : List Nat} {w w' : World} (h : CapOk hasCap capV mp w) (ap : Apart4 S w) (k : Keeps S w w') : CapOk hasCap capV mp w' := by
  intro e; obtain ⟨p, h1, h2⟩ := h e; exact ⟨p, h1, ap.big k h2⟩
theorem SplitOk.keep4 {hasSplit : Bool} {den rest : Int} {n : Nat} {T : Nat → ByteArray} {A : Nat → Int} {sp : Option Addr} {S : List Nat} {w w' : World} (h : SplitOk hasSplit den rest n T A sp w) (ap : Apart4 S w) (k : Keeps S w w') : SplitOk hasSplit den rest n T A sp w' := by
  intro e; obtain ⟨q, dp, sh, P, h1, h2, h3, h4, h5⟩ := h e
  exact ⟨q, dp, sh, P, h1, ap.row k h2 (by simp), ap.big k h3, ap.row k h4 (by simp), fun i hi => ap.big k (h5 i hi)⟩
/-- the three together -/
structure Three (w : World) (s : Nat) (tag : Int) (a4 : Option Addr) (n : Nat) (T : Nat → ByteArray) (A : Nat → Int) (mp sp tm : Option Addr) (hasCap : Bool) (capV : Int) (hasSplit : Bool) (den rest : Int) (wc : World) : Prop where
  tr : Terms w s tag a4 n T A mp sp tm wc
  cap : CapOk hasCap capV mp wc
  spl : SplitOk hasSplit den rest n T A sp wc
theorem Three.keep {w : World} {s : Nat} {tag : Int} {a4 : Option Addr} {n : Nat} {T : Nat → ByteArray} {A : Nat → Int} {mp sp tm : Option Addr} {hasCap : Bool} {capV : Int} {hasSplit : Bool} {den rest : Int} {wc w' : World} (h : Three w s tag a4 n T A mp sp tm hasCap capV hasSplit den rest wc) {S : List Nat} (ap : Apart4 S wc) (k : Keeps S wc w') (hS : ∀ b ∈ S, s + 1 + 1 < b) : Three w s tag a4 n T A mp sp tm hasCap capV hasSplit den rest w' :=
  ⟨h.tr.keep k (fun b hb hm => by have := hS b hm; omega) (fun i h1 h2 => by have := hS i h2; have := h.tr.sz; omega), h.cap.keep4 ap k, h.spl.keep4 ap k⟩
theorem Three.keep0 {w : World} {s : Nat} {tag : Int} {a4 : Option Addr} {n : Nat} {T : Nat → ByteArray} {A : Nat → Int} {mp sp tm : Option Addr} {hasCap : Bool} {capV : Int} {hasSplit : Bool} {den rest : Int} {wc w' : World} (h : Three w s tag a4 n T A mp sp tm hasCap capV hasSplit den rest wc) (k : Keeps [] wc w') : Three w s tag a4 n T A mp sp tm hasCap capV hasSplit den rest w' :=
  h.keep (by intro b hb; simp at hb) k (by simp)

/-- What stands once the schedule is made. -/
structure Fin (w : World) (s : Nat) (tag : Int) (a4 : Option Addr) (n : Nat) (T : Nat → ByteArray) (A : Nat → Int) (mp sp tm : Option Addr) (hasCap : Bool) (capV : Int) (hasSplit : Bool) (den rest : Int) (hasTiming : Bool) (bs : Int) (hg : Bool) (tb sb c : Nat) (wc : World) : Prop where
  core : Row wc c 88 (coreCells (.iface 27 (.pointer (some ⟨s + 1, 0, none⟩))) (.pointer mp) (.pointer sp) (.pointer tm) 16384 64 0 (.iface 24 (.pointer (some ⟨s, 0, none⟩))) (.pointer mp))
  sch : Row wc sb 56 [.string .empty, .int .i64 0, .pointer (some ⟨c, 0, none⟩)]
  rr : Row wc (s + 1) 29 [.int .i64 1, .pointer (some ⟨s, 0, none⟩)]
  wr : Row wc s 26 [.int .i64 tag, .int .i64 0]
  tt : Row wc (s + 1 + 1) 36 [.iface 27 (.pointer (some ⟨s + 1, 0, none⟩)), .pointer mp, .pointer sp, .pointer tm]
  sh : SharesAt wc a4 n s T A
  cap : CapOk hasCap capV mp wc
  spl : SplitOk hasSplit den rest n T A sp wc
  tim : TimeOk hasTiming bs hg tb tm wc
  kp : Keeps [] w wc
  cge : w.heap.size ≤ c
theorem Fin.keep0 {w : World} {s : Nat} {tag : Int} {a4 : Option Addr} {n : Nat} {T : Nat → ByteArray} {A : Nat → Int} {mp sp tm : Option Addr} {hasCap : Bool} {capV : Int} {hasSplit : Bool} {den rest : Int} {hasTiming : Bool} {bs : Int} {hg : Bool} {tb sb c : Nat} {wc : World} (h : Fin w s tag a4 n T A mp sp tm hasCap capV hasSplit den rest hasTiming bs hg tb sb c wc) {w' : World} (k : Keeps [] wc w') : Fin w s tag a4 n T A mp sp tm hasCap capV hasSplit den rest hasTiming bs hg tb sb c w' :=
  ⟨h.core.keeps k (by simp), h.sch.keeps k (by simp), h.rr.keeps k (by simp), h.wr.keeps k (by simp), h.tt.keeps k (by simp), h.sh.keep k (by simp), h.cap.keep (Apart.nil _) k, h.spl.keep (Apart.nil _) k, h.tim.keep (Apart.nil _) k, h.kp.trans k, h.cge⟩
theorem Fin.drewN {w : World} {s : Nat} {tag : Int} {a4 : Option Addr} {n : Nat} {T : Nat → ByteArray} {A : Nat → Int} {mp sp tm : Option Addr} {hasCap : Bool} {capV : Int} {hasSplit : Bool} {den rest : Int} {hasTiming : Bool} {bs : Int} {hg : Bool} {tb sb c : Nat} {wc : World} (h : Fin w s tag a4 n T A mp sp tm hasCap capV hasSplit den rest hasTiming bs hg tb sb c wc) (m : Nat) : Fin w s tag a4 n T A mp sp tm hasCap capV hasSplit den rest hasTiming bs hg tb sb c (wc.drewN m) := h.keep0 ((Keeps.refl _ _).drewN m)
theorem Fin.make {w : World} {s : Nat} {tag : Int} {a4 : Option Addr} {n : Nat} {T : Nat → ByteArray} {A : Nat → Int} {mp sp tm : Option Addr} {hasCap : Bool} {capV : Int} {hasSplit : Bool} {den rest : Int} {hasTiming : Bool} {bs : Int} {hg : Bool} {tb sb c : Nat} {wc : World} {wS : World} (t : Three w s tag a4 n T A mp sp tm hasCap capV hasSplit den rest wc) (ht : TimeOk hasTiming bs hg tb tm wc) (hk : Keeps [s + 1] wc wS)
    (h1 : Row wS sb 56 [.string .empty, .int .i64 0, .pointer (some ⟨c, 0, none⟩)]) (h2 : Row wS c 88 (coreCells (.iface 27 (.pointer (some ⟨s + 1, 0, none⟩))) (.pointer mp) (.pointer sp) (.pointer tm) 16384 64 0 (.iface 24 (.pointer (some ⟨s, 0, none⟩))) (.pointer mp))) (h3 : Row wS (s + 1) 29 [.int .i64 1, .pointer (some ⟨s, 0, none⟩)]) (hc : wc.heap.size ≤ c) : Fin w s tag a4 n T A mp sp tm hasCap capV hasSplit den rest hasTiming bs hg tb sb c wS :=
  ⟨h2, h1, h3, t.tr.wr.keeps hk (by simp), t.tr.tt.keeps hk (by simp), t.tr.sh.keep hk (fun b hb => by simp; omega), t.cap.keep (Apart.one t.tr.rr (by decide)) hk, t.spl.keep (Apart.one t.tr.rr (by decide)) hk, ht.keep (Apart.one t.tr.rr (by decide)) hk, t.tr.kp.after hk (fun i h1 h2 => by have := t.tr.sz; simp at h2; omega), Nat.le_trans t.tr.kp.size hc⟩

set_option maxRecDepth 100000 in
set_option maxHeartbeats 20000000 in
theorem law_any (hasCap : Bool) (capV : Int) (hasSplit : Bool) (den : Int) (a4 : Option Addr) (n cap4 : Nat) (rest : Int) (hasTiming : Bool) (bs gn : Int) (hg : Bool) (tag : Int) (w : World) (T : Nat → ByteArray) (A : Nat → Int) (hs : SharesAt w a4 n w.heap.size T A) (hn : n ≤ 1048576) (g1 : -9223372036854775808 ≤ gn) (g2 : gn ≤ 9223372036854775807) :
    Calls Yba.prog 3 #[.bool hasCap, .int .i64 capV, .bool hasSplit, .int .i64 den, .slice a4 n cap4, .int .i64 rest, .bool hasTiming, .int .u64 bs, .int .i64 gn, .bool hg, .int .i64 tag] w fun e w' => e = .returned (.bool true) ∧ Below w.heap.size w w' := by
  have si : ∀ (W : World) (b : Addr) (m : Mode) (t : TypeId) (v : Value), (store b (.iface t v) m).run Yba.prog W = stored Yba.prog W b (.iface t v) m := fun W b m t v => run_store Yba.prog W b _ m rfl
  have hn' : (n : Int) ≤ 1048576 := by omega
  go_enter Yba.func3, Yba.ntmps3
  go_upto_if 49 with fail
  have tr : Terms w w.heap.size tag a4 n T A none none none (((w.alloc (.cells #[.int .i64 tag, .int .i64 0] 26)).alloc (.cells #[.int .i64 0, .pointer (some ⟨w.heap.size, 0, none⟩)] 29)).alloc (.cells #[.iface 27 (.pointer (some ⟨w.heap.size + 1, 0, none⟩)), .pointer none, .pointer none, .pointer none] 36)) :=
    ⟨((Row.new w 26 [.int .i64 tag, .int .i64 0]).alloc _).alloc _, (Row.new' _ 29 [.int .i64 0, .pointer (some ⟨w.heap.size, 0, none⟩)] (by simp)).alloc _, Row.new' _ 36 [.iface 27 (.pointer (some ⟨w.heap.size + 1, 0, none⟩)), .pointer none, .pointer none, .pointer none] (by simp), hs.keep ((((Keeps.refl [] w).alloc _).alloc _).alloc _) (by simp), (((Keeps.refl [] w).alloc _).alloc _).alloc _, rfl⟩
  generalize ((w.alloc (.cells #[.int .i64 tag, .int .i64 0] 26)).alloc (.cells #[.int .i64 0, .pointer (some ⟨w.heap.size, 0, none⟩)] 29)).alloc (.cells #[.iface 27 (.pointer (some ⟨w.heap.size + 1, 0, none⟩)), .pointer none, .pointer none, .pointer none] 36) = w1 at *
  clear hs
  generalize hS : w.heap.size = s at *
  go_cut [25] from 50 to 52 (fun v wc => v = .pointer (some ⟨s + 1 + 1, 0, none⟩) ∧ ∃ mp, Terms w s tag a4 n T A mp none none wc ∧ CapOk hasCap capV mp wc)
  case first =>
    cases hasCap
    · go_wp2_with fail
      go_meet
      exact ⟨rfl, none, tr, by intro h; cases h⟩
    · have hq := newInt_any capV w1
      go_wp2_with (go_at_call 4; refine hq.mono ?_; rintro e w2 ⟨p, rfl, hp, hb, hk⟩; have tr2 := tr.keep0 hk; have c1 := tr2.tt.cell (i := 1) rfl; have f1 := tr2.tt.free 1)
      go_meet
      have tr3 := tr2.stored 1 (.pointer (some ⟨p, 0, none⟩)) (mp' := some ⟨p, 0, none⟩) (sp' := none) (tm' := none) rfl
      exact ⟨rfl, _, tr3, fun _ => ⟨p, rfl, tr2.apart.big ((Keeps.refl _ _).setCell (.inl (by simp)) _) hb⟩⟩
  case rest =>
    clear tr
    obtain ⟨rfl, mp, tr, hcap⟩ := hcut
    go_upto_if 53 with fail
    go_cut [25, 26, 27, 28] from 54 to 85 (fun v0 v1 v2 v3 wc => v0 = .pointer (some ⟨s + 1 + 1, 0, none⟩) ∧ ∃ sp, v1 = .pointer sp ∧ Terms w s tag a4 n T A mp sp none wc ∧ CapOk hasCap capV mp wc ∧ SplitOk hasSplit den rest n T A sp wc)
    case first =>
      cases hasSplit
      · go_wp2_with fail
        go_meet
        exact ⟨rfl, none, rfl, tr, hcap, by intro h; cases h⟩
      · go_wp2_with (at_make; refine wpList_make_row rfl (.tmp 55) (.tmp 55) 38 rfl 42 (.agg #[.string .empty, .pointer none]) 2 24 Yba.underlying38 info42 _ _ _ _ n rfl rfl (by omega) (by omega) (by omega) (by unfold maxLen; omega) ?_)
        intro w2 hsh hz2 hb2
        have hk2 := Keeps.new hb2 []
        have tr2 := tr.keep0 hk2
        have hcap2 := hcap.keep (Apart.nil _) hk2
        have hshl : s + 1 + 1 < wc.heap.size := tr.tt.lt
        rw [made42 T (fun _ => 0)] at hsh
        clear hb2 hk2 tr hcap
        generalize wc.heap.size = sh at *
        go_wp2_with fail
        go_loopw [28] (fun i wr => ∃ (k : Nat) (P : Nat → Nat), k ≤ n ∧ i = .int .i64 k ∧ Row wr sh 42 (rowF (n * 2) (shF T P k)) ∧ Hid (∀ j, j < k → IsBig wr (P j) (A j)) ∧ Terms w s tag a4 n T A mp none none wr ∧ CapOk hasCap capV mp wr) (fun i _ => n - (intOf i).toNat)
        case atStart => exact ⟨0, fun _ => 0, by omega, rfl, hsh, fun j hj => by omega, tr2, hcap2⟩
        case round =>
          clear hsh tr2 hcap2
          obtain ⟨k, P, hk, rfl, hsh, hbs, tr, hcap⟩ := hrel
          by_cases hlt : k < n
          · obtain ⟨b, o, rfl, hb1, hb2, hb3⟩ := tr.sh (by omega)
            have x0 := (hb3 k hlt).1
            have x1 := (hb3 k hlt).2
            have hq := newInt_any (A k) wr.drew
            have z1 : (k : Int) < n := by omega
            have HB3 : Hid _ := hb3
            clear hb3
            go_upto_region 15 with fail
            go_region_with (go_at_call 4; refine hq.mono ?_; rintro e w3 ⟨p, rfl, hp, hbig, hk3⟩; have tr3 := (tr.keep0 ((Keeps.refl [] _).drew)).keep0 hk3; have hsh3 := hsh.drew.keeps hk3 (by simp); have y0 := (Keeps.cell hk3 (p := ⟨b, o + k * 2, none⟩) hb2 (by simp)).trans x0; have s0 := hsh3.cell (rowF_get (i := k * 2) (by omega)); have s1 := hsh3.cell (rowF_get (i := k * 2 + 1) (by omega)); have f0 := hsh3.free (k * 2); have f1 := hsh3.free (k * 2 + 1))
            all_goals
              have hst := share_step hshl tr3 hsh3 hbig hbs.out hcap (((Keeps.refl [] _).drew).trans hk3)
              clear hcap
              go_wp2_with fail
              go_roundw
              case rel =>
                obtain ⟨P', r1, r2, r3, r4⟩ := hst
                exact ⟨k + 1, P', by omega, by go_num, r1, r2, r3, r4⟩
              case measure => simp [intOf]; omega
          · obtain rfl : k = n := by omega
            have hq := newInt_any den wr
            go_wp2_with (go_at_call 4; refine hq.mono ?_; rintro e w3 ⟨dp, rfl, hp, hbig, hk3⟩; have tr3 := tr.keep0 hk3; have tr4 := fun o => tr3.keep0 ((Keeps.refl [] _).alloc o); have c2 := fun o => (tr4 o).tt.cell (i := 2) rfl; have f2 := fun o => (tr4 o).tt.free 2)
            go_meet
            have hsm := split_made (rest := rest) tr3 hsh hbs.out hcap hk3 hbig
            exact ⟨rfl, _, rfl, hsm⟩
    case rest =>
      clear tr hcap
      obtain ⟨rfl, sp, rfl, tr, hcap, hsp⟩ := hcut
      go_upto_if 86 with fail
      have t3 : Three w s tag a4 n T A mp sp none hasCap capV hasSplit den rest wc := ⟨tr, hcap, hsp⟩
      clear tr hcap hsp
      have t5 := t3.keep0 ((Keeps.refl [] wc).alloc (.cells #[.int .u64 0, .int .u64 0, .int .i64 0, .pointer none, .bool false] 49))
      have htb := Row.new wc 49 [.int .u64 0, .int .u64 0, .int .i64 0, .pointer none, .bool false]
      have hto : s + 1 + 1 < wc.heap.size := t3.tr.tt.lt
      clear t3
      generalize wc.heap.size = tb at *
      generalize wc.alloc (.cells #[.int .u64 0, .int .u64 0, .int .i64 0, .pointer none, .bool false] 49) = w5 at *
      go_cut [25, 29, 30, 31] from 87 to 97 (fun v0 v1 v2 v3 wc => v0 = .pointer (some ⟨s + 1 + 1, 0, none⟩) ∧ v1 = .pointer (some ⟨tb, 0, none⟩) ∧ ∃ tm, Three w s tag a4 n T A mp sp tm hasCap capV hasSplit den rest wc ∧ TimeOk hasTiming bs hg tb tm wc)
      case first =>
        cases hasTiming
        · go_wp2_with fail
          go_meet
          exact ⟨rfl, rfl, none, t5, by intro h; cases h⟩
        · go_upto_if 88 with fail
          have hgl : tb < w5.heap.size := htb.lt
          have t6 := t5.keep0 ((Keeps.refl [] w5).alloc (.cells #[.int .u64 0, .int .i64 0, .pointer none] 47))
          have htb6 := htb.alloc (.cells #[.int .u64 0, .int .i64 0, .pointer none] 47)
          have hgb := Row.new w5 47 [.int .u64 0, .int .i64 0, .pointer none]
          clear t5 htb
          generalize w5.heap.size = gb at *
          generalize w5.alloc (.cells #[.int .u64 0, .int .i64 0, .pointer none] 47) = w6 at *
          go_cut [30] from 89 to 91 (fun v wc => v = .pointer (some ⟨gb, 0, none⟩) ∧ ∃ X Y : Int, Row wc gb 47 [.int .u64 X, .int .i64 Y, .pointer none] ∧ Row wc tb 49 [.int .u64 0, .int .u64 0, .int .i64 0, .pointer none, .bool false] ∧ Three w s tag a4 n T A mp sp none hasCap capV hasSplit den rest wc)
          case first =>
            cases hg
            · go_wp2_with fail
              go_meet
              exact ⟨rfl, 0, 0, hgb, htb6, t6⟩
            · have hq := add_any gn w6 g1 g2
              go_wp2_with (go_at_call 5; refine hq.mono ?_; rintro e w7 ⟨X, Y, rfl, hk7⟩; have hgb7 := hgb.keeps hk7 (by simp); have c0 := hgb7.cell (i := 0) rfl; have c1 := hgb7.cell (i := 1) rfl; have c2 := hgb7.cell (i := 2) rfl; have f0 := hgb7.free 0; have f1 := hgb7.free 1; have f2 := hgb7.free 2)
              go_meet
              have t7 := t6.keep0 hk7
              have kk : Keeps [gb] w7 (((w7.setCell ⟨gb, 0, none⟩ (.int .u64 X)).setCell ⟨gb, 1, none⟩ (.int .i64 Y)).setCell ⟨gb, 2, none⟩ (.pointer none)) := (((Keeps.refl _ _).setCell (.inl (by simp)) _).setCell (.inl (by simp)) _).setCell (.inl (by simp)) _
              exact ⟨rfl, X, Y, ((hgb7.set 0 _).set 1 _).set 2 _, (htb6.keeps hk7 (by simp)).keeps kk (by simp; omega), t7.keep (Apart4.one hgb7 (by decide)) kk (by simp; omega)⟩
          case rest =>
            clear hgb htb6 t6
            obtain ⟨rfl, X, Y, hgb, htb, t6⟩ := hcut
            have c0 := hgb.cell (i := 0) rfl
            have c1 := hgb.cell (i := 1) rfl
            have c2 := hgb.cell (i := 2) rfl
            have d0 := htb.cell (i := 0) rfl
            have d1 := htb.cell (i := 1) rfl
            have d2 := htb.cell (i := 2) rfl
            have d3 := htb.cell (i := 3) rfl
            have d4 := htb.cell (i := 4) rfl
            have ft := fun i => htb.free i
            go_upto_region 25 with fail
            have htl := htb.lt
            have htb2 : Row (((((wc.setCell ⟨tb, 0, none⟩ (.int .u64 bs)).setCell ⟨tb, 1, none⟩ (.int .u64 X)).setCell ⟨tb, 2, none⟩ (.int .i64 Y)).setCell ⟨tb, 3, none⟩ (.pointer none)).setCell ⟨tb, 4, none⟩ (.bool hg)) tb 49 [.int .u64 bs, .int .u64 X, .int .i64 Y, .pointer none, .bool hg] := ((((htb.set 0 _).set 1 _).set 2 _).set 3 _).set 4 _
            have kk : Keeps [tb] wc (((((wc.setCell ⟨tb, 0, none⟩ (.int .u64 bs)).setCell ⟨tb, 1, none⟩ (.int .u64 X)).setCell ⟨tb, 2, none⟩ (.int .i64 Y)).setCell ⟨tb, 3, none⟩ (.pointer none)).setCell ⟨tb, 4, none⟩ (.bool hg)) := (((((Keeps.refl _ _).setCell (.inl (by simp)) _).setCell (.inl (by simp)) _).setCell (.inl (by simp)) _).setCell (.inl (by simp)) _).setCell (.inl (by simp)) _
            have hsz : (((((wc.setCell ⟨tb, 0, none⟩ (.int .u64 bs)).setCell ⟨tb, 1, none⟩ (.int .u64 X)).setCell ⟨tb, 2, none⟩ (.int .i64 Y)).setCell ⟨tb, 3, none⟩ (.pointer none)).setCell ⟨tb, 4, none⟩ (.bool hg)).heap.size = wc.heap.size := by simp [World.setCell]
            have t7 := t6.keep (Apart4.one htb (by decide)) kk (by simp; omega)
            generalize ((((wc.setCell ⟨tb, 0, none⟩ (.int .u64 bs)).setCell ⟨tb, 1, none⟩ (.int .u64 X)).setCell ⟨tb, 2, none⟩ (.int .i64 Y)).setCell ⟨tb, 3, none⟩ (.pointer none)).setCell ⟨tb, 4, none⟩ (.bool hg) = w8 at *
            have t9 := t7.keep0 ((Keeps.refl [] w8).alloc (.cells #[.int .u64 bs, .int .u64 X, .int .i64 Y, .pointer none, .bool hg] 49))
            have htc := Row.new' w8 49 [.int .u64 bs, .int .u64 X, .int .i64 Y, .pointer none, .bool hg] hsz
            have htb9 := htb2.alloc (.cells #[.int .u64 bs, .int .u64 X, .int .i64 Y, .pointer none, .bool hg] 49)
            clear t6 t7 htb htb2 hgb kk hsz c0 c1 c2 d0 d1 d2 d3 d4 ft
            generalize wc.heap.size = tc at *
            generalize w8.alloc (.cells #[.int .u64 bs, .int .u64 X, .int .i64 Y, .pointer none, .bool hg] 49) = w9 at *
            have e3 := t9.tr.tt.cell (i := 3) rfl
            have f3 := t9.tr.tt.free 3
            go_wp2_with fail
            go_meet
            have ks : Keeps [s + 1 + 1] w9 (w9.setCell ⟨s + 1 + 1, 3, none⟩ (.pointer (some ⟨tc, 0, none⟩))) := (Keeps.refl _ _).setCell (.inl (by simp)) _
            exact ⟨rfl, rfl, some ⟨tc, 0, none⟩, ⟨t9.tr.stored 3 _ rfl, t9.cap.keep t9.tr.apart ks, t9.spl.keep t9.tr.apart ks⟩, fun _ => ⟨tc, X, Y, rfl, htc.other (by simp; omega) _, htb9.other (by simp; omega) _⟩⟩
      case rest =>
        clear t5 htb
        obtain ⟨rfl, rfl, tm, t5, htm⟩ := hcut
        have c0 := t5.tr.tt.cell (i := 0) rfl
        have c1 := t5.tr.tt.cell (i := 1) rfl
        have c2 := t5.tr.tt.cell (i := 2) rfl
        have c3 := t5.tr.tt.cell (i := 3) rfl
        have hq := newSchedule_first (s + 1) s mp sp tm wc t5.tr.rr
        go_upto_region 27 with (go_at_call 6; refine hq.mono ?_; rintro e wS ⟨sb, c, rfl, hsb, hc, h1, h2, h3, hkS⟩)
        have fin := Fin.make t5 htm hkS h1 h2 h3 hc
        clear t5 htm hkS h1 h2 h3 hq c0 c1 c2 c3 hsb hc si hto
        have a0 := fin.sch.cell (i := 0) rfl
        have a1 := fin.sch.cell (i := 1) rfl
        have a2 := fin.sch.cell (i := 2) rfl
        have c0 := fin.core.cell (i := 0) rfl
        have c1 := fin.core.cell (i := 1) rfl
        have c2 := fin.core.cell (i := 2) rfl
        have c3 := fin.core.cell (i := 3) rfl
        have t1 := fin.tt.cell (i := 1) rfl
        have t2 := fin.tt.cell (i := 2) rfl
        have t3 := fin.tt.cell (i := 3) rfl
        have r0 := fin.rr.cell (i := 0) rfl
        have w1' := fin.wr.cell (i := 1) rfl
        have n31 := neq31
        have n32 := neq32
        have n33 := neq33
        have n34 := neq34
        go_upto_region 32 with fail
        go_quiet (fail)
        go_upto_region 36 with fail
        have fin2 := fin.drewN nq
        generalize wS.drewN nq = wT at *
        clear fin a0 a1 a2 c0 c1 c2 c3 t1 t2 t3 r0 w1' n31 n32 n33 n34
        go_cut [33, 186] from 175 to 186 (fun v x wc => v = .pointer (some ⟨c, 0, none⟩) ∧ x = .bool false ∧ Fin w s tag a4 n T A mp sp tm hasCap capV hasSplit den rest hasTiming bs hg tb sb c wc)
        case first =>
          cases hasCap
          · go_quiet (fail)
            go_wp2_with fail
            go_meet
            exact ⟨rfl, rfl, fin2.drewN _⟩
          · obtain ⟨p, rfl, hb⟩ := fin2.cap rfl
            have kd := (Keeps.refl [] wT).drew
            have fin3 := fin2.keep0 kd
            have hbd := (Apart.nil _).big kd hb
            have q0 := fin3.core.cell (i := 1) rfl
            clear fin2 hb kd
            go_region_held3 (fun W => W.cell? ⟨c, 1, none⟩ = some (.pointer (some ⟨p, 0, none⟩))) (first | exact u0 | exact v0 | exact q0) (first | (go_at_call 4; refine (newInt_any capV _).mono ?_; rintro e w2 ⟨q, rfl, hq1, hbq, hk2⟩; have fin4 := fin3.keep0 hk2; have v0 := held0 hk2 q0; have hcmp := cmp_same p q capV w2 ((Apart.nil _).big hk2 hbd) hbq (by have := hbd.lt; omega)) | (go_at_call 7; refine hcmp.mono ?_; rintro e w3 ⟨rfl, hk3⟩; have fin5 := fin4.keep0 hk3; have u0 := held0 hk3 v0))
            all_goals (go_wp2_with fail; go_meet)
            all_goals exact ⟨rfl, rfl, fin5⟩
        case rest =>
          clear fin2
          obtain ⟨rfl, rfl, fin⟩ := hcut
          go_upto_if 187 with fail
          go_cut [34] from 188 to 251 (fun v wc => Fin w s tag a4 n T A mp sp tm hasCap capV hasSplit den rest hasTiming bs hg tb sb c wc)
          case first =>
            cases hasSplit
            · go_wp2_with fail
              go_meet
              exact fin
            · obtain ⟨q, dp, sh, P, rfl, h1, h2, h3, h4⟩ := fin.spl rfl
              go_upto_region 39 with fail
              go_cut [26, 213] from 188 to 213 (fun v x wc => v = .pointer (some ⟨q, 0, none⟩) ∧ x = .bool false ∧ Fin w s tag a4 n T A mp (some ⟨q, 0, none⟩) tm hasCap capV true den rest hasTiming bs hg tb sb c wc)
              case first =>
                have hbd := (Apart.nil _).big ((Keeps.refl [] _).drew) h2
                have fin2 := fin.keep0 ((Keeps.refl [] _).drew)
                have q0 := h1.drew.cell (i := 0) rfl
                have q1 := h1.drew.cell (i := 1) rfl
                have q2 := h1.drew.cell (i := 2) rfl
                clear h1 h2 h3 h4 fin
                go_region_held3 (fun W => W.cell? ⟨q, 0, none⟩ = some (.pointer (some ⟨dp, 0, none⟩)) ∧ W.cell? ⟨q, 1, none⟩ = some (.slice (some ⟨sh, 0, none⟩) n n) ∧ W.cell? ⟨q, 2, none⟩ = some (.int .i64 rest)) (first | exact ⟨u0, u1, u2⟩ | exact ⟨v0, v1, v2⟩ | exact ⟨q0, q1, q2⟩) (first | (go_at_call 4; refine (newInt_any den _).mono ?_; rintro e w2 ⟨p, rfl, hp1, hbp, hk2⟩; have fin3 := fin2.keep0 hk2; have v0 := held0 hk2 q0; have v1 := held0 hk2 q1; have v2 := held0 hk2 q2; have hcmp := cmp_same dp p den w2 ((Apart.nil _).big hk2 hbd) hbp (by have := hbd.lt; omega)) | (go_at_call 7; refine hcmp.mono ?_; rintro e w3 ⟨rfl, hk3⟩; have fin4 := fin3.keep0 hk3; have u0 := held0 hk3 v0; have u1 := held0 hk3 v1; have u2 := held0 hk3 v2))
                all_goals (go_wp2_with fail; go_meet)
                all_goals exact ⟨rfl, rfl, fin4⟩
              case rest =>
                clear fin h1 h2 h3 h4
                obtain ⟨rfl, rfl, fin⟩ := hcut
                go_wp2_with fail
                go_loopw [34] (fun i wr => ∃ k : Nat, k ≤ n ∧ i = .int .i64 k ∧ Fin w s tag a4 n T A mp (some ⟨q, 0, none⟩) tm hasCap capV true den rest hasTiming bs hg tb sb c wr) (fun i _ => n - (intOf i).toNat)
                case atStart => exact ⟨0, by omega, rfl, fin⟩
                case round =>
                  clear fin
                  obtain ⟨k, hk, rfl, fin⟩ := hrel
                  by_cases hlt : k < n
                  · obtain ⟨q', dp, sh, P, hq', h1, h2, h3, h4⟩ := fin.spl rfl
                    cases hq'
                    obtain ⟨b, o, rfl, hb1, hb2, hb3⟩ := fin.sh (by omega)
                    have x0 := (hb3 k hlt).1
                    have x1 := (hb3 k hlt).2
                    have hbk := h4 k hlt
                    have z1 : (k : Int) < n := by omega
                    clear hb3 h4 h2
                    go_upto_region 44 with fail
                    go_cut [34, 251] from 220 to 251 (fun v x wc => v = .int .i64 k ∧ x = .bool false ∧ Fin w s tag (some ⟨b, o, none⟩) n T A mp (some ⟨q, 0, none⟩) tm hasCap capV true den rest hasTiming bs hg tb sb c wc)
                    case first =>
                      have kd := (Keeps.refl [] wr).drew
                      have hbd := (Apart.nil _).big kd hbk
                      have fin2 := fin.keep0 kd
                      have q0 := h1.drew.cell (i := 1) rfl
                      have q1 := h3.drew.cell (rowF_get (i := k * 2) (by omega))
                      have q2 := h3.drew.cell (rowF_get (i := k * 2 + 1) (by omega))
                      rw [shF_0 T P hlt] at q1
                      rw [shF_1 T P hlt] at q2
                      have q3 := held0 kd x0
                      have q4 := held0 kd x1
                      clear h1 h3 hbk fin x0 x1 kd
                      go_region_held3 (fun W => W.cell? ⟨q, 1, none⟩ = some (.slice (some ⟨sh, 0, none⟩) n n) ∧ W.cell? ⟨sh, k * 2, none⟩ = some (.string (T k)) ∧ W.cell? ⟨sh, k * 2 + 1, none⟩ = some (.pointer (some ⟨P k, 0, none⟩)) ∧ W.cell? ⟨b, o + k * 2, none⟩ = some (.string (T k)) ∧ W.cell? ⟨b, o + k * 2 + 1, none⟩ = some (.int .i64 (A k))) (first | exact ⟨u0, u1, u2, u3, u4⟩ | exact ⟨v0, v1, v2, v3, v4⟩ | exact ⟨q0, q1, q2, q3, q4⟩) (first | (go_at_call 4; refine (newInt_any (A k) _).mono ?_; rintro e w2 ⟨p, rfl, hp1, hbp, hk2⟩; have fin3 := fin2.keep0 hk2; have v0 := held0 hk2 q0; have v1 := held0 hk2 q1; have v2 := held0 hk2 q2; have v3 := held0 hk2 q3; have v4 := held0 hk2 q4; have hcmp := cmp_same (P k) p (A k) w2 ((Apart.nil _).big hk2 hbd) hbp (by have := hbd.lt; omega)) | (go_at_call 7; refine hcmp.mono ?_; rintro e w3 ⟨rfl, hk3⟩; have fin4 := fin3.keep0 hk3; have u0 := held0 hk3 v0; have u1 := held0 hk3 v1; have u2 := held0 hk3 v2; have u3 := held0 hk3 v3; have u4 := held0 hk3 v4))
                      all_goals (go_wp2_with fail; go_meet)
                      all_goals exact ⟨rfl, rfl, fin4⟩
                    case rest =>
                      clear fin h1 h3 hbk x0 x1
                      obtain ⟨rfl, rfl, fin⟩ := hcut
                      go_wp2_with fail
                      go_roundw
                      case rel => exact ⟨k + 1, by omega, by go_num, fin⟩
                      case measure => simp [intOf]; omega
                  · obtain rfl : k = n := by omega
                    go_wp2_with fail
                    go_meet
                    exact fin
          case rest =>
            clear fin
            have fin := hcut
            clear hcut
            go_upto_region 46 with fail
            go_cut [33, 263] from 252 to 263 (fun v x wc => v = .pointer (some ⟨c, 0, none⟩) ∧ x = .bool false ∧ Fin w s tag a4 n T A mp sp tm hasCap capV hasSplit den rest hasTiming bs hg tb sb c wc)
            case first =>
              cases hasTiming
              · go_quiet (fail)
                go_wp2_with fail
                go_meet
                exact ⟨rfl, rfl, fin.drewN _⟩
              · obtain ⟨tc, X, Y, rfl, h1, h2⟩ := fin.tim rfl
                have c3 := fin.core.cell (i := 3) rfl
                have x0 := h1.cell (i := 0) rfl
                have x1 := h1.cell (i := 1) rfl
                have x2 := h1.cell (i := 2) rfl
                have x3 := h1.cell (i := 3) rfl
                have x4 := h1.cell (i := 4) rfl
                have y0 := h2.cell (i := 0) rfl
                have y1 := h2.cell (i := 1) rfl
                have y2 := h2.cell (i := 2) rfl
                have y3 := h2.cell (i := 3) rfl
                have y4 := h2.cell (i := 4) rfl
                have n49 := neq49
                go_quiet (fail)
                go_wp2_with fail
                go_meet
                exact ⟨rfl, rfl, fin.drewN _⟩
            case rest =>
              clear fin
              obtain ⟨rfl, rfl, fin⟩ := hcut
              have hld := load_nil c 4 wc (fin.core.cell (i := 4) rfl)
              have b5 := fin.core.cell (i := 5) rfl
              have b6 := fin.core.cell (i := 6) rfl
              have b25 := fin.core.cell (i := 25) rfl
              have b26 := fin.core.cell (i := 26) rfl
              have b27 := fin.core.cell (i := 27) rfl
              go_upto_region 51 with (go_at_call 8; refine hld.mono ?_; rintro e w2 ⟨rfl, rfl⟩)
              have core2 : Row (wc.setCell ⟨c, 7, none⟩ (.int .i32 1)) c 88 (coreCells (.iface 27 (.pointer (some ⟨s + 1, 0, none⟩))) (.pointer mp) (.pointer sp) (.pointer tm) 16384 64 1 (.iface 24 (.pointer (some ⟨s, 0, none⟩))) (.pointer mp)) := by
                have h := fin.core.set 7 (.int .i32 1)
                simpa only [List.set_cons_zero, List.set_cons_succ] using h
              have core3 : Row ((wc.setCell ⟨c, 7, none⟩ (.int .i32 1)).setCell ⟨c, 7, none⟩ (.int .i32 0)) c 88 (coreCells (.iface 27 (.pointer (some ⟨s + 1, 0, none⟩))) (.pointer mp) (.pointer sp) (.pointer tm) 16384 64 0 (.iface 24 (.pointer (some ⟨s, 0, none⟩))) (.pointer mp)) := by
                have h := core2.set 7 (.int .i32 0)
                simpa only [List.set_cons_zero, List.set_cons_succ] using h
              have htl := tryLock_free c 7 wc (fin.core.cell (i := 7) rfl) (fin.core.free 7)
              have hul := unlock_held c 7 _ (core2.cell (i := 7) rfl) (core2.free 7)
              have hne : s + 1 + 1 ≠ c := Row.ne fin.tt fin.core (by decide)
              have tt3 := (fin.tt.other (a := ⟨c, 7, none⟩) hne (.int .i32 1)).other (a := ⟨c, 7, none⟩) hne (.int .i32 0)
              have kp3 := (fin.kp.setCell (p := ⟨c, 7, none⟩) (.inr fin.cge) (.int .i32 1)).setCell (p := ⟨c, 7, none⟩) (.inr fin.cge) (.int .i32 0)
              clear fin core2 hld b5 b6 b25 b26 b27
              go_upto_region 54 with (first | (go_at_call 9; refine htl.mono ?_; rintro e w2 ⟨rfl, rfl⟩) | (go_at_call 10; refine hul.mono ?_; rintro e w2 ⟨rfl, rfl⟩))
              clear htl hul
              generalize (wc.setCell ⟨c, 7, none⟩ (.int .i32 1)).setCell ⟨c, 7, none⟩ (.int .i32 0) = wF at *
              have c9 := core3.cell (i := 9) rfl
              have c10 := core3.cell (i := 10) rfl
              have t1 := tt3.cell (i := 1) rfl
              have n71 := neq71
              have n32 := neq32
              go_upto_region 55 with fail
              go_quiet (fail)
              have core4 := core3.drewN nq
              have kp4 := kp3.drewN nq
              generalize wF.drewN nq = wG at *
              clear core3 kp3 tt3 c9 c10 t1 n71 n32
              have k11 := core4.cell (i := 11) rfl
              have k12 := core4.cell (i := 12) rfl
              have k19 := core4.cell (i := 19) rfl
              have k20 := core4.cell (i := 20) rfl
              have k21 := core4.cell (i := 21) rfl
              have k22 := core4.cell (i := 22) rfl
              have k23 := core4.cell (i := 23) rfl
              have k24 := core4.cell (i := 24) rfl
              have k14 := core4.cell (i := 14) rfl
              have k16 := core4.cell (i := 16) rfl
              have k18 := core4.cell (i := 18) rfl
              go_upto_region 57 with fail
              go_upto_region 59 with fail
              go_wp2_with (go_at_call 11; refine (sign_zero c _ wG (by first | exact k14 | exact k16 | exact k18)).mono ?_; rintro e w2 ⟨rfl, rfl⟩)
              go_ret
              exact ⟨rfl, kp4.below (by simp) (by omega)⟩
end Go.Proofs.Ybulkeafg.GW
