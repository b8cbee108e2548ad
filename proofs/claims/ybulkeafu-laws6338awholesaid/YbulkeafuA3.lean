import Derived.Test.YbulkeafuA2
import Derived.Deep.LoopGhost
namespace Go.Proofs.Ybulkeafu.TW
open Go.RowKit Go.Proofs.Ybulkeafu.Kit Go.Proofs.Ybulkeafu.BW

theorem St.alloc {w : World} {mb tb lb rb cb n1 : Nat} {root : Int} {x4 x5 x6 x7 x8 : Value} {Hd S Lf Rf : Nat → Int} {ctr : Nat} (st : St w mb tb lb rb cb n1 root x4 x5 x6 x7 x8 Hd S Lf Rf ctr) (ob : Obj) : St (w.alloc ob) mb tb lb rb cb n1 root x4 x5 x6 x7 x8 Hd S Lf Rf ctr := ⟨st.t.alloc _, st.m.alloc _, st.l.alloc _, st.r.alloc _, st.c.alloc _⟩
/-- What 'reach(need)' answers over the items 1 .. n. -/
def Ans (H : Nat → Int) (n : Nat) (need g : Int) (ok : Bool) : Prop :=
  (need ≤ 0 ∧ g = 0 ∧ ok = false) ∨ (0 < need ∧ ok = true ∧ ∃ j, j < n ∧ g = rsum H 1 (j + 1) ∧ need ≤ g ∧ rsum H 1 j < need) ∨ (0 < need ∧ ok = false ∧ g = rsum H 1 n ∧ g < need)

def Reached (Hd : Nat → Int) (n : Nat) (need : Int) (w : World) (e : Ending) (w' : World) : Prop :=
  ∃ g ok, Hid (Ans Hd n need g ok) ∧ e = .returned (.tuple #[.agg #[.float .f64 0, .float .f64 0], .int .i64 g, .bool ok]) ∧ Keeps [] w w'

/-- Where the descent stands: under the items lo + 1 .. lo + len. -/
def At (H : Nat → Int) (n : Nat) (need : Int) (lo len : Nat) : Prop :=
  (need ≤ 0 ∧ lo = 0) ∨ (0 < need ∧ rsum H 1 lo < need ∧ (lo + len = n ∨ need ≤ rsum H 1 (lo + len)))

theorem Tr_zero {H S Lf Rf : Nat → Int} {f lo len : Nat} (h : Tr H S Lf Rf f (lo + 1) len 0) : len = 0 := by
  cases f with
  | zero => exact h.1
  | succ f => rcases h with h | h
              · exact h.1
              · omega
theorem Tr_lt {H S Lf Rf : Nat → Int} {f l len r n : Nat} (h : Tr H S Lf Rf f l len r) (hn : l + len ≤ n + 1) : r < n + 1 := by
  cases f with
  | zero => have := h.2; omega
  | succ f => rcases h with h | h <;> omega
theorem Ans_end {H : Nat → Int} {n lo : Nat} {need held : Int} (hh : held = rsum H 1 lo) (h : At H n need lo 0) : Ans H n need held false := by
  rcases h with ⟨h1, h2⟩ | ⟨h1, h2, h3⟩
  · subst h2; exact .inl ⟨h1, hh, rfl⟩
  · have : lo = n := by
      rcases h3 with h3 | h3
      · omega
      · simp at h3; omega
    subst this
    exact .inr (.inr ⟨h1, rfl, hh, by omega⟩)
theorem Ans_hit {H : Nat → Int} {n r : Nat} {need x y : Int} (h1 : 1 ≤ r) (hn : r ≤ n) (hx : x = rsum H 1 (r - 1)) (hy : y = rsum H 1 r) (t1 : ¬ need ≤ x) (t2 : need ≤ y) (n0 : 0 ≤ x) : Ans H n need y true :=
  .inr (.inl ⟨by omega, rfl, r - 1, by omega, by rw [show r - 1 + 1 = r by omega]; exact hy, t2, by omega⟩)
/-- What is known at a node. -/
theorem node {H S Lf Rf : Nat → Int} {f n lo len r : Nat} {held : Int} (hS0 : S 0 = 0) (h : Tr H S Lf Rf f (lo + 1) len r) (hr : r ≠ 0) (hn : lo + len ≤ n) (hh : held = rsum H 1 lo) :
    ∃ a b f2 : Nat, lo + 1 ≤ r ∧ r ≤ lo + len ∧ Lf r = a ∧ Rf r = b ∧ a < n + 1 ∧ b < n + 1 ∧ Tr H S Lf Rf f2 (lo + 1) (r - 1 - lo) a ∧ Tr H S Lf Rf f2 (r + 1) (lo + len - r) b ∧ held + S a = rsum H 1 (r - 1) ∧ held + S a + H r = rsum H 1 r := by
  cases f with
  | zero => exact absurd h.2 hr
  | succ f =>
    rcases h with h | ⟨h1, h2, h3, a, b, h4, h5, h6, h7⟩
    · exact absurd h.2 hr
    · rw [show r - (lo + 1) = r - 1 - lo by omega] at h6
      rw [show lo + 1 + len - (r + 1) = lo + len - r by omega] at h7
      have e1 := Tr_sum hS0 h6
      have e2 := rsum_add H 1 lo (r - 1 - lo)
      rw [show lo + (r - 1 - lo) = r - 1 by omega, show 1 + lo = lo + 1 by omega] at e2
      have e3 : rsum H 1 r = rsum H 1 (r - 1) + H r := by
        obtain ⟨q, rfl⟩ : ∃ q, r = q + 1 := ⟨r - 1, by omega⟩
        simp only [rsum, Nat.add_sub_cancel]
        rw [show 1 + q = q + 1 by omega]
      exact ⟨a, b, f, h1, by omega, h4, h5, Tr_lt h6 (by omega), Tr_lt h7 (by omega), h6, h7, by omega, by omega⟩
theorem At_left {H : Nat → Int} {n lo len r : Nat} {need : Int} (h : At H n need lo len) (h1 : lo + 1 ≤ r) (h2 : need ≤ rsum H 1 (r - 1)) : At H n need lo (r - 1 - lo) := by
  rcases h with h | ⟨a, b, _⟩
  · exact .inl h
  · exact .inr ⟨a, b, .inr (by rw [show lo + (r - 1 - lo) = r - 1 by omega]; exact h2)⟩
theorem At_right {H : Nat → Int} {n lo len r : Nat} {need : Int} (h : At H n need lo len) (h2 : rsum H 1 r < need) (h0 : 0 ≤ rsum H 1 r) (hr : r ≤ lo + len) : At H n need r (lo + len - r) := by
  refine .inr ⟨by omega, h2, ?_⟩
  rw [show r + (lo + len - r) = lo + len by omega]
  rcases h with h | ⟨_, _, h⟩
  · omega
  · exact h

theorem results6 {W : World} {A : Nat} {x y : Value} (hrow : Row W A 38 [x, y]) (tmps : Array Value) (h4 : tmps.getD 4 undef = .pointer (some ⟨A, 0, none⟩)) :
    (results Yba.f6 tmps).run Yba.prog W = .ok (.tuple #[.agg #[x, y], tmps.getD 5 undef, tmps.getD 6 undef]) W := by
  have hv := run_loadVar_row (P := Yba.prog) W A 38 38 #[x, y] (0, 0) _ hrow Yba.underlying38 rfl (by kernel_rfl)
  simp at h4
  simp [results, h4, asAddr, hv]

set_option maxRecDepth 100000 in
set_option maxHeartbeats 1000000 in
theorem reach_any (mb tb lb rb cb n : Nat) (root : Nat) (x4 x5 x6 x7 x8 : Value) (Hd S Lf Rf : Nat → Int) (ctr : Nat) (need : Int) (w : World) (hn1 : n ≤ 4096) (hH : Hid (∀ i, 0 ≤ Hd i ∧ Hd i ≤ 65535)) (hS0 : S 0 = 0)
    (f : Nat) (ht : Tr Hd S Lf Rf f 1 n root) (st : St w mb tb lb rb cb (n + 1) root x4 x5 x6 x7 x8 Hd S Lf Rf ctr)  :
    Calls Yba.prog 6 #[.pointer (some ⟨tb, 0, none⟩), .int .i64 need] w fun e w' => Reached Hd n need w e w' := by
  have HAt : Hid (At Hd n need 0 n) := by
    by_cases h : need ≤ 0
    · exact .inl ⟨h, rfl⟩
    · exact .inr ⟨by omega, by simp [rsum]; omega, .inl (by omega)⟩
  have c1 := fun ob => (st.t.alloc ob).cell (i := 1) rfl
  go_enter Yba.func6, Yba.ntmps6
  go_wp2_with fail
  have st1 := st.alloc (.cells #[.float .f64 0, .float .f64 0] 38)
  have ha := Row.new w 38 [.float .f64 0, .float .f64 0]
  have k1 := (Keeps.refl [] w).alloc (.cells #[.float .f64 0, .float .f64 0] 38)
  have hmb := st.m.lt
  have htb := st.t.lt
  have hlb := st.l.lt
  have hrb := st.r.lt
  clear c1
  have hbase : Hid _ := st
  clear st
  generalize hA : w.heap.size = A at *
  generalize w.alloc (.cells #[.float .f64 0, .float .f64 0] 38) = w1 at *
  go_loopg [5, 7] n (fun gk h k wr => ∃ (lo r f' : Nat) (held : Int), h = .int .i64 held ∧ k = .int .i64 r ∧ St wr mb tb lb rb cb (n + 1) root x4 x5 x6 x7 x8 Hd S Lf Rf ctr ∧ Row wr A 38 [.float .f64 0, .float .f64 0] ∧ Keeps [] w wr ∧ Hid (held = rsum Hd 1 lo) ∧ lo + gk ≤ n ∧ Hid (Tr Hd S Lf Rf f' (lo + 1) gk r) ∧ Hid (At Hd n need lo gk))
  case atStart => exact ⟨0, root, f, 0, rfl, rfl, st1, ha, k1, rfl, by omega, ht, HAt.out⟩
  case round =>
    clear ha k1 st1 hbase ht HAt
    obtain ⟨lo, r, f', held, rfl, rfl, st1, ha, k1, HH, hlo, HT, HAT⟩ := hrel
    by_cases hr : r = 0
    · subst hr
      have := Tr_zero HT.out
      subst this
      have HE : Hid (Ans Hd n need held false) := Ans_end HH.out HAT.out
      have a0 := ha.cell (i := 0) rfl
      have a1 := ha.cell (i := 1) rfl
      have f0 := ha.free 0
      have f1 := ha.free 1
      clear HH HT HAT
      have sf : ∀ (W : World) (b : Addr) (m : Mode), (store b (.float .f64 0) m).run Yba.prog W = stored Yba.prog W b (.float .f64 0) m := fun W b m => run_store Yba.prog W b _ m rfl
      go_wp2_with fail
      refine bodyPost_ret (results6 (x := .float .f64 0) (y := .float .f64 0) ((ha.set 0 _).set 1 _) _ rfl) rfl ?_
      exact ⟨held, false, HE, rfl, (k1.setCell (.inr (by simp; omega)) _).setCell (.inr (by simp; omega)) _⟩
    · obtain ⟨a, b, f2, hr1, hr2, ea, eb, ha1, hb1, ta, tb', hbl, hbr⟩ := node hS0 HT.out hr hlo HH.out
      have TA : Hid (Tr Hd S Lf Rf f2 (lo + 1) (r - 1 - lo) a) := ta
      have TB : Hid (Tr Hd S Lf Rf f2 (r + 1) (lo + gk - r) b) := tb'
      have HBL : Hid (held + S a = rsum Hd 1 (r - 1)) := hbl
      have HBR : Hid (held + S a + Hd r = rsum Hd 1 r) := hbr
      have n0 := rsum_nonneg (fun i => (hH.out i).1) 1 (r - 1)
      have n1 := rsum_le (fun i => (hH.out i).2) 1 (r - 1)
      have n2 := rsum_nonneg (fun i => (hH.out i).1) 1 r
      have n3 := rsum_le (fun i => (hH.out i).2) 1 r
      rw [← hbl] at n0 n1
      rw [← hbr] at n2 n3
      clear ta tb' hbl hbr
      have n1' : held + S a ≤ 65535 * 4096 := by omega
      have n3' : held + S a + Hd r ≤ 65535 * 4096 := by omega
      have c0 := st1.t.cell (i := 0) rfl
      have c2 := st1.t.cell (i := 2) rfl
      have c3 := st1.t.cell (i := 3) rfl
      have l0 := st1.l.cell (rowF_get (i := r) (by omega))
      have r0 := st1.r.cell (rowF_get (i := r) (by omega))
      rw [ea] at l0
      rw [eb] at r0
      have m0 := st1.m.cell (rowF_get (i := r * 4) (by omega))
      have m1 := st1.m.cell (rowF_get (i := r * 4 + 1) (by omega))
      have m2 := st1.m.cell (rowF_get (i := r * 4 + 2) (by omega))
      have m3 := st1.m.cell (rowF_get (i := a * 4 + 3) (by omega))
      rw [momF_0] at m0
      rw [momF_1] at m1
      rw [momF_2] at m2
      rw [momF_3] at m3
      have b1 : (r : Int) < n + 1 := by omega
      have b2 : (a : Int) < n + 1 := by omega
      have hr' : ((r : Int) == 0) = false := by simpa using hr
      clear ea eb n1 n3
      go_upto_region 4 with fail
      go_quiet (fail)
      by_cases t1 : need ≤ held + S a
      · go_wp2_with fail
        go_roundg (r - 1 - lo)
        case measure => omega
        case rel => exact ⟨lo, a, f2, held, rfl, rfl, st1.drewN _, ha.drewN _, k1.drewN _, HH, by omega, TA, At_left HAT.out hr1 (by rw [← HBL.out]; exact t1)⟩
      · by_cases t2 : need ≤ held + S a + Hd r
        · have sf : ∀ (W : World) (b : Addr) (m : Mode), (store b (.float .f64 0) m).run Yba.prog W = stored Yba.prog W b (.float .f64 0) m := fun W b m => run_store Yba.prog W b _ m rfl
          have a0 := ha.cell (i := 0) rfl
          have a1 := ha.cell (i := 1) rfl
          have f0 := ha.free 0
          have f1 := ha.free 1
          go_upto_region 9 with fail
          go_region
          go_wp2_with fail
          refine bodyPost_ret (results6 (x := .float .f64 0) (y := .float .f64 0) (((ha.drewN _).set 0 _).set 1 _) _ rfl) rfl ?_
          exact ⟨held + S a + Hd r, true, Ans_hit (by omega) (by omega) HBL.out HBR.out (by omega) t2 n0, rfl, ((k1.drewN _).setCell (.inr (by simp; omega)) _).setCell (.inr (by simp; omega)) _⟩
        · go_upto_region 5 with fail
          go_quiet (fail)
          go_wp2_with fail
          go_roundg (lo + gk - r)
          case measure => omega
          case rel => exact ⟨r, b, f2, held + S a + Hd r, rfl, rfl, st1.drewN _, ha.drewN _, k1.drewN _, HBR.out, by omega, TB, At_right HAT.out (by rw [← HBR.out]; omega) (by rw [← HBR.out]; omega) hr2⟩
end Go.Proofs.Ybulkeafu.TW
