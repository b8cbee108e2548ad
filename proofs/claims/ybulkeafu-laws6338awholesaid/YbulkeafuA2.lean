import Derived.Test.YbulkeafuA1
import Derived.Deep.DeepCutAuto
namespace Go.Proofs.Ybulkeafu.TW
open Go.RowKit Go.Proofs.Ybulkeafu.Kit Go.Proofs.Ybulkeafu.BW

theorem ShapeAt.keep {w w' : World} {a : Option Addr} {n mb tb lb rb cb : Nat} {Z : Nat → Int} (h : ShapeAt w a n mb Z) (o : mb < tb ∧ mb < lb ∧ mb < rb ∧ mb < cb ∧ tb ≠ lb ∧ tb ≠ rb ∧ tb ≠ cb ∧ lb ≠ rb ∧ lb ≠ cb ∧ rb ≠ cb) (k : Keeps [mb, lb, rb, cb] w w') : ShapeAt w' a n mb Z := by
  intro hn
  obtain ⟨b, off, e, h1, h2, h3⟩ := h hn
  refine ⟨b, off, e, h1, Nat.lt_of_lt_of_le h2 k.size, fun i hi => ?_⟩
  have := h3 i hi
  refine ⟨(k.cell (p := ⟨b, off + i, none⟩) h2 (by simp; omega)).trans this.1, this.2⟩

theorem pick_in (l len : Nat) (pk : Int) (hlen : len ≠ 0) (hb : l + len ≤ 4097) : ∃ r : Nat, wrap64 (↑l + pk % (↑l + ↑len - 1 - ↑l + 1)) = r ∧ l ≤ r ∧ r < l + len := by
  have h1 : (l : Int) + ↑len - 1 - ↑l + 1 = len := by omega
  rw [h1]
  have h2 := Int.emod_nonneg pk (b := (len : Int)) (by omega)
  have h3 := Int.emod_lt_of_pos pk (b := (len : Int)) (by omega)
  refine ⟨l + (pk % (len : Int)).toNat, ?_, by omega, by omega⟩
  rw [show wrap64 (↑l + pk % (len : Int)) = ↑l + pk % (len : Int) by unfold wrap64; omega]
  omega
theorem St.bump {w : World} {mb tb lb rb cb n1 : Nat} {root : Int} {x4 x5 x6 x7 x8 : Value} {Hd S Lf Rf : Nat → Int} {ctr : Nat} (o : mb < tb ∧ mb < lb ∧ mb < rb ∧ mb < cb ∧ tb ≠ lb ∧ tb ≠ rb ∧ tb ≠ cb ∧ lb ≠ rb ∧ lb ≠ cb ∧ rb ≠ cb) (st : St w mb tb lb rb cb n1 root x4 x5 x6 x7 x8 Hd S Lf Rf ctr) (v : Int) (hv : v = ((ctr + 1 : Nat) : Int)) :
    St (w.setCell ⟨cb, 0, none⟩ (.int .i64 v)) mb tb lb rb cb n1 root x4 x5 x6 x7 x8 Hd S Lf Rf (ctr + 1) := by
  subst hv
  exact ⟨st.t.other (by simp; omega) _, st.m.other (by simp; omega) _, st.l.other (by simp; omega) _, st.r.other (by simp; omega) _, st.c.set 0 _⟩

theorem St.setL {w : World} {mb tb lb rb cb n1 : Nat} {root : Int} {x4 x5 x6 x7 x8 : Value} {Hd S Lf Rf : Nat → Int} {ctr : Nat} (o : mb < tb ∧ mb < lb ∧ mb < rb ∧ mb < cb ∧ tb ≠ lb ∧ tb ≠ rb ∧ tb ≠ cb ∧ lb ≠ rb ∧ lb ≠ cb ∧ rb ≠ cb) (st : St w mb tb lb rb cb n1 root x4 x5 x6 x7 x8 Hd S Lf Rf ctr) (k : Nat) (v : Int) :
    St (w.setCell ⟨lb, k, none⟩ (.int .i64 v)) mb tb lb rb cb n1 root x4 x5 x6 x7 x8 Hd S (upd Lf k v) Rf ctr :=
  ⟨st.t.other (by simp; omega) _, st.m.other (by simp; omega) _, by rw [← set_int]; exact st.l.set _ _, st.r.other (by simp; omega) _, st.c.other (by simp; omega) _⟩
theorem St.setR {w : World} {mb tb lb rb cb n1 : Nat} {root : Int} {x4 x5 x6 x7 x8 : Value} {Hd S Lf Rf : Nat → Int} {ctr : Nat} (o : mb < tb ∧ mb < lb ∧ mb < rb ∧ mb < cb ∧ tb ≠ lb ∧ tb ≠ rb ∧ tb ≠ cb ∧ lb ≠ rb ∧ lb ≠ cb ∧ rb ≠ cb) (st : St w mb tb lb rb cb n1 root x4 x5 x6 x7 x8 Hd S Lf Rf ctr) (k : Nat) (v : Int) :
    St (w.setCell ⟨rb, k, none⟩ (.int .i64 v)) mb tb lb rb cb n1 root x4 x5 x6 x7 x8 Hd S Lf (upd Rf k v) ctr :=
  ⟨st.t.other (by simp; omega) _, st.m.other (by simp; omega) _, st.l.other (by simp; omega) _, by rw [← set_int]; exact st.r.set _ _, st.c.other (by simp; omega) _⟩
theorem St.setS {w : World} {mb tb lb rb cb n1 : Nat} {root : Int} {x4 x5 x6 x7 x8 : Value} {Hd S Lf Rf : Nat → Int} {ctr : Nat} (o : mb < tb ∧ mb < lb ∧ mb < rb ∧ mb < cb ∧ tb ≠ lb ∧ tb ≠ rb ∧ tb ≠ cb ∧ lb ≠ rb ∧ lb ≠ cb ∧ rb ≠ cb) (st : St w mb tb lb rb cb n1 root x4 x5 x6 x7 x8 Hd S Lf Rf ctr) (k : Nat) (v : Int) :
    St (w.setCell ⟨mb, k * 4 + 3, none⟩ (.int .i64 v)) mb tb lb rb cb n1 root x4 x5 x6 x7 x8 Hd (upd S k v) Lf Rf ctr :=
  ⟨st.t.other (by simp; omega) _, by rw [← set_sum]; exact st.m.set _ _, st.l.other (by simp; omega) _, st.r.other (by simp; omega) _, st.c.other (by simp; omega) _⟩
theorem St.drewN {w : World} {mb tb lb rb cb n1 : Nat} {root : Int} {x4 x5 x6 x7 x8 : Value} {Hd S Lf Rf : Nat → Int} {ctr : Nat} (st : St w mb tb lb rb cb n1 root x4 x5 x6 x7 x8 Hd S Lf Rf ctr) (n : Nat) : St (w.drewN n) mb tb lb rb cb n1 root x4 x5 x6 x7 x8 Hd S Lf Rf ctr := ⟨st.t, st.m, st.l, st.r, st.c⟩
theorem St.drew {w : World} {mb tb lb rb cb n1 : Nat} {root : Int} {x4 x5 x6 x7 x8 : Value} {Hd S Lf Rf : Nat → Int} {ctr : Nat} (st : St w mb tb lb rb cb n1 root x4 x5 x6 x7 x8 Hd S Lf Rf ctr) : St w.drew mb tb lb rb cb n1 root x4 x5 x6 x7 x8 Hd S Lf Rf ctr := ⟨st.t, st.m, st.l, st.r, st.c⟩
/-- The sum that a root bears is its items'. -/
theorem Tr_sum {H S Lf Rf : Nat → Int} (h0 : S 0 = 0) : ∀ {f l len r : Nat}, Tr H S Lf Rf f l len r → S r = rsum H l len
  | 0, _, _, _, ⟨h1, h2⟩ => by subst h1 h2; exact h0
  | _ + 1, _, _, _, .inl ⟨h1, h2⟩ => by subst h1 h2; exact h0
  | _ + 1, _, _, _, .inr ⟨_, _, h, _⟩ => h

/-- What a build of 'len' items from l on leaves. -/
def Built (w w' : World) (e : Ending) (mb tb lb rb cb n1 : Nat) (root : Int) (x4 x5 x6 x7 x8 : Value) (Hd S Lf Rf : Nat → Int) (ctr : Nat) (f l len : Nat) : Prop :=
  ∃ (r : Nat) (S' Lf' Rf' : Nat → Int), e = .returned (.int .i64 r) ∧ r < n1 ∧ St w' mb tb lb rb cb n1 root x4 x5 x6 x7 x8 Hd S' Lf' Rf' (ctr + len) ∧
    (∀ i, ¬ (l ≤ i ∧ i < l + len) → S' i = S i ∧ Lf' i = Lf i ∧ Rf' i = Rf i) ∧ Tr Hd S' Lf' Rf' f l len r ∧ Keeps [mb, lb, rb, cb] w w'

theorem upd_same (F : Nat → Int) (k : Nat) (v : Int) : upd F k v k = v := by simp [upd]
theorem upd_other (F : Nat → Int) {k i : Nat} (v : Int) (h : i ≠ k) : upd F k v i = F i := by simp [upd, h]
theorem built_node {w w' : World} {mb tb lb rb cb n1 : Nat} {root : Int} {x4 x5 x6 x7 x8 : Value} {Hd S Lf Rf S2 Lf2 Rf2 S3 Lf3 Rf3 : Nat → Int} {ctr f l len r ra rc : Nat} (hr1 : l ≤ r) (hr2 : r < l + len)
    (he2 : ∀ (i : Nat), ¬(l ≤ i ∧ i < l + (r - l)) → S2 i = S i ∧ Lf2 i = Lf i ∧ Rf2 i = Rf i) (he3 : ∀ (i : Nat), ¬(r + 1 ≤ i ∧ i < r + 1 + (l + len - (r + 1))) → S3 i = S2 i ∧ Lf3 i = Lf2 i ∧ Rf3 i = Rf2 i)
    (hsa : S3 ra = rsum Hd l (r - l)) (hsc : S3 rc = rsum Hd (r + 1) (l + len - (r + 1))) (ht2 : Tr Hd S3 Lf3 Rf3 f l (r - l) ra) (ht3 : Tr Hd S3 Lf3 Rf3 f (r + 1) (l + len - (r + 1)) rc)
    (hrn : r < n1) (st : St w' mb tb lb rb cb n1 root x4 x5 x6 x7 x8 Hd (upd S3 r (Hd r + S3 ra + S3 rc)) (upd Lf3 r ra) (upd Rf3 r rc) (ctr + 1 + (r - l) + (l + len - (r + 1)))) (hk : Keeps [mb, lb, rb, cb] w w') :
    Built w w' (.returned (.int .i64 r)) mb tb lb rb cb n1 root x4 x5 x6 x7 x8 Hd S Lf Rf ctr (f + 1) l len := by
  refine ⟨r, _, _, _, rfl, hrn, by rw [show ctr + len = ctr + 1 + (r - l) + (l + len - (r + 1)) by omega]; exact st, ?_, ?_, hk⟩
  · intro i hi
    have ne : i ≠ r := by omega
    rw [upd_other _ _ ne, upd_other _ _ ne, upd_other _ _ ne]
    have a := he3 i (by omega)
    have b := he2 i (by omega)
    exact ⟨a.1.trans b.1, a.2.1.trans b.2.1, a.2.2.trans b.2.2⟩
  · refine .inr ⟨hr1, hr2, ?_, ra, rc, upd_same _ _ _, upd_same _ _ _, Tr_congr f _ _ _ ?_ ht2, Tr_congr f _ _ _ ?_ ht3⟩
    · rw [upd_same, hsa, hsc]
      have e1 := rsum_add Hd l (r - l) (1 + (l + len - (r + 1)))
      have e2 := rsum_add Hd r 1 (l + len - (r + 1))
      rw [show r - l + (1 + (l + len - (r + 1))) = len by omega, show l + (r - l) = r by omega] at e1
      have e3 : rsum Hd r 1 = Hd r := by simp [rsum]
      omega
    · intro i a b
      have ne : i ≠ r := by omega
      exact ⟨upd_other _ _ ne, upd_other _ _ ne, upd_other _ _ ne⟩
    · intro i a b
      have ne : i ≠ r := by omega
      exact ⟨upd_other _ _ ne, upd_other _ _ ne, upd_other _ _ ne⟩

set_option maxRecDepth 100000 in
set_option maxHeartbeats 1000000 in
theorem build_any (mb tb lb rb cb n1 : Nat) (root : Int) (x4 x5 x6 x7 x8 : Value) (Hd : Nat → Int) (a : Option Addr) (ls cs : Nat) (Z : Nat → Int) (o : mb < tb ∧ mb < lb ∧ mb < rb ∧ mb < cb ∧ tb ≠ lb ∧ tb ≠ rb ∧ tb ≠ cb ∧ lb ≠ rb ∧ lb ≠ cb ∧ rb ≠ cb) (hn1 : n1 ≤ 4097) (hH : Hid (∀ i, 0 ≤ Hd i ∧ Hd i ≤ 65535)) (hls : ls ≤ 9223372036854775807) :
    ∀ (f l len : Nat) (lo hi : Int) (S Lf Rf : Nat → Int) (ctr : Nat) (w : World), len ≤ f → 1 ≤ l → l + len ≤ n1 → lo = l → hi = l + len - 1 → ctr + len ≤ 4096 → S 0 = 0 → ShapeAt w a ls mb Z → St w mb tb lb rb cb n1 root x4 x5 x6 x7 x8 Hd S Lf Rf ctr →
    Calls Yba.prog 5 #[.pointer (some ⟨tb, 0, none⟩), .slice a ls cs, .int .i64 lo, .int .i64 hi, .pointer (some ⟨cb, 0, none⟩)] w fun e w' => Built w w' e mb tb lb rb cb n1 root x4 x5 x6 x7 x8 Hd S Lf Rf ctr f l len := by
  intro f
  induction f with
  | zero =>
    intro l len lo hi S Lf Rf ctr w hf h1 hl hlo hhi hc1 hS0 hsh st
    obtain rfl : len = 0 := by omega
    subst hlo hhi
    have h2 : ((l : Int) + (0 : Nat) - 1) < l := by omega
    go_enter Yba.func5, Yba.ntmps5
    go_wp2_with fail
    go_ret
    exact ⟨0, S, Lf, Rf, rfl, by omega, by simpa using st, fun _ _ => ⟨rfl, rfl, rfl⟩, ⟨rfl, rfl⟩, Keeps.refl _ _⟩
  | succ f ih =>
    intro l len lo hi S Lf Rf ctr w hf h1 hl hlo hhi hc1 hS0 hsh st
    by_cases hlen : len = 0
    · subst hlen
      subst hlo hhi
      have h2 : ((l : Int) + (0 : Nat) - 1) < l := by omega
      go_enter Yba.func5, Yba.ntmps5
      go_wp2_with fail
      go_ret
      exact ⟨0, S, Lf, Rf, rfl, by omega, by simpa using st, fun _ _ => ⟨rfl, rfl, rfl⟩, .inl ⟨rfl, rfl⟩, Keeps.refl _ _⟩
    · subst hlo hhi
      have HIH : Hid _ := ih
      clear ih
      have hc := st.c.cell (i := 0) rfl
      have fc := st.c.free 0
      go_enter Yba.func5, Yba.ntmps5
      go_upto_if 20 with fail
      go_cut [11] (fun v w' => ∃ pk : Int, v = .int .i64 pk ∧ 0 ≤ pk ∧ pk ≤ 255 ∧ w = w')
      case first =>
        by_cases hl0 : ls = 0
        · subst hl0
          go_wp2
          go_meet
          exact ⟨0, rfl, by omega, by omega, rfl⟩
        · obtain ⟨b, off, rfl, hb1, hb2, hb3⟩ := hsh (by omega)
          have hlt : ctr % ls < ls := Nat.mod_lt _ (by omega)
          have hz := hb3 (ctr % ls) hlt
          have hz1 := hz.1
          have hz2 := hz.2
          have hil : (ctr : Int) % (ls : Int) < (ls : Int) := by omega
          generalize Z (ctr % ls) = z at *
          clear hz hb3
          go_wp2
          go_meet
          exact ⟨z, rfl, hz2.1, hz2.2, rfl⟩
      case rest =>
        obtain ⟨pk, rfl, hp0, hp1, rfl⟩ := hcut
        go_upto_region 8 with fail
        obtain ⟨r, hr, hr1, hr2⟩ := pick_in l len pk hlen (by omega)
        rw [hr]
        have st1 := st.bump o (↑ctr + 1) (by omega)
        have k1 : Keeps [mb, lb, rb, cb] w (w.setCell ⟨cb, 0, none⟩ (.int .i64 (↑ctr + 1))) := (Keeps.refl _ _).setCell (.inl (by simp)) _
        have sh1 := hsh.keep o k1
        generalize w.setCell ⟨cb, 0, none⟩ (.int .i64 (↑ctr + 1)) = w1 at *
        have hq1 := HIH.out l (r - l) l (↑r - 1) S Lf Rf (ctr + 1) w1 (by omega) h1 (by omega) rfl (by omega) (by omega) hS0 sh1 st1
        clear hr hp0 hp1 hc fc st hsh
        go_upto_region 9 with (go_at_call 5; refine hq1.mono ?_; rintro e w2 ⟨ra, S2, Lf2, Rf2, rfl, hra, st2, he2, ht2, hk2⟩)
        have sh2 := sh1.keep o hk2
        have k2 := k1.trans hk2
        have hS2 : S2 0 = 0 := (he2 0 (by omega)).1.trans hS0
        have hq2 := HIH.out (r + 1) (l + len - (r + 1)) (↑r + 1) (↑l + ↑len - 1) S2 Lf2 Rf2 (ctr + 1 + (r - l)) w2 (by omega) (by omega) (by omega) (by omega) (by omega) (by omega) hS2 sh2 st2
        clear hq1 sh1 k1 hk2 st1 sh2
        go_upto_region 10 with (go_at_call 5; refine hq2.mono ?_; rintro e w3 ⟨rc, S3, Lf3, Rf3, rfl, hrc, st3, he3, ht3, hk3⟩)
        have k3 := k2.trans hk3
        have hS3 : S3 0 = 0 := (he3 0 (by omega)).1.trans hS2
        have ht2' : Tr Hd S3 Lf3 Rf3 f l (r - l) ra := Tr_congr f l (r - l) ra (fun i a b => he3 i (by omega)) ht2
        have hsa := Tr_sum hS3 ht2'
        have hsc := Tr_sum hS3 ht3
        have n1a := rsum_nonneg (fun i => (hH.out i).1) l (r - l)
        have n2a := rsum_nonneg (fun i => (hH.out i).1) (r + 1) (l + len - (r + 1))
        have m1a := rsum_le (fun i => (hH.out i).2) l (r - l)
        have m2a := rsum_le (fun i => (hH.out i).2) (r + 1) (l + len - (r + 1))
        rw [← hsa] at n1a m1a
        rw [← hsc] at n2a m2a
        have n3a := hH.out r
        have HSA : Hid _ := hsa
        have HSC : Hid _ := hsc
        have HE2 : Hid _ := he2
        have HE3 : Hid _ := he3
        have c0 := st3.t.cell (i := 0) rfl
        have c2 := st3.t.cell (i := 2) rfl
        have c3 := st3.t.cell (i := 3) rfl
        have fl := st3.l.free r
        have fr := st3.r.free r
        have l0 := st3.l.cell (rowF_get (i := r) (by omega))
        have r0 := st3.r.cell (rowF_get (i := r) (by omega))
        have b1 : (r : Int) < n1 := by omega
        have b2 : (ra : Int) < n1 := by omega
        have b3 : (rc : Int) < n1 := by omega
        have nlt : lb ≠ tb := by omega
        have nlr : lb ≠ rb := by omega
        clear hsa hsc he2 he3 hq2 HIH k2 hk3 st2 ht2 hS2 hS0 hS3
        go_upto_region 12 with fail
        have st4 := (st3.setL o r ra).setR o r rc
        have k4 : Keeps [mb, lb, rb, cb] w ((w3.setCell ⟨lb, r, none⟩ (.int .i64 ra)).setCell ⟨rb, r, none⟩ (.int .i64 rc)) := (k3.setCell (.inl (by simp)) _).setCell (.inl (by simp)) _
        clear c0 c2 c3 fl fr l0 r0 st3 k3 nlt nlr
        generalize (w3.setCell ⟨lb, r, none⟩ (.int .i64 ra)).setCell ⟨rb, r, none⟩ (.int .i64 rc) = w4 at *
        have c0 := st4.t.cell (i := 0) rfl
        have fm := st4.m.free (r * 4 + 3)
        have m0 := st4.m.cell (rowF_get (i := r * 4 + 2) (by omega))
        have m1 := st4.m.cell (rowF_get (i := ra * 4 + 3) (by omega))
        have m2 := st4.m.cell (rowF_get (i := rc * 4 + 3) (by omega))
        have m3 := st4.m.cell (rowF_get (i := r * 4 + 3) (by omega))
        rw [momF_2] at m0
        rw [momF_3] at m1 m2 m3
        have q1 : 0 ≤ Hd r + S3 ra := by omega
        have q2 : Hd r + S3 ra ≤ 65535 * 4097 := by omega
        have q3 : 0 ≤ Hd r + S3 ra + S3 rc := by omega
        have q4 : Hd r + S3 ra + S3 rc ≤ 65535 * 4097 * 2 := by omega
        clear m1a m2a
        go_region
        go_wp2
        go_ret
        exact built_node hr1 hr2 HE2.out HE3.out HSA.out HSC.out ht2' ht3 (by omega) ((st4.setS o r _).drew) ((k4.setCell (.inl (by simp)) _).drew)
end Go.Proofs.Ybulkeafu.TW
