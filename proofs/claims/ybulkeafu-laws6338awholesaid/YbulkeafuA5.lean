import Derived.Test.YbulkeafuA4
namespace Go.Proofs.Ybulkeafu.TW
open Go.RowKit Go.Proofs.Ybulkeafu.Kit Go.Proofs.Ybulkeafu.BW

theorem ShapeAt.keep' {w w' : World} {a : Option Addr} {n mb : Nat} {Z : Nat → Int} {S : List Nat} (h : ShapeAt w a n mb Z) (k : Keeps S w w') (hS : ∀ b, b < mb → b ∉ S) : ShapeAt w' a n mb Z := by
  intro hn
  obtain ⟨b, off, e, h1, h2, h3⟩ := h hn
  exact ⟨b, off, e, h1, Nat.lt_of_lt_of_le h2 k.size, fun i hi => ⟨(k.cell (p := ⟨b, off + i, none⟩) h2 (hS b h1)).trans (h3 i hi).1, (h3 i hi).2⟩⟩
def upTo (H : Nat → Int) (k i : Nat) : Int := if i ≤ k then H i else 0
theorem upTo_zero {H : Nat → Int} (h : H 0 = 0) : upTo H 0 = fun _ => 0 := by
  funext i; unfold upTo; split
  · rw [show i = 0 by omega, h]
  · rfl
theorem upTo_succ (H : Nat → Int) (k : Nat) : upd (upTo H k) (k + 1) (H (k + 1)) = upTo H (k + 1) := by
  funext i; unfold upTo upd
  by_cases h : i = k + 1
  · subst h; simp
  · rw [if_neg h]; simp only []; split
    · rw [if_pos (by omega)]
    · rw [if_neg (by omega)]
theorem upTo_all {H : Nat → Int} {n : Nat} (h : ∀ i, i = 0 ∨ n < i → H i = 0) : upTo H n = H := by
  funext i; unfold upTo; split
  · rfl
  · rw [h i (.inr (by omega))]
theorem HeldAt.keep {w w' : World} {a : Option Addr} {n mb : Nat} {H : Nat → Int} {S : List Nat} (h : HeldAt w a n mb H) (k : Keeps S w w') (hS : ∀ b, b < mb → b ∉ S) : HeldAt w' a n mb H := by
  intro hn
  obtain ⟨b, off, e, h1, h2, h3⟩ := h hn
  exact ⟨b, off, e, h1, Nat.lt_of_lt_of_le h2 k.size, fun i hi => (k.cell (p := ⟨b, off + i, none⟩) h2 (hS b h1)).trans (h3 i hi)⟩

theorem St.keeps {w w' : World} {mb tb lb rb cb n1 : Nat} {root : Int} {x4 x5 x6 x7 x8 : Value} {Hd S Lf Rf : Nat → Int} {ctr : Nat} {T : List Nat} (st : St w mb tb lb rb cb n1 root x4 x5 x6 x7 x8 Hd S Lf Rf ctr) (k : Keeps T w w') (h : ∀ b, b = mb ∨ b = tb ∨ b = lb ∨ b = rb ∨ b = cb → b ∉ T) : St w' mb tb lb rb cb n1 root x4 x5 x6 x7 x8 Hd S Lf Rf ctr :=
  ⟨st.t.keeps k (h _ (by simp)), st.m.keeps k (h _ (by simp)), st.l.keeps k (h _ (by simp)), st.r.keeps k (h _ (by simp)), st.c.keeps k (h _ (by simp))⟩
theorem St.setRoot {w : World} {mb tb lb rb cb n1 : Nat} {root : Int} {x4 x5 x6 x7 x8 : Value} {Hd S Lf Rf : Nat → Int} {ctr : Nat} (o : mb < tb ∧ mb < lb ∧ mb < rb ∧ mb < cb ∧ tb ≠ lb ∧ tb ≠ rb ∧ tb ≠ cb ∧ lb ≠ rb ∧ lb ≠ cb ∧ rb ≠ cb) (st : St w mb tb lb rb cb n1 root x4 x5 x6 x7 x8 Hd S Lf Rf ctr) (v : Int) :
    St (w.setCell ⟨tb, 1, none⟩ (.int .i64 v)) mb tb lb rb cb n1 v x4 x5 x6 x7 x8 Hd S Lf Rf ctr :=
  ⟨st.t.set 1 _, st.m.other (by simp; omega) _, st.l.other (by simp; omega) _, st.r.other (by simp; omega) _, st.c.other (by simp; omega) _⟩
theorem size40 : (Yba.prog.info? 40).map (·.size) = some 4 := by kernel_rfl
theorem size3 : (Yba.prog.info? 3).map (·.size) = some 1 := by kernel_rfl
theorem momF_one (n : Nat) (Hd S : Nat → Int) : ∀ v ∈ rowF n (momF Hd S), v.oneCell' = true := by
  intro v hv
  obtain ⟨i, _, rfl⟩ := List.mem_map.1 hv
  unfold momF
  split
  · rfl
  · split <;> rfl
theorem intF_one (n : Nat) (F : Nat → Int) : ∀ v ∈ rowF n (fun i => Value.int .i64 (F i)), v.oneCell' = true := by
  intro v hv
  obtain ⟨i, _, rfl⟩ := List.mem_map.1 hv
  rfl

theorem rsum_mono {H : Nat → Int} (h : ∀ i, 0 ≤ H i) (l i j : Nat) (hij : i ≤ j) : rsum H l i ≤ rsum H l j := by
  have e := rsum_add H l i (j - i)
  rw [show i + (j - i) = j by omega] at e
  have := rsum_nonneg h (l + i) (j - i)
  omega
theorem Ans_neg {H : Nat → Int} {n : Nat} {need g : Int} {ok : Bool} (h : Ans H n need g ok) (hn : ¬ 0 < need) : g = 0 ∧ ok = false := by
  rcases h with h | h | h
  · exact h.2
  · exact absurd h.1 hn
  · exact absurd h.1 hn
theorem Ans_all {H : Nat → Int} {n : Nat} {need g : Int} {ok : Bool} (hH : ∀ i, 0 ≤ H i) (h : Ans H n need g ok) (hn : 0 < need) (hl : rsum H 1 n < need) : g = rsum H 1 n ∧ ok = false := by
  rcases h with h | ⟨_, _, j, hj, h1, h2, _⟩ | h
  · omega
  · have := rsum_mono hH 1 (j + 1) n (by omega); omega
  · exact ⟨h.2.2.1, h.2.1⟩
theorem Ans_at {H : Nat → Int} {n z : Nat} {need g : Int} {ok : Bool} (hH : ∀ i, 0 ≤ H i) (h : Ans H n need g ok) (hn : 0 < need) (hz : z < n) (h1 : rsum H 1 z < need) (h2 : need ≤ rsum H 1 (z + 1)) : g = rsum H 1 (z + 1) ∧ ok = true := by
  rcases h with h | ⟨_, e, j, hj, h3, h4, h5⟩ | h
  · omega
  · have : j = z := by
      rcases Nat.lt_trichotomy j z with q | q | q
      · have := rsum_mono hH 1 (j + 1) z (by omega); omega
      · exact q
      · have := rsum_mono hH 1 (z + 1) j (by omega); omega
    subst this
    exact ⟨h3, e⟩
  · have := rsum_mono hH 1 (z + 1) n (by omega); omega

set_option maxRecDepth 100000 in
set_option maxHeartbeats 1000000 in
theorem law_any (a0 : Option Addr) (n cap0 : Nat) (a1 : Option Addr) (ls cap1 : Nat) (need : Int) (w : World) (Hd Z : Nat → Int) (h0 : HeldAt w a0 n w.heap.size Hd) (hsh : ShapeAt w a1 ls w.heap.size Z) (hH : Hid (∀ i, 0 ≤ Hd i ∧ Hd i ≤ 65535)) (hls : ls ≤ 9223372036854775807) (hH0 : Hid (∀ i, i = 0 ∨ n < i → Hd i = 0)) (hn : n ≤ 4096) :
    Calls Yba.prog 3 #[.slice a0 n cap0, .slice a1 ls cap1, .int .i64 need] w fun e w' => e = .returned (.bool true) ∧ Below w.heap.size w w' := by
  go_enter Yba.func3, Yba.ntmps3
  go_upto_region 5 with (at_make; refine wpList_make_row rfl (.tmp 29) (.tmp 29) 25 rfl 40 (.agg #[.float .f64 0, .float .f64 0, .int .i64 0, .int .i64 0]) 4 32 Yba.underlying25 info40 _ _ _ _ (n + 1) rfl rfl (by omega) (by omega) (by omega) (by unfold maxLen; omega) ?_)
  intro w1 hm1 hs1 hb1
  go_upto_region 5 with fail
  rw [makeCells40] at hm1
  have st2 := Row.new' w1 34 [.slice (some ⟨w.heap.size, 0, none⟩) (n + 1) (n + 1), .int .i64 0, .slice none 0 0, .slice none 0 0, .slice none 0 0, .nilFunc, .nilFunc, .pointer none, .slice none 0 0] hs1
  have sm2 := hm1.alloc (.cells #[.slice (some ⟨w.heap.size, 0, none⟩) (n + 1) (n + 1), .int .i64 0, .slice none 0 0, .slice none 0 0, .slice none 0 0, .nilFunc, .nilFunc, .pointer none, .slice none 0 0] 34)
  have sk2 := (Keeps.new hb1 []).alloc (.cells #[.slice (some ⟨w.heap.size, 0, none⟩) (n + 1) (n + 1), .int .i64 0, .slice none 0 0, .slice none 0 0, .slice none 0 0, .nilFunc, .nilFunc, .pointer none, .slice none 0 0] 34)
  have hs2 : (w1.alloc (.cells #[.slice (some ⟨w.heap.size, 0, none⟩) (n + 1) (n + 1), .int .i64 0, .slice none 0 0, .slice none 0 0, .slice none 0 0, .nilFunc, .nilFunc, .pointer none, .slice none 0 0] 34)).heap.size = w.heap.size + 2 := by simp [hs1]
  generalize w1.alloc (.cells #[.slice (some ⟨w.heap.size, 0, none⟩) (n + 1) (n + 1), .int .i64 0, .slice none 0 0, .slice none 0 0, .slice none 0 0, .nilFunc, .nilFunc, .pointer none, .slice none 0 0] 34) = w2 at *
  clear hm1 hs1 hb1
  have hmk : ∀ W : World, (Instr.makeSlice 26 (.int .i64 (↑n + 1)) (.int .i64 (↑n + 1))).run Yba.prog W = .ok (.slice (some ⟨W.heap.size, 0, none⟩) (n + 1) (n + 1)) (W.alloc (.cells (madeCells #[.int .i64 0] (n + 1)) 3)) := fun W => make26 W n hn
  have hmp : ∀ W : World, (Instr.makeSlice 27 (.int .i64 (↑n + 1)) (.int .i64 (↑n + 1))).run Yba.prog W = .ok (.slice (some ⟨W.heap.size, 0, none⟩) (n + 1) (n + 1)) (W.alloc (.cells (madeCells #[.int .u64 0] (n + 1)) 108)) := fun W => make27 W n hn
  have t1 := st2.cell (i := 1) rfl
  have t2 := st2.cell (i := 2) rfl
  have t3 := st2.cell (i := 3) rfl
  have t4 := st2.cell (i := 4) rfl
  have t5 := st2.cell (i := 5) rfl
  have t6 := st2.cell (i := 6) rfl
  have t7 := st2.cell (i := 7) rfl
  have ft := fun i => st2.free i
  have sn : ∀ (W : World) (b : Addr) (m : Mode), (store b .nilFunc m).run Yba.prog W = stored Yba.prog W b .nilFunc m := fun W b m => run_store Yba.prog W b _ m rfl
  go_cut [8] (fun v wc => v = .pointer (some ⟨w.heap.size + 1, 0, none⟩) ∧ Made w n wc)
  case first =>
    go_region
    all_goals (go_wp2_with fail; go_meet)
    all_goals
      refine ⟨rfl, ?_⟩
      with_reducible first
        | exact made_lrp st2 sm2 sk2 hs2
        | exact made_lpr st2 sm2 sk2 hs2
        | exact made_rlp st2 sm2 sk2 hs2
        | exact made_rpl st2 sm2 sk2 hs2
        | exact made_plr st2 sm2 sk2 hs2
        | exact made_prl st2 sm2 sk2 hs2
  case rest =>
    clear t1 t2 t3 t4 t5 t6 t7 ft sn hmk hmp st2 sm2 sk2 hs2
    obtain ⟨rfl, lb, rb, pb, ht, hm, hl, hr, hkp, o1, o2, o3⟩ := hcut
    have hh := h0.keep hkp (by simp)
    have hs := hsh.keep' hkp (by simp)
    clear h0 hsh
    generalize hS : w.heap.size = s at *
    go_wp2_with fail
    go_loopw [9] (fun i wr => ∃ k : Nat, k ≤ n ∧ i = .int .i64 k ∧ Row wr (s + 1) 34 (tcells s lb rb (n + 1) 0 (.slice (some ⟨pb, 0, none⟩) (n + 1) (n + 1)) .nilFunc .nilFunc (.pointer none) (.slice none 0 0)) ∧ Row wr s 40 (rowF ((n + 1) * 4) (momF (upTo Hd k) fun _ => 0)) ∧ Row wr lb 3 (rowF (n + 1) fun _ => .int .i64 0) ∧ Row wr rb 3 (rowF (n + 1) fun _ => .int .i64 0) ∧ Keeps [] w wr ∧ HeldAt wr a0 n s Hd ∧ ShapeAt wr a1 ls s Z) (fun i _ => n - (intOf i).toNat)
    case atStart => exact ⟨0, by omega, rfl, ht, by rw [upTo_zero (hH0.out 0 (.inl rfl))]; exact hm, hl, hr, hkp, hh, hs⟩
    case round =>
      clear ht hm hl hr hkp hh hs
      obtain ⟨k, hk, rfl, ht, hm, hl, hr, hkp, hh, hs⟩ := hrel
      by_cases hlt : k < n
      · have c0 := ht.cell (i := 0) rfl
        obtain ⟨b, off, rfl, hb1, hb2, hb3⟩ := hh (by omega)
        have hb4 := hb3 k hlt
        have m0 := hm.cell (rowF_get (i := (k + 1) * 4 + 2) (by omega))
        have fm := hm.free ((k + 1) * 4 + 2)
        have q1 := hH.out (k + 1)
        have z1 : (k : Int) < n := by omega
        have z2 : (k : Int) + 1 < n + 1 := by omega
        have HB3 : Hid _ := hb3
        clear hb3
        go_upto_region 9 with fail
        go_region
        go_wp2_with fail
        have hks : Keeps [s] wr (wr.setCell ⟨s, (k + 1) * 4 + 2, none⟩ (.int .i64 (Hd (k + 1)))).drew := ((Keeps.refl [s] wr).setCell (.inl (by simp)) _).drew
        go_roundw
        case rel =>
          exact ⟨k + 1, by omega, by go_num, (ht.other (by simp) _).drew, by rw [← upTo_succ, ← set_held]; exact (hm.set _ _).drew, (hl.other (by simp; omega) _).drew, (hr.other (by simp; omega) _).drew, (hkp.setCell (.inr (by simp; omega)) _).drew, hh.keep hks (fun b h => by simp; omega), hs.keep' hks (fun b h => by simp; omega)⟩
        case measure => simp [intOf]; omega
      · obtain rfl : k = n := by omega
        rw [upTo_all hH0.out] at hm
        go_upto_region 11 with fail
        have l1 := ht.lt
        have l2 := hl.lt
        have l3 := hr.lt
        have st4 : St (wr.alloc (.cells #[.int .i64 0] 3)) s (s + 1) lb rb wr.heap.size (k + 1) 0 (.slice (some ⟨pb, 0, none⟩) (k + 1) (k + 1)) .nilFunc .nilFunc (.pointer none) (.slice none 0 0) Hd (fun _ => 0) (fun _ => 0) (fun _ => 0) 0 := ⟨ht.alloc _, hm.alloc _, hl.alloc _, hr.alloc _, Row.new wr 3 [.int .i64 0]⟩
        have hk4 := hkp.alloc (.cells #[.int .i64 0] 3)
        have hks := (Keeps.refl [] wr).alloc (.cells #[.int .i64 0] 3)
        have hh4 := hh.keep hks (by simp)
        have hs4 := hs.keep' hks (by simp)
        clear ht hm hl hr hkp hh hs hks
        generalize wr.heap.size = cb at *
        generalize wr.alloc (.cells #[.int .i64 0] 3) = w4 at *
        have o : s < s + 1 ∧ s < lb ∧ s < rb ∧ s < cb ∧ s + 1 ≠ lb ∧ s + 1 ≠ rb ∧ s + 1 ≠ cb ∧ lb ≠ rb ∧ lb ≠ cb ∧ rb ≠ cb := by omega
        have hq := build_any s (s + 1) lb rb cb (k + 1) 0 (.slice (some ⟨pb, 0, none⟩) (k + 1) (k + 1)) .nilFunc .nilFunc (.pointer none) (.slice none 0 0) Hd a1 ls cap1 Z o (by omega) hH hls k 1 k 1 k (fun _ => 0) (fun _ => 0) (fun _ => 0) 0 w4 (Nat.le_refl _) (Nat.le_refl _) (by omega) rfl (by omega) (by omega) rfl hs4 st4
        clear st4 hs4
        go_upto_region 13 with (go_at_call 5; refine hq.mono ?_; rintro e w5 ⟨root, S, Lf, Rf, rfl, hrt, st5, he5, ht5, hk5⟩; have c1 := st5.t.cell (i := 1) rfl; have f1 := st5.t.free 1)
        have hS0 : S 0 = 0 := (he5 0 (by omega)).1
        have st6 := st5.setRoot o root
        have hk6 : Keeps [] w (w5.setCell ⟨s + 1, 1, none⟩ (.int .i64 root)) := (hk4.after hk5 (fun i a b => by simp at b; omega)).setCell (.inr (by simp; omega)) _
        have hh6 := hh4.keep (S := [s, lb, rb, cb, s + 1]) ((hk5.mono (T := [s, lb, rb, cb, s + 1]) (fun i a b => by simp at b ⊢; omega)).setCell (p := ⟨s + 1, 1, none⟩) (.inl (by simp)) (.int .i64 root)) (fun b h => by simp; omega)
        clear st5 hk4 hk5 hh4 he5 hq c1 f1
        generalize w5.setCell ⟨s + 1, 1, none⟩ (.int .i64 root) = w6 at *
        go_wp2_with (at_make; refine wpList_make_row rfl (.tmp 78) (.tmp 78) 25 rfl 40 (.agg #[.float .f64 0, .float .f64 0, .int .i64 0, .int .i64 0]) 4 32 Yba.underlying25 info40 _ _ _ _ (k + 1) rfl rfl (by omega) (by omega) (by omega) (by unfold maxLen; omega) ?_)
        intro w7 hd7 hz7 hb7
        have st7 := st6.keeps (Keeps.new hb7 []) (by simp)
        have hk7 := hk6.trans (Keeps.new hb7 [])
        have hh7 := hh6.keep (Keeps.new hb7 []) (by simp)
        have d1s : cb < w6.heap.size := st6.c.lt
        clear st6 hk6 hh6 hb7
        generalize w6.heap.size = d1 at *
        have c0 := st7.t.cell (i := 0) rfl
        go_wp2_with (refine wpList_copy_wide rfl (.tmp 80) (.tmp 84) 25 25 rfl 40 4 Yba.underlying25 size40 d1 (k + 1) _ s _ rfl rfl _ 40 40 hd7 _ st7.m (by rw [rowF_length]) (by simp [madeCells]) (momF_one _ _ _) ?_)
        intro w8 hd8 hz8 hk8
        have st8 := st7.keeps hk8 (fun b h => by simp; omega)
        have hk9 := hk7.after hk8 (fun i a b => by simp at b; omega)
        have hh8 := hh7.keep hk8 (fun b h => by simp; omega)
        clear st7 hk7 hk8 hh7 hd7 c0
        go_wp2_with (at_make; refine wpList_make_row rfl (.tmp 87) (.tmp 87) 26 rfl 3 (.int .i64 0) 1 8 Yba.underlying26 info3 _ _ _ _ (k + 1) rfl rfl (by omega) (by omega) (by omega) (by unfold maxLen; omega) ?_)
        intro w9 he9 hz9 hb9
        have st9 := st8.keeps (Keeps.of_below hb9 [] (fun i a b => by omega)) (by simp)
        have hd9 := hd8.keeps (Keeps.of_below hb9 [] (fun i a b => by omega)) (by simp)
        have hk10 := hk9.trans (Keeps.of_below hb9 [] (fun i a b => by omega))
        have hh9 := hh8.keep (Keeps.of_below hb9 [] (fun i a b => by omega)) (by simp)
        clear st8 hk9 hh8 hb9 hd8
        have c2 := st9.t.cell (i := 2) rfl
        go_wp2_with (refine wpList_copy_wide rfl (.tmp 89) (.tmp 94) 26 26 rfl 3 1 Yba.underlying26 size3 (d1 + 1) (k + 1) _ lb _ rfl rfl _ 3 3 he9 _ st9.l (by rw [rowF_length]; omega) (by simp [madeCells]) (intF_one _ _) ?_)
        intro wA heA hzA hkA
        have stA := st9.keeps hkA (fun b h => by simp; omega)
        have hdA := hd9.keeps hkA (by simp)
        have hkA2 := hk10.after hkA (fun i a b => by simp at b; omega)
        have hhA := hh9.keep hkA (fun b h => by simp; omega)
        clear st9 hk10 hh9 he9 hd9 hkA c2
        go_wp2_with (at_make; refine wpList_make_row rfl (.tmp 97) (.tmp 97) 26 rfl 3 (.int .i64 0) 1 8 Yba.underlying26 info3 _ _ _ _ (k + 1) rfl rfl (by omega) (by omega) (by omega) (by unfold maxLen; omega) ?_)
        intro wB hfB hzB hbB
        have stB := stA.keeps (Keeps.of_below hbB [] (fun i a b => by omega)) (by simp)
        have hdB := hdA.keeps (Keeps.of_below hbB [] (fun i a b => by omega)) (by simp)
        have heB := heA.keeps (Keeps.of_below hbB [] (fun i a b => by omega)) (by simp)
        have hkB := hkA2.trans (Keeps.of_below hbB [] (fun i a b => by omega))
        have hhB := hhA.keep (Keeps.of_below hbB [] (fun i a b => by omega)) (by simp)
        clear stA hkA2 hhA hbB hdA heA
        have c3 := stB.t.cell (i := 3) rfl
        go_wp2_with (refine wpList_copy_wide rfl (.tmp 99) (.tmp 104) 26 26 rfl 3 1 Yba.underlying26 size3 (d1 + 1 + 1) (k + 1) _ rb _ rfl rfl _ 3 3 hfB _ stB.r (by rw [rowF_length]; omega) (by simp [madeCells]) (intF_one _ _) ?_)
        intro wC hfC hzC hkC
        have stC := stB.keeps hkC (fun b h => by simp; omega)
        have hdC := hdB.keeps hkC (by simp; omega)
        have heC := heB.keeps hkC (by simp)
        have hkD := hkB.after hkC (fun i a b => by simp at b; omega)
        have hhC := hhB.keep hkC (fun b h => by simp; omega)
        clear stB hkB hhB hfB hdB heB hkC c3
        have hre := reach_any s (s + 1) lb rb cb k root _ _ _ _ _ Hd S Lf Rf _ need wC hn hH hS0 k ht5 stC
        have sf : ∀ (W : World) (b : Addr) (m : Mode), (store b (.float .f64 0) m).run Yba.prog W = stored Yba.prog W b (.float .f64 0) m := fun W b m => run_store Yba.prog W b _ m rfl
        go_upto_region 20 with (go_at_call 6; refine hre.mono ?_; rintro e wD ⟨g, ok, HA, rfl, hkE⟩)
        have hks := hkE.alloc (.cells #[.float .f64 0, .float .f64 0] 38)
        have stE := stC.keeps hks (by simp)
        have hdE := hdC.keeps hks (by simp)
        have heE := heC.keeps hks (by simp)
        have hfE := hfC.keeps hks (by simp)
        have hkF := hkD.trans hks
        have hhE := hhC.keep hks (by simp)
        have haE := Row.new wD 38 [.float .f64 0, .float .f64 0]
        have HTR : Hid _ := ht5
        have o4 := hks.size
        have o5 := hkE.size
        clear hks hkE stC hdC heC hfC hkD hhC hre sf ht5
        generalize wD.heap.size = A at *
        generalize wD.alloc (.cells #[.float .f64 0, .float .f64 0] 38) = wE at *
        go_upto_if 114 with fail
        go_cut [18, 19, 20, 21] (fun v1 v2 v3 v4 wc => v1 = .int .i64 g ∧ v2 = .bool ok ∧ wE = wc)
        case first =>
          by_cases hneed : 0 < need
          · go_wp2_with fail
            go_loopw [19, 20, 21] (fun b acc i wr => ∃ z : Nat, z ≤ k ∧ b = .bool false ∧ acc = .int .i64 (rsum Hd 1 z) ∧ i = .int .i64 z ∧ Hid (rsum Hd 1 z < need) ∧ wE = wr) (fun _ _ i _ => k - (intOf i).toNat)
            case atStart => exact ⟨0, by omega, rfl, rfl, rfl, by show _ < _; simp [rsum]; omega, rfl⟩
            case round =>
              obtain ⟨z, hz, rfl, rfl, rfl, hl, rfl⟩ := hrel
              by_cases hlz : z < k
              · obtain ⟨b, off, rfl, hb1, hb2, hb3⟩ := hhE (by omega)
                have hb4 := hb3 z hlz
                have e1 : rsum Hd 1 (z + 1) = rsum Hd 1 z + Hd (z + 1) := by simp only [rsum]; rw [show 1 + z = z + 1 by omega]
                have q1 := hH.out (z + 1)
                have q2 := rsum_nonneg (fun i => (hH.out i).1) 1 z
                have q3 := rsum_le (fun i => (hH.out i).2) 1 z
                have z1 : (z : Int) < k := by omega
                have q4 : rsum Hd 1 z ≤ 65535 * 4096 := by omega
                have E1 : Hid _ := e1
                clear hb3 q3 e1
                by_cases t : need ≤ rsum Hd 1 z + Hd (z + 1)
                · obtain ⟨eg, eo⟩ := Ans_at (fun i => (hH.out i).1) HA.out hneed hlz hl.out (by rw [E1.out]; exact t)
                  have EG : Hid (g = rsum Hd 1 z + Hd (z + 1)) := by rw [← E1.out]; exact eg
                  have EO : Hid (ok = true) := eo
                  clear HA eg eo E1
                  go_wp2_with fail
                  go_meet
                  exact ⟨by rw [EG.out], by rw [EO.out], rfl⟩
                · go_wp2_with fail
                  go_roundw
                  case rel => exact ⟨z + 1, by omega, rfl, by rw [E1.out], by go_num, by show _ < _; rw [E1.out]; omega, by first | exact rfl | trivial⟩
                  case measure => simp [intOf]; omega
              · obtain rfl : z = k := by omega
                obtain ⟨rfl, rfl⟩ := Ans_all (fun i => (hH.out i).1) HA.out hneed hl.out
                go_wp2_with fail
                go_meet
                exact ⟨rfl, rfl, rfl⟩
          · obtain ⟨rfl, rfl⟩ := Ans_neg HA.out hneed
            go_wp2_with fail
            go_meet
            exact ⟨rfl, rfl, rfl⟩
        case rest =>
          obtain ⟨rfl, rfl, rfl⟩ := hcut
          have n38 := neq38
          have a0' := haE.cell (i := 0) rfl
          have a1' := haE.cell (i := 1) rfl
          have c0 := stE.t.cell (i := 0) rfl
          have c1 := stE.t.cell (i := 1) rfl
          have c2 := stE.t.cell (i := 2) rfl
          have c3 := stE.t.cell (i := 3) rfl
          clear HA
          go_wp2_with fail
          go_loopw [22] (fun i wr => ∃ z nq : Nat, z ≤ k + 1 ∧ i = .int .i64 z ∧ wr = wE.drewN nq) (fun i _ => k + 1 - (intOf i).toNat)
          case atStart => exact ⟨0, 0, by omega, rfl, rfl⟩
          case round =>
            obtain ⟨z, nq, hz, rfl, rfl⟩ := hrel
            by_cases hlz : z < k + 1
            · have n40 := neq40
              have m0 := stE.m.cell (rowF_get (i := z * 4) (by omega))
              have m1 := stE.m.cell (rowF_get (i := z * 4 + 1) (by omega))
              have m2 := stE.m.cell (rowF_get (i := z * 4 + 2) (by omega))
              have m3 := stE.m.cell (rowF_get (i := z * 4 + 3) (by omega))
              have d0 := hdE.cell (rowF_get (i := z * 4) (by omega))
              have d1' := hdE.cell (rowF_get (i := z * 4 + 1) (by omega))
              have d2 := hdE.cell (rowF_get (i := z * 4 + 2) (by omega))
              have d3 := hdE.cell (rowF_get (i := z * 4 + 3) (by omega))
              rw [momF_0] at m0 d0
              rw [momF_1] at m1 d1'
              rw [momF_2] at m2 d2
              rw [momF_3] at m3 d3
              have p1 := stE.l.cell (rowF_get hlz)
              have p2 := heE.cell (rowF_get hlz)
              have p3 := stE.r.cell (rowF_get hlz)
              have p4 := hfE.cell (rowF_get hlz)
              have z1 : (z : Int) < k + 1 := by omega
              have z2 : (z : Int) ≤ k := by omega
              go_upto_region 37 with fail
              go_quiet (fail)
              go_wp2_with fail
              go_roundw
              case rel => exact ⟨z + 1, _, by omega, by go_num, rfl⟩
              case measure => simp [intOf]; omega
            · obtain rfl : z = k + 1 := by omega
              go_wp2_with fail
              go_ret
              exact ⟨rfl, (hkF.drewN _).below (by simp) (by omega)⟩
end Go.Proofs.Ybulkeafu.TW
