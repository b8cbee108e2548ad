import Derived.Test.YbulkeafgRows
import Derived.Test.YbulkeafgKeep
import Derived.Deep.RegionWith
import Derived.Deep.DeepCutAuto
import Derived.Laws.LoneSync
import Derived.BigRegion
import Derived.LaidEqlPtr
namespace Go.Proofs.Ybulkeafg.GW
open Go.RowKit Go.Proofs.Ybulkeafg.Kit

theorem Row.ne {w : World} {b b' : Nat} {t t' : TypeId} {cs cs' : List Value} (h : Row w b t cs) (h' : Row w b' t' cs') (ht : t ≠ t') : b ≠ b' := by
  intro e
  subst e
  unfold Row at h h'
  rw [h] at h'
  simp at h'
  exact ht h'.2

def mag (v : Int) : Int := if v < 0 then IntKind.u64.wrap (-IntKind.u64.wrap v) else IntKind.u64.wrap v
/-- At p lies a big.Int that says v. -/
def IsBig (w : World) (p : Nat) (v : Int) : Prop :=
  (v = 0 ∧ Row w p 75 [.bool false, .slice none 0 0]) ∨ (v ≠ 0 ∧ ∃ q, Row w p 75 [.bool (decide (v < 0)), .slice (some ⟨q, 0, none⟩) 1 1] ∧ Row w q 102 [.int .u64 (mag v)])

theorem IsBig.keeps {w w' : World} {p : Nat} {v : Int} (h : IsBig w p v) {S : List Nat} (k : Keeps S w w') (hS : ∀ b ∈ S, ∃ t cs, Row w b t cs ∧ t ≠ 75 ∧ t ≠ 102) : IsBig w' p v := by
  have key : ∀ {b : Nat} {t : TypeId} {cs : List Value}, Row w b t cs → t = 75 ∨ t = 102 → Row w' b t cs := by
    intro b t cs hr ht
    refine hr.keeps k (fun hm => ?_)
    obtain ⟨t', cs', hr', h1, h2⟩ := hS b hm
    exact Row.ne hr hr' (by rcases ht with rfl | rfl; exact Ne.symm h1; exact Ne.symm h2) rfl
  rcases h with ⟨h1, h2⟩ | ⟨h1, q, h2, h3⟩
  · exact .inl ⟨h1, key h2 (.inl rfl)⟩
  · exact .inr ⟨h1, q, key h2 (.inl rfl), key h3 (.inr rfl)⟩
theorem IsBig.lt {w : World} {p : Nat} {v : Int} (h : IsBig w p v) : p < w.heap.size := by
  rcases h with ⟨_, h2⟩ | ⟨_, q, h2, _⟩
  · exact h2.lt
  · exact h2.lt

def NewBig (w : World) (v : Int) (e : Ending) (w' : World) : Prop := ∃ p, e = .returned (.pointer (some ⟨p, 0, none⟩)) ∧ w.heap.size ≤ p ∧ IsBig w' p v ∧ Keeps [] w w'

set_option maxRecDepth 100000 in
theorem newInt_any (v : Int) (w : World) : Calls Yba.prog 4 #[.int .i64 v] w fun e w' => NewBig w v e w' := by
  by_cases h0 : v = 0
  · subst h0
    go_enter Yba.func4, Yba.ntmps4
    go_wp2_with fail
    go_ret
    exact ⟨_, rfl, Nat.le_refl _, .inl ⟨rfl, Row.new w 75 [.bool false, .slice none 0 0]⟩, (Keeps.refl _ _).alloc _⟩
  · have h0' : (v == 0) = false := by simpa using h0
    by_cases hn : v < 0
    · have hd : decide (v < 0) = true := by simpa using hn
      have hm : mag v = IntKind.u64.wrap (-IntKind.u64.wrap v) := by unfold mag; rw [if_pos hn]
      have HD : Hid _ := hd
      have HM : Hid _ := hm
      clear hd hm
      go_enter Yba.func4, Yba.ntmps4
      go_wp2_with fail
      go_ret
      refine ⟨_, rfl, by omega, .inr ⟨h0, w.heap.size, ?_, ?_⟩, ((Keeps.refl _ _).alloc _).alloc _⟩
      · rw [HD.out]; exact Row.new' _ 75 [.bool true, .slice (some ⟨w.heap.size, 0, none⟩) 1 1] (by simp)
      · rw [HM.out]; exact (Row.new w 102 [.int .u64 (IntKind.u64.wrap (-IntKind.u64.wrap v))]).alloc _
    · have hd : decide (v < 0) = false := by simpa using hn
      have hm : mag v = IntKind.u64.wrap v := by unfold mag; rw [if_neg hn]
      have HD : Hid _ := hd
      have HM : Hid _ := hm
      clear hd hm
      go_enter Yba.func4, Yba.ntmps4
      go_wp2_with fail
      go_ret
      refine ⟨_, rfl, by omega, .inr ⟨h0, w.heap.size, ?_, ?_⟩, ((Keeps.refl _ _).alloc _).alloc _⟩
      · rw [HD.out]; exact Row.new' _ 75 [.bool false, .slice (some ⟨w.heap.size, 0, none⟩) 1 1] (by simp)
      · rw [HM.out]; exact (Row.new w 102 [.int .u64 (IntKind.u64.wrap v)]).alloc _

set_option maxRecDepth 100000 in
theorem natCmp_nil (w : World) : Calls Yba.prog 24 #[.slice none 0 0, .slice none 0 0] w fun e w' => e = .returned (.int .i64 0) ∧ Keeps [] w w' := by
  go_enter Yba.func24, Yba.ntmps24
  go_wp2_with fail
  go_ret
  exact ⟨rfl, Keeps.refl _ _⟩
set_option maxRecDepth 100000 in
theorem natCmp_one (p q : Nat) (m : Int) (w : World) (hp : Row w p 102 [.int .u64 m]) (hq : Row w q 102 [.int .u64 m]) : Calls Yba.prog 24 #[.slice (some ⟨p, 0, none⟩) 1 1, .slice (some ⟨q, 0, none⟩) 1 1] w fun e w' => e = .returned (.int .i64 0) ∧ Keeps [] w w' := by
  have c0 := hp.cell (i := 0) rfl
  have c1 := hq.cell (i := 0) rfl
  go_enter Yba.func24, Yba.ntmps24
  go_wp2_with fail
  go_loopw [7] (fun i wr => i = .int .i64 0 ∧ w = wr) (fun _ _ => 0)
  case atStart => exact ⟨rfl, rfl⟩
  case round =>
    obtain ⟨rfl, rfl⟩ := hrel
    go_upto_region 9 with fail
    go_quiet (fail)
    go_upto_region 11 with fail
    go_quiet (fail)
    go_upto_region 13 with fail
    go_quiet (fail)
    go_wp2_with fail
    go_ret
    exact ⟨rfl, (((Keeps.refl _ _).drewN _).drewN _).drewN _⟩

theorem ptr_other {w : World} {p q : Nat} {cs cs' : List Value} (hp : Row w p 75 cs) (hq : Row w q 75 cs') (hne : p ≠ q) : (binOp .eql 32 (.pointer (some ⟨p, 0, none⟩)) (.pointer (some ⟨q, 0, none⟩))).run Yba.prog w = .ok (.bool false) w := by
  have hi : (Yba.prog.info? 75).map (·.size) = some 2 := by kernel_rfl
  obtain ⟨j, hj, hs⟩ := Option.map_eq_some_iff.1 hi
  exact run_eql_ptr_other w (a := ⟨p, 0, none⟩) (b := ⟨q, 0, none⟩) Yba.underlying32 hj (by omega) (by intro e; injection e with e1; exact hne e1) hp hq

set_option maxRecDepth 100000 in
theorem cmp_parts (p q : Nat) (ng : Bool) (s1 s2 : Value) (w : World) (hp : Row w p 75 [.bool ng, s1]) (hq : Row w q 75 [.bool ng, s2]) (hne : p ≠ q)
    (hc : ∀ n, Calls Yba.prog 24 #[s1, s2] (w.drewN n) fun e w' => e = .returned (.int .i64 0) ∧ Keeps [] (w.drewN n) w') : Calls Yba.prog 7 #[.pointer (some ⟨p, 0, none⟩), .pointer (some ⟨q, 0, none⟩)] w fun e w' => e = .returned (.int .i64 0) ∧ Keeps [] w w' := by
  have he := ptr_other hp hq hne
  have c0 := hp.cell (i := 0) rfl
  have c1 := hq.cell (i := 0) rfl
  have d0 := hp.cell (i := 1) rfl
  have d1 := hq.cell (i := 1) rfl
  go_enter Yba.func7, Yba.ntmps7
  go_upto_region 3 with fail
  go_quiet (fail)
  go_upto_region 4 with fail
  go_cut [4] (fun v wc => v = .int .i64 0 ∧ Keeps [] w wc ∧ wc.cell? ⟨p, 0, none⟩ = some (.bool ng))
  case first =>
    go_region_with (go_at_call 24; refine (hc _).mono ?_; rintro e w2 ⟨rfl, hk2⟩)
    all_goals (go_wp2_with fail; go_meet)
    all_goals exact ⟨rfl, ((Keeps.refl _ _).drewN _).trans hk2, ((hp.drewN _).keeps hk2 (by simp)).cell (i := 0) rfl⟩
  case rest =>
    obtain ⟨rfl, hk, hc⟩ := hcut
    cases ng
    · go_wp2_with fail
      go_ret
      exact ⟨rfl, hk⟩
    · go_wp2_with fail
      go_ret
      exact ⟨rfl, hk⟩
theorem cmp_same (p q : Nat) (v : Int) (w : World) (hp : IsBig w p v) (hq : IsBig w q v) (hne : p ≠ q) : Calls Yba.prog 7 #[.pointer (some ⟨p, 0, none⟩), .pointer (some ⟨q, 0, none⟩)] w fun e w' => e = .returned (.int .i64 0) ∧ Keeps [] w w' := by
  rcases hp with ⟨rfl, hp⟩ | ⟨h0, x, hp, hx⟩
  · rcases hq with ⟨_, hq⟩ | ⟨h0, _⟩
    · exact cmp_parts p q _ _ _ w hp hq hne (fun n => natCmp_nil _)
    · exact absurd rfl h0
  · rcases hq with ⟨e, hq⟩ | ⟨_, y, hq, hy⟩
    · exact absurd e h0
    · exact cmp_parts p q _ _ _ w hp hq hne (fun n => natCmp_one x y _ _ (hx.drewN n) (hy.drewN n))
/-- Sign of a big.Int that was never set: inside a row. -/
theorem sign_zero (b o : Nat) (w : World) (hc : w.cell? ⟨b, o + 1, none⟩ = some (.slice none 0 0)) : Calls Yba.prog 11 #[.pointer (some ⟨b, o, none⟩)] w fun e w' => e = .returned (.int .i64 0) ∧ w = w' := by
  go_enter Yba.func11, Yba.ntmps11
  go_wp2_with fail
  go_ret
  exact ⟨rfl, rfl⟩
end Go.Proofs.Ybulkeafg.GW
