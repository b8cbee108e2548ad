/-
  THE PROOF OF 'Rows.LawS6337CWholeSaid': the frame after the guide's shells (howto/shells/, worked-widy), turned to this function by hand.
-/
import Derived.Test.YbulkeafgG8
import Derived.Test.YbulkeafgRows
import Derived.ProofKit
import Derived.OpenShut
import Derived.ShutString
import Derived.ChangeOld
import Derived.Deep.SlicePairs
namespace Go.Proofs.Ybulkeafg.lawS6337CWhole
open Go.ChangeShapes Go.WideShapes Go.ChangeAt Go.RowKit Go.Proofs.Ybulkeafg.GW
set_option linter.unusedVariables false

theorem own : ownKnob Yba.prog.godebug = none := by kernel_rfl
theorem laidOut : laidOutB Yba.prog = true := by kernel_rfl

theorem i64_in {n : Int} (h : (Lit.int .i64 n).wf = true) : -9223372036854775808 ≤ n ∧ n ≤ 9223372036854775807 := by
  simp [Lit.wf, IntKind.min, IntKind.max, IntKind.signed, IntKind.bits] at h
  omega

set_option maxRecDepth 100000 in
theorem law_big (hasCap : Bool) (capV : Int) (hasSplit : Bool) (den : Int) (a4 : Option Addr) (n cap4 : Nat) (rest : Int) (hasTiming : Bool) (bs gn : Int) (hg : Bool) (tag : Int) (w : World) (hn : 1048576 < n) :
    Calls Yba.prog 3 #[.bool hasCap, .int .i64 capV, .bool hasSplit, .int .i64 den, .slice a4 n cap4, .int .i64 rest, .bool hasTiming, .int .u64 bs, .int .i64 gn, .bool hg, .int .i64 tag] w fun e w' => e = .returned (.bool true) ∧ Below w.heap.size w w' := by
  have h : (1048576 : Int) < n := by omega
  go_enter Yba.func3, Yba.ntmps3
  go_wp2_with fail
  go_ret
  exact ⟨rfl, Below.refl _ _⟩

section
variable {H : Type} {enc : TypeId × Value → H} {W : World} {base : Nat} {sp : Nat → Bool} {held : Bool}

theorem lt_of_cell {x : Addr} {v : Value} (h : W.cell? x = some v) : x.spot = none ∧ x.block < W.heap.size := ⟨World.cell?_spot h, World.block_lt_of_cell? W x h⟩

/-- What the walk is told of the shares. -/
theorem shares_of {a : Option Addr} {len cap : Nat} {d : DataW H} {p : List MemPlace} (h : DataW.Trod enc Yba.prog W base (fun _ => true) held 22 (.slice a len cap) d p) :
    ∃ (T : Nat → ByteArray) (A : Nat → Int), SharesAt W a len W.heap.size T A := by
  obtain ⟨fuel, hf⟩ := h
  rcases Deep.open_slice_pairs (f0 := (Yba.prog.fieldsOf 40)[0]!) (f1 := (Yba.prog.fieldsOf 40)[1]!) Yba.underlying22 (by kernel_rfl) (by kernel_rfl) (by kernel_rfl) (by kernel_rfl) (by kernel_rfl) (by kernel_rfl) hf with ⟨hcs, _⟩ | ⟨x, l, c, m, fu, V0, V1, D0, D1, P0, P1, hcs, _, hl, hm, hmm, hx, hcell⟩
  · simp [Value.cells] at hcs
    obtain ⟨rfl, rfl, rfl⟩ := hcs
    exact ⟨fun _ => .empty, fun _ => 0, fun h => by omega⟩
  · simp [Value.cells] at hcs
    obtain ⟨rfl, rfl, rfl⟩ := hcs
    simp only [if_true] at hmm
    subst hmm
    have key : ∀ i, i < m → ∃ z : ByteArray × Int, V0 i = .string z.1 ∧ V1 i = .int .i64 z.2 := by
      intro i hi
      obtain ⟨_, _, g0, g1⟩ := hcell i hi
      obtain ⟨s, e0, _⟩ := DataW.trod_string (t := (Yba.prog.fieldsOf 40)[0]!.type) (by kernel_rfl) g0
      obtain ⟨n, e1, _, wn⟩ := DataW.trod_int (k := .i64) (t := (Yba.prog.fieldsOf 40)[1]!.type) (by kernel_rfl) g1
      exact ⟨(s, n), by simpa using e0, by simpa using e1⟩
    obtain ⟨Z, hZ⟩ := Deep.choose_lt key
    refine ⟨fun i => (Z i).1, fun i => (Z i).2, fun hpos => ?_⟩
    have h0 := lt_of_cell (hcell 0 (by omega)).1
    obtain ⟨b, o, s⟩ := x
    obtain ⟨hs, hb⟩ := h0
    simp [Addr.add] at hs hb
    subst hs
    refine ⟨b, o, rfl, hb, hb, fun i hi => ?_⟩
    have hc := hcell i (by omega)
    have hz := hZ i (by omega)
    rw [hz.1, hz.2, Addr.add_lit, Addr.add_lit] at hc
    exact ⟨hc.1, by rw [Nat.add_assoc]; exact hc.2.1⟩
end

set_option maxRecDepth 100000 in
theorem lifted (os : Os) (started : os.Started) (H : Type) (enc : TypeId × Value → H) :
    ReturnsInHanded {} Yba.checked os 3 .any (Rows.lawS6337CWholeSpec.pre6 enc Yba.prog Yba.f3 Rows.lawS6337CWholeRow.domain false) (Rows.lawS6337CWholeSpec.post enc Yba.prog Yba.f3 false true false false) := by
  refine returnsInHanded_of_change (C := Yba.checked) own started (by kernel_rfl) Yba.func3
    (ChangeSpec.witness6 (enc := enc) (C := Yba.checked) false ⟨#[], #[.bool false, .int .i64 0, .bool false, .int .i64 0, .slice none 0 0, .int .i64 0, .bool false, .int .u64 0, .int .i64 0, .bool false, .int .i64 0], []⟩ 8 (by kernel_rfl) (by kernel_rfl) (by kernel_rfl) (by kernel_rfl)) ?_
  intro W base args ds gs before hval0 hW hcnd _
  have hval : ∀ (j : Nat) t v, Yba.f3.params[j]? = some t → args[j]? = some v → Value.okWide Yba.prog W .any base t v := hval0
  have hW' := hW
  obtain ⟨p, q, hA0, hV, rfl, hfz, hnd⟩ := hW
  have hA : DataW.TrodAll enc Yba.prog W 0 (fun _ => true) true Yba.f3.params.toList args.toList ds p := hA0
  rw [Yba.params3] at hA hval
  obtain ⟨v0, vs0, d0, ds0, p0, q0, hargs, rfl, rfl, h0, r0⟩ := trodAll_cons hA
  obtain ⟨v1, vs1, d1, ds1, p1, q1, rfl, rfl, rfl, h1, r1⟩ := trodAll_cons r0
  obtain ⟨v2, vs2, d2, ds2, p2, q2, rfl, rfl, rfl, h2, r2⟩ := trodAll_cons r1
  obtain ⟨v3, vs3, d3, ds3, p3, q3, rfl, rfl, rfl, h3, r3⟩ := trodAll_cons r2
  obtain ⟨v4, vs4, d4, ds4, p4, q4, rfl, rfl, rfl, h4, r4⟩ := trodAll_cons r3
  obtain ⟨v5, vs5, d5, ds5, p5, q5, rfl, rfl, rfl, h5, r5⟩ := trodAll_cons r4
  obtain ⟨v6, vs6, d6, ds6, p6, q6, rfl, rfl, rfl, h6, r6⟩ := trodAll_cons r5
  obtain ⟨v7, vs7, d7, ds7, p7, q7, rfl, rfl, rfl, h7, r7⟩ := trodAll_cons r6
  obtain ⟨v8, vs8, d8, ds8, p8, q8, rfl, rfl, rfl, h8, r8⟩ := trodAll_cons r7
  obtain ⟨v9, vs9, d9, ds9, p9, q9, rfl, rfl, rfl, h9, r9⟩ := trodAll_cons r8
  obtain ⟨v10, vs10, d10, ds10, p10, q10, rfl, rfl, rfl, h10, r10⟩ := trodAll_cons r9
  obtain ⟨rfl, rfl, rfl⟩ := trodAll_nil r10
  obtain rfl : args = #[v0, v1, v2, v3, v4, v5, v6, v7, v8, v9, v10] := by cases args; simp_all
  obtain ⟨rfl, rfl⟩ := trodVars_none hV
  obtain ⟨b0, rfl, rfl, rfl⟩ := open_bool Yba.underlying4 (hval 0 4 v0 rfl rfl) h0
  obtain ⟨n1, rfl, rfl, rfl, w1⟩ := open_int Yba.underlying2 (hval 1 2 v1 rfl rfl) h1
  obtain ⟨b2, rfl, rfl, rfl⟩ := open_bool Yba.underlying4 (hval 2 4 v2 rfl rfl) h2
  obtain ⟨n3, rfl, rfl, rfl, w3⟩ := open_int Yba.underlying2 (hval 3 2 v3 rfl rfl) h3
  obtain ⟨a4, len4, cap4, rfl⟩ := okWide_slice Yba.underlying22 (hval 4 22 v4 rfl rfl)
  have lt4 : ∀ x ∈ p4, x.block < W.heap.size := by obtain ⟨m, hm⟩ := h4; exact DataW.trod_lt m _ _ _ hm
  obtain ⟨T, Am, hsh⟩ := shares_of h4
  obtain ⟨n5, rfl, rfl, rfl, w5⟩ := open_int Yba.underlying3 (hval 5 3 v5 rfl rfl) h5
  obtain ⟨b6, rfl, rfl, rfl⟩ := open_bool Yba.underlying4 (hval 6 4 v6 rfl rfl) h6
  obtain ⟨n7, rfl, rfl, rfl, w7⟩ := open_int Yba.underlying23 (hval 7 23 v7 rfl rfl) h7
  obtain ⟨n8, rfl, rfl, rfl, w8⟩ := open_int Yba.underlying2 (hval 8 2 v8 rfl rfl) h8
  obtain ⟨b9, rfl, rfl, rfl⟩ := open_bool Yba.underlying4 (hval 9 4 v9 rfl rfl) h9
  obtain ⟨n10, rfl, rfl, rfl, w10⟩ := open_int Yba.underlying3 (hval 10 3 v10 rfl rfl) h10
  clear hA0 hval0
  have walk : Calls Yba.prog 3 #[.bool b0, .int .i64 n1, .bool b2, .int .i64 n3, .slice a4 len4 cap4, .int .i64 n5, .bool b6, .int .u64 n7, .int .i64 n8, .bool b9, .int .i64 n10] W fun e w' => e = .returned (.bool true) ∧ Below W.heap.size W w' := by
    by_cases hn : len4 ≤ 1048576
    · exact law_any b0 n1 b2 n3 a4 len4 cap4 n5 b6 n7 n8 b9 n10 W T Am hsh hn (i64_in w8).1 (i64_in w8).2
    · exact law_big b0 n1 b2 n3 a4 len4 cap4 n5 b6 n7 n8 b9 n10 W (by omega)
  refine walk.mono fun e W' ⟨he, bel⟩ => ?_
  subst he
  exact ⟨_, rfl, _, _, _, [], _, [], hW', trodAll_mk1 (shut_bool Yba.underlying4 _), (trodAll_cons_mk (shut_bool Yba.underlying4 _) (trodAll_cons_mk (shut_int Yba.underlying2 w1) (trodAll_cons_mk (shut_bool Yba.underlying4 _) (trodAll_cons_mk (shut_int Yba.underlying2 w3) (trodAll_cons_mk (Below.trod laidOut (by kernel_rfl) (of_decide_eq_true (by kernel_rfl)) h4 bel lt4) (trodAll_cons_mk (shut_int Yba.underlying3 w5) (trodAll_cons_mk (shut_bool Yba.underlying4 _) (trodAll_cons_mk (shut_int Yba.underlying23 w7) (trodAll_cons_mk (shut_int Yba.underlying2 w8) (trodAll_cons_mk (shut_bool Yba.underlying4 _) (trodAll_cons_mk (shut_int Yba.underlying3 w10) trodAll_mk0))))))))))), rfl, bel.frame _, fun h => by cases h⟩

theorem over : Rows.lawS6337CWholeRow.holds Yba.pinned (OpenSpec.ofChange Rows.lawS6337CWholeSpec) :=
  OpenClaim.holds_of_wide 3 Yba.f3 rfl rfl rfl rfl rfl rfl rfl ⟨rfl, rfl, rfl, rfl, rfl⟩ rfl rfl rfl rfl rfl (by kernel_rfl) Yba.func3 (by kernel_rfl)
    (of_decide_eq_true (by kernel_rfl)) (by unfold Func.isWrapper; first | (rw [if_pos (by decide +kernel)]; kernel_rfl) | (rw [if_neg (by decide +kernel)]; exact ⟨rfl, rfl⟩))
    (fun os started H enc _ => lifted os started H enc)

/-- ████ THE STATEMENT ████ -/
theorem proved : Rows.LawS6337CWholeSaid := over
#print axioms proved
end Go.Proofs.Ybulkeafg.lawS6337CWhole
