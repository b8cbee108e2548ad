/-
  THE PROOF OF 'Rows.LawS6332AWholeSaid': the frame after the guide's shells (howto/shells/, worked-widy), turned to this function by hand.
-/
import Derived.Test.YbulkeacoA7
import Derived.ProofKit
import Derived.OpenShut
import Derived.ShutString
import Derived.ChangeOld
import Derived.SizedLaws
import Derived.Deep.SlicePairs
namespace Go.Proofs.Ybulkeaco.lawS6332AWhole
open Go.ChangeShapes Go.WideShapes Go.ChangeAt Go.RowKit Go.Proofs.Ybulkeaco.AW
set_option linter.unusedVariables false

theorem own : ownKnob Yba.prog.godebug = none := by kernel_rfl
theorem laidOut : laidOutB Yba.prog = true := by kernel_rfl
theorem bytes26 : Yba.prog.bytesOf 26 = 16 := by kernel_rfl
theorem bytes5 : Yba.prog.bytesOf 5 = 1 := by kernel_rfl

set_option maxRecDepth 100000 in
theorem law_big (a0 a1 a2 a3 : Option Addr) (la n lt lu c0 c1 c2 c3 : Nat) (w : World) (hsum : 1048576 < la + n + lt + lu) (b0 : la ≤ 140737488355328) (b1 : n ≤ 140737488355328) (b2 : lt ≤ 140737488355328) (b3 : lu ≤ 140737488355328) :
    Calls Yba.prog 3 #[.slice a0 la c0, .slice a1 n c1, .slice a2 lt c2, .slice a3 lu c3] w fun e w' => e = .returned (.bool true) ∧ Below w.heap.size w w' := by
  go_enter Yba.func3, Yba.ntmps3
  go_wp2
  go_ret
  exact ⟨rfl, Below.refl _ _⟩

section
variable {H : Type} {enc : TypeId × Value → H} {W : World} {base : Nat} {sp : Nat → Bool} {held : Bool}

theorem lt_of_cell {x : Addr} {v : Value} (h : W.cell? x = some v) : x.spot = none ∧ x.block < W.heap.size := ⟨World.cell?_spot h, World.block_lt_of_cell? W x h⟩

/-- What the walk is told of a slice of pairs. -/
theorem pairs_of {a : Option Addr} {len cap : Nat} {d : DataW H} {p : List MemPlace} (h : DataW.Trod enc Yba.prog W base (fun _ => true) held 22 (.slice a len cap) d p) :
    ∃ Z : Nat → Int × Bool, PairsAt W a len Z ∧ (∀ i, i < len → -9223372036854775808 ≤ (Z i).1 ∧ (Z i).1 ≤ 9223372036854775807) ∧ ((len = 0) ∨ ∃ elems spare, d = .slice elems spare ∧ elems.length = len) := by
  obtain ⟨fuel, hf⟩ := h
  rcases Deep.open_slice_pairs (f0 := (Yba.prog.fieldsOf 26)[0]!) (f1 := (Yba.prog.fieldsOf 26)[1]!) Yba.underlying22 (by kernel_rfl) (by kernel_rfl) (by kernel_rfl) (by kernel_rfl) (by kernel_rfl) (by kernel_rfl) hf with ⟨hcs, _⟩ | ⟨x, l, c, m, fu, V0, V1, D0, D1, P0, P1, hcs, _, hl, hm, hmm, hx, hcell⟩
  · simp [Value.cells] at hcs
    obtain ⟨rfl, rfl, rfl⟩ := hcs
    exact ⟨fun _ => (0, false), fun h => by omega, fun i hi => by omega, .inl rfl⟩
  · simp [Value.cells] at hcs
    obtain ⟨rfl, rfl, rfl⟩ := hcs
    simp only [if_true] at hmm
    subst hmm
    have key : ∀ i, i < m → ∃ z : Int × Bool, V0 i = .int .i64 z.1 ∧ V1 i = .bool z.2 ∧ -9223372036854775808 ≤ z.1 ∧ z.1 ≤ 9223372036854775807 := by
      intro i hi
      obtain ⟨_, _, g0, g1⟩ := hcell i hi
      obtain ⟨n, e0, _, wn⟩ := DataW.trod_int (k := .i64) (t := (Yba.prog.fieldsOf 26)[0]!.type) (by kernel_rfl) g0
      obtain ⟨b, e1, _⟩ := DataW.trod_bool (t := (Yba.prog.fieldsOf 26)[1]!.type) (by kernel_rfl) g1
      have := bounds_i64 wn
      exact ⟨(n, b), by simpa using e0, by simpa using e1, this.1, this.2⟩
    obtain ⟨Z, hZ⟩ := Deep.choose_lt key
    refine ⟨Z, fun hpos => ?_, fun i hi => (hZ i (by omega)).2.2, .inr ⟨_, _, by rw [(Prod.mk.inj hx).1], by simp⟩⟩
    have h0 := lt_of_cell (hcell 0 (by omega)).1
    obtain ⟨b, o, s⟩ := x
    obtain ⟨hs, hb⟩ := h0
    simp [Addr.add] at hs hb
    subst hs
    refine ⟨b, o, rfl, hb, fun i hi => ?_⟩
    have hc := hcell i (by omega)
    have hz := hZ i (by omega)
    rw [hz.1, hz.2.1, Addr.add_lit, Addr.add_lit] at hc
    exact ⟨hc.1, by rw [Nat.add_assoc]; exact hc.2.1⟩

/-- .. of a slice of bytes. -/
theorem bytes_of {a : Option Addr} {len cap : Nat} {d : DataW H} {p : List MemPlace} (h : DataW.Trod enc Yba.prog W base (fun _ => true) held 23 (.slice a len cap) d p) :
    ∃ U : Nat → Int, BytesAt W a len U ∧ (∀ i, i < len → 0 ≤ U i ∧ U i ≤ 255) ∧ ((len = 0) ∨ ∃ elems spare, d = .slice elems spare ∧ elems.length = len) := by
  obtain ⟨fuel, hf⟩ := h
  rcases open_ints Yba.underlying23 Yba.underlying5 (by kernel_rfl) hf with ⟨hcs, _⟩ | ⟨x, l, c, zs, hcs, _, hl, hm, hz, hx, hcell, hwz⟩
  · simp [Value.cells] at hcs
    obtain ⟨rfl, rfl, rfl⟩ := hcs
    exact ⟨fun _ => 0, fun h => by omega, fun i hi => by omega, .inl rfl⟩
  · simp [Value.cells] at hcs
    obtain ⟨rfl, rfl, rfl⟩ := hcs
    simp only [if_true] at hz
    refine ⟨fun i => zs.getD i 0, fun hpos => ?_, fun i hi => ?_, .inr ⟨_, _, by rw [(Prod.mk.inj hx).1], by simp [lits]; omega⟩⟩
    · have h0 := lt_of_cell (hcell 0 (by omega))
      obtain ⟨b, o, s⟩ := x
      obtain ⟨hs, hb⟩ := h0
      simp [Addr.add] at hs hb
      subst hs
      refine ⟨b, o, rfl, hb, fun i hi => ?_⟩
      have hc := hcell i (by omega)
      rw [Addr.add_lit] at hc
      exact hc
    · have hm : zs.getD i 0 ∈ zs := by
        rw [List.getD_eq_getElem?_getD, List.getElem?_eq_getElem (by omega)]
        exact List.getElem_mem _
      exact bounds_u8 (hwz _ hm)
end

set_option maxRecDepth 100000 in
theorem lifted (os : Os) (started : os.Started) (H : Type) (enc : TypeId × Value → H) :
    ReturnsInHanded {} Yba.checked os 3 .any (Rows.lawS6332AWholeSpec.pre6 enc Yba.prog Yba.f3 Rows.lawS6332AWholeRow.domain false) (Rows.lawS6332AWholeSpec.post enc Yba.prog Yba.f3 false true false false) := by
  refine returnsInHanded_of_change_sized (C := Yba.checked) own started (by kernel_rfl) Yba.func3
    (ChangeSpec.witness6 (enc := enc) (C := Yba.checked) false ⟨#[], #[.slice none 0 0, .slice none 0 0, .slice none 0 0, .slice none 0 0], []⟩ 8 (by kernel_rfl) (by kernel_rfl) (by kernel_rfl) (by kernel_rfl)) ?_
  intro W base args ds gs before hval0 hW hcnd hsz0 _
  have hsz : (DataW.weightsEach Yba.prog (Yba.f3.params.toList ++ Rows.lawS6332AWholeSpec.plain.varTypes Yba.prog) (ds ++ gs)).all (· ≤ reachBytes) = true := hsz0
  have hval : ∀ (j : Nat) t v, Yba.f3.params[j]? = some t → args[j]? = some v → Value.okWide Yba.prog W .any base t v := hval0
  have hW' := hW
  obtain ⟨p, q, hA0, hV, rfl, hfz, hnd⟩ := hW
  have hA : DataW.TrodAll enc Yba.prog W 0 (fun _ => true) true Yba.f3.params.toList args.toList ds p := hA0
  rw [Yba.params3] at hA hval hsz
  obtain ⟨v0, vs0, d0, ds0, p0, q0, hargs, rfl, rfl, h0, r0⟩ := trodAll_cons hA
  obtain ⟨v1, vs1, d1, ds1, p1, q1, rfl, rfl, rfl, h1, r1⟩ := trodAll_cons r0
  obtain ⟨v2, vs2, d2, ds2, p2, q2, rfl, rfl, rfl, h2, r2⟩ := trodAll_cons r1
  obtain ⟨v3, vs3, d3, ds3, p3, q3, rfl, rfl, rfl, h3, r3⟩ := trodAll_cons r2
  obtain ⟨rfl, rfl, rfl⟩ := trodAll_nil r3
  obtain rfl : args = #[v0, v1, v2, v3] := by cases args; simp_all
  obtain ⟨rfl, rfl⟩ := trodVars_none hV
  obtain ⟨a0, len0, cap0, rfl⟩ := okWide_slice Yba.underlying22 (hval 0 22 v0 rfl rfl)
  obtain ⟨a1, len1, cap1, rfl⟩ := okWide_slice Yba.underlying23 (hval 1 23 v1 rfl rfl)
  obtain ⟨a2, len2, cap2, rfl⟩ := okWide_slice Yba.underlying22 (hval 2 22 v2 rfl rfl)
  obtain ⟨a3, len3, cap3, rfl⟩ := okWide_slice Yba.underlying23 (hval 3 23 v3 rfl rfl)
  have lt0 : ∀ x ∈ p0, x.block < W.heap.size := by obtain ⟨m, hm⟩ := h0; exact DataW.trod_lt m _ _ _ hm
  have lt1 : ∀ x ∈ p1, x.block < W.heap.size := by obtain ⟨m, hm⟩ := h1; exact DataW.trod_lt m _ _ _ hm
  have lt2 : ∀ x ∈ p2, x.block < W.heap.size := by obtain ⟨m, hm⟩ := h2; exact DataW.trod_lt m _ _ _ hm
  have lt3 : ∀ x ∈ p3, x.block < W.heap.size := by obtain ⟨m, hm⟩ := h3; exact DataW.trod_lt m _ _ _ hm
  obtain ⟨Z0, hZ0, hw0, e0⟩ := pairs_of h0
  obtain ⟨U, hU, hwu, e1⟩ := bytes_of h1
  obtain ⟨Z2, hZ2, hw2, e2⟩ := pairs_of h2
  obtain ⟨X, hX, hwx, e3⟩ := bytes_of h3
  have b0 : len0 ≤ 140737488355328 := by
    rcases e0 with e | ⟨el, sp, rfl, hl⟩
    · omega
    · have := sized_slice hsz (j := 0) (t := 22) (e := 26) rfl rfl Yba.underlying22
      rw [bytes26] at this; simp only [reachBytes] at this; omega
  have b1 : len1 ≤ 140737488355328 := by
    rcases e1 with e | ⟨el, sp, rfl, hl⟩
    · omega
    · have := sized_slice hsz (j := 1) (t := 23) (e := 5) rfl rfl Yba.underlying23
      rw [bytes5] at this; simp only [reachBytes] at this; omega
  have b2 : len2 ≤ 140737488355328 := by
    rcases e2 with e | ⟨el, sp, rfl, hl⟩
    · omega
    · have := sized_slice hsz (j := 2) (t := 22) (e := 26) rfl rfl Yba.underlying22
      rw [bytes26] at this; simp only [reachBytes] at this; omega
  have b3 : len3 ≤ 140737488355328 := by
    rcases e3 with e | ⟨el, sp, rfl, hl⟩
    · omega
    · have := sized_slice hsz (j := 3) (t := 23) (e := 5) rfl rfl Yba.underlying23
      rw [bytes5] at this; simp only [reachBytes] at this; omega
  clear hA0 hval0 hsz hsz0
  have walk : Calls Yba.prog 3 #[.slice a0 len0 cap0, .slice a1 len1 cap1, .slice a2 len2 cap2, .slice a3 len3 cap3] W fun e w' => e = .returned (.bool true) ∧ Below W.heap.size W w' := by
    by_cases hsum : len0 + len1 + len2 + len3 ≤ 1048576
    · exact law_walk a0 a1 a2 a3 len0 len1 len2 len3 cap0 cap1 cap2 cap3 Z0 Z2 U X W hsum hZ0 hU hZ2 hX hw2 hwx
    · exact law_big a0 a1 a2 a3 len0 len1 len2 len3 cap0 cap1 cap2 cap3 W (by omega) b0 b1 b2 b3
  refine walk.mono fun e W' ⟨he, bel⟩ => ?_
  subst he
  exact ⟨_, rfl, _, _, _, [], _, [], hW', trodAll_mk1 (shut_bool Yba.underlying4 _), (trodAll_cons_mk (Below.trod laidOut (by kernel_rfl) (of_decide_eq_true (by kernel_rfl)) h0 bel lt0) (trodAll_cons_mk (Below.trod laidOut (by kernel_rfl) (of_decide_eq_true (by kernel_rfl)) h1 bel lt1) (trodAll_cons_mk (Below.trod laidOut (by kernel_rfl) (of_decide_eq_true (by kernel_rfl)) h2 bel lt2) (trodAll_cons_mk (Below.trod laidOut (by kernel_rfl) (of_decide_eq_true (by kernel_rfl)) h3 bel lt3) trodAll_mk0)))), rfl, bel.frame _, fun h => by cases h⟩

theorem over : Rows.lawS6332AWholeRow.holds Yba.pinned (OpenSpec.ofChange Rows.lawS6332AWholeSpec) :=
  OpenClaim.holds_of_wide 3 Yba.f3 rfl rfl rfl rfl rfl rfl rfl ⟨rfl, rfl, rfl, rfl, rfl⟩ rfl rfl rfl rfl rfl (by kernel_rfl) Yba.func3 (by kernel_rfl)
    (of_decide_eq_true (by kernel_rfl)) (by unfold Func.isWrapper; first | (rw [if_pos (by decide +kernel)]; kernel_rfl) | (rw [if_neg (by decide +kernel)]; exact ⟨rfl, rfl⟩))
    (fun os started H enc _ => lifted os started H enc)

/-- ████ THE STATEMENT ████ -/
theorem proved : Rows.LawS6332AWholeSaid := over
#print axioms proved
end Go.Proofs.Ybulkeaco.lawS6332AWhole
