/-
  THE PROOF OF 'Rows.LawS6331BWholeSaid': the frame after the guide's shells (howto/shells/, worked-widy), turned to this function by hand.
-/
import Derived.Test.YbulkeacaE12
import Derived.Test.YbulkeacaRows
import Derived.ProofKit
import Derived.OpenShut
import Derived.ShutString
import Derived.ChangeOld
import Derived.SizedLaws
import Derived.Deep.SlicePairs
namespace Go.Proofs.Ybulkeaca.lawS6331BWhole
open Go.ChangeShapes Go.WideShapes Go.ChangeAt Go.RowKit Go.Proofs.Ybulkeaca.CW
set_option linter.unusedVariables false

theorem own : ownKnob Yba.prog.godebug = none := by kernel_rfl
theorem laidOut : laidOutB Yba.prog = true := by kernel_rfl
theorem bytes5 : Yba.prog.bytesOf 5 = 1 := by kernel_rfl

section
variable {H : Type} {enc : TypeId × Value → H} {P : Program} {W : World} {base : Nat} {spare : Nat → Bool} {held : Bool}

theorem lt_of_cell {x : Addr} {v : Value} (h : W.cell? x = some v) : x.spot = none ∧ x.block < W.heap.size := ⟨World.cell?_spot h, World.block_lt_of_cell? W x h⟩

/-- A slice of structs of four one-cell fields, opened at every index. -/
theorem open_quads {t e : TypeId} {f0 f1 f2 f3 : Field} {fuel : Nat} {cs : List Value} {x : DataW H × List MemPlace} (ht : P.underlying t = some (.slice e)) (he : P.underlying e = some (.struct #[f0, f1, f2, f3]))
    (ce : P.cellsOf e = 4) (o0 : f0.offset = 0) (o1 : f1.offset = 1) (o2 : f2.offset = 2) (o3 : f3.offset = 3) (c0 : P.cellsOf f0.type = 1) (c1 : P.cellsOf f1.type = 1) (c2 : P.cellsOf f2.type = 1) (c3 : P.cellsOf f3.type = 1)
    (h : DataW.trod enc P W base spare held fuel t cs = some x) :
    (cs = [.slice none 0 0] ∧ x = (.nil, [])) ∨
    ∃ (a : Addr) (len cap m n : Nat) (q : Nat → Value × Value × Value × Value × (DataW H × List MemPlace) × (DataW H × List MemPlace) × (DataW H × List MemPlace) × (DataW H × List MemPlace)) (rest : List (DataW H)) (pl : List MemPlace),
      cs = [.slice (some a) len cap] ∧ len ≤ m ∧ x = (.slice ((List.range len).map fun i => .agg [(q i).2.2.2.2.1.1, (q i).2.2.2.2.2.1.1, (q i).2.2.2.2.2.2.1.1, (q i).2.2.2.2.2.2.2.1]) rest, pl) ∧
      ∀ i, i < m → W.cell? (a.add (i * 4)) = some (q i).1 ∧ W.cell? (a.add (i * 4 + 1)) = some (q i).2.1 ∧ W.cell? (a.add (i * 4 + 2)) = some (q i).2.2.1 ∧ W.cell? (a.add (i * 4 + 3)) = some (q i).2.2.2.1 ∧
        DataW.trod enc P W base spare held n f0.type [(q i).1] = some (q i).2.2.2.2.1 ∧ DataW.trod enc P W base spare held n f1.type [(q i).2.1] = some (q i).2.2.2.2.2.1 ∧ DataW.trod enc P W base spare held n f2.type [(q i).2.2.1] = some (q i).2.2.2.2.2.2.1 ∧ DataW.trod enc P W base spare held n f3.type [(q i).2.2.2.1] = some (q i).2.2.2.2.2.2.2 := by
  rcases Deep.open_slice ht h with h0 | ⟨a, len, cap, m, n, D, Pl, rfl, hb, hl, hm, hmm, rfl, hx⟩
  · exact Or.inl h0
  right
  have hlm : len ≤ m := by rw [hmm]; split <;> omega
  have each : ∀ i, i < m → ∃ q : Value × Value × Value × Value × (DataW H × List MemPlace) × (DataW H × List MemPlace) × (DataW H × List MemPlace) × (DataW H × List MemPlace), (W.cell? (a.add (i * 4)) = some q.1 ∧ W.cell? (a.add (i * 4 + 1)) = some q.2.1 ∧ W.cell? (a.add (i * 4 + 2)) = some q.2.2.1 ∧ W.cell? (a.add (i * 4 + 3)) = some q.2.2.2.1 ∧
        DataW.trod enc P W base spare held (n - 1) f0.type [q.1] = some q.2.2.2.2.1 ∧ DataW.trod enc P W base spare held (n - 1) f1.type [q.2.1] = some q.2.2.2.2.2.1 ∧ DataW.trod enc P W base spare held (n - 1) f2.type [q.2.2.1] = some q.2.2.2.2.2.2.1 ∧ DataW.trod enc P W base spare held (n - 1) f3.type [q.2.2.2.1] = some q.2.2.2.2.2.2.2) ∧ D i = .agg [q.2.2.2.2.1.1, q.2.2.2.2.2.1.1, q.2.2.2.2.2.2.1.1, q.2.2.2.2.2.2.2.1] := by
    intro i hi
    obtain ⟨cs', h1, h2⟩ := hx i hi
    rw [ce] at h1
    obtain ⟨_, hlen, hcell⟩ := World.cells?_some h1
    obtain ⟨xs, k, hk, hxy, _, hxl, hf⟩ := DataW.trod_struct he h2
    have hk' : k = n - 1 := by omega
    subst hk'
    match xs, hxl, cs', hlen with
    | [y0, y1, y2, y3], _, [v0, v1, v2, v3], _ =>
      have g0 := hf 0 f0 rfl
      have g1 := hf 1 f1 rfl
      have g2 := hf 2 f2 rfl
      have g3 := hf 3 f3 rfl
      simp [o0, o1, o2, o3, c0, c1, c2, c3] at g0 g1 g2 g3
      have e0 := hcell 0 (by omega)
      have e1 := hcell 1 (by omega)
      have e2 := hcell 2 (by omega)
      have e3 := hcell 3 (by omega)
      rw [Deep.add_add] at e0 e1 e2 e3
      simp only [Prod.mk.injEq] at hxy
      exact ⟨(v0, v1, v2, v3, y0, y1, y2, y3), ⟨by simpa using e0, by simpa using e1, by simpa using e2, by simpa using e3, g0, g1, g2, g3⟩, by simpa using hxy.1⟩
  obtain ⟨q, hq⟩ := Deep.choose_lt each
  refine ⟨a, len, cap, m, n - 1, q, (List.range (m - len)).map fun j => D (len + j), MemPlace.row a (m * P.cellsOf e) ++ (List.range m).flatMap Pl, rfl, hlm, ?_, fun i hi => (hq i hi).1⟩
  rw [List.map_congr_left (fun i hi => (hq i (by have := List.mem_range.1 hi; omega)).2)]

/-- one slice of bytes, by its cell -/
theorem bytes_of {fuel : Nat} {v : Value} {x : DataW H × List MemPlace} (h : DataW.trod enc Yba.prog W base (fun _ => true) held fuel 23 [v] = some x) :
    ∃ r : Option Addr × Nat × Nat × (Nat → Int), v = .slice r.1 r.2.1 r.2.2.1 ∧ BytesAt W r.1 r.2.1 r.2.2.2 ∧ (∀ i, i < r.2.1 → 0 ≤ r.2.2.2 i ∧ r.2.2.2 i ≤ 255) ∧ ((r.2.1 = 0) ∨ ∃ elems sp, x.1 = .slice elems sp ∧ elems.length = r.2.1) := by
  rcases open_ints Yba.underlying23 Yba.underlying5 (by kernel_rfl) h with ⟨hcs, _⟩ | ⟨a, l, c, zs, hcs, _, hl, hm, hz, hx, hcell, hwz⟩
  · simp at hcs
    exact ⟨(none, 0, 0, fun _ => 0), hcs, fun h => by simp at h, fun i hi => by simp at hi, .inl rfl⟩
  · simp at hcs
    simp only [if_true] at hz
    refine ⟨(some a, l, c, fun i => zs.getD i 0), hcs, fun hpos => ?_, fun i hi => ?_, .inr ⟨_, _, by rw [hx], by simp [lits]; omega⟩⟩
    · have hpos : 0 < l := hpos
      have h0 := lt_of_cell (hcell 0 (by omega))
      obtain ⟨b, o, s⟩ := a
      obtain ⟨hs, hb⟩ := h0
      simp [Addr.add] at hs hb
      subst hs
      refine ⟨b, o, rfl, fun i hi => ?_⟩
      have hi : i < l := hi
      have hc := hcell i (by omega)
      rw [Addr.add_lit] at hc
      exact hc
    · have hi : i < l := hi
      have hm : zs.getD i 0 ∈ zs := by
        rw [List.getD_eq_getElem?_getD, List.getElem?_eq_getElem (by omega)]
        exact List.getElem_mem _
      exact bounds_u8 (hwz _ hm)

/-- What the walk is told of the steps. -/
theorem steps_of {a : Option Addr} {len cap : Nat} {d : DataW H} {p : List MemPlace} (h : DataW.Trod enc Yba.prog W base (fun _ => true) held 22 (.slice a len cap) d p) :
    ∃ (La : Nat → Option Addr) (Ln Lc : Nat → Nat) (U : Nat → Nat → Int) (Mk Rc Li : Nat → Int), StepsAt W a len La Ln Lc U Mk Rc Li ∧
      (len = 0 ∨ ∃ (D0 D1 D2 D3 : Nat → DataW H) (rest : List (DataW H)), d = .slice ((List.range len).map fun i => .agg [D0 i, D1 i, D2 i, D3 i]) rest ∧ ∀ i, i < len → (Ln i = 0 ∨ ∃ elems sp, D0 i = .slice elems sp ∧ elems.length = Ln i)) := by
  obtain ⟨fuel, hf⟩ := h
  rcases open_quads (f0 := (Yba.prog.fieldsOf 25)[0]!) (f1 := (Yba.prog.fieldsOf 25)[1]!) (f2 := (Yba.prog.fieldsOf 25)[2]!) (f3 := (Yba.prog.fieldsOf 25)[3]!) Yba.underlying22 (by kernel_rfl) (by kernel_rfl) (by kernel_rfl) (by kernel_rfl) (by kernel_rfl) (by kernel_rfl) (by kernel_rfl) (by kernel_rfl) (by kernel_rfl) (by kernel_rfl) hf with ⟨hcs, _⟩ | ⟨x, l, c, m, fu, q, rest, pl, hcs, hlm, hx, hcell⟩
  · simp [Value.cells] at hcs
    obtain ⟨rfl, rfl, rfl⟩ := hcs
    exact ⟨fun _ => none, fun _ => 0, fun _ => 0, fun _ _ => 0, fun _ => 0, fun _ => 0, fun _ => 0, ⟨fun h => by omega, fun k hk => by omega, fun k i hk => by omega, fun k hk => by omega, fun k hk => by omega, fun k hk => by omega⟩, .inl rfl⟩
  · simp [Value.cells] at hcs
    obtain ⟨rfl, rfl, rfl⟩ := hcs
    have key : ∀ i, i < len → ∃ z : (Option Addr × Nat × Nat × (Nat → Int)) × Int × Int × Int, (q i).1 = .slice z.1.1 z.1.2.1 z.1.2.2.1 ∧ (q i).2.1 = .int .u8 z.2.1 ∧ (q i).2.2.1 = .int .i32 z.2.2.1 ∧ (q i).2.2.2.1 = .int .i32 z.2.2.2 ∧ BytesAt W z.1.1 z.1.2.1 z.1.2.2.2 ∧ (∀ j, j < z.1.2.1 → 0 ≤ z.1.2.2.2 j ∧ z.1.2.2.2 j ≤ 255) ∧ (z.1.2.1 = 0 ∨ ∃ elems sp, (q i).2.2.2.2.1.1 = .slice elems sp ∧ elems.length = z.1.2.1) ∧ (0 ≤ z.2.1 ∧ z.2.1 ≤ 255) ∧ (-2147483648 ≤ z.2.2.1 ∧ z.2.2.1 ≤ 2147483647) ∧ (-2147483648 ≤ z.2.2.2 ∧ z.2.2.2 ≤ 2147483647) := by
      intro i hi
      obtain ⟨_, _, _, _, g0, g1, g2, g3⟩ := hcell i (by omega)
      rw [show (Yba.prog.fieldsOf 25)[0]!.type = 23 from by kernel_rfl] at g0
      obtain ⟨r, e0, hb, hu, hd⟩ := bytes_of g0
      obtain ⟨n1, e1, _, wn1⟩ := DataW.trod_int (k := .u8) (t := (Yba.prog.fieldsOf 25)[1]!.type) (by kernel_rfl) g1
      obtain ⟨n2, e2, _, wn2⟩ := DataW.trod_int (k := .i32) (t := (Yba.prog.fieldsOf 25)[2]!.type) (by kernel_rfl) g2
      obtain ⟨n3, e3, _, wn3⟩ := DataW.trod_int (k := .i32) (t := (Yba.prog.fieldsOf 25)[3]!.type) (by kernel_rfl) g3
      exact ⟨(r, n1, n2, n3), e0, by simpa using e1, by simpa using e2, by simpa using e3, hb, hu, hd, bounds_u8 wn1, bounds_i32 wn2, bounds_i32 wn3⟩
    obtain ⟨Z, hZ⟩ := Deep.choose_lt key
    refine ⟨fun k => (Z k).1.1, fun k => (Z k).1.2.1, fun k => (Z k).1.2.2.1, fun k => (Z k).1.2.2.2, fun k => (Z k).2.1, fun k => (Z k).2.2.1, fun k => (Z k).2.2.2, ⟨fun hpos => ?_, fun k hk => (hZ k hk).2.2.2.2.1, fun k i hk hi => (hZ k hk).2.2.2.2.2.1 i hi, fun k hk => (hZ k hk).2.2.2.2.2.2.2.1, fun k hk => (hZ k hk).2.2.2.2.2.2.2.2.1, fun k hk => (hZ k hk).2.2.2.2.2.2.2.2.2⟩, .inr ⟨_, _, _, _, rest, (Prod.mk.inj hx).1, fun i hi => (hZ i hi).2.2.2.2.2.2.1⟩⟩
    have h0 := lt_of_cell (hcell 0 (by omega)).1
    obtain ⟨b, o, s⟩ := x
    obtain ⟨hs, hb⟩ := h0
    simp [Addr.add] at hs hb
    subst hs
    refine ⟨b, o, rfl, hb, fun k hk => ?_⟩
    obtain ⟨k0, k1, k2, k3, _⟩ := hcell k (by omega)
    obtain ⟨z0, z1, z2, z3, _⟩ := hZ k hk
    rw [Addr.add_lit] at k0 k1 k2 k3
    exact ⟨by rw [k0, z0], by rw [Nat.add_assoc, k1, z1], by rw [Nat.add_assoc, k2, z2], by rw [Nat.add_assoc, k3, z3]⟩

/-- a weight of one element is a weight of the row -/
theorem weights_all {e : TypeId} {x : DataW H} {n : Nat} (hn : n ∈ x.weights P e) : ∀ {ds : List (DataW H)}, x ∈ ds → n ∈ DataW.weightsAll P e ds
  | [], h => by simp at h
  | d :: ds, h => by
    simp only [DataW.weightsAll, List.mem_append]
    rcases List.mem_cons.1 h with rfl | h
    · exact .inl hn
    · exact .inr (weights_all hn h)
theorem inner_sized {ds : List (DataW H)} {len i : Nat} {D0 D1 D2 D3 : Nat → DataW H} {rest elems sp : List (DataW H)} (h : (DataW.weightsEach Yba.prog [22] ds).all (· ≤ reachBytes) = true) (hd : ds[0]? = some (.slice ((List.range len).map fun i => .agg [D0 i, D1 i, D2 i, D3 i]) rest)) (hi : i < len) (he : D0 i = .slice elems sp) : elems.length ≤ 140737488355328 := by
  have hm : (elems.length + sp.length) * Yba.prog.bytesOf 5 ∈ DataW.weights Yba.prog 22 (.slice ((List.range len).map fun i => .agg [D0 i, D1 i, D2 i, D3 i]) rest) := by
    simp only [DataW.weights, Yba.underlying22, List.mem_cons, List.mem_append]
    refine .inr (.inl (weights_all (x := .agg [D0 i, D1 i, D2 i, D3 i]) ?_ (List.mem_map.2 ⟨i, List.mem_range.2 hi, rfl⟩)))
    have hu : Yba.prog.underlying 25 = some (.struct #[(Yba.prog.fieldsOf 25)[0]!, (Yba.prog.fieldsOf 25)[1]!, (Yba.prog.fieldsOf 25)[2]!, (Yba.prog.fieldsOf 25)[3]!]) := by kernel_rfl
    rw [DataW.weights, hu]
    simp only [List.map_cons, DataW.weightsEach, List.mem_append]
    rw [show (Yba.prog.fieldsOf 25)[0]!.type = 23 from by kernel_rfl, he]
    refine .inl ?_
    simp [DataW.weights, Yba.underlying23]
  have := List.all_eq_true.1 h _ (DataW.weights_mem_each (j := 0) (t := 22) rfl hd _ hm)
  simp [bytes5, reachBytes] at this
  omega
end

set_option maxRecDepth 100000 in
theorem lifted (os : Os) (started : os.Started) (H : Type) (enc : TypeId × Value → H) :
    ReturnsInHanded {} Yba.checked os 3 .any (Rows.lawS6331BWholeSpec.pre6 enc Yba.prog Yba.f3 Rows.lawS6331BWholeRow.domain false) (Rows.lawS6331BWholeSpec.post enc Yba.prog Yba.f3 false true false false) := by
  refine returnsInHanded_of_change_sized (C := Yba.checked) own started (by kernel_rfl) Yba.func3
    (ChangeSpec.witness6 (enc := enc) (C := Yba.checked) false ⟨#[], #[.slice none 0 0], []⟩ 8 (by kernel_rfl) (by kernel_rfl) (by kernel_rfl) (by kernel_rfl)) ?_
  intro W base args ds gs before hval0 hW hcnd hsz0 _
  have hsz : (DataW.weightsEach Yba.prog (Yba.f3.params.toList ++ Rows.lawS6331BWholeSpec.plain.varTypes Yba.prog) (ds ++ gs)).all (· ≤ reachBytes) = true := hsz0
  have hval : ∀ (j : Nat) t v, Yba.f3.params[j]? = some t → args[j]? = some v → Value.okWide Yba.prog W .any base t v := hval0
  have hW' := hW
  obtain ⟨p, q, hA0, hV, rfl, hfz, hnd⟩ := hW
  have hA : DataW.TrodAll enc Yba.prog W 0 (fun _ => true) true Yba.f3.params.toList args.toList ds p := hA0
  rw [Yba.params3] at hA hval hsz
  obtain ⟨v0, vs0, d0, ds0, p0, q0, hargs, rfl, rfl, h0, r0⟩ := trodAll_cons hA
  obtain ⟨rfl, rfl, rfl⟩ := trodAll_nil r0
  obtain rfl : args = #[v0] := by cases args; simp_all
  obtain ⟨rfl, rfl⟩ := trodVars_none hV
  obtain ⟨a0, len0, cap0, rfl⟩ := okWide_slice Yba.underlying22 (hval 0 22 v0 rfl rfl)
  have lt0 : ∀ x ∈ p0, x.block < W.heap.size := by obtain ⟨m, hm⟩ := h0; exact DataW.trod_lt m _ _ _ hm
  obtain ⟨La, Ln, Lc, U, Mk, Rc, Li, hS, e0⟩ := steps_of h0
  have hL : ∀ k, k < len0 → Ln k ≤ 140737488355328 := by
    rcases e0 with e | ⟨D0, D1, D2, D3, rest, rfl, hd⟩
    · intro k hk; omega
    · intro k hk
      rcases hd k hk with e | ⟨el, sp, he, hl⟩
      · omega
      · rw [← hl]; exact inner_sized hsz rfl hk he
  clear hA0 hval0 hsz hsz0
  have walk : Calls Yba.prog 3 #[.slice a0 len0 cap0] W fun e w' => e = .returned (.bool true) ∧ Below W.heap.size W w' := law_any a0 len0 cap0 La Ln Lc U Mk Rc Li W hS hL
  refine walk.mono fun e W' ⟨he, bel⟩ => ?_
  subst he
  exact ⟨_, rfl, _, _, _, [], _, [], hW', trodAll_mk1 (shut_bool Yba.underlying4 _), trodAll_cons_mk (Below.trod laidOut (by kernel_rfl) (of_decide_eq_true (by kernel_rfl)) h0 bel lt0) trodAll_mk0, rfl, bel.frame _, fun h => by cases h⟩

theorem over : Rows.lawS6331BWholeRow.holds Yba.pinned (OpenSpec.ofChange Rows.lawS6331BWholeSpec) :=
  OpenClaim.holds_of_wide 3 Yba.f3 rfl rfl rfl rfl rfl rfl rfl ⟨rfl, rfl, rfl, rfl, rfl⟩ rfl rfl rfl rfl rfl (by kernel_rfl) Yba.func3 (by kernel_rfl)
    (of_decide_eq_true (by kernel_rfl)) (by unfold Func.isWrapper; first | (rw [if_pos (by decide +kernel)]; kernel_rfl) | (rw [if_neg (by decide +kernel)]; exact ⟨rfl, rfl⟩))
    (fun os started H enc _ => lifted os started H enc)

/-- ████ THE STATEMENT ████ -/
theorem proved : Rows.LawS6331BWholeSaid := over
#print axioms proved
end Go.Proofs.Ybulkeaca.lawS6331BWhole
