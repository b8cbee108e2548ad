import Derived.Test.YbulkeacaC1
namespace Go.Proofs.Ybulkeaca.CW
open Go.RowKit Go.Proofs.Ybulkeaca.Kit

/-! ### pointers to blocks, compared -/
def IsCells (W : World) (b : Nat) : Prop := ∃ c t, W.heap[b]? = some (.cells c t (0, 0))
abbrev pt (b : Nat) : Value := .pointer (some ⟨b, 0, none⟩)

theorem equal_ptr {t te : TypeId} (hp : Yba.prog.underlying t = some (.pointer te)) (hi : (Yba.prog.info? te).map (fun j => j.size != 0) = some true) (b c : Nat) (W : World) (hb : IsCells W b) (hc : IsCells W c) : (Op.equal t (pt b) (pt c)).run Yba.prog W = .ok (decide (b = c)) W := by
  obtain ⟨j, hj, hs⟩ := Option.map_eq_some_iff.1 hi
  simp at hs
  by_cases e : b = c
  · subst e
    have h : ∀ d : Nat, (Op.equalIn (d + 1) t (pt b) (pt b)).run Yba.prog W = .ok true W := fun d => by
      simp [Op.equalIn, run_underlying hp, sizeOf, typeInfo, hj, run_sameAddr_same]
    simp [Op.equal, Op.maxDepth, h 9999]
  · obtain ⟨ca, ta, ha⟩ := hb
    obtain ⟨cb, tb, hb⟩ := hc
    have h : ∀ d : Nat, (Op.equalIn (d + 1) t (pt b) (pt c)).run Yba.prog W = .ok false W := fun d => by
      simp [Op.equalIn, run_underlying hp, sizeOf, typeInfo, hj, hs, run_sameAddr_other W (a := ⟨b, 0, none⟩) (b := ⟨c, 0, none⟩) (fun h => e (by cases h; rfl)) ha hb]
    simp [Op.equal, Op.maxDepth, h 9999, e]
theorem equal27 (b c : Nat) (W : World) (hb : IsCells W b) (hc : IsCells W c) : (Op.equal 27 (pt b) (pt c)).run Yba.prog W = .ok (decide (b = c)) W := equal_ptr Yba.underlying27 (by kernel_rfl) b c W hb hc
theorem equal88 (b c : Nat) (W : World) (hb : IsCells W b) (hc : IsCells W c) : (Op.equal 88 (pt b) (pt c)).run Yba.prog W = .ok (decide (b = c)) W := equal_ptr Yba.underlying88 (by kernel_rfl) b c W hb hc
theorem eql27 (b c : Nat) (W : World) (hb : IsCells W b) (hc : IsCells W c) : (binOp .eql 27 (pt b) (pt c)).run Yba.prog W = .ok (.bool (decide (b = c))) W := by
  simp [binOp, equal27 b c W hb hc]
theorem neq27 (b c : Nat) (W : World) (hb : IsCells W b) (hc : IsCells W c) : (binOp .neq 27 (pt b) (pt c)).run Yba.prog W = .ok (.bool (!decide (b = c))) W := by
  simp [binOp, equal27 b c W hb hc]
theorem neq88 (b c : Nat) (W : World) (hb : IsCells W b) (hc : IsCells W c) : (binOp .neq 88 (pt b) (pt c)).run Yba.prog W = .ok (.bool (!decide (b = c))) W := by
  simp [binOp, equal88 b c W hb hc]

/-! ### a map keyed by such pointers -/
def findQ (b : Nat) : List (Nat × Value) → Nat → Option (Nat × Value)
  | [], _ => none
  | (c, v) :: r, i => if b = c then some (i, v) else findQ b r (i + 1)
def EntriesAre (es : List MapEntry) (ps : List (Nat × Value)) : Prop := es.map (fun e => (e.key, e.val)) = ps.map (fun p => (pt p.1, p.2))

theorem run_findAsking (b : Nat) (W : World) (hb : IsCells W b) : ∀ (es : List MapEntry) (ps : List (Nat × Value)) (i : Nat), EntriesAre es ps → (∀ p ∈ ps, IsCells W p.1) → (Instr.findAsking 27 (pt b) es i).run Yba.prog W = .ok (findQ b ps i) W
  | [], ps, i, h, _ => by
    cases ps with
    | nil => simp [Instr.findAsking, findQ]
    | cons p ps => simp [EntriesAre] at h
  | e :: es, ps, i, h, hc => by
    cases ps with
    | nil => simp [EntriesAre] at h
    | cons p ps =>
      simp only [EntriesAre, List.map_cons, List.cons.injEq, Prod.mk.injEq] at h
      obtain ⟨⟨h1, h2⟩, h3⟩ := h
      have ih := run_findAsking b W hb es ps (i + 1) h3 (fun p hp => hc p (by simp [hp]))
      have he := equal27 b p.1 W hb (hc p (by simp))
      unfold Instr.findAsking
      rw [h1]
      simp only [Sem.run_bind, he, Result.andThen]
      by_cases e : b = p.1
      · simp [e, h2, findQ]
      · simp [e, findQ, ih]
theorem run_findKey27 (b : Nat) (W : World) (hb : IsCells W b) (es : List MapEntry) (ps : List (Nat × Value)) (h : EntriesAre es ps) (hc : ∀ p ∈ ps, IsCells W p.1) : (Instr.findKey 27 (pt b) es).run Yba.prog W = .ok (findQ b ps 0) W := by
  cases es with
  | nil =>
    cases ps with
    | nil => simp [Instr.findKey, run_underlying Yba.underlying27, Instr.findNow, findQ, Result.andThen]
    | cons p ps => simp [EntriesAre] at h
  | cons e es =>
    have := run_findAsking b W hb (e :: es) ps 0 h hc
    simp [Instr.findKey, run_underlying Yba.underlying27, Instr.findNow, Instr.sameNow, Result.andThen, this]
theorem run_checkKey27 (b : Nat) (W : World) (em : Bool) (n : Nat) : (Instr.checkKey em (n + 1) 27 (pt b)).run Yba.prog W = .ok () W := by
  unfold Instr.checkKey
  simp [run_underlying Yba.underlying27, Result.andThen]
def lookV (r : Option (Nat × Value)) : Value := match r with | some (_, v) => v | none => .agg #[.pointer none, .int .i64 0]
theorem run_lookup53 (mb b : Nat) (W : World) (es : Array MapEntry) (ck : Nat) (ps : List (Nat × Value)) (hm : W.heap[mb]? = some (.map es ck)) (hb : IsCells W b) (h : EntriesAre es.toList ps) (hc : ∀ p ∈ ps, IsCells W p.1) (ok : Bool) :
    (Instr.lookup 53 (.map (some mb)) (pt b) ok).run Yba.prog W = .ok (if ok then .tuple #[lookV (findQ b ps 0), .bool (findQ b ps 0).isSome] else lookV (findQ b ps 0)) W := by
  have hg : (getObj mb).run Yba.prog W = .ok (.map es ck) W := by simp [getObj, Sem.run, hm]
  have hf := run_findKey27 b W hb es.toList ps h hc
  have hk := fun em => run_checkKey27 b W em 9999
  simp only [Instr.lookup, Sem.run_bind, run_underlying Yba.underlying53, Result.andThen, hg, Sem.run_pure, hk, hf]
  cases hq : findQ b ps 0 with
  | none => simp [lookV, Result.andThen]
  | some r => cases ok <;> simp [lookV]
theorem run_mapUpdate53 (mb b : Nat) (v : Value) (W : World) (es : Array MapEntry) (ck : Nat) (ps : List (Nat × Value)) (hm : W.heap[mb]? = some (.map es ck)) (hb : IsCells W b) (h : EntriesAre es.toList ps) (hc : ∀ p ∈ ps, IsCells W p.1) (hn : findQ b ps 0 = none) :
    (Instr.mapUpdate 53 (.map (some mb)) (pt b) v).run Yba.prog W = .ok () { W with heap := W.heap.setIfInBounds mb (.map (es.push { key := pt b, val := v, born := ck }) (ck + 1)) } := by
  have hg : (getObj mb).run Yba.prog W = .ok (.map es ck) W := by simp [getObj, Sem.run, hm]
  have hs : ∀ o, (setObj mb o).run Yba.prog W = .ok () { W with heap := W.heap.setIfInBounds mb o } := fun o => by simp [setObj, Sem.run, hm]
  have hf := run_findKey27 b W hb es.toList ps h hc
  have hk := fun em => run_checkKey27 b W em 9999
  simp only [Instr.mapUpdate, Sem.run_bind, run_underlying Yba.underlying53, Result.andThen, hg, hk, hf, hn, hs]
theorem EntriesAre.push {es : Array MapEntry} {ps : List (Nat × Value)} (h : EntriesAre es.toList ps) (b : Nat) (v : Value) (ck : Nat) : EntriesAre (es.push { key := pt b, val := v, born := ck }).toList (ps ++ [(b, v)]) := by
  unfold EntriesAre at *
  simp [h]
theorem EntriesAre.length {es : Array MapEntry} {ps : List (Nat × Value)} (h : EntriesAre es.toList ps) : es.size = ps.length := by
  have := congrArg List.length h
  simpa using this

theorem findQ_none {b : Nat} : ∀ {ps : List (Nat × Value)} {i : Nat}, (∀ p ∈ ps, p.1 ≠ b) → findQ b ps i = none
  | [], _, _ => rfl
  | p :: ps, i, h => by
    have h1 : b ≠ p.1 := fun e => h p (by simp) e.symm
    simp only [findQ, if_neg h1]
    exact findQ_none (fun q hq => h q (by simp [hq]))
/-- keys all different: what is found is what lies under the key -/
theorem findQ_some {b : Nat} {v : Value} : ∀ {ps : List (Nat × Value)} {i : Nat}, (b, v) ∈ ps → (∀ u, (b, u) ∈ ps → u = v) → ∃ j, findQ b ps i = some (j, v)
  | [], _, h, _ => by simp at h
  | p :: ps, i, h, hu => by
    by_cases e : b = p.1
    · refine ⟨i, ?_⟩
      have : p.2 = v := hu p.2 (by rw [e]; simp)
      simp [findQ, e, this]
    · have h' : (b, v) ∈ ps := by
        simp at h; rcases h with rfl | h
        · exact absurd rfl e
        · exact h
      simp only [findQ, if_neg e]
      exact findQ_some h' (fun u hu' => hu u (by simp [hu']))

/-! ### the element types that are appended -/
theorem elemOk_of {P : Program} {t e : TypeId} {sz bytes : Nat} {z : Value} (h1 : P.underlying t = some (.slice e)) (h2 : (P.info? e).map (fun i => (i.zero, i.size, i.bytes)) = some (some z, sz, bytes)) (hb : bytes ≤ 1000) (hz : z.cells.size = sz) (hp : 0 < sz) : ElemOk P t e sz := by
  obtain ⟨i, hi, hz', rfl, rfl⟩ := info_parts h2
  exact ⟨i, z, h1, hi, hz', rfl, hb, hz, hp⟩
theorem elem26 : ElemOk Yba.prog 26 27 1 := elemOk_of (z := .pointer none) (bytes := 8) Yba.underlying26 (by kernel_rfl) (by decide) rfl (by decide)
theorem elem74 : ElemOk Yba.prog 74 78 2 := elemOk_of (z := .agg #[.string .empty, .int .i64 0]) (bytes := 24) Yba.underlying74 (by kernel_rfl) (by decide) rfl (by decide)
theorem elem56 : ElemOk Yba.prog 56 3 1 := elemOk_of (z := .int .i64 0) (bytes := 8) Yba.underlying56 (by kernel_rfl) (by decide) rfl (by decide)
theorem elem95 : ElemOk Yba.prog 95 99 5 := elemOk_of (z := .agg #[.pointer none, .int .i64 0, .int .i64 0, .string .empty, .int .i64 0]) (bytes := 48) Yba.underlying95 (by kernel_rfl) (by decide) rfl (by decide)
theorem elem73 : ElemOk Yba.prog 73 80 5 := elemOk_of (z := .agg #[.int .i64 0, .int .i64 0, .int .i64 0, .string .empty, .int .i64 0]) (bytes := 48) Yba.underlying73 (by kernel_rfl) (by decide) rfl (by decide)
theorem elem71 : ElemOk Yba.prog 71 76 3 := elemOk_of (z := .agg #[.slice none 0 0, .slice none 0 0, .slice none 0 0]) (bytes := 72) Yba.underlying71 (by kernel_rfl) (by decide) rfl (by decide)
theorem elem72 : ElemOk Yba.prog 72 88 1 := elemOk_of (z := .pointer none) (bytes := 8) Yba.underlying72 (by kernel_rfl) (by decide) rfl (by decide)
end Go.Proofs.Ybulkeaca.CW
