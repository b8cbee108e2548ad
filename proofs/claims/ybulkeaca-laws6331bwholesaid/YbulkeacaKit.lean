import Derived.WalkKit
import Derived.WalkLawsBesides
import Derived.WalkSpells
import Derived.Laws.CopyOwn
import Derived.Deep.QuietTactic
import Derived.BigQuiet
namespace Go.Proofs.Ybulkeaca.Kit
open Go.RowKit

/-! ### A block that the call knows whole: a row of cells, none frozen. A plain 'def': the walk does not look behind it. -/
def Row (w : World) (b : Nat) (t : TypeId) (cs : List Value) : Prop := w.heap[b]? = some (.cells cs.toArray t (0, 0))

theorem Row.lt {w : World} {b : Nat} {t : TypeId} {cs : List Value} (h : Row w b t cs) : b < w.heap.size := lt_of_block h
theorem Row.cell {w : World} {b : Nat} {t : TypeId} {cs : List Value} (h : Row w b t cs) {i : Nat} {v : Value} (hv : cs[i]? = some v) : w.cell? ⟨b, i, none⟩ = some v := by
  unfold Row at h; simp [World.cell?, h, hv]
theorem Row.free {w : World} {b : Nat} {t : TypeId} {cs : List Value} (h : Row w b t cs) (i : Nat) : w.frozen? ⟨b, i, none⟩ = false := by
  unfold Row at h; simp [World.frozen?, h]
theorem Row.set {w : World} {b : Nat} {t : TypeId} {cs : List Value} (h : Row w b t cs) (i : Nat) (v : Value) : Row (w.setCell ⟨b, i, none⟩ v) b t (cs.set i v) := by
  unfold Row at h ⊢
  rw [heap_setCell_same w b i cs.toArray t v h]; simp
theorem Row.other {w : World} {b : Nat} {t : TypeId} {cs : List Value} (h : Row w b t cs) {a : Addr} (ha : b ≠ a.block) (v : Value) : Row (w.setCell a v) b t cs := by
  unfold Row at h ⊢
  rw [Below.heap_setCell w a v b ha]; exact h
theorem Row.alloc {w : World} {b : Nat} {t : TypeId} {cs : List Value} (h : Row w b t cs) (o : Obj) : Row (w.alloc o) b t cs := by
  have hl := h.lt
  unfold Row at h ⊢
  rw [Below.heap_alloc w o b hl]; exact h
theorem Row.drew {w : World} {b : Nat} {t : TypeId} {cs : List Value} (h : Row w b t cs) : Row w.drew b t cs := h
theorem Row.drewN {w : World} {b : Nat} {t : TypeId} {cs : List Value} (h : Row w b t cs) (n : Nat) : Row (w.drewN n) b t cs := h
theorem Row.new (w : World) (t : TypeId) (cs : List Value) : Row (w.alloc (.cells cs.toArray t)) w.heap.size t cs := heap_alloc_new w _
theorem Row.below {w w' : World} {b B : Nat} {t : TypeId} {cs : List Value} (h : Row w b t cs) (hb : Below B w w') (hB : b < B) : Row w' b t cs := by
  unfold Row at h ⊢
  rw [hb.block b hB]; exact h
theorem Below.drewN' {B n : Nat} {a w : World} (h : Below B a w) : Below B a (w.drewN n) := ⟨h.os, h.tape, h.output, h.size, h.block⟩

theorem madeCells_one (z : Value) (n : Nat) : (madeCells #[z] n).toList = List.replicate n z := by
  apply List.ext_getElem
  · simp [madeCells]
  · intro i h1 h2
    simp [madeCells, Nat.mod_one]

/-- 'make([]T, n)' as a law of the walk, the row behind it told whole. -/
theorem wpList_make_row {P : Program} {w : World} {ops : Array Oper} {rest : List Oper} {o : Oper} {a : Act} {Q : Exit → Act → World → Prop}
    (hg : o.guard = none) (l c : Operand) (t : TypeId) (hop : o.op = Op.makeSlice t l c)
    (e : TypeId) (z : Value) (size bytes : Nat) (h1 : P.underlying t = some (.slice e)) (h2 : (P.info? e).map (fun i => (i.zero, i.size, i.bytes)) = some (some z, size, bytes))
    (kl kc : IntKind) (L C : Int) (n : Nat) (hl : a.eval l = .int kl L) (hc : a.eval c = .int kc C) (hL : L = (n : Int)) (hC : C = (n : Int)) (b2 : bytes * n ≤ 281474976710656) (b3 : n ≤ maxLen)
    (hK : ∀ w', Row w' w.heap.size e (madeCells z.cells (n * size)).toList → w'.heap.size = w.heap.size + 1 → Below w.heap.size w w' → wpList P ops Q rest (a.put o.dst (.slice (some ⟨w.heap.size, 0, none⟩) n n)) w') :
    wpList P ops Q (o :: rest) a w := by
  obtain ⟨i, hi, hz, rfl, rfl⟩ := info_parts h2
  refine wpList_plain hg fun K hK' => ?_
  unfold maxLen at b3
  have hb' : (i.bytes : Int) * (n : Int) ≤ 281474976710656 := by
    have h : ((i.bytes * n : Nat) : Int) ≤ 281474976710656 := by omega
    rwa [Int.natCast_mul] at h
  have hrun := run_make (P := P) w t e i z h1 hi hz kl kc n n (by omega) (by omega) hb' (by omega)
  simp only [Int.toNat_natCast] at hrun
  subst hL
  subst hC
  unfold Oper.wp
  simp [execOp, hop, hl, hc, hrun, Result.andThen]
  refine hK' _ _ (hK _ ?_ (by simp) ((Below.refl _ _).alloc (Nat.le_refl _) _))
  have := Row.new w e (madeCells z.cells (n * i.size)).toList
  simpa using this

/-- 'copy(dst, src)', dst at the head of a row known whole, src whatever; the row behind it told whole. -/
theorem wpList_copy_row {P : Program} {w : World} {ops : Array Oper} {rest : List Oper} {o : Oper} {a : Act} {Q : Exit → Act → World → Prop} (hgd : o.guard = none) (d s : Operand) (dT sT : TypeId)
    (ho : o.op = .call { callee := .builtin .copy, args := #[d, s], argTypes := #[dT, sT] }) (elem : TypeId) (z : Value) (bytes : Nat) (hu : P.underlying dT = some (.slice elem)) (h2 : (P.info? elem).map (fun i => (i.zero, i.size, i.bytes)) = some (some z, 1, bytes))
    (dp sp : Option Addr) (dLen dCap sLen sCap : Nat) (hd : a.eval d = .slice dp dLen dCap) (hs : a.eval s = .slice sp sLen sCap)
    (g : Nat) (cur : List Value) (t : TypeId) (hg : Row w g t cur) (cs : List Value) (hn : cs.length = Nat.min sLen dLen)
    (hpos : 0 < cs.length → dp = some ⟨g, 0, none⟩ ∧ ∃ ad, sp = some ad ∧ ∀ j v, cs[j]? = some v → w.cell? (ad.add j) = some v)
    (hfit : cs.length ≤ cur.length) (h1 : ∀ v ∈ cs, v.oneCell' = true)
    (h : ∀ w', Row w' g t (cs ++ cur.drop cs.length) → w'.heap.size = w.heap.size → (∀ b, b ≠ g → w'.heap[b]? = w.heap[b]?) → Below g w w' → wpList P ops Q rest (a.put o.dst (goInt cs.length)) w') :
    wpList P ops Q (o :: rest) a w := by
  have hsz : (P.info? elem).map (·.size) = some 1 := by
    obtain ⟨i, hi, _, e1, _⟩ := info_parts h2
    simp [hi, e1]
  by_cases h0 : cs.length = 0
  · obtain rfl : cs = [] := List.eq_nil_of_length_eq_zero h0
    refine wpList_copy_nothing hgd d s dT sT ho elem hu hsz dp sp dLen dCap sLen sCap hd hs (by simpa using hn.symm) ?_
    exact h w (by simpa using hg) rfl (fun _ _ => rfl) (Below.refl _ _)
  · obtain ⟨rfl, ad, rfl, hsrc⟩ := hpos (by omega)
    refine wpList_copy_own hgd d s dT sT ho elem hu hsz g 0 dLen dCap ad sLen sCap hd hs cur.toArray t hg cs hn hsrc (by simpa using hfit) h1 ?_
    exact h _ (by show _ = _; simpa using setRow_heap w g _ _ t _ hg) (by simp [World.setRow]) (fun b hb => setRow_other w g b _ (by omega)) (below_setRow (Below.refl _ _) (Nat.le_refl _) _)

end Go.Proofs.Ybulkeaca.Kit
