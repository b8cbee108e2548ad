import Derived.Test.YbulkeafuA3
import Derived.Test.YbulkeafuA3e
namespace Go.Proofs.Ybulkeafu.TW
open Go.RowKit Go.Proofs.Ybulkeafu.Kit Go.Proofs.Ybulkeafu.BW

theorem run_copy_wide {P : Program} (w : World) (dT sT ty elem : TypeId) (g n dCap : Nat) (h sCap : Nat) (cur : Array Value) (t t' : TypeId) (cs : List Value) (sz : Nat)
    (hu : P.underlying dT = some (.slice elem)) (hs : (P.info? elem).map (·.size) = some sz)
    (hg : w.heap[g]? = some (.cells cur t (0, 0))) (hh : Row w h t' cs) (hn : cs.length = n * sz) (hc : cur.size = n * sz) (h1 : ∀ v ∈ cs, v.oneCell' = true) :
    (Builtin.copy_ #[dT, sT] ty #[.slice (some ⟨g, 0, none⟩) n dCap, .slice (some ⟨h, 0, none⟩) n sCap]).run P w = .ok (goInt n) (w.setRow g cs.toArray) := by
  have hl := run_loadCells_list (P := P) w ⟨h, 0, none⟩ cs (fun j v hv => by
    have hadd : (⟨h, 0, none⟩ : Addr).add j = ⟨h, j, none⟩ := by unfold Addr.add; split <;> simp_all
    rw [hadd]; exact hh.cell hv)
  have hst := run_storeCells_at P g 0 t cs 0 cur w hg (by simp; omega) h1
  have hd : cur.toList.drop cs.length = [] := List.drop_eq_nil_of_le (by simp; omega)
  cases hq : P.info? elem with
  | none => simp [hq] at hs
  | some i =>
    have hi : i.size = sz := by simpa [hq] using hs
    simp [hd] at hst
    simp [Builtin.copy_, run_underlying hu, Builtin.lenOf, Builtin.firstCells, sizeOf, typeInfo, hq, hi, ← hn, hl, hst]
/-- 'copy' of a whole row over another of its length, whatever an element's size. -/
theorem wpList_copy_wide {P : Program} {w : World} {ops : Array Oper} {rest : List Oper} {o : Oper} {a : Act} {Q : Exit → Act → World → Prop} (hgd : o.guard = none) (d s : Operand) (dT sT : TypeId)
    (ho : o.op = .call { callee := .builtin .copy, args := #[d, s], argTypes := #[dT, sT] }) (elem : TypeId) (sz : Nat) (hu : P.underlying dT = some (.slice elem)) (hsz : (P.info? elem).map (·.size) = some sz)
    (g n dCap h sCap : Nat) (hd : a.eval d = .slice (some ⟨g, 0, none⟩) n dCap) (hs : a.eval s = .slice (some ⟨h, 0, none⟩) n sCap)
    (cur : List Value) (t t' : TypeId) (hg : Row w g t cur) (cs : List Value) (hh : Row w h t' cs) (hn : cs.length = n * sz) (hc : cur.length = n * sz) (h1 : ∀ v ∈ cs, v.oneCell' = true)
    (hK : ∀ w', Row w' g t cs → w'.heap.size = w.heap.size → Keeps [g] w w' → wpList P ops Q rest (a.put o.dst (goInt n)) w') : wpList P ops Q (o :: rest) a w := by
  refine wpList_plain hgd fun K hK' => ?_
  have hrun := run_copy_wide (P := P) w dT sT o.type elem g n dCap h sCap cur.toArray t t' cs sz hu hsz hg hh hn (by simpa using hc) h1
  unfold Oper.wp
  simp [execOp, ho, resolve, invoke, builtin, hd, hs, hrun, Result.andThen]
  exact hK' _ _ (hK _ (setRow_heap w g cur.toArray _ t (0, 0) hg) (by simp [World.setRow]) (Keeps.setRow _ _ _))

def HeldAt (w : World) (a : Option Addr) (n mb : Nat) (H : Nat → Int) : Prop :=
  0 < n → ∃ b o, a = some ⟨b, o, none⟩ ∧ b < mb ∧ b < w.heap.size ∧ ∀ i, i < n → w.cell? ⟨b, o + i, none⟩ = some (.int .u16 (H (i + 1)))

theorem makeCells40 (n : Nat) : (madeCells #[Value.float .f64 0, .float .f64 0, .int .i64 0, .int .i64 0] (n * 4)).toList = rowF (n * 4) (momF (fun _ => 0) fun _ => 0) := by
  apply List.ext_getElem
  · simp [madeCells, rowF]
  · intro i h1 h2
    simp [madeCells, rowF, momF]
    have : i % 4 < 4 := Nat.mod_lt _ (by omega)
    rcases (show i % 4 = 0 ∨ i % 4 = 1 ∨ i % 4 = 2 ∨ i % 4 = 3 by omega) with h | h | h | h <;> simp [h]

theorem zero3 (n : Nat) : madeCells #[Value.int .i64 0] n = (rowF n fun _ => Value.int .i64 0).toArray := by
  apply Array.ext'
  rw [madeCells_one]
  simp [rowF, List.map_const']
def Made (w : World) (n : Nat) (wc : World) : Prop :=
  ∃ lb rb pb, Row wc (w.heap.size + 1) 34 (tcells w.heap.size lb rb (n + 1) 0 (.slice (some ⟨pb, 0, none⟩) (n + 1) (n + 1)) .nilFunc .nilFunc (.pointer none) (.slice none 0 0)) ∧ Row wc w.heap.size 40 (rowF ((n + 1) * 4) (momF (fun _ => 0) fun _ => 0)) ∧
    Row wc lb 3 (rowF (n + 1) fun _ => .int .i64 0) ∧ Row wc rb 3 (rowF (n + 1) fun _ => .int .i64 0) ∧ Keeps [] w wc ∧ w.heap.size + 1 < lb ∧ w.heap.size + 1 < rb ∧ lb ≠ rb
theorem three {W : World} {s : Nat} (hs : W.heap.size = s + 2) (c1 c2 c3 : List Value) (t1 t2 t3 : TypeId) :
    Row (((W.alloc (.cells c1.toArray t1)).alloc (.cells c2.toArray t2)).alloc (.cells c3.toArray t3)).drew (s + 2) t1 c1 ∧ Row (((W.alloc (.cells c1.toArray t1)).alloc (.cells c2.toArray t2)).alloc (.cells c3.toArray t3)).drew (s + 2 + 1) t2 c2 ∧
      Row (((W.alloc (.cells c1.toArray t1)).alloc (.cells c2.toArray t2)).alloc (.cells c3.toArray t3)).drew (s + 2 + 1 + 1) t3 c3 :=
  ⟨(((Row.new' W t1 c1 hs).alloc _).alloc _).drew, ((Row.new' _ t2 c2 (by simp [hs])).alloc _).drew, (Row.new' _ t3 c3 (by simp [hs])).drew⟩

theorem fill7 {w w2 : World} {n : Nat} {x y z : Value} (st2 : Row w2 (w.heap.size + 1) 34 [.slice (some ⟨w.heap.size, 0, none⟩) (n + 1) (n + 1), .int .i64 0, .slice none 0 0, .slice none 0 0, .slice none 0 0, .nilFunc, .nilFunc, .pointer none, .slice none 0 0]) (sm2 : Row w2 w.heap.size 40 (rowF ((n + 1) * 4) (momF (fun _ => 0) fun _ => 0))) (sk2 : Keeps [] w w2) (hs2 : w2.heap.size = w.heap.size + 2) {W : World}
    (hW : W = ((((((w2.setCell ⟨w.heap.size + 1, 1, none⟩ (.int .i64 0)).setCell ⟨w.heap.size + 1, 2, none⟩ x).setCell ⟨w.heap.size + 1, 3, none⟩ y).setCell ⟨w.heap.size + 1, 4, none⟩ z).setCell ⟨w.heap.size + 1, 5, none⟩ .nilFunc).setCell ⟨w.heap.size + 1, 6, none⟩ .nilFunc).setCell ⟨w.heap.size + 1, 7, none⟩ (.pointer none)) :
    Row W (w.heap.size + 1) 34 [.slice (some ⟨w.heap.size, 0, none⟩) (n + 1) (n + 1), .int .i64 0, x, y, z, .nilFunc, .nilFunc, .pointer none, .slice none 0 0] ∧ Row W w.heap.size 40 (rowF ((n + 1) * 4) (momF (fun _ => 0) fun _ => 0)) ∧ Keeps [] w W ∧ W.heap.size = w.heap.size + 2 := by
  subst hW
  exact ⟨((((((st2.set 1 _).set 2 _).set 3 _).set 4 _).set 5 _).set 6 _).set 7 _, ((((((sm2.other (by simp) _).other (by simp) _).other (by simp) _).other (by simp) _).other (by simp) _).other (by simp) _).other (by simp) _,
    ((((((sk2.setCell (.inr (by simp)) _).setCell (.inr (by simp)) _).setCell (.inr (by simp)) _).setCell (.inr (by simp)) _).setCell (.inr (by simp)) _).setCell (.inr (by simp)) _).setCell (.inr (by simp)) _, by simpa [World.setCell] using hs2⟩
theorem zerosTo (n : Nat) : (rowF n fun _ => Value.int .i64 0).toArray = madeCells #[Value.int .i64 0] n := (zero3 n).symm
theorem made_lrp {w w2 : World} {n : Nat} (st2 : Row w2 (w.heap.size + 1) 34 [.slice (some ⟨w.heap.size, 0, none⟩) (n + 1) (n + 1), .int .i64 0, .slice none 0 0, .slice none 0 0, .slice none 0 0, .nilFunc, .nilFunc, .pointer none, .slice none 0 0]) (sm2 : Row w2 w.heap.size 40 (rowF ((n + 1) * 4) (momF (fun _ => 0) fun _ => 0))) (sk2 : Keeps [] w w2) (hs2 : w2.heap.size = w.heap.size + 2) :
    Made w n (((((((((((w2.setCell ⟨w.heap.size + 1, 1, none⟩ (.int .i64 0)).setCell ⟨w.heap.size + 1, 2, none⟩ (.slice (some ⟨w.heap.size + 2, 0, none⟩) (n + 1) (n + 1))).setCell ⟨w.heap.size + 1, 3, none⟩ (.slice (some ⟨w.heap.size + 2 + 1, 0, none⟩) (n + 1) (n + 1))).setCell ⟨w.heap.size + 1, 4, none⟩ (.slice (some ⟨w.heap.size + 2 + 1 + 1, 0, none⟩) (n + 1) (n + 1))).setCell ⟨w.heap.size + 1, 5, none⟩ .nilFunc).setCell ⟨w.heap.size + 1, 6, none⟩ .nilFunc).setCell ⟨w.heap.size + 1, 7, none⟩ (.pointer none)).alloc (.cells (madeCells #[.int .i64 0] (n + 1)) 3)).alloc (.cells (madeCells #[.int .i64 0] (n + 1)) 3)).alloc (.cells (madeCells #[.int .u64 0] (n + 1)) 108)).drew) := by
  obtain ⟨h1, h2, h3, h4⟩ := fill7 (x := (.slice (some ⟨w.heap.size + 2, 0, none⟩) (n + 1) (n + 1))) (y := (.slice (some ⟨w.heap.size + 2 + 1, 0, none⟩) (n + 1) (n + 1))) (z := (.slice (some ⟨w.heap.size + 2 + 1 + 1, 0, none⟩) (n + 1) (n + 1))) st2 sm2 sk2 hs2 rfl
  generalize (((((((w2.setCell ⟨w.heap.size + 1, 1, none⟩ (.int .i64 0)).setCell ⟨w.heap.size + 1, 2, none⟩ (.slice (some ⟨w.heap.size + 2, 0, none⟩) (n + 1) (n + 1))).setCell ⟨w.heap.size + 1, 3, none⟩ (.slice (some ⟨w.heap.size + 2 + 1, 0, none⟩) (n + 1) (n + 1))).setCell ⟨w.heap.size + 1, 4, none⟩ (.slice (some ⟨w.heap.size + 2 + 1 + 1, 0, none⟩) (n + 1) (n + 1))).setCell ⟨w.heap.size + 1, 5, none⟩ .nilFunc).setCell ⟨w.heap.size + 1, 6, none⟩ .nilFunc).setCell ⟨w.heap.size + 1, 7, none⟩ (.pointer none)) = W at *
  have h5 := (three h4 (rowF (n + 1) fun _ => Value.int .i64 0) (rowF (n + 1) fun _ => Value.int .i64 0) (madeCells #[Value.int .u64 0] (n + 1)).toList 3 3 108)
  rw [zerosTo] at h5
  exact ⟨w.heap.size + 2, w.heap.size + 2 + 1, w.heap.size + 2 + 1 + 1, (((h1.alloc _).alloc _).alloc _).drew, (((h2.alloc _).alloc _).alloc _).drew, h5.1, h5.2.1, (((h3.alloc _).alloc _).alloc _).drew, by omega, by omega, by omega⟩
theorem made_lpr {w w2 : World} {n : Nat} (st2 : Row w2 (w.heap.size + 1) 34 [.slice (some ⟨w.heap.size, 0, none⟩) (n + 1) (n + 1), .int .i64 0, .slice none 0 0, .slice none 0 0, .slice none 0 0, .nilFunc, .nilFunc, .pointer none, .slice none 0 0]) (sm2 : Row w2 w.heap.size 40 (rowF ((n + 1) * 4) (momF (fun _ => 0) fun _ => 0))) (sk2 : Keeps [] w w2) (hs2 : w2.heap.size = w.heap.size + 2) :
    Made w n (((((((((((w2.setCell ⟨w.heap.size + 1, 1, none⟩ (.int .i64 0)).setCell ⟨w.heap.size + 1, 2, none⟩ (.slice (some ⟨w.heap.size + 2, 0, none⟩) (n + 1) (n + 1))).setCell ⟨w.heap.size + 1, 3, none⟩ (.slice (some ⟨w.heap.size + 2 + 1 + 1, 0, none⟩) (n + 1) (n + 1))).setCell ⟨w.heap.size + 1, 4, none⟩ (.slice (some ⟨w.heap.size + 2 + 1, 0, none⟩) (n + 1) (n + 1))).setCell ⟨w.heap.size + 1, 5, none⟩ .nilFunc).setCell ⟨w.heap.size + 1, 6, none⟩ .nilFunc).setCell ⟨w.heap.size + 1, 7, none⟩ (.pointer none)).alloc (.cells (madeCells #[.int .i64 0] (n + 1)) 3)).alloc (.cells (madeCells #[.int .u64 0] (n + 1)) 108)).alloc (.cells (madeCells #[.int .i64 0] (n + 1)) 3)).drew) := by
  obtain ⟨h1, h2, h3, h4⟩ := fill7 (x := (.slice (some ⟨w.heap.size + 2, 0, none⟩) (n + 1) (n + 1))) (y := (.slice (some ⟨w.heap.size + 2 + 1 + 1, 0, none⟩) (n + 1) (n + 1))) (z := (.slice (some ⟨w.heap.size + 2 + 1, 0, none⟩) (n + 1) (n + 1))) st2 sm2 sk2 hs2 rfl
  generalize (((((((w2.setCell ⟨w.heap.size + 1, 1, none⟩ (.int .i64 0)).setCell ⟨w.heap.size + 1, 2, none⟩ (.slice (some ⟨w.heap.size + 2, 0, none⟩) (n + 1) (n + 1))).setCell ⟨w.heap.size + 1, 3, none⟩ (.slice (some ⟨w.heap.size + 2 + 1 + 1, 0, none⟩) (n + 1) (n + 1))).setCell ⟨w.heap.size + 1, 4, none⟩ (.slice (some ⟨w.heap.size + 2 + 1, 0, none⟩) (n + 1) (n + 1))).setCell ⟨w.heap.size + 1, 5, none⟩ .nilFunc).setCell ⟨w.heap.size + 1, 6, none⟩ .nilFunc).setCell ⟨w.heap.size + 1, 7, none⟩ (.pointer none)) = W at *
  have h5 := (three h4 (rowF (n + 1) fun _ => Value.int .i64 0) (madeCells #[Value.int .u64 0] (n + 1)).toList (rowF (n + 1) fun _ => Value.int .i64 0) 3 108 3)
  rw [zerosTo] at h5
  exact ⟨w.heap.size + 2, w.heap.size + 2 + 1 + 1, w.heap.size + 2 + 1, (((h1.alloc _).alloc _).alloc _).drew, (((h2.alloc _).alloc _).alloc _).drew, h5.1, h5.2.2, (((h3.alloc _).alloc _).alloc _).drew, by omega, by omega, by omega⟩
theorem made_rlp {w w2 : World} {n : Nat} (st2 : Row w2 (w.heap.size + 1) 34 [.slice (some ⟨w.heap.size, 0, none⟩) (n + 1) (n + 1), .int .i64 0, .slice none 0 0, .slice none 0 0, .slice none 0 0, .nilFunc, .nilFunc, .pointer none, .slice none 0 0]) (sm2 : Row w2 w.heap.size 40 (rowF ((n + 1) * 4) (momF (fun _ => 0) fun _ => 0))) (sk2 : Keeps [] w w2) (hs2 : w2.heap.size = w.heap.size + 2) :
    Made w n (((((((((((w2.setCell ⟨w.heap.size + 1, 1, none⟩ (.int .i64 0)).setCell ⟨w.heap.size + 1, 2, none⟩ (.slice (some ⟨w.heap.size + 2 + 1, 0, none⟩) (n + 1) (n + 1))).setCell ⟨w.heap.size + 1, 3, none⟩ (.slice (some ⟨w.heap.size + 2, 0, none⟩) (n + 1) (n + 1))).setCell ⟨w.heap.size + 1, 4, none⟩ (.slice (some ⟨w.heap.size + 2 + 1 + 1, 0, none⟩) (n + 1) (n + 1))).setCell ⟨w.heap.size + 1, 5, none⟩ .nilFunc).setCell ⟨w.heap.size + 1, 6, none⟩ .nilFunc).setCell ⟨w.heap.size + 1, 7, none⟩ (.pointer none)).alloc (.cells (madeCells #[.int .i64 0] (n + 1)) 3)).alloc (.cells (madeCells #[.int .i64 0] (n + 1)) 3)).alloc (.cells (madeCells #[.int .u64 0] (n + 1)) 108)).drew) := by
  obtain ⟨h1, h2, h3, h4⟩ := fill7 (x := (.slice (some ⟨w.heap.size + 2 + 1, 0, none⟩) (n + 1) (n + 1))) (y := (.slice (some ⟨w.heap.size + 2, 0, none⟩) (n + 1) (n + 1))) (z := (.slice (some ⟨w.heap.size + 2 + 1 + 1, 0, none⟩) (n + 1) (n + 1))) st2 sm2 sk2 hs2 rfl
  generalize (((((((w2.setCell ⟨w.heap.size + 1, 1, none⟩ (.int .i64 0)).setCell ⟨w.heap.size + 1, 2, none⟩ (.slice (some ⟨w.heap.size + 2 + 1, 0, none⟩) (n + 1) (n + 1))).setCell ⟨w.heap.size + 1, 3, none⟩ (.slice (some ⟨w.heap.size + 2, 0, none⟩) (n + 1) (n + 1))).setCell ⟨w.heap.size + 1, 4, none⟩ (.slice (some ⟨w.heap.size + 2 + 1 + 1, 0, none⟩) (n + 1) (n + 1))).setCell ⟨w.heap.size + 1, 5, none⟩ .nilFunc).setCell ⟨w.heap.size + 1, 6, none⟩ .nilFunc).setCell ⟨w.heap.size + 1, 7, none⟩ (.pointer none)) = W at *
  have h5 := (three h4 (rowF (n + 1) fun _ => Value.int .i64 0) (rowF (n + 1) fun _ => Value.int .i64 0) (madeCells #[Value.int .u64 0] (n + 1)).toList 3 3 108)
  rw [zerosTo] at h5
  exact ⟨w.heap.size + 2 + 1, w.heap.size + 2, w.heap.size + 2 + 1 + 1, (((h1.alloc _).alloc _).alloc _).drew, (((h2.alloc _).alloc _).alloc _).drew, h5.2.1, h5.1, (((h3.alloc _).alloc _).alloc _).drew, by omega, by omega, by omega⟩
theorem made_rpl {w w2 : World} {n : Nat} (st2 : Row w2 (w.heap.size + 1) 34 [.slice (some ⟨w.heap.size, 0, none⟩) (n + 1) (n + 1), .int .i64 0, .slice none 0 0, .slice none 0 0, .slice none 0 0, .nilFunc, .nilFunc, .pointer none, .slice none 0 0]) (sm2 : Row w2 w.heap.size 40 (rowF ((n + 1) * 4) (momF (fun _ => 0) fun _ => 0))) (sk2 : Keeps [] w w2) (hs2 : w2.heap.size = w.heap.size + 2) :
    Made w n (((((((((((w2.setCell ⟨w.heap.size + 1, 1, none⟩ (.int .i64 0)).setCell ⟨w.heap.size + 1, 2, none⟩ (.slice (some ⟨w.heap.size + 2 + 1 + 1, 0, none⟩) (n + 1) (n + 1))).setCell ⟨w.heap.size + 1, 3, none⟩ (.slice (some ⟨w.heap.size + 2, 0, none⟩) (n + 1) (n + 1))).setCell ⟨w.heap.size + 1, 4, none⟩ (.slice (some ⟨w.heap.size + 2 + 1, 0, none⟩) (n + 1) (n + 1))).setCell ⟨w.heap.size + 1, 5, none⟩ .nilFunc).setCell ⟨w.heap.size + 1, 6, none⟩ .nilFunc).setCell ⟨w.heap.size + 1, 7, none⟩ (.pointer none)).alloc (.cells (madeCells #[.int .i64 0] (n + 1)) 3)).alloc (.cells (madeCells #[.int .u64 0] (n + 1)) 108)).alloc (.cells (madeCells #[.int .i64 0] (n + 1)) 3)).drew) := by
  obtain ⟨h1, h2, h3, h4⟩ := fill7 (x := (.slice (some ⟨w.heap.size + 2 + 1 + 1, 0, none⟩) (n + 1) (n + 1))) (y := (.slice (some ⟨w.heap.size + 2, 0, none⟩) (n + 1) (n + 1))) (z := (.slice (some ⟨w.heap.size + 2 + 1, 0, none⟩) (n + 1) (n + 1))) st2 sm2 sk2 hs2 rfl
  generalize (((((((w2.setCell ⟨w.heap.size + 1, 1, none⟩ (.int .i64 0)).setCell ⟨w.heap.size + 1, 2, none⟩ (.slice (some ⟨w.heap.size + 2 + 1 + 1, 0, none⟩) (n + 1) (n + 1))).setCell ⟨w.heap.size + 1, 3, none⟩ (.slice (some ⟨w.heap.size + 2, 0, none⟩) (n + 1) (n + 1))).setCell ⟨w.heap.size + 1, 4, none⟩ (.slice (some ⟨w.heap.size + 2 + 1, 0, none⟩) (n + 1) (n + 1))).setCell ⟨w.heap.size + 1, 5, none⟩ .nilFunc).setCell ⟨w.heap.size + 1, 6, none⟩ .nilFunc).setCell ⟨w.heap.size + 1, 7, none⟩ (.pointer none)) = W at *
  have h5 := (three h4 (rowF (n + 1) fun _ => Value.int .i64 0) (madeCells #[Value.int .u64 0] (n + 1)).toList (rowF (n + 1) fun _ => Value.int .i64 0) 3 108 3)
  rw [zerosTo] at h5
  exact ⟨w.heap.size + 2 + 1 + 1, w.heap.size + 2, w.heap.size + 2 + 1, (((h1.alloc _).alloc _).alloc _).drew, (((h2.alloc _).alloc _).alloc _).drew, h5.2.2, h5.1, (((h3.alloc _).alloc _).alloc _).drew, by omega, by omega, by omega⟩
theorem made_plr {w w2 : World} {n : Nat} (st2 : Row w2 (w.heap.size + 1) 34 [.slice (some ⟨w.heap.size, 0, none⟩) (n + 1) (n + 1), .int .i64 0, .slice none 0 0, .slice none 0 0, .slice none 0 0, .nilFunc, .nilFunc, .pointer none, .slice none 0 0]) (sm2 : Row w2 w.heap.size 40 (rowF ((n + 1) * 4) (momF (fun _ => 0) fun _ => 0))) (sk2 : Keeps [] w w2) (hs2 : w2.heap.size = w.heap.size + 2) :
    Made w n (((((((((((w2.setCell ⟨w.heap.size + 1, 1, none⟩ (.int .i64 0)).setCell ⟨w.heap.size + 1, 2, none⟩ (.slice (some ⟨w.heap.size + 2 + 1, 0, none⟩) (n + 1) (n + 1))).setCell ⟨w.heap.size + 1, 3, none⟩ (.slice (some ⟨w.heap.size + 2 + 1 + 1, 0, none⟩) (n + 1) (n + 1))).setCell ⟨w.heap.size + 1, 4, none⟩ (.slice (some ⟨w.heap.size + 2, 0, none⟩) (n + 1) (n + 1))).setCell ⟨w.heap.size + 1, 5, none⟩ .nilFunc).setCell ⟨w.heap.size + 1, 6, none⟩ .nilFunc).setCell ⟨w.heap.size + 1, 7, none⟩ (.pointer none)).alloc (.cells (madeCells #[.int .u64 0] (n + 1)) 108)).alloc (.cells (madeCells #[.int .i64 0] (n + 1)) 3)).alloc (.cells (madeCells #[.int .i64 0] (n + 1)) 3)).drew) := by
  obtain ⟨h1, h2, h3, h4⟩ := fill7 (x := (.slice (some ⟨w.heap.size + 2 + 1, 0, none⟩) (n + 1) (n + 1))) (y := (.slice (some ⟨w.heap.size + 2 + 1 + 1, 0, none⟩) (n + 1) (n + 1))) (z := (.slice (some ⟨w.heap.size + 2, 0, none⟩) (n + 1) (n + 1))) st2 sm2 sk2 hs2 rfl
  generalize (((((((w2.setCell ⟨w.heap.size + 1, 1, none⟩ (.int .i64 0)).setCell ⟨w.heap.size + 1, 2, none⟩ (.slice (some ⟨w.heap.size + 2 + 1, 0, none⟩) (n + 1) (n + 1))).setCell ⟨w.heap.size + 1, 3, none⟩ (.slice (some ⟨w.heap.size + 2 + 1 + 1, 0, none⟩) (n + 1) (n + 1))).setCell ⟨w.heap.size + 1, 4, none⟩ (.slice (some ⟨w.heap.size + 2, 0, none⟩) (n + 1) (n + 1))).setCell ⟨w.heap.size + 1, 5, none⟩ .nilFunc).setCell ⟨w.heap.size + 1, 6, none⟩ .nilFunc).setCell ⟨w.heap.size + 1, 7, none⟩ (.pointer none)) = W at *
  have h5 := (three h4 (madeCells #[Value.int .u64 0] (n + 1)).toList (rowF (n + 1) fun _ => Value.int .i64 0) (rowF (n + 1) fun _ => Value.int .i64 0) 108 3 3)
  rw [zerosTo] at h5
  exact ⟨w.heap.size + 2 + 1, w.heap.size + 2 + 1 + 1, w.heap.size + 2, (((h1.alloc _).alloc _).alloc _).drew, (((h2.alloc _).alloc _).alloc _).drew, h5.2.1, h5.2.2, (((h3.alloc _).alloc _).alloc _).drew, by omega, by omega, by omega⟩
theorem made_prl {w w2 : World} {n : Nat} (st2 : Row w2 (w.heap.size + 1) 34 [.slice (some ⟨w.heap.size, 0, none⟩) (n + 1) (n + 1), .int .i64 0, .slice none 0 0, .slice none 0 0, .slice none 0 0, .nilFunc, .nilFunc, .pointer none, .slice none 0 0]) (sm2 : Row w2 w.heap.size 40 (rowF ((n + 1) * 4) (momF (fun _ => 0) fun _ => 0))) (sk2 : Keeps [] w w2) (hs2 : w2.heap.size = w.heap.size + 2) :
    Made w n (((((((((((w2.setCell ⟨w.heap.size + 1, 1, none⟩ (.int .i64 0)).setCell ⟨w.heap.size + 1, 2, none⟩ (.slice (some ⟨w.heap.size + 2 + 1 + 1, 0, none⟩) (n + 1) (n + 1))).setCell ⟨w.heap.size + 1, 3, none⟩ (.slice (some ⟨w.heap.size + 2 + 1, 0, none⟩) (n + 1) (n + 1))).setCell ⟨w.heap.size + 1, 4, none⟩ (.slice (some ⟨w.heap.size + 2, 0, none⟩) (n + 1) (n + 1))).setCell ⟨w.heap.size + 1, 5, none⟩ .nilFunc).setCell ⟨w.heap.size + 1, 6, none⟩ .nilFunc).setCell ⟨w.heap.size + 1, 7, none⟩ (.pointer none)).alloc (.cells (madeCells #[.int .u64 0] (n + 1)) 108)).alloc (.cells (madeCells #[.int .i64 0] (n + 1)) 3)).alloc (.cells (madeCells #[.int .i64 0] (n + 1)) 3)).drew) := by
  obtain ⟨h1, h2, h3, h4⟩ := fill7 (x := (.slice (some ⟨w.heap.size + 2 + 1 + 1, 0, none⟩) (n + 1) (n + 1))) (y := (.slice (some ⟨w.heap.size + 2 + 1, 0, none⟩) (n + 1) (n + 1))) (z := (.slice (some ⟨w.heap.size + 2, 0, none⟩) (n + 1) (n + 1))) st2 sm2 sk2 hs2 rfl
  generalize (((((((w2.setCell ⟨w.heap.size + 1, 1, none⟩ (.int .i64 0)).setCell ⟨w.heap.size + 1, 2, none⟩ (.slice (some ⟨w.heap.size + 2 + 1 + 1, 0, none⟩) (n + 1) (n + 1))).setCell ⟨w.heap.size + 1, 3, none⟩ (.slice (some ⟨w.heap.size + 2 + 1, 0, none⟩) (n + 1) (n + 1))).setCell ⟨w.heap.size + 1, 4, none⟩ (.slice (some ⟨w.heap.size + 2, 0, none⟩) (n + 1) (n + 1))).setCell ⟨w.heap.size + 1, 5, none⟩ .nilFunc).setCell ⟨w.heap.size + 1, 6, none⟩ .nilFunc).setCell ⟨w.heap.size + 1, 7, none⟩ (.pointer none)) = W at *
  have h5 := (three h4 (madeCells #[Value.int .u64 0] (n + 1)).toList (rowF (n + 1) fun _ => Value.int .i64 0) (rowF (n + 1) fun _ => Value.int .i64 0) 108 3 3)
  rw [zerosTo] at h5
  exact ⟨w.heap.size + 2 + 1 + 1, w.heap.size + 2 + 1, w.heap.size + 2, (((h1.alloc _).alloc _).alloc _).drew, (((h2.alloc _).alloc _).alloc _).drew, h5.2.2, h5.2.1, (((h3.alloc _).alloc _).alloc _).drew, by omega, by omega, by omega⟩

theorem info40 : (Yba.prog.info? 40).map (fun i => (i.zero, i.size, i.bytes)) = some (some (.agg #[.float .f64 0, .float .f64 0, .int .i64 0, .int .i64 0]), 4, 32) := by kernel_rfl
theorem info3 : (Yba.prog.info? 3).map (fun i => (i.zero, i.size, i.bytes)) = some (some (.int .i64 0), 1, 8) := by kernel_rfl

theorem info108 : (Yba.prog.info? 108).map (fun i => (i.zero, i.size, i.bytes)) = some (some (.int .u64 0), 1, 8) := by kernel_rfl
theorem make26 (W : World) (n : Nat) (hn : n ≤ 4096) : (Instr.makeSlice 26 (.int .i64 (↑n + 1)) (.int .i64 (↑n + 1))).run Yba.prog W = .ok (.slice (some ⟨W.heap.size, 0, none⟩) (n + 1) (n + 1)) (W.alloc (.cells (madeCells #[.int .i64 0] (n + 1)) 3)) := by
  obtain ⟨i, hi, hz, e1, e2⟩ := info_parts info3
  have h := run_make (P := Yba.prog) W 26 3 i (.int .i64 0) Yba.underlying26 hi hz .i64 .i64 (n + 1) (n + 1) (by omega) (by omega) (by rw [e2]; omega) (by omega)
  rw [e1] at h
  simpa [show ((n : Int) + 1).toNat = n + 1 by omega, Value.cells] using h
theorem make27 (W : World) (n : Nat) (hn : n ≤ 4096) : (Instr.makeSlice 27 (.int .i64 (↑n + 1)) (.int .i64 (↑n + 1))).run Yba.prog W = .ok (.slice (some ⟨W.heap.size, 0, none⟩) (n + 1) (n + 1)) (W.alloc (.cells (madeCells #[.int .u64 0] (n + 1)) 108)) := by
  obtain ⟨i, hi, hz, e1, e2⟩ := info_parts info108
  have h := run_make (P := Yba.prog) W 27 108 i (.int .u64 0) Yba.underlying27 hi hz .i64 .i64 (n + 1) (n + 1) (by omega) (by omega) (by rw [e2]; omega) (by omega)
  rw [e1] at h
  simpa [show ((n : Int) + 1).toNat = n + 1 by omega, Value.cells] using h

end Go.Proofs.Ybulkeafu.TW
