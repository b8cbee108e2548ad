import Derived.Test.YbulkeacoA6
import Derived.Deep.DeepCutAuto
import Derived.Laws.StructEq
import Derived.Laws.BytesString
namespace Go.Proofs.Ybulkeaco.AW
open Go.RowKit Go.Proofs.Ybulkeaco.Kit

/-- A slice of pairs that came in. -/
def PairsAt (w : World) (a : Option Addr) (n : Nat) (Z : Nat → Int × Bool) : Prop :=
  0 < n → ∃ b o, a = some ⟨b, o, none⟩ ∧ b < w.heap.size ∧ ∀ i, i < n → w.cell? ⟨b, o + i * 2, none⟩ = some (.int .i64 (Z i).1) ∧ w.cell? ⟨b, o + i * 2 + 1, none⟩ = some (.bool (Z i).2)
/-- A slice of bytes that came in. -/
def BytesAt (w : World) (a : Option Addr) (n : Nat) (U : Nat → Int) : Prop :=
  0 < n → ∃ b o, a = some ⟨b, o, none⟩ ∧ b < w.heap.size ∧ ∀ i, i < n → w.cell? ⟨b, o + i, none⟩ = some (.int .u8 (U i))

theorem infoPair : (Yba.prog.info? 27).map (fun i => (i.zero, i.size, i.bytes)) = some (some (.agg #[.int .i64 0, .bool false]), 2, 16) := by kernel_rfl

def Vf (la : Nat) (Z : Nat → Int × Bool) (i : Nat) : Int × Bool := if i < la then Z i else (0, false)
def Tf (lt : Nat) (Z : Nat → Int × Bool) (i : Nat) : Int × Bool := if i < lt ∧ (Z i).2 = true then ((Z i).1, true) else (0, false)

theorem val_max {a b : Nat} (h : a = b) : Value.int .i64 (a : Int) = .int .i64 (b : Int) := by rw [h]
theorem made_pairs (n : Nat) : (madeCells #[.int .i64 0, .bool false] (n * 2)).toList = rowF (2 * n) (pairF fun _ => (0, false)) := by
  apply List.ext_getElem?
  intro i
  by_cases hi : i < 2 * n
  · rw [rowF_get hi]
    simp only [madeCells, Array.toList_map, Array.toList_range, List.getElem?_map]
    rw [List.getElem?_range (by omega)]
    simp only [Option.map_some]
    rcases Nat.mod_two_eq_zero_or_one i with h | h
    · simp [pairF, h]
    · simp [pairF, h]
  · rw [List.getElem?_eq_none (by simp [madeCells]; omega), List.getElem?_eq_none (by rw [rowF_length]; omega)]

theorem fill_step (n : Nat) (T : Nat → Int × Bool) (k : Nat) : ((rowF n (pairF fun i => if i < k then T i else (0, false))).set (k * 2) (.int .i64 (T k).1)).set (k * 2 + 1) (.bool (T k).2) = rowF n (pairF fun i => if i < k + 1 then T i else (0, false)) := by
  have := pairF_upd n (fun i => if i < k then T i else (0, false)) (fun i => if i < k + 1 then T i else (0, false)) k (fun i hi => by
    by_cases h : i < k
    · simp [h, show i < k + 1 by omega]
    · simp [h, show ¬ i < k + 1 by omega])
  rw [← this]; simp
theorem fill_skip (n : Nat) (T : Nat → Int × Bool) (k : Nat) (h : T k = (0, false)) : rowF n (pairF fun i => if i < k then T i else (0, false)) = rowF n (pairF fun i => if i < k + 1 then T i else (0, false)) := by
  congr 2
  funext i
  by_cases h1 : i < k
  · simp [h1, show i < k + 1 by omega]
  · by_cases h2 : i = k
    · subst h2; simp [h]
    · simp [h1, show ¬ i < k + 1 by omega]
theorem fill_end (n : Nat) (T : Nat → Int × Bool) : rowF (2 * n) (pairF fun i => if i < n then T i else (0, false)) = rowF (2 * n) (pairF T) := by
  apply rowF_congr
  intro i hi
  unfold pairF
  simp only [show i / 2 < n by omega, if_true]
theorem rowF_one (n : Nat) (U : Nat → Int) : ∀ v ∈ (rowF n fun i => Value.int .u8 (U i)), v.oneCell' = true := by
  intro v hv
  obtain ⟨i, _, rfl⟩ := List.mem_map.1 hv
  rfl
theorem copy_src {w w4 : World} {a1 : Option Addr} {n : Nat} {U : Nat → Int} {d : Option Addr} (h1 : BytesAt w a1 n U) (hk : Keeps [] w w4) : 0 < (rowF n fun i => Value.int .u8 (U i)).length → d = d ∧ ∃ ad, a1 = some ad ∧ ∀ j v, (rowF n fun i => Value.int .u8 (U i))[j]? = some v → w4.cell? (ad.add j) = some v := by
  intro h
  rw [rowF_length] at h
  obtain ⟨b, o, rfl, hbl, hcs⟩ := h1 h
  refine ⟨rfl, _, rfl, fun j v hv => ?_⟩
  have hj : j < n := by have := (List.getElem?_eq_some_iff.1 hv).1; rwa [rowF_length] at this
  rw [rowF_get hj] at hv
  cases hv
  rw [Addr.add_lit]
  exact (hk.cell (p := ⟨b, o + j, none⟩) hbl (by simp)).trans (hcs j hj)

def Xf (lu : Nat) (X : Nat → Int) (i : Nat) : Int := if i < lu then X i else (i : Int) % 2
theorem made_u8 (n : Nat) : (madeCells #[Value.int .u8 0] n).toList = rowF n fun _ => .int .u8 0 := by
  rw [madeCells_one]
  apply List.ext_getElem?
  intro i
  by_cases hi : i < n
  · rw [rowF_get hi]; simp [hi]
  · rw [List.getElem?_eq_none (by simp; omega), List.getElem?_eq_none (by rw [rowF_length]; omega)]
theorem fillX_step (n : Nat) (X : Nat → Int) (k : Nat) : (rowF n fun i => Value.int .u8 (if i < k then X i else 0)).set k (.int .u8 (X k)) = rowF n fun i => .int .u8 (if i < k + 1 then X i else 0) := by
  rw [rowF_set]
  apply rowF_congr
  intro i _
  by_cases h : i = k
  · subst h; simp
  · rw [if_neg h]
    by_cases h2 : i < k
    · simp [h2, show i < k + 1 by omega]
    · simp [h2, show ¬ i < k + 1 by omega]
theorem fillX_end (n : Nat) (X : Nat → Int) : (rowF n fun i => Value.int .u8 (if i < n then X i else 0)) = rowF n fun i => .int .u8 (X i) := by
  apply rowF_congr
  intro i hi
  simp [hi]
theorem ne3 (w : World) (f : Nat) : w.heap.size ≠ (⟨w.heap.size + 3, f, none⟩ : Addr).block := by show w.heap.size ≠ w.heap.size + 3; omega
theorem ne31 (w : World) (f : Nat) : w.heap.size + 1 ≠ (⟨w.heap.size + 3, f, none⟩ : Addr).block := by show w.heap.size + 1 ≠ w.heap.size + 3; omega
theorem ne32 (w : World) (f : Nat) : w.heap.size + 2 ≠ (⟨w.heap.size + 3, f, none⟩ : Addr).block := by show w.heap.size + 2 ≠ w.heap.size + 3; omega
theorem ne40 (w : World) (f : Nat) : w.heap.size ≠ (⟨w.heap.size + 4, f, none⟩ : Addr).block := by show w.heap.size ≠ w.heap.size + 4; omega
theorem ne41 (w : World) (f : Nat) : w.heap.size + 1 ≠ (⟨w.heap.size + 4, f, none⟩ : Addr).block := by show w.heap.size + 1 ≠ w.heap.size + 4; omega
theorem ne42 (w : World) (f : Nat) : w.heap.size + 2 ≠ (⟨w.heap.size + 4, f, none⟩ : Addr).block := by show w.heap.size + 2 ≠ w.heap.size + 4; omega
theorem ne50 (w : World) (f : Nat) : w.heap.size ≠ (⟨w.heap.size + 5, f, none⟩ : Addr).block := by show w.heap.size ≠ w.heap.size + 5; omega
theorem ne51 (w : World) (f : Nat) : w.heap.size + 1 ≠ (⟨w.heap.size + 5, f, none⟩ : Addr).block := by show w.heap.size + 1 ≠ w.heap.size + 5; omega
theorem ne52 (w : World) (f : Nat) : w.heap.size + 2 ≠ (⟨w.heap.size + 5, f, none⟩ : Addr).block := by show w.heap.size + 2 ≠ w.heap.size + 5; omega
theorem ne53 (w : World) (f : Nat) : w.heap.size + 3 ≠ (⟨w.heap.size + 5, f, none⟩ : Addr).block := by show w.heap.size + 3 ≠ w.heap.size + 5; omega
theorem ne54 (w : World) (f : Nat) : w.heap.size + 4 ≠ (⟨w.heap.size + 5, f, none⟩ : Addr).block := by show w.heap.size + 4 ≠ w.heap.size + 5; omega
theorem ne43 (w : World) (f : Nat) : w.heap.size + 3 ≠ (⟨w.heap.size + 4, f, none⟩ : Addr).block := by show w.heap.size + 3 ≠ w.heap.size + 4; omega

def knB (n : Nat) (T : Nat → Int × Bool) : ByteArray := ⟨(vecB ((List.range n).map T)).toArray⟩
def unB (n : Nat) (X : Nat → Int) : ByteArray := ⟨((List.range n).map fun i => (X i).toNat.toUInt8).toArray⟩
theorem Tf_wf {lt : Nat} {Z : Nat → Int × Bool} (h : Hid (∀ i, i < lt → -9223372036854775808 ≤ (Z i).1 ∧ (Z i).1 ≤ 9223372036854775807)) : ∀ i, -9223372036854775808 ≤ (Tf lt Z i).1 ∧ (Tf lt Z i).1 ≤ 9223372036854775807 := by
  intro i
  unfold Tf
  split
  · rename_i hh; exact h.out i hh.1
  · simp
theorem Tf_nm (lt : Nat) (Z : Nat → Int × Bool) (i : Nat) : (Tf lt Z i).2 = false → (Tf lt Z i).1 = 0 := by
  unfold Tf
  split <;> simp
theorem Xf_wf {lu : Nat} {X : Nat → Int} (h : Hid (∀ i, i < lu → 0 ≤ X i ∧ X i ≤ 255)) : ∀ i, 0 ≤ Xf lu X i ∧ Xf lu X i ≤ 255 := by
  intro i
  unfold Xf
  split
  · rename_i hh; exact h.out i hh
  · omega
theorem NewVector_F (p n : Nat) (T : Nat → Int × Bool) (w : World) (h : Row w p 27 (rowF (2 * n) (pairF T))) (hn : n ≤ 1048576) (hwf : ∀ i, -9223372036854775808 ≤ (T i).1 ∧ (T i).1 ≤ 9223372036854775807) :
    Calls Yba.prog 5 #[.slice (some ⟨p, 0, none⟩) n n] w fun e w' => e = .returned (.agg #[.string (knB n T)]) ∧ Keeps [] w w' := by
  by_cases h0 : n = 0
  · subst h0
    exact NewVector_zero _ w
  · have hl : ((List.range n).map T).length = n := by simp
    have := NewVector_pos p ((List.range n).map T) w (by rw [optCells_rowF]; exact h) (by omega) (by omega) (by
      intro o ho
      obtain ⟨i, _, rfl⟩ := List.mem_map.1 ho
      exact hwf i)
    rw [hl] at this
    exact this
theorem push_all (l : List Int) : ∀ r : ByteArray, (l.foldl (fun r n => r.push (UInt8.ofNat n.toNat)) r).data = r.data ++ (l.map fun n => n.toNat.toUInt8).toArray := by
  induction l with
  | nil => intro r; simp
  | cons x l ih =>
    intro r
    rw [List.foldl_cons, ih]
    simp [ByteArray.push, Nat.toUInt8]
theorem conv_F (p n : Nat) (X : Nat → Int) (w : World) (h : Row w p 5 (rowF n fun i => .int .u8 (X i))) (_hx : ∀ i, 0 ≤ X i ∧ X i ≤ 255) :
    (convert 23 9 (.slice (some ⟨p, 0, none⟩) n n)).run Yba.prog w = .ok (.string (unB n X)) w := by
  have hc := run_loadCells_list (P := Yba.prog) w ⟨p, 0, none⟩ (((List.range n).map X).map (Value.int .u8)) (fun j v hv => by
    rw [Addr.add_lit, Nat.zero_add]
    refine h.cell ?_
    rw [← hv, rowF, List.map_map]
    rfl)
  rw [run_convert_bytes_string w 23 9 5 _ _ _ Yba.underlying23 Yba.underlying5 Yba.underlying9]
  rw [run_bytesToString w ⟨p, 0, none⟩ n n ((List.range n).map X) (by simpa using hc)]
  congr 2
  apply ByteArray.ext
  rw [push_all]
  simp [unB]

theorem unB_size (n : Nat) (X : Nat → Int) : (unB n X).size = n := by
  show ((List.range n).map _).toArray.size = n
  simp
def LVf (q : Nat) (U X : Nat → Int) (T V : Nat → Int × Bool) (i : Nat) : Int × Bool := if i < q ∧ U i ≠ 0 ∧ X i = 0 then T i else V i
def LUf (U X : Nat → Int) (i : Nat) : Int := if U i ≠ 0 ∧ X i = 0 then 0 else U i
theorem lrn_F {q : Nat} {U X : Nat → Int} {un : ByteArray} (hX : ∀ i, 0 ≤ X i ∧ X i ≤ 255) (hun : unB q X = un) (i : Nat) (hi : i < q) : lrn U un.data.toList i = true ↔ (U i ≠ 0 ∧ X i = 0) := by
  subst hun
  have e : (unB q X).data.toList.getD i 0 = (X i).toNat.toUInt8 := by simp [unB, hi]
  have hx := hX i
  unfold lrn
  rw [e, Bool.and_eq_true, bne_iff_ne, beq_iff_eq, ← UInt8.toNat_inj]
  have : ((X i).toNat.toUInt8).toNat = (X i).toNat := by simp [Nat.toUInt8]; omega
  rw [this]
  simp only [UInt8.toNat_zero]
  constructor
  · rintro ⟨a, b⟩; exact ⟨a, by omega⟩
  · rintro ⟨a, b⟩; exact ⟨a, by omega⟩
theorem LV_eq {q j nv : Nat} {U X : Nat → Int} {T V : Nat → Int × Bool} {un : ByteArray} (hj : q ≤ j) (hX : ∀ i, 0 ≤ X i ∧ X i ≤ 255) (hun : unB q X = un) :
    rowF (2 * nv) (pairF fun i => if i < q ∧ lrn U un.data.toList i = true then ((List.range j).map T).getD i (0, false) else V i) = rowF (2 * nv) (pairF (LVf q U X T V)) := by
  congr 2
  funext i
  unfold LVf
  by_cases hi : i < q
  · simp only [hi, true_and, lrn_F hX hun i hi]
    have : ((List.range j).map T).getD i (0, false) = T i := by simp [show i < j by omega]
    rw [this]
  · simp [hi]
theorem LU_eq {q : Nat} {U X : Nat → Int} {un : ByteArray} (hX : ∀ i, 0 ≤ X i ∧ X i ≤ 255) (hun : unB q X = un) :
    (rowF q fun i => Value.int .u8 (if i < q ∧ lrn U un.data.toList i = true then 0 else U i)) = rowF q fun i => .int .u8 (LUf U X i) := by
  apply rowF_congr
  intro i hi
  unfold LUf
  simp only [hi, true_and, lrn_F hX hun i hi]

set_option maxRecDepth 100000 in
set_option maxHeartbeats 8000000 in
theorem law_walk (a0 a1 a2 a3 : Option Addr) (la n lt lu c0 c1 c2 c3 : Nat) (Z0 Z2 : Nat → Int × Bool) (U X3 : Nat → Int) (w : World) (hsum : la + n + lt + lu ≤ 1048576)
    (h0 : PairsAt w a0 la Z0) (h1 : BytesAt w a1 n U) (h2 : PairsAt w a2 lt Z2) (h3 : BytesAt w a3 lu X3) (hwf2 : Hid (∀ i, i < lt → -9223372036854775808 ≤ (Z2 i).1 ∧ (Z2 i).1 ≤ 9223372036854775807)) (hwf3 : Hid (∀ i, i < lu → 0 ≤ X3 i ∧ X3 i ≤ 255)) :
    Calls Yba.prog 3 #[.slice a0 la c0, .slice a1 n c1, .slice a2 lt c2, .slice a3 lu c3] w fun e w' => e = .returned (.bool true) ∧ Below w.heap.size w w' := by
  go_enter Yba.func3, Yba.ntmps3
  go_upto_if 43 with fail
  go_cut [10] (fun v w' => v = .int .i64 ((max n la : Nat) : Int) ∧ w = w')
  case first => as_aux_lemma =>
    go_wp2
    all_goals go_meet
    all_goals exact ⟨val_max (by omega), rfl⟩
  case rest => as_aux_lemma =>
    obtain ⟨rfl, rfl⟩ := hcut
    have hnv1 : n ≤ max n la := by omega
    have hnv2 : la ≤ max n la := by omega
    have hnv3 : max n la ≤ 1048576 := by omega
    generalize max n la = nv at *
    go_wp2_with (at_make; refine wpList_make_row rfl (.tmp 46) (.tmp 46) 24 rfl 27 (.agg #[.int .i64 0, .bool false]) 2 16 Yba.underlying24 infoPair _ _ _ _ nv rfl rfl rfl rfl (by omega) (by unfold maxLen; omega) ?_)
    intro w1 hr1 hs1 hb1
    rw [made_pairs] at hr1
    go_wp2_with (at_make; refine wpList_make_row rfl (.tmp 48) (.tmp 48) 24 rfl 27 (.agg #[.int .i64 0, .bool false]) 2 16 Yba.underlying24 infoPair _ _ _ _ nv rfl rfl rfl rfl (by omega) (by unfold maxLen; omega) ?_)
    intro w2 hr2 hs2 hb2
    rw [made_pairs] at hr2
    have hr3 := hr1.below hb2 (by omega)
    have hk2 : Keeps [] w w2 := (Keeps.new hb1 _).after (Keeps.new (by rw [hs1]; exact hb2) []) (by simp)
    clear hr1 hb1 hb2
    go_wp2
    go_loopw [13] (fun i wr => ∃ k : Nat, k ≤ nv ∧ i = .int .i64 k ∧ Row wr w.heap.size 27 (rowF (2 * nv) (pairF fun i => if i < k then Vf la Z0 i else (0, false))) ∧ Row wr (w.heap.size + 1) 27 (rowF (2 * nv) (pairF fun i => if i < k then Vf la Z0 i else (0, false))) ∧ wr.heap.size = w.heap.size + 2 ∧ Keeps [] w wr) (fun i _ => nv - (intOf i).toNat)
    case atStart => exact ⟨0, by omega, rfl, by simpa using hr3, by simpa using hr2, by omega, hk2⟩
    case round =>
      clear hr2 hs1 hr3 hs2 hk2
      obtain ⟨k, hk, rfl, hv, hbf, hsz, hkp⟩ := hrel
      by_cases hlt : k < nv
      · as_aux_lemma =>
          by_cases hla : k < la
          · obtain ⟨b, o, rfl, hbl, hcs⟩ := h0 (by omega)
            have c0 := (hkp.cell (p := ⟨b, o + k * 2, none⟩) hbl (by simp)).trans (hcs k hla).1
            have c1 := (hkp.cell (p := ⟨b, o + k * 2 + 1, none⟩) hbl (by simp)).trans (hcs k hla).2
            have v0 := hv.cell (rowF_get (i := k * 2) (by omega))
            have v1 := hv.cell (rowF_get (i := k * 2 + 1) (by omega))
            have b0 := hbf.cell (rowF_get (i := k * 2) (by omega))
            have b1 := hbf.cell (rowF_get (i := k * 2 + 1) (by omega))
            have fv0 := hv.free (k * 2)
            have fv1 := hv.free (k * 2 + 1)
            have fb0 := hbf.free (k * 2)
            have fb1 := hbf.free (k * 2 + 1)
            go_wp2
            go_region
            all_goals go_wp2
            all_goals go_roundw
            case rel =>
              have hfs := fill_step (2 * nv) (Vf la Z0) k
              rw [show Vf la Z0 k = Z0 k by simp [Vf, hla]] at hfs
              refine ⟨k + 1, by omega, by go_num, ?_, ?_, by simp [hsz], ?_⟩
              · rw [← hfs]
                exact (Row.other (Row.other ((hv.set _ _).set _ _) (by simp) _) (by simp) _).drew
              · rw [← hfs]
                exact (((hbf.other (by simp) _).other (by simp) _).set _ _).set _ _
              · exact ((((hkp.setCell (.inr (by first | (simp; done) | (simp; omega))) _).setCell (.inr (by first | (simp; done) | (simp; omega))) _).setCell (.inr (by first | (simp; done) | (simp; omega))) _).setCell (.inr (by first | (simp; done) | (simp; omega))) _).drew
            case measure => simp [intOf]; omega
          · go_wp2
            go_roundw
            case rel =>
              have hfs := fill_skip (2 * nv) (Vf la Z0) k (by simp [Vf, hla])
              exact ⟨k + 1, by omega, by go_num, by rw [← hfs]; exact hv, by rw [← hfs]; exact hbf, hsz, hkp⟩
            case measure => simp [intOf]; omega
      · obtain rfl : k = nv := by omega
        have hv2 : Row wr w.heap.size 27 (rowF (2 * k) (pairF (Vf la Z0))) := by rw [← fill_end]; exact hv
        have hbf2 : Row wr (w.heap.size + 1) 27 (rowF (2 * k) (pairF (Vf la Z0))) := by rw [← fill_end]; exact hbf
        clear hv hbf
        go_wp2_with (at_make; refine wpList_make_row rfl (.tmp 80) (.tmp 80) 23 rfl 5 (.int .u8 0) 1 1 Yba.underlying23 infoByte _ _ _ _ n rfl rfl rfl rfl (by omega) (by unfold maxLen; omega) ?_)
        intro w4 hr4 hs4 hb4
        have hv4 := hv2.below hb4 (by omega)
        have hbf4 := hbf2.below hb4 (by omega)
        have hk4 : Keeps [] w w4 := hkp.after (Keeps.new (by rw [hsz]; exact hb4) []) (by simp)
        clear hv2 hbf2 hkp hsz hb4
        go_wp2_with (refine wpList_copy_row rfl (.tmp 82) (.tmp 83) 23 23 rfl 5 (.int .u8 0) 1 Yba.underlying23 infoByte _ _ _ _ _ _ rfl rfl (w.heap.size + 2) _ 5 hr4 (rowF n fun i => .int .u8 (U i)) (by rw [rowF_length]; simp) (copy_src h1 hk4) (by rw [rowF_length]; simp [madeCells]) (rowF_one _ _) ?_)
        intro w5 hr5 hs5 ho5 hb5
        have hu5 : Row w5 (w.heap.size + 2) 5 (rowF n fun i => .int .u8 (U i)) := by
          rw [List.drop_eq_nil_of_le (by rw [rowF_length]; simp [madeCells]), List.append_nil] at hr5
          exact hr5
        have hv5 : Row w5 w.heap.size 27 (rowF (2 * k) (pairF (Vf la Z0))) := (ho5 _ (by omega)).trans hv4
        have hbf5 : Row w5 (w.heap.size + 1) 27 (rowF (2 * k) (pairF (Vf la Z0))) := (ho5 _ (by omega)).trans hbf4
        have hk5 : Keeps [] w w5 := hk4.after (Keeps.of_below hb5 [w.heap.size + 2] (fun i h1 h2 => by simp; omega)) (fun i h1 h2 => by simp at h2; omega)
        clear hr4 hs4 hv4 hbf4 hk4 hr5 ho5 hb5
        go_upto_if 89 with fail
        go_cut [15] (fun v w' => v = .int .i64 ((max n lt : Nat) : Int) ∧ w5 = w')
        case first => as_aux_lemma =>
          go_wp2
          all_goals go_meet
          all_goals exact ⟨val_max (by omega), rfl⟩
        case rest => as_aux_lemma =>
          obtain ⟨rfl, rfl⟩ := hcut
          have hnt1 : n ≤ max n lt := by omega
          have hnt2 : lt ≤ max n lt := by omega
          have hnt3 : max n lt ≤ 1048576 := by omega
          generalize max n lt = nt at *
          go_wp2_with (at_make; refine wpList_make_row rfl (.tmp 92) (.tmp 92) 24 rfl 27 (.agg #[.int .i64 0, .bool false]) 2 16 Yba.underlying24 infoPair _ _ _ _ nt rfl rfl rfl rfl (by omega) (by unfold maxLen; omega) ?_)
          intro w6 hr6 hs6 hb6
          rw [made_pairs] at hr6
          have hv6 := hv5.below hb6 (by omega)
          have hbf6 := hbf5.below hb6 (by omega)
          have hu6 := hu5.below hb6 (by omega)
          have hk6 : Keeps [] w w6 := hk5.after (Keeps.new (by rw [hs5]; exact hb6) []) (by simp)
          clear hv5 hbf5 hu5 hk5 hs5 hb6
          go_wp2
          go_loopw [17] (fun i wr => ∃ j : Nat, j ≤ nt ∧ i = .int .i64 j ∧ Row wr (w.heap.size + 3) 27 (rowF (2 * nt) (pairF fun i => if i < j then Tf lt Z2 i else (0, false))) ∧ Row wr w.heap.size 27 (rowF (2 * k) (pairF (Vf la Z0))) ∧ Row wr (w.heap.size + 1) 27 (rowF (2 * k) (pairF (Vf la Z0))) ∧ Row wr (w.heap.size + 2) 5 (rowF n fun i => .int .u8 (U i)) ∧ wr.heap.size = w.heap.size + 4 ∧ Keeps [] w wr) (fun i _ => nt - (intOf i).toNat)
          case atStart => exact ⟨0, by omega, rfl, by simpa using hr6, hv6, hbf6, hu6, by omega, hk6⟩
          case round =>
            clear hr6 hv6 hbf6 hu6 hs6 hk6
            obtain ⟨j, hj, rfl, ht, hv, hbf, hu, hsz, hkp⟩ := hrel
            by_cases hlt2 : j < nt
            · as_aux_lemma =>
                by_cases hla2 : j < lt
                · obtain ⟨b, o, rfl, hbl, hcs⟩ := h2 (by omega)
                  have c0 := (hkp.cell (p := ⟨b, o + j * 2, none⟩) hbl (by simp)).trans (hcs j hla2).1
                  have c1 := (hkp.cell (p := ⟨b, o + j * 2 + 1, none⟩) hbl (by simp)).trans (hcs j hla2).2
                  have v0 := ht.cell (rowF_get (i := j * 2) (by omega))
                  have v1 := ht.cell (rowF_get (i := j * 2 + 1) (by omega))
                  have fv0 := ht.free (j * 2)
                  have fv1 := ht.free (j * 2 + 1)
                  cases hok : (Z2 j).2
                  · rw [hok] at c1
                    have HF : Hid _ := fill_skip (2 * nt) (Tf lt Z2) j (by simp [Tf, hok])
                    clear hok
                    go_wp2
                    go_roundw
                    case rel => exact ⟨j + 1, by omega, by go_num, by rw [← HF.out]; exact ht, hv, hbf, hu, hsz, hkp⟩
                    case measure => simp [intOf]; omega
                  · rw [hok] at c1
                    have hfs := fill_step (2 * nt) (Tf lt Z2) j
                    rw [show Tf lt Z2 j = ((Z2 j).1, true) by simp [Tf, hok, hla2]] at hfs
                    have HF : Hid _ := hfs
                    clear hok hfs
                    go_wp2
                    go_roundw
                    case rel =>
                      refine ⟨j + 1, by omega, by go_num, ?_, (hv.other (ne3 _ _) _).other (ne3 _ _) _, (hbf.other (ne31 _ _) _).other (ne31 _ _) _, (hu.other (ne32 _ _) _).other (ne32 _ _) _, by simp [hsz], (hkp.setCell (.inr (by first | (simp; done) | (simp; omega))) _).setCell (.inr (by first | (simp; done) | (simp; omega))) _⟩
                      rw [← HF.out]
                      exact (ht.set _ _).set _ _
                    case measure => simp [intOf]; omega
                · have HF : Hid _ := fill_skip (2 * nt) (Tf lt Z2) j (by simp [Tf, hla2])
                  go_wp2
                  go_roundw
                  case rel => exact ⟨j + 1, by omega, by go_num, by rw [← HF.out]; exact ht, hv, hbf, hu, hsz, hkp⟩
                  case measure => simp [intOf]; omega
            · obtain rfl : j = nt := by omega
              have ht2 : Row wr (w.heap.size + 3) 27 (rowF (2 * j) (pairF (Tf lt Z2))) := by rw [← fill_end]; exact ht
              clear ht
              go_wp2_with (at_make; refine wpList_make_row rfl (.tmp 119) (.tmp 119) 23 rfl 5 (.int .u8 0) 1 1 Yba.underlying23 infoByte _ _ _ _ n rfl rfl rfl rfl (by omega) (by unfold maxLen; omega) ?_)
              intro w7 hr7 hs7 hb7
              have ht7 := ht2.below hb7 (by omega)
              have hv7 := hv.below hb7 (by omega)
              have hbf7 := hbf.below hb7 (by omega)
              have hu7 := hu.below hb7 (by omega)
              have hk7 : Keeps [] w w7 := hkp.after (Keeps.new (by rw [hsz]; exact hb7) []) (by simp)
              rw [made_u8] at hr7
              clear ht2 hv hbf hu hkp hsz hb7
              go_wp2
              go_loopw [19] (fun i wr => ∃ q : Nat, q ≤ n ∧ i = .int .i64 q ∧ Row wr (w.heap.size + 4) 5 (rowF n fun i => .int .u8 (if i < q then Xf lu X3 i else 0)) ∧ Row wr (w.heap.size + 3) 27 (rowF (2 * j) (pairF (Tf lt Z2))) ∧ Row wr w.heap.size 27 (rowF (2 * k) (pairF (Vf la Z0))) ∧ Row wr (w.heap.size + 1) 27 (rowF (2 * k) (pairF (Vf la Z0))) ∧ Row wr (w.heap.size + 2) 5 (rowF n fun i => .int .u8 (U i)) ∧ wr.heap.size = w.heap.size + 5 ∧ Keeps [] w wr) (fun i _ => n - (intOf i).toNat)
              case atStart => exact ⟨0, by omega, rfl, by simpa using hr7, ht7, hv7, hbf7, hu7, by omega, hk7⟩
              case round =>
                clear hr7 ht7 hv7 hbf7 hu7 hk7 hs7
                obtain ⟨q, hq, rfl, hx, ht, hv, hbf, hu, hsz, hkp⟩ := hrel
                by_cases hlt3 : q < n
                · as_aux_lemma =>
                    have x0 := hx.cell (rowF_get hlt3)
                    have fx := hx.free q
                    by_cases hlu : q < lu
                    · obtain ⟨b, o, rfl, hbl, hcs⟩ := h3 (by omega)
                      have c0 := (hkp.cell (p := ⟨b, o + q, none⟩) hbl (by simp)).trans (hcs q hlu)
                      have hfs := fillX_step n (Xf lu X3) q
                      rw [show Xf lu X3 q = X3 q by simp [Xf, hlu]] at hfs
                      have HF : Hid _ := hfs
                      clear hfs
                      go_wp2
                      go_roundw
                      case rel =>
                        refine ⟨q + 1, by omega, by go_num, by rw [← HF.out]; exact hx.set _ _, ht.other (ne43 _ _) _, hv.other (ne40 _ _) _, hbf.other (ne41 _ _) _, hu.other (ne42 _ _) _, by simp [hsz], hkp.setCell (.inr (by first | (simp; done) | (simp; omega))) _⟩
                      case measure => simp [intOf]; omega
                    · have hfs := fillX_step n (Xf lu X3) q
                      rw [show Xf lu X3 q = (q : Int) % 2 by simp [Xf, hlu]] at hfs
                      have HF : Hid _ := hfs
                      clear hfs
                      go_wp2
                      go_roundw
                      case rel =>
                        refine ⟨q + 1, by omega, by go_num, by rw [← HF.out]; exact hx.set _ _, ht.other (ne43 _ _) _, hv.other (ne40 _ _) _, hbf.other (ne41 _ _) _, hu.other (ne42 _ _) _, by simp [hsz], hkp.setCell (.inr (by first | (simp; done) | (simp; omega))) _⟩
                      case measure => simp [intOf]; omega
                · obtain rfl : q = n := by omega
                  have hx2 : Row wr (w.heap.size + 4) 5 (rowF q fun i => .int .u8 (Xf lu X3 i)) := by rw [← fillX_end]; exact hx
                  clear hx
                  have hnv4 : ∀ W, Row W (w.heap.size + 3) 27 (rowF (2 * j) (pairF (Tf lt Z2))) → Calls Yba.prog 5 #[.slice (some ⟨w.heap.size + 3, 0, none⟩) j j] W fun e w' => e = .returned (.agg #[.string (knB j (Tf lt Z2))]) ∧ Keeps [] W w' := fun W hW => NewVector_F _ j (Tf lt Z2) W hW hnt3 (Tf_wf hwf2)
                  have hcv : ∀ W, Row W (w.heap.size + 4) 5 (rowF q fun i => .int .u8 (Xf lu X3 i)) → (convert 23 9 (.slice (some ⟨w.heap.size + 4, 0, none⟩) q q)).run Yba.prog W = .ok (.string (unB q (Xf lu X3))) W := fun W hW => conv_F _ q (Xf lu X3) W hW (Xf_wf hwf3)
                  have hx3 := hx2.drew
                  have hx4 := fun o => (hx2.alloc o).drew
                  generalize hkn : knB j (Tf lt Z2) = kn at *
                  generalize hun : unB q (Xf lu X3) = un at *
                  have HKN : Hid _ := hkn
                  have HUN : Hid _ := hun
                  clear hkn hun
                  go_upto_region 33 with fail
                  go_cut [20] (fun v wc => ∃ p, v = .pointer (some ⟨p, 0, none⟩) ∧ w.heap.size + 5 ≤ p ∧ Row wc p 33 [.string kn, .string un] ∧ Row wc (w.heap.size + 4) 5 (rowF q fun i => .int .u8 (Xf lu X3 i)) ∧ Row wc (w.heap.size + 3) 27 (rowF (2 * j) (pairF (Tf lt Z2))) ∧ Row wc w.heap.size 27 (rowF (2 * k) (pairF (Vf la Z0))) ∧ Row wc (w.heap.size + 1) 27 (rowF (2 * k) (pairF (Vf la Z0))) ∧ Row wc (w.heap.size + 2) 5 (rowF q fun i => .int .u8 (U i)) ∧ Keeps [] w wc)
                  case first => as_aux_lemma =>
                    go_region_with (go_at_call 5; refine (hnv4 _ ?_).mono ?_; (first | exact ht.drew | exact (ht.alloc _).drew); rintro e w2 ⟨rfl, hk2⟩; first | (have hx5 := Row.keeps hx3 hk2 (by simp); have hx6 := fun o => hx5.alloc o) | (have hx5 := Row.keeps (hx4 _) hk2 (by simp); have hz5 := Row.keeps (Row.new' wr 33 [.string .empty, .string .empty] hsz).drew hk2 (by simp); have hz6 := hz5.cell (i := 0) rfl; have hz7 := hz5.cell (i := 1) rfl; have hz8 := hz5.free 0; have hz9 := hz5.free 1))
                    all_goals (go_wp2_with fail; go_meet)
                    all_goals first
                      | exact ⟨_, rfl, by have := hk2.size; simp at this; omega, Row.new w2 33 _, hx5.alloc _, ((ht.drew).keeps hk2 (by simp)).alloc _, ((hv.drew).keeps hk2 (by simp)).alloc _, ((hbf.drew).keeps hk2 (by simp)).alloc _, ((hu.drew).keeps hk2 (by simp)).alloc _, (hkp.drew.after hk2 (by simp)).alloc _⟩
                      | exact ⟨_, rfl, by omega, (hz5.set 0 _).set 1 _, ((hx5.other (ne54 _ _) _).other (ne54 _ _) _), ((((ht.alloc _).drew).keeps hk2 (by simp)).other (ne53 _ _) _).other (ne53 _ _) _, ((((hv.alloc _).drew).keeps hk2 (by simp)).other (ne50 _ _) _).other (ne50 _ _) _, ((((hbf.alloc _).drew).keeps hk2 (by simp)).other (ne51 _ _) _).other (ne51 _ _) _, ((((hu.alloc _).drew).keeps hk2 (by simp)).other (ne52 _ _) _).other (ne52 _ _) _, (((hkp.alloc _).drew.after hk2 (by simp)).setCell (.inr (by simp)) _).setCell (.inr (by simp)) _⟩
                  case rest => as_aux_lemma =>
                    obtain ⟨p, rfl, hpl, hp9, hx9, ht9, hv9, hbf9, hu9, hk9⟩ := hcut
                    clear hnv4 hcv hx3 hx4 ht hv hbf hu hkp hx2 hsz
                    have hl := learn_any w.heap.size (w.heap.size + 2) q k (Vf la Z0) U ((List.range j).map (Tf lt Z2)) un wc (by omega) hv9 hu9 (by rw [← HUN.out]; exact unB_size _ _) (by simp; omega) hnv1 (by simp; omega) hnv3 (by
                      intro o ho
                      obtain ⟨i, _, rfl⟩ := List.mem_map.1 ho
                      exact Tf_wf hwf2 i) (by
                      intro o ho
                      obtain ⟨i, _, rfl⟩ := List.mem_map.1 ho
                      exact Tf_nm lt Z2 i)
                    have hkn2 : (⟨(vecB ((List.range j).map (Tf lt Z2))).toArray⟩ : ByteArray) = kn := HKN.out
                    rw [hkn2] at hl
                    clear hkn2
                    have p0 := hp9.cell (i := 0) rfl
                    have p1 := hp9.cell (i := 1) rfl
                    go_wp2_with (go_at_call 6; refine hl.mono ?_; rintro e w10 ⟨rfl, hv10, hu10, hk10⟩)
                    clear hl p0 p1
                    have hx10 := hx9.keeps hk10 (by simp)
                    have ht10 := ht9.keeps hk10 (by simp)
                    have hbf10 := hbf9.keeps hk10 (by simp)
                    have hk11 := hk9.after hk10 (fun i h1 h2 => by simp at h2; omega)
                    clear hx9 ht9 hbf9 hk9 hk10 hv9 hu9 hp9
                    have hv12 : Row w10 w.heap.size 27 (rowF (2 * k) (pairF (LVf q U (Xf lu X3) (Tf lt Z2) (Vf la Z0)))) := by
                      rw [← LV_eq hnt1 (Xf_wf hwf3) HUN.out]; exact hv10
                    have hu12 : Row w10 (w.heap.size + 2) 5 (rowF q fun i => .int .u8 (LUf U (Xf lu X3) i)) := by
                      rw [← LU_eq (Xf_wf hwf3) HUN.out]; exact hu10
                    clear hv10 hu10 HKN HUN h0 h2 h3 hwf2 hwf3
                    go_wp2
                    go_loopw [21] (fun i wr => ∃ z : Nat, z ≤ k ∧ i = .int .i64 z ∧ Row wr w.heap.size 27 (rowF (2 * k) (pairF (LVf q U (Xf lu X3) (Tf lt Z2) (Vf la Z0)))) ∧ Row wr (w.heap.size + 2) 5 (rowF q fun i => .int .u8 (LUf U (Xf lu X3) i)) ∧ Row wr (w.heap.size + 4) 5 (rowF q fun i => .int .u8 (Xf lu X3 i)) ∧ Row wr (w.heap.size + 3) 27 (rowF (2 * j) (pairF (Tf lt Z2))) ∧ Row wr (w.heap.size + 1) 27 (rowF (2 * k) (pairF (Vf la Z0))) ∧ Keeps [] w wr) (fun i _ => k - (intOf i).toNat)
                    case atStart => exact ⟨0, by omega, rfl, hv12, hu12, hx10, ht10, hbf10, hk11⟩
                    case round =>
                      clear hv12 hu12 hx10 ht10 hbf10 hk11
                      obtain ⟨z, hz, rfl, hv, hu, hx, ht, hbf, hkp⟩ := hrel
                      by_cases hlz : z < k
                      · as_aux_lemma =>
                          have hgt := hx.lt
                          have v0 := hv.cell (rowF_get (i := z * 2) (by omega))
                          have v1 := hv.cell (rowF_get (i := z * 2 + 1) (by omega))
                          have b0 := hbf.cell (rowF_get (i := z * 2) (by omega))
                          have b1 := hbf.cell (rowF_get (i := z * 2 + 1) (by omega))
                          rw [pairF_0] at v0 b0
                          rw [pairF_1] at v1 b1
                          have fin : ∀ (W : World) (n : Nat), Keeps [] wr W → (∃ z', z' ≤ k ∧ Value.int .i64 ((z : Int) + 1) = .int .i64 (z' : Int) ∧ Row (W.drewN n) w.heap.size 27 (rowF (2 * k) (pairF (LVf q U (Xf lu X3) (Tf lt Z2) (Vf la Z0)))) ∧ Row (W.drewN n) (w.heap.size + 2) 5 (rowF q fun i => .int .u8 (LUf U (Xf lu X3) i)) ∧ Row (W.drewN n) (w.heap.size + 4) 5 (rowF q fun i => .int .u8 (Xf lu X3 i)) ∧ Row (W.drewN n) (w.heap.size + 3) 27 (rowF (2 * j) (pairF (Tf lt Z2))) ∧ Row (W.drewN n) (w.heap.size + 1) 27 (rowF (2 * k) (pairF (Vf la Z0))) ∧ Keeps [] w (W.drewN n)) := fun W n hW => ⟨z + 1, by omega, by go_num, (hv.keeps hW (by simp)).drewN n, (hu.keeps hW (by simp)).drewN n, (hx.keeps hW (by simp)).drewN n, (ht.keeps hW (by simp)).drewN n, (hbf.keeps hW (by simp)).drewN n, (hkp.after hW (by simp)).drewN n⟩
                          by_cases hzq : z < q
                          · obtain ⟨b, o, rfl, hbl, hcs⟩ := h1 (by omega)
                            have c0 := (hkp.cell (p := ⟨b, o + z, none⟩) hbl (by simp)).trans (hcs z hzq)
                            have x0 := hx.cell (rowF_get hzq)
                            have hzt : z < j := by omega
                            have t0 := ht.cell (rowF_get (i := z * 2) (by omega))
                            have t1 := ht.cell (rowF_get (i := z * 2 + 1) (by omega))
                            rw [pairF_0] at t0
                            rw [pairF_1] at t1
                            by_cases hU : U z = 0
                            · have hbU : (U z != 0) = false := by simp [hU]
                              rw [show LVf q U (Xf lu X3) (Tf lt Z2) (Vf la Z0) z = Vf la Z0 z by simp [LVf, hU]] at v0 v1
                              clear hU
                              have v0' := fun o => cell?_alloc_old o v0
                              have v1' := fun o => cell?_alloc_old o v1
                              have c0' := fun o => cell?_alloc_old o c0
                              go_wp2
                              go_quiet (fail)
                              go_wp2
                              go_roundw
                              case rel => exact fin _ _ ((Keeps.refl _ _).alloc _)
                              case measure => simp [intOf]; omega
                            · have hbU : (U z != 0) = true := by simp [hU]
                              by_cases hX : Xf lu X3 z = 0
                              · have hbX : (Xf lu X3 z == 0) = true := by simp [hX]
                                rw [show LVf q U (Xf lu X3) (Tf lt Z2) (Vf la Z0) z = Tf lt Z2 z by simp [LVf, hU, hX, hzq]] at v0 v1
                                clear hU hX
                                have v0' := fun o => cell?_alloc_old o v0
                                have v1' := fun o => cell?_alloc_old o v1
                                have c0' := fun o => cell?_alloc_old o c0
                                have x0' := fun o => cell?_alloc_old o x0
                                have t0' := fun o => cell?_alloc_old o t0
                                have t1' := fun o => cell?_alloc_old o t1
                                go_wp2
                                go_quiet (fail)
                                go_wp2
                                go_roundw
                                case rel => exact fin _ _ ((Keeps.refl _ _).alloc _)
                                case measure => simp [intOf]; omega
                              · have hbX : (Xf lu X3 z == 0) = false := by simp [hX]
                                rw [show LVf q U (Xf lu X3) (Tf lt Z2) (Vf la Z0) z = Vf la Z0 z by simp [LVf, hX]] at v0 v1
                                clear hU hX
                                have v0' := fun o => cell?_alloc_old o v0
                                have v1' := fun o => cell?_alloc_old o v1
                                have c0' := fun o => cell?_alloc_old o c0
                                have x0' := fun o => cell?_alloc_old o x0
                                have t0' := fun o => cell?_alloc_old o t0
                                have t1' := fun o => cell?_alloc_old o t1
                                go_wp2
                                go_quiet (fail)
                                go_wp2
                                go_roundw
                                case rel => exact fin _ _ ((Keeps.refl _ _).alloc _)
                                case measure => simp [intOf]; omega
                          · rw [show LVf q U (Xf lu X3) (Tf lt Z2) (Vf la Z0) z = Vf la Z0 z by simp [LVf, hzq]] at v0 v1
                            have v0' := fun o => cell?_alloc_old o v0
                            have v1' := fun o => cell?_alloc_old o v1
                            go_wp2
                            go_quiet (fail)
                            go_wp2
                            go_roundw
                            case rel => exact fin _ _ ((Keeps.refl _ _).alloc _)
                            case measure => simp [intOf]; omega
                      · go_wp2
                        go_loop [23] (fun i => ∃ y : Nat, y ≤ q ∧ i = .int .i64 y) (fun i => q - (intOf i).toNat)
                        case atStart => exact ⟨0, by omega, rfl⟩
                        case round =>
                          obtain ⟨y, hy, rfl⟩ := hrel
                          by_cases hyq : y < q
                          · obtain ⟨b, o, rfl, hbl, hcs⟩ := h1 (by omega)
                            have c0 := (hkp.cell (p := ⟨b, o + y, none⟩) hbl (by simp)).trans (hcs y hyq)
                            have x0 := hx.cell (rowF_get hyq)
                            have u0 := hu.cell (rowF_get hyq)
                            by_cases hU : U y = 0
                            · have hbU : (U y != 0) = false := by simp [hU]
                              rw [show LUf U (Xf lu X3) y = U y by simp [LUf, hU]] at u0
                              clear hU
                              go_wp2
                              go_round
                              case rel => exact ⟨y + 1, by omega, by go_num⟩
                              case measure => simp [intOf]; omega
                            · have hbU : (U y != 0) = true := by simp [hU]
                              by_cases hX : Xf lu X3 y = 0
                              · have hbX : (Xf lu X3 y == 0) = true := by simp [hX]
                                rw [show LUf U (Xf lu X3) y = 0 by simp [LUf, hU, hX]] at u0
                                clear hU hX
                                go_wp2
                                go_round
                                case rel => exact ⟨y + 1, by omega, by go_num⟩
                                case measure => simp [intOf]; omega
                              · have hbX : (Xf lu X3 y == 0) = false := by simp [hX]
                                rw [show LUf U (Xf lu X3) y = U y by simp [LUf, hX]] at u0
                                clear hU hX
                                go_wp2
                                go_round
                                case rel => exact ⟨y + 1, by omega, by go_num⟩
                                case measure => simp [intOf]; omega
                          · go_wp2
                            go_ret
                            exact ⟨rfl, hkp.below (by simp) (Nat.le_refl _)⟩
end Go.Proofs.Ybulkeaco.AW
