import Derived.Test.YbulkeacoA5
namespace Go.Proofs.Ybulkeaco.AW
open Go.RowKit Go.Proofs.Ybulkeaco.Kit

/-! ### rows told by a function of the place -/
def rowF (n : Nat) (f : Nat → Value) : List Value := (List.range n).map f
theorem rowF_length (n : Nat) (f : Nat → Value) : (rowF n f).length = n := by simp [rowF]
theorem rowF_get {n : Nat} {f : Nat → Value} {i : Nat} (h : i < n) : (rowF n f)[i]? = some (f i) := by simp [rowF, h]
theorem rowF_congr {n : Nat} {f g : Nat → Value} (h : ∀ i, i < n → f i = g i) : rowF n f = rowF n g := by
  unfold rowF; exact List.map_congr_left (fun i hi => h i (by simpa using hi))
theorem rowF_set (n : Nat) (f : Nat → Value) (k : Nat) (v : Value) : (rowF n f).set k v = rowF n (fun i => if i = k then v else f i) := by
  apply List.ext_getElem?
  intro i
  rw [List.getElem?_set]
  by_cases hi : i < n
  · rw [rowF_get (f := fun i => if i = k then v else f i) hi]
    by_cases hk : k = i
    · subst hk; simp [rowF_length, hi]
    · rw [if_neg hk, rowF_get hi]; simp [Ne.symm hk]
  · rw [List.getElem?_eq_none (l := rowF n _) (by rw [rowF_length]; omega)]
    rw [List.getElem?_eq_none (by rw [rowF_length]; omega)]
    split
    · rw [rowF_length, if_neg (by omega)]
    · rfl
def pairF (T : Nat → Int × Bool) (i : Nat) : Value := if i % 2 = 0 then .int .i64 (T (i / 2)).1 else .bool (T (i / 2)).2
theorem pairF_0 (T : Nat → Int × Bool) (k : Nat) : pairF T (k * 2) = .int .i64 (T k).1 := by
  simp [pairF]
theorem pairF_1 (T : Nat → Int × Bool) (k : Nat) : pairF T (k * 2 + 1) = .bool (T k).2 := by
  simp only [pairF]; rw [if_neg (by omega), show (k * 2 + 1) / 2 = k by omega]
theorem pairF_upd (n : Nat) (T T' : Nat → Int × Bool) (k : Nat) (hk : ∀ i, i ≠ k → T' i = T i) : ((rowF n (pairF T)).set (k * 2) (.int .i64 (T' k).1)).set (k * 2 + 1) (.bool (T' k).2) = rowF n (pairF T') := by
  rw [rowF_set, rowF_set]
  apply rowF_congr
  intro i _
  by_cases h1 : i = k * 2 + 1
  · subst h1; simp [pairF_1]
  · rw [if_neg h1]
    by_cases h0 : i = k * 2
    · subst h0; simp [pairF_0]
    · rw [if_neg h0]
      unfold pairF
      rw [hk (i / 2) (by omega)]
theorem optCells_rowF (n : Nat) (T : Nat → Int × Bool) : optCells ((List.range n).map T) = rowF (2 * n) (pairF T) := by
  apply List.ext_getElem?
  intro i
  by_cases hi : i < 2 * n
  · rw [rowF_get hi]
    rcases Nat.mod_two_eq_zero_or_one i with h | h
    · obtain ⟨k, rfl⟩ : ∃ k, i = k * 2 := ⟨i / 2, by omega⟩
      rw [optCells_0 _ k (by simp; omega), pairF_0]; simp
    · obtain ⟨k, rfl⟩ : ∃ k, i = k * 2 + 1 := ⟨i / 2, by omega⟩
      rw [optCells_1 _ k (by simp; omega), pairF_1]; simp
  · rw [List.getElem?_eq_none (by rw [optCells_length]; simp; omega), List.getElem?_eq_none (by rw [rowF_length]; omega)]

/-- Is entry i learned? -/
def lrn (U : Nat → Int) (un : List UInt8) (i : Nat) : Bool := (U i != 0) && (un.getD i 0 == 0)

theorem lrn_eq (U : Nat → Int) (un : ByteArray) (k : Nat) (h : k < un.size) : lrn U un.data.toList k = ((U k != 0) && (((un[k]'h).toNat : Int) == 0)) := by
  unfold lrn
  congr 1
  have e : un.data.toList.getD k 0 = un[k]'h := by
    have h' : k < un.data.size := h
    rw [List.getD_eq_getElem?_getD, Array.getElem?_toList, Array.getElem?_eq_getElem h']; simp [ByteArray.getElem_eq_getElem_data]
  rw [e, Bool.eq_iff_iff]
  simp [← UInt8.toNat_inj]
theorem stay (T V : Nat → Int × Bool) (U : Nat → Int) (un : List UInt8) (k n nv : Nat) (h : lrn U un k = false) :
    rowF (2 * nv) (pairF fun i => if i < k ∧ lrn U un i = true then T i else V i) = rowF (2 * nv) (pairF fun i => if i < k + 1 ∧ lrn U un i = true then T i else V i) ∧
    (rowF n fun i => Value.int .u8 (if i < k ∧ lrn U un i = true then 0 else U i)) = rowF n fun i => .int .u8 (if i < k + 1 ∧ lrn U un i = true then 0 else U i) := by
  have e : ∀ i, (i < k ∧ lrn U un i = true) ↔ (i < k + 1 ∧ lrn U un i = true) := fun i => by
    constructor
    · rintro ⟨a, b⟩; exact ⟨by omega, b⟩
    · rintro ⟨a, b⟩
      refine ⟨?_, b⟩
      by_cases hi : i = k
      · subst hi; rw [h] at b; cases b
      · omega
  simp only [e, and_self]

theorem learned (T V : Nat → Int × Bool) (U : Nat → Int) (un : List UInt8) (k n nv : Nat) (h : lrn U un k = true) :
    ((rowF (2 * nv) (pairF fun i => if i < k ∧ lrn U un i = true then T i else V i)).set (k * 2) (.int .i64 (T k).1)).set (k * 2 + 1) (.bool (T k).2) = rowF (2 * nv) (pairF fun i => if i < k + 1 ∧ lrn U un i = true then T i else V i) ∧
    (rowF n fun i => Value.int .u8 (if i < k ∧ lrn U un i = true then 0 else U i)).set k (.int .u8 0) = rowF n fun i => .int .u8 (if i < k + 1 ∧ lrn U un i = true then 0 else U i) := by
  have e : ∀ i, i ≠ k → ((i < k + 1 ∧ lrn U un i = true) ↔ (i < k ∧ lrn U un i = true)) := fun i hi => by
    constructor
    · rintro ⟨a, b⟩; exact ⟨by omega, b⟩
    · rintro ⟨a, b⟩; exact ⟨by omega, b⟩
  constructor
  · have := pairF_upd (2 * nv) (fun i => if i < k ∧ lrn U un i = true then T i else V i) (fun i => if i < k + 1 ∧ lrn U un i = true then T i else V i) k (fun i hi => by simp only [e i hi])
    rw [← this]
    simp [h]
  · rw [rowF_set]
    apply rowF_congr
    intro i _
    by_cases hi : i = k
    · subst hi; simp [h]
    · simp only [if_neg hi, e i hi]

set_option maxHeartbeats 1000000 in
theorem learn_any (p u n nv : Nat) (V : Nat → Int × Bool) (U : Nat → Int) (os : List (Int × Bool)) (un : ByteArray) (w : World) (hne : p ≠ u) (hp : Row w p 27 (rowF (2 * nv) (pairF V))) (hu : Row w u 5 (rowF n fun i => .int .u8 (U i)))
    (hun : un.size = n) (hos : n ≤ os.length) (hnv : n ≤ nv) (hm : os.length ≤ 1048576) (_hmv : nv ≤ 1048576) (hwf : Hid (∀ o ∈ os, -9223372036854775808 ≤ o.1 ∧ o.1 ≤ 9223372036854775807)) (hnm : Hid (∀ o ∈ os, o.2 = false → o.1 = 0)) :
    Calls Yba.prog 6 #[.slice (some ⟨p, 0, none⟩) nv nv, .slice (some ⟨u, 0, none⟩) n n, .agg #[.string ⟨(vecB os).toArray⟩, .string un]] w fun e w' => e = .returned (.tuple #[]) ∧
      Row w' p 27 (rowF (2 * nv) (pairF fun i => if i < n ∧ lrn U un.data.toList i = true then os.getD i (0, false) else V i)) ∧ Row w' u 5 (rowF n fun i => .int .u8 (if i < n ∧ lrn U un.data.toList i = true then 0 else U i)) ∧ Keeps [p, u] w w' := by
  have HUN : Hid (un.size = n) := hun
  clear hun
  generalize hKN : (⟨(vecB os).toArray⟩ : ByteArray) = kn at *
  have HKN : Hid ((⟨(vecB os).toArray⟩ : ByteArray) = kn) := hKN
  clear hKN
  have hpl := hp.lt
  have hul := hu.lt
  go_enter Yba.func6, Yba.ntmps6
  go_wp2
  go_loopw [9] (fun i wr => ∃ k : Nat, k ≤ n ∧ i = .int .i64 k ∧ Row wr p 27 (rowF (2 * nv) (pairF fun i => if i < k ∧ lrn U un.data.toList i = true then os.getD i (0, false) else V i)) ∧ Row wr u 5 (rowF n fun i => .int .u8 (if i < k ∧ lrn U un.data.toList i = true then 0 else U i)) ∧
      Row wr w.heap.size 33 [.string kn, .string un] ∧ Keeps [p, u] w wr) (fun i _ => n - (intOf i).toNat)
  case atStart => exact ⟨0, by omega, rfl, by simpa using hp.alloc _, by simpa using hu.alloc _, Row.new w 33 _, (Keeps.refl _ _).alloc _⟩
  case round =>
    obtain ⟨k, hk, rfl, hpr, hur, hbr, hkr⟩ := hrel
    by_cases hlt : k < n
    · have hku : k < un.size := by rw [HUN.out]; exact hlt
      have hko : k < os.length := by omega
      have cu := hur.cell (rowF_get hlt)
      rw [if_neg (by omega)] at cu
      have hb0 := hbr.cell (i := 0) rfl
      have hb1 := hbr.cell (i := 1) rfl
      have HLR : Hid (lrn U un.data.toList k = ((U k != 0) && (((un[k]'hku).toNat : Int) == 0))) := lrn_eq U un k hku
      by_cases hU : U k = 0
      · have hb : (U k != 0) = false := by simp [hU]
        have hstep : lrn U un.data.toList k = false := by rw [HLR.out, hb]; rfl
        have HR := stay (fun i => os.getD i (0, false)) V U un.data.toList k n nv hstep
        have HR : Hid _ := HR
        clear hstep
        go_wp2
        go_roundw
        case rel => exact ⟨k + 1, by omega, by go_num, by rw [← HR.out.1]; exact hpr, by rw [← HR.out.2]; exact hur, hbr, hkr⟩
        case measure => simp [intOf]; omega
      · have hb : (U k != 0) = true := by simp [hU]
        by_cases hX : ((un[k]'hku).toNat : Int) = 0
        · have hx : (((un[k]'hku).toNat : Int) == 0) = true := by simp [hX]
          have hstep : lrn U un.data.toList k = true := by rw [HLR.out, hx, hb]; rfl
          have HR : Hid _ := learned (fun i => os.getD i (0, false)) V U un.data.toList k n nv hstep
          clear hstep hX hU
          have hoe : os.getD k (0, false) = os[k] := by simp [List.getD, hko]
          rw [hoe] at HR
          have hsz : kn.size = 9 * os.length := by rw [← HKN.out]; exact vecB_length os
          have hE : ∀ W, Calls Yba.prog 14 #[.agg #[.string kn], .int .i64 (k + 1)] W fun e w' => e = .returned (.tuple #[.int .i64 os[k].1, .bool os[k].2]) ∧ Keeps [] W w' := fun W => by
            have := Entry_any kn k os[k].1 os[k].2 W (by omega) (by omega) (by subst HKN; exact kind_at os k hko _) (by subst HKN; exact val_at os k hko (hwf.out _ (List.getElem_mem hko)) (hnm.out _ (List.getElem_mem hko)))
            exact this
          clear hoe hsz
          generalize os[k] = ok at *
          go_wp2_with (go_at_call 14; refine (hE _).mono ?_; rintro e w2 ⟨rfl, hk2⟩; have hp2 := hpr.keeps hk2 (by simp); have hu2 := hur.keeps hk2 (by simp); have p0 := hp2.cell (rowF_get (i := k * 2) (by omega)); have p1 := hp2.cell (rowF_get (i := k * 2 + 1) (by omega)); have u0 := hu2.cell (rowF_get (i := k) hlt); have fp0 := hp2.free (k * 2); have fp1 := hp2.free (k * 2 + 1); have fu := hu2.free k)
          go_roundw
          case rel =>
            refine ⟨k + 1, by omega, by go_num, ?_, ?_, ?_, ?_⟩
            · rw [← HR.out.1]
              exact Row.other ((hp2.set _ _).set _ _) (by simpa using hne) _
            · rw [← HR.out.2]
              exact Row.set (Row.other (Row.other hu2 (by simpa using Ne.symm hne) _) (by simpa using Ne.symm hne) _) _ _
            · exact Row.other (Row.other (Row.other (hbr.keeps hk2 (by simp)) (by simp; omega) _) (by simp; omega) _) (by simp; omega) _
            · exact (((hkr.after hk2 (by simp)).setCell (.inl (by simp)) _).setCell (.inl (by simp)) _).setCell (.inl (by simp)) _
          case measure => simp [intOf]; omega
        · have hx : (((un[k]'hku).toNat : Int) == 0) = false := by simpa using hX
          have hstep : lrn U un.data.toList k = false := by rw [HLR.out, hx]; simp
          have HR := stay (fun i => os.getD i (0, false)) V U un.data.toList k n nv hstep
          have HR : Hid _ := HR
          clear hstep
          go_wp2
          go_roundw
          case rel => exact ⟨k + 1, by omega, by go_num, by rw [← HR.out.1]; exact hpr, by rw [← HR.out.2]; exact hur, hbr, hkr⟩
          case measure => simp [intOf]; omega
    · obtain rfl : k = n := by omega
      go_wp2
      go_end0
      exact ⟨rfl, hpr, hur, hkr⟩
end Go.Proofs.Ybulkeaco.AW
