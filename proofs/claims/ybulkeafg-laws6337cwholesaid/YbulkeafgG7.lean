import Derived.Test.YbulkeafgG2
import Derived.Test.YbulkeafgG3
import Derived.Test.YbulkeafgG6
import Derived.LaidEql
import Derived.Laws.StructEq
namespace Go.Proofs.Ybulkeafg.GW
open Go.RowKit Go.Proofs.Ybulkeafg.Kit

/-! ### comparisons of a thing with itself -/
theorem neq_ptr (t te : TypeId) (hp : Yba.prog.underlying t = some (.pointer te)) (hi : (Yba.prog.info? te).isSome = true) (x : Option Addr) (W : World) : (binOp .neq t (.pointer x) (.pointer x)).run Yba.prog W = .ok (.bool false) W := by
  cases x with
  | none =>
    have h : ∀ d : Nat, (Op.equalIn (d + 1) t (.pointer none) (.pointer none)).run Yba.prog W = .ok true W := fun d => by
      simp [Op.equalIn, run_underlying hp]
    simp only [binOp]
    simp [Op.equal, Op.maxDepth, h 9999]
  | some a =>
    obtain ⟨j, hj⟩ := Option.isSome_iff_exists.1 hi
    have h : ∀ d : Nat, (Op.equalIn (d + 1) t (.pointer (some a)) (.pointer (some a))).run Yba.prog W = .ok true W := fun d => by
      simp [Op.equalIn, run_underlying hp, sizeOf, typeInfo, hj, run_sameAddr_same]
    simp only [binOp]
    simp [Op.equal, Op.maxDepth, h 9999]
theorem neq32 (x : Option Addr) (W : World) : (binOp .neq 32 (.pointer x) (.pointer x)).run Yba.prog W = .ok (.bool false) W := neq_ptr 32 75 Yba.underlying32 (by kernel_rfl) x W
theorem neq33 (x : Option Addr) (W : World) : (binOp .neq 33 (.pointer x) (.pointer x)).run Yba.prog W = .ok (.bool false) W := neq_ptr 33 44 Yba.underlying33 (by kernel_rfl) x W
theorem neq34 (x : Option Addr) (W : World) : (binOp .neq 34 (.pointer x) (.pointer x)).run Yba.prog W = .ok (.bool false) W := neq_ptr 34 49 Yba.underlying34 (by kernel_rfl) x W
theorem neq_iface (t tp te : TypeId) (ms : Array (String × TypeId)) (hi : Yba.prog.underlying t = some (.interface ms)) (hp : Yba.prog.underlying tp = some (.pointer te)) (h1 : (Yba.prog.info? tp).map (·.comparable) = some true) (h2 : (Yba.prog.info? te).isSome = true) (a : Addr) (W : World) :
    (binOp .neq t (.iface tp (.pointer (some a))) (.iface tp (.pointer (some a)))).run Yba.prog W = .ok (.bool false) W := by
  obtain ⟨i, hi1, hc⟩ := Option.map_eq_some_iff.1 h1
  obtain ⟨j, hj⟩ := Option.isSome_iff_exists.1 h2
  simp only [binOp]
  simp [Op.equal, Op.maxDepth, run_equalIn_iface_ptr_same W 9998 a hi hp hi1 hc hj]
theorem neq31 (a : Addr) (W : World) : (binOp .neq 31 (.iface 27 (.pointer (some a))) (.iface 27 (.pointer (some a)))).run Yba.prog W = .ok (.bool false) W := neq_iface 31 27 29 _ Yba.underlying31 Yba.underlying27 (by kernel_rfl) (by kernel_rfl) a W
theorem neq71 (a : Addr) (W : World) : (binOp .neq 71 (.iface 24 (.pointer (some a))) (.iface 24 (.pointer (some a)))).run Yba.prog W = .ok (.bool false) W := neq_iface 71 24 26 _ Yba.underlying71 Yba.underlying24 (by kernel_rfl) (by kernel_rfl) a W
theorem eqFields_same {P : Program} {w : World} {d : Nat} {xs : Array Value} : ∀ fs : List Field, (∀ f ∈ fs, ∃ v, (part f.type xs f.offset).run P w = .ok v w ∧ (Op.equalIn d f.type v v).run P w = .ok true w) → (Op.eqFields d xs xs fs).run P w = .ok true w
  | [], _ => by simp [Op.eqFields]
  | f :: fs, h => by
    obtain ⟨v, h1, h2⟩ := h f (by simp)
    have ih := eqFields_same fs (fun g hg => h g (by simp [hg]))
    unfold Op.eqFields
    by_cases hn : f.name = "_"
    · simp [hn, ih]
    · simp [hn, h1, h2, ih]
theorem u64_same (d : Nat) (a : Int) (w : World) : (Op.equalIn (d + 1) 23 (.int .u64 a) (.int .u64 a)).run Yba.prog w = .ok true w := by
  rw [run_equalIn_int w d 23 .u64 .u64 a a Yba.underlying23]; simp
theorem i64_same (d : Nat) (a : Int) (w : World) : (Op.equalIn (d + 1) 2 (.int .i64 a) (.int .i64 a)).run Yba.prog w = .ok true w := by
  rw [run_equalIn_int w d 2 .i64 .i64 a a Yba.underlying2]; simp
theorem bool_same (d : Nat) (a : Bool) (w : World) : (Op.equalIn (d + 1) 4 (.bool a) (.bool a)).run Yba.prog w = .ok true w := by
  simp [Op.equalIn, run_underlying Yba.underlying4]
theorem loc_same (d : Nat) (w : World) : (Op.equalIn (d + 1) 45 (.pointer none) (.pointer none)).run Yba.prog w = .ok true w := by
  simp [Op.equalIn, run_underlying Yba.underlying45]
theorem time_same (d : Nat) (x y : Int) (w : World) : (Op.equalIn (d + 2) 47 (.agg #[.int .u64 x, .int .i64 y, .pointer none]) (.agg #[.int .u64 x, .int .i64 y, .pointer none])).run Yba.prog w = .ok true w := by
  rw [run_equalIn_struct w (d + 1) 47 _ _ (by kernel_rfl) (by kernel_rfl)]
  apply eqFields_same
  have hp : ((Yba.prog.fieldsOf 47).toList.map fun f => (f.type, f.offset)) = [(23, 0), (2, 1), (45, 2)] := by kernel_rfl
  generalize (Yba.prog.fieldsOf 47).toList = fs at *
  intro f hf
  have hm : (f.type, f.offset) ∈ fs.map fun f => (f.type, f.offset) := List.mem_map_of_mem hf
  rw [hp] at hm
  generalize f.type = t at *
  generalize f.offset = o at *
  simp only [List.mem_cons, Prod.mk.injEq, List.not_mem_nil, or_false] at hm
  rcases hm with ⟨rfl, rfl⟩ | ⟨rfl, rfl⟩ | ⟨rfl, rfl⟩
  · exact ⟨.int .u64 x, by kernel_rfl, u64_same d x w⟩
  · exact ⟨.int .i64 y, by kernel_rfl, i64_same d y w⟩
  · exact ⟨.pointer none, by kernel_rfl, loc_same d w⟩
theorem timing_same (d : Nat) (b x y : Int) (g : Bool) (w : World) : (Op.equalIn (d + 3) 49 (.agg #[.int .u64 b, .int .u64 x, .int .i64 y, .pointer none, .bool g]) (.agg #[.int .u64 b, .int .u64 x, .int .i64 y, .pointer none, .bool g])).run Yba.prog w = .ok true w := by
  rw [run_equalIn_struct w (d + 2) 49 _ _ (by kernel_rfl) (by kernel_rfl)]
  apply eqFields_same
  have hp : ((Yba.prog.fieldsOf 49).toList.map fun f => (f.type, f.offset)) = [(23, 0), (47, 1), (4, 4)] := by kernel_rfl
  generalize (Yba.prog.fieldsOf 49).toList = fs at *
  intro f hf
  have hm : (f.type, f.offset) ∈ fs.map fun f => (f.type, f.offset) := List.mem_map_of_mem hf
  rw [hp] at hm
  generalize f.type = t at *
  generalize f.offset = o at *
  simp only [List.mem_cons, Prod.mk.injEq, List.not_mem_nil, or_false] at hm
  rcases hm with ⟨rfl, rfl⟩ | ⟨rfl, rfl⟩ | ⟨rfl, rfl⟩
  · exact ⟨.int .u64 b, by kernel_rfl, u64_same (d + 1) b w⟩
  · exact ⟨.agg #[.int .u64 x, .int .i64 y, .pointer none], by kernel_rfl, time_same d x y w⟩
  · exact ⟨.bool g, by kernel_rfl, bool_same (d + 1) g w⟩
theorem neq49 (b x y : Int) (g : Bool) (W : World) : (binOp .neq 49 (.agg #[.int .u64 b, .int .u64 x, .int .i64 y, .pointer none, .bool g]) (.agg #[.int .u64 b, .int .u64 x, .int .i64 y, .pointer none, .bool g])).run Yba.prog W = .ok (.bool false) W := by
  have h : (Op.equalIn Op.maxDepth 49 (.agg #[.int .u64 b, .int .u64 x, .int .i64 y, .pointer none, .bool g]) (.agg #[.int .u64 b, .int .u64 x, .int .i64 y, .pointer none, .bool g])).run Yba.prog W = .ok true W := timing_same 9997 b x y g W
  simp [binOp, Op.equal, h]

/-! ### what the law's road knows -/
/-- rows told by a function of the place -/
def rowF (n : Nat) (f : Nat → Value) : List Value := (List.range n).map f
theorem rowF_length (n : Nat) (f : Nat → Value) : (rowF n f).length = n := by simp [rowF]
theorem rowF_get {n : Nat} {f : Nat → Value} {i : Nat} (h : i < n) : (rowF n f)[i]? = some (f i) := by simp [rowF, h]
theorem rowF_congr {n : Nat} {f g : Nat → Value} (h : ∀ i, i < n → f i = g i) : rowF n f = rowF n g := by
  unfold rowF; exact List.map_congr_left (fun i hi => h i (by simpa using hi))
theorem rowF_set (n : Nat) (f : Nat → Value) (k : Nat) (v : Value) : (rowF n f).set k v = rowF n (fun i => if i = k then v else f i) := by
  apply List.ext_getElem?
  intro i
  rw [List.getElem?_set]
  by_cases hi : i < n
  · rw [rowF_get (f := fun i => if i = k then v else f i) hi]
    by_cases hk : k = i
    · subst hk; simp [rowF_length, hi]
    · rw [if_neg hk, rowF_get hi]; simp [Ne.symm hk]
  · rw [List.getElem?_eq_none (l := rowF n _) (by rw [rowF_length]; omega)]
    rw [List.getElem?_eq_none (by rw [rowF_length]; omega)]
    split
    · rw [rowF_length, if_neg (by omega)]
    · rfl
/-- the shares as they came in -/
def SharesAt (w : World) (a : Option Addr) (n B : Nat) (T : Nat → ByteArray) (A : Nat → Int) : Prop :=
  0 < n → ∃ b o, a = some ⟨b, o, none⟩ ∧ b < B ∧ b < w.heap.size ∧ ∀ i, i < n → w.cell? ⟨b, o + i * 2, none⟩ = some (.string (T i)) ∧ w.cell? ⟨b, o + i * 2 + 1, none⟩ = some (.int .i64 (A i))
theorem SharesAt.keep {w w' : World} {a : Option Addr} {n B : Nat} {T : Nat → ByteArray} {A : Nat → Int} {S : List Nat} (h : SharesAt w a n B T A) (k : Keeps S w w') (hS : ∀ b, b < B → b ∉ S) : SharesAt w' a n B T A := by
  intro hn
  obtain ⟨b, off, e, h1, h2, h3⟩ := h hn
  exact ⟨b, off, e, h1, Nat.lt_of_lt_of_le h2 k.size, fun i hi => ⟨(k.cell (p := ⟨b, off + i * 2, none⟩) h2 (hS b h1)).trans (h3 i hi).1, (k.cell (p := ⟨b, off + i * 2 + 1, none⟩) h2 (hS b h1)).trans (h3 i hi).2⟩⟩
/-- the shares laid: the text, and a pointer to a number -/
def shF (T : Nat → ByteArray) (P : Nat → Nat) (k i : Nat) : Value := if i / 2 < k then (if i % 2 = 0 then .string (T (i / 2)) else .pointer (some ⟨P (i / 2), 0, none⟩)) else (if i % 2 = 0 then .string .empty else .pointer none)
theorem shF_0 (T : Nat → ByteArray) (P : Nat → Nat) {k i : Nat} (h : i < k) : shF T P k (i * 2) = .string (T i) := by
  unfold shF; rw [if_pos (by omega), if_pos (by omega), show i * 2 / 2 = i by omega]
theorem shF_1 (T : Nat → ByteArray) (P : Nat → Nat) {k i : Nat} (h : i < k) : shF T P k (i * 2 + 1) = .pointer (some ⟨P i, 0, none⟩) := by
  unfold shF; rw [if_pos (by omega), if_neg (by omega), show (i * 2 + 1) / 2 = i by omega]
theorem shF_set (T : Nat → ByteArray) (P : Nat → Nat) (n k p : Nat) : ((rowF n (shF T P k)).set (k * 2) (.string (T k))).set (k * 2 + 1) (.pointer (some ⟨p, 0, none⟩)) = rowF n (shF T (fun i => if i = k then p else P i) (k + 1)) := by
  rw [rowF_set, rowF_set]
  apply rowF_congr
  intro i _
  unfold shF
  by_cases h1 : i = k * 2 + 1
  · subst h1; rw [if_pos rfl, if_pos (by omega), if_neg (by omega), show (k * 2 + 1) / 2 = k by omega]; simp
  · rw [if_neg h1]
    by_cases h0 : i = k * 2
    · subst h0; rw [if_pos rfl, if_pos (by omega), if_pos (by omega), show k * 2 / 2 = k by omega]
    · rw [if_neg h0]
      by_cases hk : i / 2 < k
      · have e : i / 2 < k + 1 := by omega
        have ne : i / 2 ≠ k := by omega
        simp [hk, e, ne]
      · have e : ¬ i / 2 < k + 1 := by omega
        simp [hk, e]
def CapOk (hasCap : Bool) (capV : Int) (mp : Option Addr) (w : World) : Prop := hasCap = true → ∃ p, mp = some ⟨p, 0, none⟩ ∧ IsBig w p capV
def SplitOk (hasSplit : Bool) (den rest : Int) (n : Nat) (T : Nat → ByteArray) (A : Nat → Int) (sp : Option Addr) (w : World) : Prop :=
  hasSplit = true → ∃ q dp sh P, sp = some ⟨q, 0, none⟩ ∧ Row w q 44 [.pointer (some ⟨dp, 0, none⟩), .slice (some ⟨sh, 0, none⟩) n n, .int .i64 rest] ∧ IsBig w dp den ∧ Row w sh 42 (rowF (n * 2) (shF T P n)) ∧ ∀ i, i < n → IsBig w (P i) (A i)
def TimeOk (hasTiming : Bool) (bs : Int) (hg : Bool) (tb : Nat) (tm : Option Addr) (w : World) : Prop :=
  hasTiming = true → ∃ tc X Y, tm = some ⟨tc, 0, none⟩ ∧ Row w tc 49 [.int .u64 bs, .int .u64 X, .int .i64 Y, .pointer none, .bool hg] ∧ Row w tb 49 [.int .u64 bs, .int .u64 X, .int .i64 Y, .pointer none, .bool hg]
/-- a list of blocks none of which is of one of the types that the road keeps an eye on -/
def Apart (S : List Nat) (w : World) : Prop := ∀ b ∈ S, ∃ t cs, Row w b t cs ∧ t ≠ 75 ∧ t ≠ 102 ∧ t ≠ 44 ∧ t ≠ 42 ∧ t ≠ 49
theorem Apart.nil (w : World) : Apart [] w := by intro b hb; simp at hb
theorem Apart.one {w : World} {b : Nat} {t : TypeId} {cs : List Value} (h : Row w b t cs) (ht : t ≠ 75 ∧ t ≠ 102 ∧ t ≠ 44 ∧ t ≠ 42 ∧ t ≠ 49) : Apart [b] w := by
  intro x hx; simp at hx; subst hx; exact ⟨t, cs, h, ht⟩
theorem Apart.row {S : List Nat} {w w' : World} (h : Apart S w) (k : Keeps S w w') {b : Nat} {t : TypeId} {cs : List Value} (hr : Row w b t cs) (ht : t = 75 ∨ t = 102 ∨ t = 44 ∨ t = 42 ∨ t = 49) : Row w' b t cs := by
  refine hr.keeps k (fun hm => ?_)
  obtain ⟨t', cs', hr', h1, h2, h3, h4, h5⟩ := h b hm
  exact Row.ne hr hr' (by rcases ht with rfl | rfl | rfl | rfl | rfl <;> exact Ne.symm (by assumption)) rfl
theorem Apart.big {S : List Nat} {w w' : World} (h : Apart S w) (k : Keeps S w w') {p : Nat} {v : Int} (hb : IsBig w p v) : IsBig w' p v :=
  hb.keeps k (fun b hb => by obtain ⟨t, cs, h1, h2, h3, _⟩ := h b hb; exact ⟨t, cs, h1, h2, h3⟩)
theorem CapOk.keep {hasCap : Bool} {capV : Int} {mp : Option Addr} {S : List Nat} {w w' : World} (h : CapOk hasCap capV mp w) (ap : Apart S w) (k : Keeps S w w') : CapOk hasCap capV mp w' := by
  intro e; obtain ⟨p, h1, h2⟩ := h e; exact ⟨p, h1, ap.big k h2⟩
theorem SplitOk.keep {hasSplit : Bool} {den rest : Int} {n : Nat} {T : Nat → ByteArray} {A : Nat → Int} {sp : Option Addr} {S : List Nat} {w w' : World} (h : SplitOk hasSplit den rest n T A sp w) (ap : Apart S w) (k : Keeps S w w') : SplitOk hasSplit den rest n T A sp w' := by
  intro e; obtain ⟨q, dp, sh, P, h1, h2, h3, h4, h5⟩ := h e
  exact ⟨q, dp, sh, P, h1, ap.row k h2 (by simp), ap.big k h3, ap.row k h4 (by simp), fun i hi => ap.big k (h5 i hi)⟩
theorem TimeOk.keep {hasTiming : Bool} {bs : Int} {hg : Bool} {tb : Nat} {tm : Option Addr} {S : List Nat} {w w' : World} (h : TimeOk hasTiming bs hg tb tm w) (ap : Apart S w) (k : Keeps S w w') : TimeOk hasTiming bs hg tb tm w' := by
  intro e; obtain ⟨tc, X, Y, h1, h2, h3⟩ := h e
  exact ⟨tc, X, Y, h1, ap.row k h2 (by simp), ap.row k h3 (by simp)⟩
end Go.Proofs.Ybulkeafg.GW
