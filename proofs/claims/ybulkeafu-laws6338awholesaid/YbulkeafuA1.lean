import Derived.Test.YbulkeafuRows
import Derived.Test.YbulkeafuB1
import Derived.BigRegion
namespace Go.Proofs.Ybulkeafu.TW
open Go.RowKit Go.Proofs.Ybulkeafu.Kit Go.Proofs.Ybulkeafu.BW

/-! ### the plain side: prefix sums, a tree told by three functions -/
/-- The sum of H over l, l + 1, .., l + n - 1. -/
def rsum (H : Nat → Int) (l : Nat) : Nat → Int
  | 0 => 0
  | n + 1 => rsum H l n + H (l + n)
theorem rsum_add (H : Nat → Int) (l a : Nat) : ∀ b, rsum H l (a + b) = rsum H l a + rsum H (l + a) b
  | 0 => by simp [rsum]
  | b + 1 => by
    rw [← Nat.add_assoc, rsum, rsum_add H l a b, rsum, Nat.add_assoc]
    omega
theorem rsum_nonneg {H : Nat → Int} (h : ∀ i, 0 ≤ H i) (l : Nat) : ∀ n, 0 ≤ rsum H l n
  | 0 => Int.le_refl _
  | n + 1 => by have := rsum_nonneg h l n; have := h (l + n); simp only [rsum]; omega
theorem rsum_le {H : Nat → Int} (h : ∀ i, H i ≤ 65535) (l : Nat) : ∀ n, rsum H l n ≤ 65535 * n
  | 0 => by simp [rsum]
  | n + 1 => by have := rsum_le h l n; have := h (l + n); simp only [rsum]; omega

/-- Items l .. l + len - 1 hang under r, in order; each root bears its items' sum. ('f': depth enough.) -/
def Tr (H S Lf Rf : Nat → Int) : Nat → Nat → Nat → Nat → Prop
  | 0, _, len, r => len = 0 ∧ r = 0
  | f + 1, l, len, r => (len = 0 ∧ r = 0) ∨ (l ≤ r ∧ r < l + len ∧ S r = rsum H l len ∧
      ∃ a b : Nat, Lf r = a ∧ Rf r = b ∧ Tr H S Lf Rf f l (r - l) a ∧ Tr H S Lf Rf f (r + 1) (l + len - (r + 1)) b)
/-- It hangs on nothing outside its items. -/
theorem Tr_congr {H S Lf Rf S' Lf' Rf' : Nat → Int} : ∀ (f l len r : Nat), (∀ i, l ≤ i → i < l + len → S' i = S i ∧ Lf' i = Lf i ∧ Rf' i = Rf i) → Tr H S Lf Rf f l len r → Tr H S' Lf' Rf' f l len r
  | 0, _, _, _, _, h => h
  | f + 1, l, len, r, e, h => by
    rcases h with h | ⟨h1, h2, h3, a, b, h4, h5, h6, h7⟩
    · exact .inl h
    · have er := e r h1 h2
      refine .inr ⟨h1, h2, er.1.trans h3, a, b, er.2.1.trans h4, er.2.2.trans h5, Tr_congr f _ _ _ (fun i a b => e i (by omega) (by omega)) h6, Tr_congr f _ _ _ (fun i a b => e i (by omega) (by omega)) h7⟩

/-! ### the memory of a tree -/
def momF (Hd S : Nat → Int) (i : Nat) : Value := if i % 4 = 2 then .int .i64 (Hd (i / 4)) else if i % 4 = 3 then .int .i64 (S (i / 4)) else .float .f64 0
theorem momF_0 (Hd S : Nat → Int) (k : Nat) : momF Hd S (k * 4) = .float .f64 0 := by
  simp only [momF]; rw [if_neg (by omega), if_neg (by omega)]
theorem momF_1 (Hd S : Nat → Int) (k : Nat) : momF Hd S (k * 4 + 1) = .float .f64 0 := by
  simp only [momF]; rw [if_neg (by omega), if_neg (by omega)]
theorem momF_2 (Hd S : Nat → Int) (k : Nat) : momF Hd S (k * 4 + 2) = .int .i64 (Hd k) := by
  simp only [momF]; rw [if_pos (by omega), show (k * 4 + 2) / 4 = k by omega]
theorem momF_3 (Hd S : Nat → Int) (k : Nat) : momF Hd S (k * 4 + 3) = .int .i64 (S k) := by
  simp only [momF]; rw [if_neg (by omega), if_pos (by omega), show (k * 4 + 3) / 4 = k by omega]

def tcells (mb lb rb n1 : Nat) (root : Int) (x4 x5 x6 x7 x8 : Value) : List Value :=
  [.slice (some ⟨mb, 0, none⟩) n1 n1, .int .i64 root, .slice (some ⟨lb, 0, none⟩) n1 n1, .slice (some ⟨rb, 0, none⟩) n1 n1, x4, x5, x6, x7, x8]

structure St (w : World) (mb tb lb rb cb n1 : Nat) (root : Int) (x4 x5 x6 x7 x8 : Value) (Hd S Lf Rf : Nat → Int) (ctr : Nat) : Prop where
  t : Row w tb 34 (tcells mb lb rb n1 root x4 x5 x6 x7 x8)
  m : Row w mb 40 (rowF (n1 * 4) (momF Hd S))
  l : Row w lb 3 (rowF n1 fun i => .int .i64 (Lf i))
  r : Row w rb 3 (rowF n1 fun i => .int .i64 (Rf i))
  c : Row w cb 3 [.int .i64 (ctr : Int)]

/-- The shape's bytes, in memory older than the tree's. -/
def ShapeAt (w : World) (a : Option Addr) (n mb : Nat) (Z : Nat → Int) : Prop :=
  0 < n → ∃ b o, a = some ⟨b, o, none⟩ ∧ b < mb ∧ b < w.heap.size ∧ ∀ i, i < n → w.cell? ⟨b, o + i, none⟩ = some (.int .u8 (Z i)) ∧ 0 ≤ Z i ∧ Z i ≤ 255

def upd (F : Nat → Int) (k : Nat) (v : Int) (i : Nat) : Int := if i = k then v else F i
theorem set_int (n : Nat) (F : Nat → Int) (k : Nat) (v : Int) : (rowF n fun i => Value.int .i64 (F i)).set k (.int .i64 v) = rowF n fun i => .int .i64 (upd F k v i) := by
  rw [rowF_set]
  apply rowF_congr
  intro i _
  unfold upd
  split <;> rfl
theorem set_sum (n : Nat) (Hd S : Nat → Int) (k : Nat) (v : Int) : (rowF n (momF Hd S)).set (k * 4 + 3) (.int .i64 v) = rowF n (momF Hd (upd S k v)) := by
  rw [rowF_set]
  apply rowF_congr
  intro i _
  by_cases h : i = k * 4 + 3
  · subst h; rw [if_pos rfl, momF_3]; simp [upd]
  · rw [if_neg h]
    unfold momF
    by_cases h3 : i % 4 = 3
    · have : upd S k v (i / 4) = S (i / 4) := by unfold upd; rw [if_neg (by omega)]
      rw [this]
    · simp [h3]
theorem set_held (n : Nat) (Hd S : Nat → Int) (k : Nat) (v : Int) : (rowF n (momF Hd S)).set (k * 4 + 2) (.int .i64 v) = rowF n (momF (upd Hd k v) S) := by
  rw [rowF_set]
  apply rowF_congr
  intro i _
  by_cases h : i = k * 4 + 2
  · subst h; rw [if_pos rfl, momF_2]; simp [upd]
  · rw [if_neg h]
    unfold momF
    by_cases h3 : i % 4 = 2
    · have : upd Hd k v (i / 4) = Hd (i / 4) := by unfold upd; rw [if_neg (by omega)]
      rw [this]
    · simp [h3]
end Go.Proofs.Ybulkeafu.TW
