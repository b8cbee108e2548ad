import Derived.Test.YbulkeacaKit
import Derived.Laws.AppendOwn
import Derived.Lib.UnsafeStr
namespace Go.Proofs.Ybulkeaca.Kit
open Go.RowKit

/-! ### 'Keeps S w w'': of the blocks that were there all but those of the list S are as they were; the streams too. -/
structure Keeps (S : List Nat) (w w' : World) : Prop where
  os : w'.os = w.os
  tape : w'.tape = w.tape
  output : w'.output = w.output
  size : w.heap.size ≤ w'.heap.size
  block : ∀ k, k < w.heap.size → k ∉ S → w'.heap[k]? = w.heap[k]?

theorem Keeps.refl (S : List Nat) (w : World) : Keeps S w w := ⟨rfl, rfl, rfl, Nat.le_refl _, fun _ _ _ => rfl⟩
theorem Keeps.trans {S : List Nat} {a b c : World} (h : Keeps S a b) (k : Keeps S b c) : Keeps S a c :=
  ⟨k.os.trans h.os, k.tape.trans h.tape, k.output.trans h.output, Nat.le_trans h.size k.size, fun i hi hn => (k.block i (Nat.lt_of_lt_of_le hi h.size) hn).trans (h.block i hi hn)⟩
theorem Keeps.mono {S T : List Nat} {a b : World} (h : Keeps S a b) (hs : ∀ k, k < a.heap.size → k ∈ S → k ∈ T) : Keeps T a b :=
  ⟨h.os, h.tape, h.output, h.size, fun k hk hn => h.block k hk (fun m => hn (hs k hk m))⟩
/-- One stretch behind another: the second may turn more, as long as it is new. -/
theorem Keeps.after {S T : List Nat} {a b c : World} (h : Keeps S a b) (k : Keeps T b c) (hT : ∀ i, i < a.heap.size → i ∈ T → i ∈ S) : Keeps S a c :=
  ⟨k.os.trans h.os, k.tape.trans h.tape, k.output.trans h.output, Nat.le_trans h.size k.size, fun i hi hn => (k.block i (Nat.lt_of_lt_of_le hi h.size) (fun m => hn (hT i hi m))).trans (h.block i hi hn)⟩
theorem Keeps.drew {S : List Nat} {a w : World} (h : Keeps S a w) : Keeps S a w.drew := ⟨h.os, h.tape, h.output, h.size, h.block⟩
theorem Keeps.drewN {S : List Nat} {a w : World} (h : Keeps S a w) (n : Nat) : Keeps S a (w.drewN n) := ⟨h.os, h.tape, h.output, h.size, h.block⟩
theorem Keeps.alloc {S : List Nat} {a w : World} (h : Keeps S a w) (o : Obj) : Keeps S a (w.alloc o) :=
  h.trans ⟨rfl, rfl, rfl, by simp, fun k hk _ => Below.heap_alloc _ _ _ hk⟩
/-- A store into a block of the list, or into a new one. -/
theorem Keeps.setCell {S : List Nat} {a w : World} (h : Keeps S a w) {p : Addr} (hp : p.block ∈ S ∨ a.heap.size ≤ p.block) (u : Value) : Keeps S a (w.setCell p u) := by
  refine ⟨h.os, h.tape, h.output, by simpa [World.setCell] using h.size, fun k hk hn => ?_⟩
  rw [Below.heap_setCell w p u k (fun e => ?_)]
  · exact h.block k hk hn
  · rcases hp with hp | hp
    · exact hn (e ▸ hp)
    · omega
theorem Keeps.freeze {S : List Nat} {a w : World} (h : Keeps S a w) {p : Addr} (hp : p.block ∈ S ∨ a.heap.size ≤ p.block) (n : Nat) : Keeps S a (w.freeze p n) := by
  unfold World.freeze
  split
  · exact h
  · refine ⟨h.os, h.tape, h.output, by simpa using h.size, fun k hk hn => ?_⟩
    rw [← h.block k hk hn]
    simp only [Array.getElem?_modify]
    rw [if_neg (fun e => ?_)]
    rcases hp with hp | hp
    · exact hn (e ▸ hp)
    · omega
theorem Keeps.below {S : List Nat} {w w' : World} {B : Nat} (h : Keeps S w w') (hS : ∀ k, k < w.heap.size → k ∈ S → B ≤ k) (hB : B ≤ w.heap.size) : Below B w w' :=
  ⟨h.os, h.tape, h.output, h.size, fun k hk => h.block k (by omega) (fun m => by have := hS k (by omega) m; omega)⟩
theorem Keeps.of_below {w w' : World} {B : Nat} (h : Below B w w') (S : List Nat) (hS : ∀ k, k < w.heap.size → B ≤ k → k ∈ S) : Keeps S w w' :=
  ⟨h.os, h.tape, h.output, h.size, fun k hk hn => h.block k (Nat.lt_of_not_le fun e => hn (hS k hk e))⟩
theorem Keeps.new {w w' : World} (h : Below w.heap.size w w') (S : List Nat) : Keeps S w w' := Keeps.of_below h S (fun k h1 h2 => by omega)
theorem Keeps.cell {S : List Nat} {w w' : World} (h : Keeps S w w') {p : Addr} (hl : p.block < w.heap.size) (hn : p.block ∉ S) : w'.cell? p = w.cell? p := World.cell?_of_block (w := w) (h.block p.block hl hn)
theorem Row.new' (w : World) (t : TypeId) (cs : List Value) {n : Nat} (h : w.heap.size = n) : Row (w.alloc (.cells cs.toArray t)) n t cs := h ▸ Row.new w t cs
theorem Row.keeps {w w' : World} {b : Nat} {t : TypeId} {cs : List Value} (h : Row w b t cs) {S : List Nat} (k : Keeps S w w') (hn : b ∉ S) : Row w' b t cs := by
  have hl := h.lt
  unfold Row at h ⊢
  rw [k.block b hl hn]; exact h

theorem Keeps.setRow (w : World) (g : Nat) (cs : Array Value) : Keeps [g] w (w.setRow g cs) :=
  ⟨rfl, rfl, rfl, by simp [World.setRow], fun k _ hn => setRow_other w g k cs (fun e => hn (by simp [e]))⟩

/-- 'append(dst, src...)' within the capacity, dst at the head of a row known whole. -/
theorem wpList_append_row {P : Program} {w : World} {ops : Array Oper} {rest : List Oper} {o : Oper} {a : Act} {Q : Exit → Act → World → Prop}
    (hg : o.guard = none) (s x : Operand) (t : TypeId) (hop : o.op = Op.call { callee := Callee.builtin Builtin.append, args := #[s, x], argTypes := #[t, t] })
    (e : TypeId) (z : Value) (size bytes : Nat) (h1 : P.underlying t = some (.slice e)) (h2 : (P.info? e).map (fun i => (i.zero, i.size, i.bytes)) = some (some z, size, bytes))
    (g k cap : Nat) (cs : List Value) (hs : a.eval s = .slice (some ⟨g, 0, none⟩) k cap) (hrow : Row w g e cs) (hcap : cs.length = cap * size) (ad : Addr) (m c : Nat) (news : List Value) (hx : a.eval x = .slice (some ad) m c) (hn : news.length = m * size)
    (hc : ∀ j u, news[j]? = some u → w.cell? (ad.add j) = some u) (h1c : ∀ u ∈ news, u.oneCell' = true) (b1 : k + m ≤ cap)
    (hK : ∀ w', Row w' g e (cs.take (k * size) ++ news ++ cs.drop (k * size + news.length)) → w'.heap.size = w.heap.size → Keeps [g] w w' → wpList P ops Q rest (a.put o.dst (.slice (some ⟨g, 0, none⟩) (k + m) cap)) w') :
    wpList P ops Q (o :: rest) a w := by
  obtain ⟨i, hi, hz, rfl, rfl⟩ := info_parts h2
  refine wpList_plain hg fun K hK' => ?_
  have hfit : k * i.size + news.length ≤ cs.toArray.size := by rw [hn, List.size_toArray, hcap, ← Nat.add_mul]; exact Nat.mul_le_mul_right _ b1
  have hrun := run_append_room (P := P) w t o.type e i h1 hi g k cap cs.toArray hrow ad m c news hn hc h1c b1 hfit
  unfold Oper.wp
  simp [execOp, hop, resolve, invoke, builtin, hs, hx, hrun, Result.andThen]
  refine hK' _ _ (hK _ ?_ (by simp [World.setRow]) (Keeps.setRow _ _ _))
  show _ = _
  rw [setRow_heap w g cs.toArray _ e (0, 0) hrow]
  simp

end Go.Proofs.Ybulkeaca.Kit
