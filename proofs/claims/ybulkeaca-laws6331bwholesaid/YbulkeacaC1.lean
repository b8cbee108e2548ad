import Derived.Test.YbulkeacaKeep
import Derived.Test.YbulkeacaChecked
import Derived.Deep.RegionHeld3
import Derived.Deep.RegionLawGrows
import Derived.Deep.DeepCutAuto
import Derived.BigRegion
import Derived.LaidEqlPtr
namespace Go.Proofs.Ybulkeaca.CW
open Go.RowKit Go.Proofs.Ybulkeaca.Kit

/-! ### A description of the memory that the law makes: for each tag the block and what lies in it. -/
inductive Tag where
  | pool | lr | mp | fs | fa | sts | ptrs | L | ls | want | ch | legs
  | file (f : Nat) | st (s : Nat) | rl (s : Nat) | rb (s : Nat) | rr (s : Nat) | ml (s : Nat) | mb (s : Nat) | mr (s : Nat) | x (n : Nat)
  deriving DecidableEq

abbrev Desc := Tag → Option (Nat × Obj)
def upd (D : Desc) (t : Tag) (b : Nat) (o : Obj) : Desc := fun t' => if t' = t then some (b, o) else D t'
theorem upd_same (D : Desc) (t : Tag) (b : Nat) (o : Obj) : upd D t b o t = some (b, o) := by simp [upd]
theorem upd_other {D : Desc} {t t' : Tag} {b : Nat} {o : Obj} (h : t' ≠ t) : upd D t b o t' = D t' := by simp [upd, h]

/-- a row of cells -/
abbrev row (cs : List Value) (e : TypeId) : Obj := .cells cs.toArray e (0, 0)

structure Holds (w0 w : World) (D : Desc) : Prop where
  at_ : ∀ t b o, D t = some (b, o) → w.heap[b]? = some o
  inj : ∀ t t' b o o', D t = some (b, o) → D t' = some (b, o') → t = t'
  lo : ∀ t b o, D t = some (b, o) → w0.heap.size ≤ b
  kp : Keeps [] w0 w

section
variable {w0 w w' : World} {D : Desc} {t : Tag} {b : Nat} {o : Obj}

theorem Holds.lt (h : Holds w0 w D) (hd : D t = some (b, o)) : b < w.heap.size := lt_of_block (h.at_ t b o hd)
theorem Holds.row {cs : List Value} {e : TypeId} (h : Holds w0 w D) (hd : D t = some (b, row cs e)) : Row w b e cs := h.at_ t b _ hd
theorem Holds.cell {cs : List Value} {e : TypeId} (h : Holds w0 w D) (hd : D t = some (b, CW.row cs e)) {i : Nat} {v : Value} (hi : cs[i]? = some v) : w.cell? ⟨b, i, none⟩ = some v := (h.row hd).cell hi
theorem Holds.free {cs : List Value} {e : TypeId} (h : Holds w0 w D) (hd : D t = some (b, CW.row cs e)) (i : Nat) : w.frozen? ⟨b, i, none⟩ = false := (h.row hd).free i
theorem Holds.keep (h : Holds w0 w D) (k : Keeps [] w w') : Holds w0 w' D :=
  ⟨fun t b o hd => (k.block b (h.lt hd) (by simp)).trans (h.at_ t b o hd), h.inj, h.lo, h.kp.trans k⟩
theorem Holds.drew (h : Holds w0 w D) : Holds w0 w.drew D := h.keep (Keeps.refl _ _).drew
theorem Holds.drewN (h : Holds w0 w D) (n : Nat) : Holds w0 (w.drewN n) D := h.keep ((Keeps.refl _ _).drewN n)
theorem Holds.alloc (h : Holds w0 w D) (o : Obj) : Holds w0 (w.alloc o) D := h.keep ((Keeps.refl _ _).alloc o)
/-- The one law of change: the blocks of the list S, all of them the tag's own, may have turned; the tag's block is b now. -/
theorem Holds.put {S : List Nat} (h : Holds w0 w D) (k : Keeps S w w') (hw : w'.heap[b]? = some o) (hS : ∀ x ∈ S, ∃ o', D t = some (x, o')) (hb : w.heap.size ≤ b ∨ ∃ o', D t = some (b, o')) : Holds w0 w' (upd D t b o) := by
  have other : ∀ t' b' o', t' ≠ t → D t' = some (b', o') → b' ∉ S := fun t' b' o' hne hd hm => by
    obtain ⟨o'', hx⟩ := hS b' hm
    exact hne (h.inj _ _ _ _ _ hd hx)
  have nb : ∀ t' o', t' ≠ t → D t' ≠ some (b, o') := fun t' o' hne hd => by
    rcases hb with hb | ⟨o'', hx⟩
    · have := h.lt hd; omega
    · exact hne (h.inj _ _ _ _ _ hd hx)
  refine ⟨fun t' b' o' hd => ?_, fun t1 t2 b' o1 o2 h1 h2 => ?_, fun t' b' o' hd => ?_, h.kp.after k (fun i hi hm => ?_)⟩
  · by_cases e : t' = t
    · subst e; rw [upd_same] at hd; cases hd; exact hw
    · rw [upd_other e] at hd
      exact (k.block b' (h.lt hd) (other t' b' o' e hd)).trans (h.at_ t' b' o' hd)
  · by_cases e1 : t1 = t
    · by_cases e2 : t2 = t
      · rw [e1, e2]
      · subst e1; rw [upd_same] at h1; cases h1; rw [upd_other e2] at h2; exact absurd h2 (nb _ _ e2)
    · rw [upd_other e1] at h1
      by_cases e2 : t2 = t
      · subst e2; rw [upd_same] at h2; cases h2; exact absurd h1 (nb _ _ e1)
      · rw [upd_other e2] at h2; exact h.inj _ _ _ _ _ h1 h2
  · by_cases e : t' = t
    · subst e; rw [upd_same] at hd; cases hd
      rcases hb with hb | ⟨o'', hx⟩
      · exact Nat.le_trans h.kp.size hb
      · exact h.lo _ _ _ hx
    · rw [upd_other e] at hd; exact h.lo _ _ _ hd
  · obtain ⟨o'', hx⟩ := hS i hm
    have := h.lo _ _ _ hx
    omega
theorem Holds.new (h : Holds w0 w D) (t : Tag) (o : Obj) : Holds w0 (w.alloc o) (upd D t w.heap.size o) :=
  h.put (S := []) ((Keeps.refl _ _).alloc o) (heap_alloc_new w o) (by simp) (.inl (Nat.le_refl _))
theorem Holds.set {cs : List Value} {e : TypeId} (h : Holds w0 w D) (hd : D t = some (b, CW.row cs e)) (i : Nat) (v : Value) : Holds w0 (w.setCell ⟨b, i, none⟩ v) (upd D t b (CW.row (cs.set i v) e)) :=
  h.put (S := [b]) ((Keeps.refl _ _).setCell (.inl (by simp)) v) ((h.row hd).set i v) (fun x hx => by simp at hx; subst hx; exact ⟨_, hd⟩) (.inr ⟨_, hd⟩)
/-- a store of what lies there already, or whatever leaves the tags' blocks alone -/
theorem Holds.same (h : Holds w0 w D) (hd : D t = some (b, o)) : Holds w0 w (upd D t b o) := by
  have e : upd D t b o = D := by
    funext t'; by_cases e : t' = t
    · subst e; rw [upd_same, hd]
    · rw [upd_other e]
  rw [e]; exact h
/-- a world that differs only in new blocks and in blocks that bear no tag -/
theorem Holds.keepS {S : List Nat} (h : Holds w0 w D) (k : Keeps S w w') (hS : ∀ t b o, D t = some (b, o) → b ∉ S) (hlo : ∀ x ∈ S, w0.heap.size ≤ x) : Holds w0 w' D :=
  ⟨fun t b o hd => (k.block b (h.lt hd) (hS t b o hd)).trans (h.at_ t b o hd), h.inj, h.lo, h.kp.after k (fun i hi hm => by have := hlo i hm; omega)⟩
end

/-! ### a slice of the law's own -/
def Sl (D : Desc) (t : Tag) (e : TypeId) (sz : Nat) (v : Value) (vs : List Value) : Prop :=
  (v = .slice none 0 0 ∧ vs = []) ∨ ∃ g k cap spare, v = .slice (some ⟨g, 0, none⟩) k cap ∧ vs.length = k * sz ∧ (vs ++ spare).length = cap * sz ∧ cap ≤ maxLen ∧ D t = some (g, row (vs ++ spare) e)

theorem Sl.nil (D : Desc) (t : Tag) (e : TypeId) (sz : Nat) : Sl D t e sz (.slice none 0 0) [] := .inl ⟨rfl, rfl⟩
theorem Sl.other {D : Desc} {t t' : Tag} {e : TypeId} {sz : Nat} {v : Value} {vs : List Value} (h : Sl D t e sz v vs) (ht : t ≠ t') (b : Nat) (o : Obj) : Sl (upd D t' b o) t e sz v vs := by
  rcases h with h | ⟨g, k, cap, spare, h1, h2, h3, h4, h5⟩
  · exact .inl h
  · exact .inr ⟨g, k, cap, spare, h1, h2, h3, h4, by rw [upd_other ht]; exact h5⟩
theorem Sl.congr {D D' : Desc} {t : Tag} {e : TypeId} {sz : Nat} {v : Value} {vs : List Value} (h : Sl D t e sz v vs) (hd : D' t = D t) : Sl D' t e sz v vs := by
  rcases h with h | ⟨g, k, cap, spare, h1, h2, h3, h4, h5⟩
  · exact .inl h
  · exact .inr ⟨g, k, cap, spare, h1, h2, h3, h4, hd.trans h5⟩

/-- what 'append' asks of an element's type -/
def ElemOk (P : Program) (t e : TypeId) (sz : Nat) : Prop :=
  ∃ i z, P.underlying t = some (.slice e) ∧ P.info? e = some i ∧ i.zero = some z ∧ i.size = sz ∧ i.bytes ≤ 1000 ∧ z.cells.size = sz ∧ 0 < sz

theorem run_append_sl {P : Program} {w0 w : World} {D : Desc} {tg : Tag} {tt e ty : TypeId} {sz : Nat} {v : Value} {vs news : List Value} {b c : Nat} (hE : ElemOk P tt e sz) (h : Holds w0 w D) (hsl : Sl D tg e sz v vs)
    (hrow : Row w b e news) (hn : news.length = sz) (h1 : ∀ u ∈ news, u.oneCell' = true) (hlen : vs.length ≤ 10000000) :
    ∃ g k cap w' o, (Builtin.append_ #[tt, tt] ty #[v, .slice (some ⟨b, 0, none⟩) 1 c]).run P w = .ok (.slice (some ⟨g, 0, none⟩) k cap) w' ∧ k * sz = vs.length + sz ∧ Holds w0 w' (upd D tg g o) ∧ Sl (upd D tg g o) tg e sz (.slice (some ⟨g, 0, none⟩) k cap) (vs ++ news) := by
  obtain ⟨i, z, ht, hi, hz, hsz, hby, hzs, hpos⟩ := hE
  have hnews : ∀ j u, news[j]? = some u → w.cell? ((⟨b, 0, none⟩ : Addr).add j) = some u := fun j u hj => by
    rw [Addr.add_lit]; simp; exact hrow.cell hj
  have own : ∀ (n : Nat) (v' : Value) (w' : World), w'.ownsRow w.heap.size e sz v' (n + 1) (vs ++ news) → w.grownBy w' none → ∃ g cap o, v' = .slice (some ⟨g, 0, none⟩) (n + 1) cap ∧ Holds w0 w' (upd D tg g o) ∧ Sl (upd D tg g o) tg e sz (.slice (some ⟨g, 0, none⟩) (n + 1) cap) (vs ++ news) := by
    intro n v' w' hown hgr
    obtain ⟨hl, hc⟩ := hown
    rcases hc with ⟨_, hc⟩ | ⟨g, cap, cur, rfl, hbg, hg, hnc, hcm, hcs, htake⟩
    · omega
    · refine ⟨g, cap, .cells cur e (0, 0), rfl, h.put (S := []) ⟨hgr.os, hgr.tape, hgr.output, hgr.size, fun k hk _ => hgr.block k hk (by simp)⟩ hg (by simp) (.inl hbg), .inr ⟨g, n + 1, cap, cur.toList.drop ((n + 1) * sz), rfl, hl, ?_, hcm, ?_⟩⟩
      · rw [← htake, List.take_append_drop]; simpa using hcs
      · rw [upd_same, ← htake, List.take_append_drop, row]
  rcases hsl with ⟨rfl, rfl⟩ | ⟨g, k, cap, spare, rfl, hl, hl2, hcm, hd⟩
  · obtain ⟨v', w', hr, ho, hgr, _⟩ := run_append_own (P := P) w w.heap.size tt ty e i z sz i.bytes ht hi hz hsz rfl hzs hpos (.slice none 0 0) 0 [] (World.ownsRow_nil w _ e sz) ⟨b, 0, none⟩ 1 c news (by omega) hnews h1 (by unfold maxLen; omega) (by omega) (Nat.le_refl _)
    obtain ⟨g, cap, o, rfl, h2, h3⟩ := own 0 v' w' ho hgr
    exact ⟨g, _, cap, w', o, hr, by simp, h2, h3⟩
  · have hk : k ≤ 10000000 := Nat.le_trans (Nat.le_mul_of_pos_right k hpos) (hl ▸ hlen)
    by_cases hroom : k + 1 ≤ cap
    · have hg := h.at_ _ _ _ hd
      have hfit : k * i.size + news.length ≤ (vs ++ spare).toArray.size := by
        rw [List.size_toArray, hl2, hn, hsz]
        have := Nat.mul_le_mul_right sz hroom
        rw [Nat.add_mul] at this; omega
      have hr := run_append_room (P := P) w tt ty e i ht hi g k cap (vs ++ spare).toArray hg ⟨b, 0, none⟩ 1 c news (by omega) hnews h1 hroom hfit
      have hcut : (vs ++ spare).take (k * i.size) ++ news ++ (vs ++ spare).drop (k * i.size + news.length) = (vs ++ news) ++ spare.drop news.length := by
        rw [hsz, ← hl, List.take_left, List.drop_append, List.drop_of_length_le (by omega), show vs.length + news.length - vs.length = news.length by omega]; simp
      refine ⟨g, _, cap, _, row ((vs ++ news) ++ spare.drop news.length) e, hr, by rw [Nat.add_mul, hl]; omega, ?_, .inr ⟨g, k + 1, cap, spare.drop news.length, rfl, ?_, ?_, hcm, upd_same _ _ _ _⟩⟩
      · refine h.put (S := [g]) (Keeps.setRow _ _ _) ?_ (fun x hx => by simp at hx; subst hx; exact ⟨_, hd⟩) (.inr ⟨_, hd⟩)
        rw [setRow_heap w g _ _ e _ hg]
        rw [← hcut]
      · rw [List.length_append, hl, hn, Nat.add_mul]; omega
      · have hs2 : sz ≤ spare.length := by
          have := Nat.mul_le_mul_right sz hroom
          rw [Nat.add_mul] at this
          rw [List.length_append] at hl2; omega
        rw [List.length_append, List.length_append, List.length_drop, hn]
        rw [List.length_append] at hl2; omega
    · have hc := fun j u (hj : vs[j]? = some u) => h.cell hd (i := j) (v := u) (by rw [List.getElem?_append_left (List.getElem?_eq_some_iff.1 hj).1]; exact hj)
      obtain ⟨v', w', hr, ho, hgr⟩ := run_append_arg_grows (P := P) w tt ty e i z sz i.bytes ht hi hz hsz rfl hzs hpos ⟨g, 0, none⟩ k cap vs hl (fun j u hj => by rw [Addr.add_lit]; simp; exact hc j u hj) ⟨b, 0, none⟩ 1 c news (by omega) hnews (by omega) (by unfold maxLen; omega) (by have : (k + 1) * i.bytes ≤ 10000001 * 1000 := Nat.mul_le_mul (by omega) hby; omega)
      obtain ⟨g', cap', o, rfl, h2, h3⟩ := own k v' w' ho hgr
      exact ⟨g', _, cap', w', o, hr, by rw [Nat.add_mul, hl]; omega, h2, h3⟩

theorem wp_append_sl {P : Program} {o : Oper} {a : Act} {K : Act → World → Prop} {Q : Exit → Act → World → Prop} {w0 w : World} {D : Desc} {tg : Tag} {e : TypeId} {sz : Nat} {v : Value} {vs news : List Value} {b c : Nat} (s x : Operand) (tt : TypeId)
    (ho : o.op = .call { callee := .builtin .append, args := #[s, x], argTypes := #[tt, tt] }) (hE : ElemOk P tt e sz) (h : Holds w0 w D) (hsl : Sl D tg e sz v vs) (hs : a.eval s = v) (hx : a.eval x = .slice (some ⟨b, 0, none⟩) 1 c)
    (hrow : Row w b e news) (hn : news.length = sz) (h1 : ∀ u ∈ news, u.oneCell' = true) (hlen : vs.length ≤ 10000000)
    (hK : ∀ g k cap w' o', k * sz = vs.length + sz → Holds w0 w' (upd D tg g o') → Sl (upd D tg g o') tg e sz (.slice (some ⟨g, 0, none⟩) k cap) (vs ++ news) → K (a.put o.dst (.slice (some ⟨g, 0, none⟩) k cap)) w') : o.wp P a w K Q := by
  obtain ⟨g, k, cap, w', o', hr, h2, h3, h4⟩ := run_append_sl (ty := o.type) (c := c) hE h hsl hrow hn h1 hlen
  unfold Oper.wp execOp
  simp only [ho, resolve, invoke, builtin, Sem.run_bind, Sem.run_pure, Result.andThen_ok, List.map_toArray, List.map_cons, List.map_nil, hs, hx, hr]
  exact hK g k cap w' o' h2 h3 h4
theorem wpList_append_sl {P : Program} {ops : Array Oper} {rest : List Oper} {o : Oper} {a : Act} {Q : Exit → Act → World → Prop} {w0 w : World} {D : Desc} {tg : Tag} {e : TypeId} {sz : Nat} {v : Value} {vs news : List Value} {b c : Nat} (hgd : o.guard = none) (s x : Operand) (tt : TypeId)
    (ho : o.op = .call { callee := .builtin .append, args := #[s, x], argTypes := #[tt, tt] }) (hE : ElemOk P tt e sz) (h : Holds w0 w D) (hsl : Sl D tg e sz v vs) (hs : a.eval s = v) (hx : a.eval x = .slice (some ⟨b, 0, none⟩) 1 c)
    (hrow : Row w b e news) (hn : news.length = sz) (h1 : ∀ u ∈ news, u.oneCell' = true) (hlen : vs.length ≤ 10000000)
    (hK : ∀ g k cap w' o', k * sz = vs.length + sz → Holds w0 w' (upd D tg g o') → Sl (upd D tg g o') tg e sz (.slice (some ⟨g, 0, none⟩) k cap) (vs ++ news) → wpList P ops Q rest (a.put o.dst (.slice (some ⟨g, 0, none⟩) k cap)) w') : wpList P ops Q (o :: rest) a w :=
  wpList_plain hgd fun _ hK' => wp_append_sl s x tt ho hE h hsl hs hx hrow hn h1 hlen fun g k cap w' o' h2 h3 h4 => hK' _ _ (hK g k cap w' o' h2 h3 h4)
/-- the same as one step of a region that draws -/
theorem step_append_sl {P : Program} {ops : Array Oper} {o : Oper} {a : Act} {K : Act → World → Prop} {Q : Exit → Act → World → Prop} {E : Prop} {w0 w : World} {D : Desc} {tg : Tag} {e : TypeId} {sz : Nat} {v : Value} {vs news : List Value} {b c : Nat} (hgd : o.guard = none) (s x : Operand) (tt : TypeId)
    (ho : o.op = .call { callee := .builtin .append, args := #[s, x], argTypes := #[tt, tt] }) (hE : ElemOk P tt e sz) (h : Holds w0 w D) (hsl : Sl D tg e sz v vs) (hs : a.eval s = v) (hx : a.eval x = .slice (some ⟨b, 0, none⟩) 1 c)
    (hrow : Row w b e news) (hn : news.length = sz) (h1 : ∀ u ∈ news, u.oneCell' = true) (hlen : vs.length ≤ 10000000)
    (hK : ∀ g k cap w' o', k * sz = vs.length + sz → Holds w0 w' (upd D tg g o') → Sl (upd D tg g o') tg e sz (.slice (some ⟨g, 0, none⟩) k cap) (vs ++ news) → K (a.put o.dst (.slice (some ⟨g, 0, none⟩) k cap)) w') :
    if Region.wanted o (yielded ops a.tmps) = true then Oper.wp P o a w K Q else E := by
  rw [if_pos (by simp [Region.wanted, hgd])]
  exact wp_append_sl s x tt ho hE h hsl hs hx hrow hn h1 hlen hK
end Go.Proofs.Ybulkeaca.CW
