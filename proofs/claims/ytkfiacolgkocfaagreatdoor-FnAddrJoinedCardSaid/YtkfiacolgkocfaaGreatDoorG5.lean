/- A list of parts, cloned and grown. -/
import Derived.Test.YtkfiacolgkocfaaGreatDoorG4
namespace Go.Proofs.YtkfiacolgkocfaaGreatDoor
open Go Go.RowKit Go.Proofs Go.Sort
def hopCells (l : List HIn) : List Value := l.flatMap fun h => [.int .u8 h.K, h.s.v]
theorem hopCells_len : ∀ l : List HIn, (hopCells l).length = l.length * 2
  | [] => rfl
  | h :: t => by
    have := hopCells_len t
    unfold hopCells at this ⊢
    rw [List.flatMap_cons, List.length_append, this]
    simp
    omega
theorem hopCells_app (l l' : List HIn) : hopCells (l ++ l') = hopCells l ++ hopCells l' := List.flatMap_append
theorem hopCells_at : ∀ (l : List HIn) (i : Nat) (h : HIn), l[i]? = some h → (hopCells l)[i * 2]? = some (.int .u8 h.K) ∧ (hopCells l)[i * 2 + 1]? = some h.s.v
  | [], i, h, hi => by simp at hi
  | x :: t, 0, h, hi => by
    obtain rfl : x = h := Option.some.inj hi
    exact ⟨rfl, rfl⟩
  | x :: t, i + 1, h, hi => by
    have ih := hopCells_at t i h (by simpa using hi)
    have e : hopCells (x :: t) = .int .u8 x.K :: x.s.v :: hopCells t := rfl
    rw [e]
    refine ⟨?_, ?_⟩
    · rw [show (i + 1) * 2 = i * 2 + 1 + 1 by omega, List.getElem?_cons_succ, List.getElem?_cons_succ]; exact ih.1
    · rw [show (i + 1) * 2 + 1 = i * 2 + 1 + 1 + 1 by omega, List.getElem?_cons_succ, List.getElem?_cons_succ]; exact ih.2
theorem hopCells_one (l : List HIn) : ∀ u ∈ hopCells l, u.oneCell' = true := fun u hu => by
  obtain ⟨h, _, hu⟩ := List.mem_flatMap.1 hu
  simp at hu
  rcases hu with rfl | rfl <;> rfl
theorem HAt.cells {w : World} {b o : Nat} {l : List HIn} (h : HAt w b o l) (j : Nat) (u : Value) (hj : (hopCells l)[j]? = some u) : w.cell? ⟨b, o + j, none⟩ = some u := by
  have hlt : j < l.length * 2 := by rw [← hopCells_len]; exact (List.getElem?_eq_some_iff.1 hj).1
  obtain ⟨i, hi⟩ : ∃ i, i = j / 2 := ⟨_, rfl⟩
  have hil : i < l.length := by omega
  have hg : l[i]? = some l[i] := List.getElem?_eq_getElem hil
  obtain ⟨c0, c1, _⟩ := h i _ hg
  obtain ⟨q0, q1⟩ := hopCells_at l i _ hg
  rcases (by omega : j = i * 2 ∨ j = i * 2 + 1) with e | e
  · rw [e] at hj ⊢
    rw [c0, ← hj, q0]
  · rw [e] at hj ⊢
    rw [show o + (i * 2 + 1) = o + i * 2 + 1 by omega, c1, ← hj, q1]
theorem own_HAt {w : World} {B n : Nat} {v : Value} {l : List HIn} (h : w.ownsRow B 37 2 v n (hopCells l)) (hl : l.length = n) (hn : 0 < n) (hok : ∀ x ∈ l, HIn.Ok x w) : ∃ g c, v = .slice (some ⟨g, 0, none⟩) n c ∧ n ≤ c ∧ B ≤ g ∧ HAt w g 0 l := by
  have h0 := h
  rcases h.2 with ⟨_, h1⟩ | ⟨g, cap, cur, rfl, hB, _, hc, _⟩
  · omega
  · refine ⟨g, cap, rfl, hc, hB, fun i x hi => ?_⟩
    have hil : i < n := by rw [← hl]; exact (List.getElem?_eq_some_iff.1 hi).1
    obtain ⟨q0, q1⟩ := hopCells_at l i x hi
    refine ⟨?_, ?_, hok x (List.mem_of_getElem? hi)⟩
    · rw [Nat.zero_add, h0.cellAt _ (by omega)]; exact q0
    · rw [Nat.zero_add, h0.cellAt _ (by omega)]; exact q1
theorem infoHop : (Tryz.prog.info? 37).map (fun i => (i.zero, i.size, i.bytes)) = some (some (.agg #[.int .u8 0, .slice none 0 0]), 2, 32) := by kernel_rfl
theorem hNotNil (a : Addr) (n c : Nat) (w : World) : (binOp .eql 22 (.slice (some a) n c) (.slice none 0 0)).run Tryz.prog w = .ok (.bool false) w := by
  have h := run_equal_slice_nil (P := Tryz.prog) w 22 _ (some a) n c Tryz.underlying22
  simp [binOp, h]
theorem own_emptyH (w : World) : (w.alloc (.cells #[] 37)).ownsRow w.heap.size 37 2 (.slice (some ⟨w.heap.size, 0, none⟩) 0 0) 0 (hopCells []) :=
  ⟨rfl, .inr ⟨w.heap.size, 0, #[], rfl, Nat.le_refl _, heap_alloc_new _ _, Nat.le_refl _, by unfold maxLen; omega, rfl, rfl⟩⟩
/-- append of parts onto a row of the call's own. -/
theorem wpAppH {ops : Array Oper} {rest : List Oper} {o : Oper} {a : Act} {w : World} {Q : Exit → Act → World → Prop} (hgd : o.guard = none) (s x : Operand)
    (ho : o.op = .call { callee := .builtin .append, args := #[s, x], argTypes := #[22, 22] }) (base : Nat) (v : Value) (n : Nat) (l : List HIn) (hs : a.eval s = v) (hown : w.ownsRow base 37 2 v n (hopCells l))
    (ad : Addr) (m c : Nat) (l' : List HIn) (hx : a.eval x = .slice (some ad) m c) (hl : l'.length = m) (hb : ∀ j u, (hopCells l')[j]? = some u → w.cell? (ad.add j) = some u) (hN : n + m ≤ 1000000) (hbase : base ≤ w.heap.size)
    (h : ∀ v' w', w'.ownsRow base 37 2 v' (n + m) (hopCells (l ++ l')) → w.grownBy w' v.ownBlock → wpList Tryz.prog ops Q rest (a.put o.dst v') w') : wpList Tryz.prog ops Q (o :: rest) a w := by
  obtain ⟨i0, hi, hz0, hz1, hz2⟩ := info_parts infoHop
  exact wpList_append_own w hgd s x 22 ho base 37 i0 _ 2 32 Tryz.underlying22 hi hz0 hz1 hz2 rfl (by decide) v n _ hs hown ad m c (hopCells l') hx (by rw [hopCells_len, hl]) hb (hopCells_one _) (by unfold maxLen; omega) (by omega) hbase (fun v' w' h1 h2 _ => h v' w' (by rw [hopCells_app]; exact h1) h2)
/-- .. at a step of a region that draws its order. -/
theorem stepAppH {ops : Array Oper} {o : Oper} {a : Act} {w : World} {K : Act → World → Prop} {Q : Exit → Act → World → Prop} {E : Prop} (hgd : o.guard = none) (d : Nat) (hd : o.dst = some d) (s x : Operand)
    (ho : o.op = .call { callee := .builtin .append, args := #[s, x], argTypes := #[22, 22] }) (base : Nat) (v : Value) (n : Nat) (l : List HIn) (hs : a.eval s = v) (hown : w.ownsRow base 37 2 v n (hopCells l))
    (ad : Addr) (m c : Nat) (l' : List HIn) (hx : a.eval x = .slice (some ad) m c) (hl : l'.length = m) (hb : ∀ j u, (hopCells l')[j]? = some u → w.cell? (ad.add j) = some u) (hN : n + m ≤ 1000000) (hbase : base ≤ w.heap.size)
    (h : ∀ v' w', w'.ownsRow base 37 2 v' (n + m) (hopCells (l ++ l')) → w.grownBy w' v.ownBlock → K (a.put (some d) v') w') : if Region.wanted o (yielded ops a.tmps) = true then Oper.wp Tryz.prog o a w K Q else E := by
  have hw : Region.wanted o (yielded ops a.tmps) = true := by simp [Region.wanted, hgd]
  rw [if_pos hw]
  obtain ⟨i0, hi, hz0, hz1, hz2⟩ := info_parts infoHop
  exact wp_append_own w s x 22 ho base 37 i0 _ 2 32 Tryz.underlying22 hi hz0 hz1 hz2 rfl (by decide) v n _ hs hown ad m c (hopCells l') hx (by rw [hopCells_len, hl]) hb (hopCells_one _) (by unfold maxLen; omega) (by omega) hbase (fun v' w' q1 q2 _ => by rw [hd]; exact h v' w' (by rw [hopCells_app]; exact q1) q2)
/-- 'a list of these parts comes back, in memory of the call's own'. -/
def NewHops (l : List HIn) (w : World) (e : Ending) (w' : World) : Prop :=
  ∃ v, e = .returned v ∧ w'.ownsRow w.heap.size 37 2 v l.length (hopCells l) ∧ Below w.heap.size w w'
set_option maxRecDepth 100000 in
theorem cloneHops (l : List HIn) (k : Nat) (hk : l.length = k) (hk1 : k ≤ 100) (b o c : Nat) (w : World) (hb : HAt w b o l) : Calls Tryz.prog 18 #[.slice (some ⟨b, o, none⟩) k c] w (NewHops l w) := by
  have HB := Lib.hid (And.intro hb hk)
  have hnn := fun w => hNotNil ⟨b, o, none⟩ k c w
  clear hb hk
  go_enter Tryz.func18, Tryz.ntmps18
  go_wp2_with (at_builtin; refine wpAppH rfl _ _ rfl w.heap.size _ 0 [] rfl (own_emptyH w) ⟨b, o, none⟩ k c l rfl HB.out.2 (fun j u hj => by rw [Lib.add_plain]; exact cB ((Below.refl _ _).alloc (Nat.le_refl _) _) (HB.out.1.cells j u hj)) (by omega) (by simp) ?_)
  intro v' w' hown hgrow
  have hBB : Below w.heap.size w w' := grown_below ((Below.refl _ _).alloc (Nat.le_refl _) _) (own_emptyH w) hgrow (by simp)
  have HO := Lib.hid (And.intro hown hBB)
  clear hown hgrow hBB
  go_wp2_with fail
  go_ret
  refine ⟨_, rfl, ?_, HO.out.2⟩
  rw [HB.out.2]
  simpa using HO.out.1
end Go.Proofs.YtkfiacolgkocfaaGreatDoor
