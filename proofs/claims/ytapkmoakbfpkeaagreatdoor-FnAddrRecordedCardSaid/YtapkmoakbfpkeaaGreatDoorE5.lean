/- The law FnAddrRight. -/
import Derived.Test.YtapkmoakbfpkeaaGreatDoorE4
namespace Go.Proofs.YtapkmoakbfpkeaaGreatDoor
open Go Go.RowKit Go.Proofs Go.Sort

theorem HAt.below {w w' : World} {b o : Nat} {l : List HIn} (h : HAt w b o l) (hb : Below w.heap.size w w') : HAt w' b o l := fun i x hx => ⟨cB hb (h i x hx).1, cB hb (h i x hx).2.1, (h i x hx).2.2.below hb⟩
theorem HAt.take {w : World} {b o : Nat} {l : List HIn} (h : HAt w b o l) (j : Nat) : HAt w b o (l.take j) := fun i x hx => h i x (by
  have hi : i < (l.take j).length := (List.getElem?_eq_some_iff.1 hx).1
  rw [List.getElem?_take] at hx
  split at hx
  · exact hx
  · cases hx)
theorem HAt.oks {w : World} {b o : Nat} {l : List HIn} (h : HAt w b o l) (f : List Int → List Int) (hf : ShaIs f) : ∀ x ∈ l.map (hopOf f), HopOk x := fun x hx => by
  obtain ⟨y, hy, rfl⟩ := List.mem_map.1 hx
  obtain ⟨i, hi⟩ := List.getElem?_of_mem hy
  exact hopOf_ok f hf y (h i y hi).2.2.2.2.1
theorem addrB_pos (hs : List Hop) (hh : ∀ x ∈ hs, HopOk x) (h0 : hs ≠ []) : 0 < (addrB hs).length := by
  cases hs with
  | nil => exact absurd rfl h0
  | cons h t =>
    rw [addrB_cons, List.length_append]
    have := hopB_pos h (hh h (by simp)).1
    omega
theorem noneCell (y : Int) : ∃ nv, NoCode nv ∧ ∀ w : World, (w.alloc (.cells #[.int .u8 1, .int .u8 2, .int .u8 3, .int .u8 5, .int .u8 7] 5)).cell? ⟨w.heap.size, (y % 5).toNat, none⟩ = some (.int .u8 nv) := by
  have h : y % 5 = 0 ∨ y % 5 = 1 ∨ y % 5 = 2 ∨ y % 5 = 3 ∨ y % 5 = 4 := by omega
  rcases h with h | h | h | h | h <;> rw [h]
  · exact ⟨1, by unfold NoCode; omega, fun w => World.cell?_alloc_mark w _ _ _ 0⟩
  · exact ⟨2, by unfold NoCode; omega, fun w => World.cell?_alloc_mark w _ _ _ 1⟩
  · exact ⟨3, by unfold NoCode; omega, fun w => World.cell?_alloc_mark w _ _ _ 2⟩
  · exact ⟨5, by unfold NoCode; omega, fun w => World.cell?_alloc_mark w _ _ _ 3⟩
  · exact ⟨7, by unfold NoCode; omega, fun w => World.cell?_alloc_mark w _ _ _ 4⟩

/-- 'wpApp' at a guarded operation. -/
theorem wpAppG {ops : Array Oper} {rest : List Oper} {o : Oper} {a : Act} {w : World} {Q : Exit → Act → World → Prop} (s x : Operand)
    (ho : o.op = .call { callee := .builtin .append, args := #[s, x], argTypes := #[23, 23] }) (hw : Region.wanted o (yielded ops a.tmps) = true) (base : Nat) (v : Value) (n : Nat) (xs : List Int) (hs : a.eval s = v) (hown : w.ownsRow base 5 1 v n (xs.map (Value.int .u8)))
    (ad : Addr) (m c : Nat) (ys : List Int) (hx : a.eval x = .slice (some ad) m c) (hl : ys.length = m) (hb : ∀ i, i < m → w.cell? (ad.add i) = some (.int .u8 (ys.getD i 0))) (hN : n + m ≤ 1000000) (hbase : base ≤ w.heap.size)
    (h : ∀ v' w', w'.ownsRow base 5 1 v' (n + m) ((xs ++ ys).map (Value.int .u8)) → w.grownBy w' v.ownBlock → wpList Tryz.prog ops Q rest (a.put o.dst v') w') : wpList Tryz.prog ops Q (o :: rest) a w := by
  obtain ⟨i0, hi, hz0, hz1, hz2⟩ := info_parts info5
  unfold wpList
  rw [if_pos hw]
  refine .inl (wp_append_own w s x 23 ho base 5 i0 _ 1 1 Tryz.underlying23 hi hz0 hz1 hz2 rfl (by decide) v n _ hs hown ad m c (ys.map (Value.int .u8)) hx (by simp [hl]) (fun j u hj => ?_) (u8one ys) (by unfold maxLen; omega) (by omega) hbase (fun v' w' q1 q2 _ => h v' w' (by rw [List.map_append]; exact q1) q2))
  have hj2 : j < ys.length := by simpa using (List.getElem?_eq_some_iff.1 hj).1
  rw [hb j (by omega), ← hj]
  simp [List.getD, hj2]
end Go.Proofs.YtapkmoakbfpkeaaGreatDoor
