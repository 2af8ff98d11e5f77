/- Component.Protocol, RawValue, Multiaddr.copy, SplitLast. -/
import Derived.Test.YtapkmoakbfpkeaaGreatDoorE1
import Derived.Test.YtapkmoakbfpkeaaGreatDoorC7
import Derived.Laws.Cover3
import Derived.Laws.Tables
namespace Go.Proofs.YtapkmoakbfpkeaaGreatDoor
open Go Go.RowKit Go.Proofs Go.Sort

/-- A part lies at r. -/
def PartAt (w : World) (r : Nat) (h : Hop) (q : Nat) : Prop := (w.cell? ⟨r, 0, none⟩ = some (.string (strOfNums (hopB h.1 h.2))) ∧ w.cell? ⟨r, 1, none⟩ = some (.pointer (some ⟨q, 0, none⟩)) ∧ w.cell? ⟨r, 2, none⟩ = some (.int .i64 (hopS h.1))) ∧ ProtB w (protOf h.1) q
theorem PartAt.below {w w' : World} {r q : Nat} {h : Hop} (hp : PartAt w r h q) (hb : Below w.heap.size w w') : PartAt w' r h q := ⟨⟨cB hb hp.1.1, cB hb hp.1.2.1, cB hb hp.1.2.2⟩, hp.2.below hb⟩

set_option maxRecDepth 100000 in
theorem compProtocol (r q : Nat) (h : Hop) (hk : h.1 < 8) (w : World) (hp : PartAt w r h q) : Calls Tryz.prog 76 #[.pointer (some ⟨r, 0, none⟩)] w fun e w' => ∃ a, e = .returned (.agg ((protOf h.1).cells a)) ∧ Below w.heap.size w w' := by
  obtain ⟨⟨c0, c1, c2⟩, a, hq, hv⟩ := hp
  obtain ⟨p, hp⟩ : ∃ p, p = protOf h.1 := ⟨_, rfl⟩
  have htr : p.tr = .nilIface ∨ ∃ T v, p.tr = .iface T v := by
    rw [hp]
    rcases kinds h.1 hk with hk | hk | hk | hk | hk | hk | hk | hk <;> rw [hk]
    · exact .inr ⟨_, _, rfl⟩
    · exact .inr ⟨_, _, rfl⟩
    · exact .inr ⟨_, _, rfl⟩
    · exact .inl rfl
    · exact .inl rfl
    · exact .inl rfl
    · exact .inr ⟨_, _, rfl⟩
    · exact .inr ⟨_, _, rfl⟩
  rw [← hp] at hq ⊢
  obtain ⟨name, code, vc, size, path, tr⟩ := p
  have d0 : w.cell? ⟨q, 0, none⟩ = some (.string name) := by rw [cell_of_row w q 0 _ _ (0, 0) hq]; rfl
  have d1 : w.cell? ⟨q, 1, none⟩ = some (.int .i64 code) := by rw [cell_of_row w q 1 _ _ (0, 0) hq]; rfl
  have d2 : w.cell? ⟨q, 2, none⟩ = some (.slice (some ⟨a, 0, none⟩) vc.length vc.length) := by rw [cell_of_row w q 2 _ _ (0, 0) hq]; rfl
  have d3 : w.cell? ⟨q, 3, none⟩ = some (.int .i64 size) := by rw [cell_of_row w q 3 _ _ (0, 0) hq]; rfl
  have d4 : w.cell? ⟨q, 4, none⟩ = some (.bool path) := by rw [cell_of_row w q 4 _ _ (0, 0) hq]; rfl
  have d5 : w.cell? ⟨q, 5, none⟩ = some tr := by rw [cell_of_row w q 5 _ _ (0, 0) hq]; rfl
  have B0 : ∀ o, Below w.heap.size w (w.alloc o) := fun o => (Below.refl _ _).alloc (Nat.le_refl _) _
  replace c1 := fun o => cB (B0 o) c1
  replace d0 := fun o => cB (B0 o) d0
  replace d1 := fun o => cB (B0 o) d1
  replace d2 := fun o => cB (B0 o) d2
  replace d3 := fun o => cB (B0 o) d3
  replace d4 := fun o => cB (B0 o) d4
  replace d5 := fun o => cB (B0 o) d5
  clear B0
  clear hq hv hp c0 c2
  rcases htr with htr | ⟨T, v, htr⟩
  · obtain rfl : tr = .nilIface := htr
    go_enter Tryz.func76, Tryz.ntmps76
    go_wp2_with fail
    refine bodyPost_ret (v := .agg (Prot.cells ⟨name, code, vc, size, path, .nilIface⟩ a)) (by simp [results, Tryz.results76, go_sem, Prot.cells]) rfl ⟨a, rfl, (Below.refl _ _).alloc (Nat.le_refl _) _⟩
  · obtain rfl : tr = .iface T v := htr
    go_enter Tryz.func76, Tryz.ntmps76
    go_wp2_with fail
    refine bodyPost_ret (v := .agg (Prot.cells ⟨name, code, vc, size, path, .iface T v⟩ a)) (by simp [results, Tryz.results76, go_sem, Prot.cells]) rfl ⟨a, rfl, (Below.refl _ _).alloc (Nat.le_refl _) _⟩

/-- 'a new row of these bytes'. -/
def RawB (xs : List Int) (w : World) (e : Ending) (w' : World) : Prop := ∃ g c, e = .returned (.slice (some ⟨g, 0, none⟩) xs.length c) ∧ w.heap.size ≤ g ∧ xs.length ≤ c ∧ c ≤ 9223372036854775807 ∧ Bs w' g 0 xs ∧ Below w.heap.size w w'
set_option maxRecDepth 100000 in
theorem compRaw (r q : Nat) (h : Hop) (hk : HopOk h) (w : World) (hp : PartAt w r h q) : Calls Tryz.prog 77 #[.pointer (some ⟨r, 0, none⟩)] w (RawB h.2 w) := by
  obtain ⟨⟨c0, c1, c2⟩, a, hq, hv⟩ := hp
  have hl := hop_len h.1 h.2
  have hle := hopB_le h hk
  obtain ⟨cF, WF, hcv, hW⟩ := convBytesF h.2 hk.2.2 (by omega)
  have hsl := sliceRest (hopB h.1 h.2) (hopS h.1) (by omega)
  rw [hop_drop] at hsl
  obtain ⟨S, hS⟩ : ∃ S, S = strOfNums (hopB h.1 h.2) := ⟨_, rfl⟩
  obtain ⟨S2, hS2⟩ : ∃ S, S = strOfNums h.2 := ⟨_, rfl⟩
  obtain ⟨st, hst⟩ : ∃ S, S = hopS h.1 := ⟨_, rfl⟩
  rw [← hS2] at hcv
  rw [← hS, ← hS2, ← hst] at hsl
  rw [← hS] at c0
  rw [← hst] at c2
  have HW := Lib.hid hW
  clear hS hS2 hst hW hq hv c1 hl hle hk
  go_enter Tryz.func77, Tryz.ntmps77
  go_wp2_with fail
  go_region_held (fun w' => w'.cell? ⟨r, 0, none⟩ = some (.string S) ∧ w'.cell? ⟨r, 2, none⟩ = some (.int .i64 st))
    (first | exact ⟨c0, c2⟩ | exact ⟨cB (HW.out _).2.2.2 c0, cB (HW.out _).2.2.2 c2⟩)
    (fail)
  all_goals
    go_wp2_with fail
    go_ret
    have hb : Below w.heap.size w (WF w.drew) := ((Below.refl _ w).drew).trans (HW.out w.drew).2.2.2
    exact ⟨_, _, rfl, Nat.le_refl _, (HW.out w.drew).2.1, (HW.out w.drew).2.2.1, (HW.out w.drew).1, hb⟩

theorem maNotNil (a : Addr) (n c : Nat) (w : World) : (binOp .eql 76 (.slice (some a) n c) (.slice none 0 0)).run Tryz.prog w = .ok (.bool false) w := by
  have h := run_equal_slice_nil (P := Tryz.prog) w 76 _ (some a) n c Tryz.underlying76
  simp [binOp, h]
/-- The builtin copy of n parts into a new row. -/
theorem copyRow (g c n : Nat) (cs : List Value) (hl : cs.length = n * 3) (h1 : ∀ u ∈ cs, u.oneCell' = true) (w : World) (hsrc : ∀ j v, cs[j]? = some v → w.cell? ⟨g, j, none⟩ = some v) (Z : Array Value) (hZ : Z.size = n * 3) :
    ∃ W, (Builtin.copy_ #[76, 76] 3 #[.slice (some ⟨w.heap.size, 0, none⟩) n n, .slice (some ⟨g, 0, none⟩) n c]).run Tryz.prog (w.alloc (.cells Z 138)) = .ok (goInt n) W ∧
      W.heap[w.heap.size]? = some (.cells cs.toArray 138 (0, 0)) ∧ Below w.heap.size w W := by
  obtain ⟨i0, hi, hz0, hz1, hz2⟩ := info_parts infoComp
  have hb : Below w.heap.size w (w.alloc (.cells Z 138)) := (Below.refl _ _).alloc (Nat.le_refl _) _
  have hld := run_loadCells_list (P := Tryz.prog) (w.alloc (.cells Z 138)) ⟨g, 0, none⟩ cs (fun j v hv => by rw [Lib.add_plain, Nat.zero_add]; exact cB hb (hsrc j v hv))
  have hst := run_storeCells_from (P := Tryz.prog) w.heap.size 138 cs 0 Z (w.alloc (.cells Z 138)) (heap_alloc_new _ _) (by rw [hl, hZ]; omega) h1
  refine ⟨_, ?_, setRow_heap _ _ _ _ _ _ (heap_alloc_new _ _), below_setRow hb (Nat.le_refl _) _⟩
  rotate_left
  rw [hl] at hld
  simp [Builtin.copy_, run_underlying Tryz.underlying76, Builtin.lenOf, Builtin.firstCells, sizeOf, typeInfo, hi, hz1, hld]
  simp at hst
  rw [hst]
  rfl

set_option maxRecDepth 100000 in
theorem maCopy (g n c : Nat) (cs : List Value) (hl : cs.length = n * 3) (hn : n ≤ 1000) (h1 : ∀ u ∈ cs, u.oneCell' = true) (w : World) (hsrc : ∀ j v, cs[j]? = some v → w.cell? ⟨g, j, none⟩ = some v) :
    Calls Tryz.prog 122 #[.slice (some ⟨g, 0, none⟩) n c] w fun e w' => ∃ v, e = .returned v ∧ w'.ownsRow w.heap.size 138 3 v n cs ∧ Below w.heap.size w w' := by
  obtain ⟨i0, hi, hz0, hz1, hz2⟩ := info_parts infoComp
  have hmk : ∀ w, (Instr.makeSlice 76 (.int .i64 (n : Int)) (.int .i64 (n : Int))).run Tryz.prog w = .ok (.slice (some ⟨w.heap.size, 0, none⟩) n n) (w.alloc (.cells (madeCells #[.string ⟨#[]⟩, .pointer none, .int .i64 0] (n * 3)) 138)) := fun w => by
    have h := run_make (P := Tryz.prog) w 76 138 i0 _ Tryz.underlying76 hi hz0 .i64 .i64 (n : Int) (n : Int) (by omega) (Int.le_refl _) (by rw [hz2]; omega) (by omega)
    rw [hz1] at h
    exact h
  have hnn := fun w => maNotNil ⟨g, 0, none⟩ n c w
  obtain ⟨W, hcp, hW⟩ := copyRow g c n cs hl h1 w hsrc (madeCells #[.string ⟨#[]⟩, .pointer none, .int .i64 0] (n * 3)) (size_madeCells _ _)
  have HW := Lib.hid (And.intro hW hl)
  clear hW hl hsrc h1 hi hz0 hz1 hz2
  go_enter Tryz.func122, Tryz.ntmps122
  go_wp2_with fail
  go_ret
  exact ⟨_, rfl, ⟨HW.out.2, .inr ⟨w.heap.size, n, cs.toArray, rfl, Nat.le_refl _, HW.out.1.1, Nat.le_refl _, by unfold maxLen; omega, by simp [HW.out.2], by rw [List.toList_toArray]; exact List.take_of_length_le (by rw [HW.out.2]; exact Nat.le_refl _)⟩⟩, HW.out.1.2⟩

theorem comps_one (hs : List Hop) (qs : List Nat) : ∀ u ∈ compsOf hs qs, u.oneCell' = true := fun u hu => by
  obtain ⟨x, _, hx⟩ := List.mem_flatMap.1 hu
  unfold compCells at hx
  rcases List.mem_cons.1 hx with rfl | hx
  · rfl
  · rcases List.mem_cons.1 hx with rfl | hx
    · rfl
    · obtain rfl := List.mem_singleton.1 hx
      rfl
theorem comps_len (hs : List Hop) (qs : List Nat) (h : qs.length = hs.length) : (compsOf hs qs).length = hs.length * 3 := by
  have h2 : (hs.zip qs).length = hs.length := by rw [List.length_zip, h, Nat.min_self]
  rw [← h2]
  unfold compsOf
  generalize hs.zip qs = l
  induction l with
  | nil => rfl
  | cons x l ih => rw [List.flatMap_cons, List.length_append, ih, List.length_cons]; simp [compCells]; omega
/-- What SplitLast hands back. -/
def SL (B : Nat) (init : List Hop) (h : Hop) (w : World) (e : Ending) (w' : World) : Prop := ∃ tv r q, e = .returned (.tuple #[tv, .pointer (some ⟨r, 0, none⟩)]) ∧ MA w' B tv init ∧ (init = [] → tv = .slice none 0 0) ∧ PartAt w' r h q ∧ Below w.heap.size w w'

set_option maxRecDepth 100000 in
theorem splitLast1 (B g c : Nat) (h : Hop) (w : World) (hm : MA w B (.slice (some ⟨g, 0, none⟩) 1 c) [h]) : Calls Tryz.prog 80 #[.slice (some ⟨g, 0, none⟩) 1 c] w (SL B [] h w) := by
  have hq : ∃ q, PartAt w g h q := by
    obtain ⟨qs, hl, ho, hp⟩ := hm
    obtain ⟨q, rfl⟩ : ∃ q, qs = [q] := List.length_eq_one_iff.1 hl
    exact ⟨q, ⟨ho.cellAt 0 (by simp), ho.cellAt 1 (by simp), ho.cellAt 2 (by simp)⟩, (hp (h, q) (by simp)).1⟩
  obtain ⟨q, hq⟩ := hq
  have HQ := Lib.hid hq
  have HM := Lib.hid hm
  clear hq hm
  go_enter Tryz.func80, Tryz.ntmps80
  go_wp2_with fail
  go_quiet (fail)
  go_wp2_with fail
  go_ret2
  have hb : Below w.heap.size w (w.drewN nq) := below_drewN (Below.refl _ w) _
  exact ⟨_, _, _, rfl, MA.nil _ _, fun _ => rfl, HQ.out.below hb, hb⟩

set_option maxRecDepth 100000 in
theorem splitLast2 (B g n c : Nat) (w : World) (hn : 2 ≤ n) (hn1 : n ≤ 1000) (hc : n ≤ c) (hBw : B ≤ w.heap.size) (init : List Hop) (hi : init.length + 1 = n) (h : Hop) (hm : MA w B (.slice (some ⟨g, 0, none⟩) n c) (init ++ [h])) : Calls Tryz.prog 80 #[.slice (some ⟨g, 0, none⟩) n c] w (SL B init h w) := by
  have hq : ∃ q qs, qs.length = init.length ∧ (w.cell? ⟨g, (n - 1) * 3, none⟩ = some (.string (strOfNums (hopB h.1 h.2))) ∧ w.cell? ⟨g, (n - 1) * 3 + 1, none⟩ = some (.pointer (some ⟨q, 0, none⟩)) ∧ w.cell? ⟨g, (n - 1) * 3 + 2, none⟩ = some (.int .i64 (hopS h.1))) ∧
      (∀ j v, (compsOf init qs)[j]? = some v → w.cell? ⟨g, j, none⟩ = some v) ∧ (compsOf init qs).length = (n - 1) * 3 ∧ (ProtB w (protOf h.1) q) ∧ (∀ x ∈ init.zip qs, ProtB w (protOf x.1.1) x.2 ∧ B ≤ x.2) := by
    obtain ⟨qs', hl, ho, hp⟩ := hm
    have hne : qs' ≠ [] := fun e => by rw [e] at hl; simp at hl
    obtain ⟨qs, q, rfl⟩ : ∃ qs q, qs' = qs ++ [q] := ⟨qs'.dropLast, qs'.getLast hne, (List.dropLast_concat_getLast hne).symm⟩
    have hql : qs.length = init.length := by simpa using hl
    have e : compsOf (init ++ [h]) (qs ++ [q]) = compsOf init qs ++ compCells h q := by unfold compsOf; rw [zip_snoc _ _ hql, List.flatMap_append]; simp
    have hcl : (compsOf init qs).length = (n - 1) * 3 := by
      have h1 := ho.1
      rw [e, List.length_append, List.length_append] at h1
      simp [compCells] at h1
      omega
    have hn' : (init ++ [h]).length = n := by simpa using hi
    rw [hn', e] at ho
    refine ⟨q, qs, hql, ⟨?_, ?_, ?_⟩, fun j v hj => ?_, hcl, (hp (h, q) (by rw [zip_snoc _ _ hql]; simp)).1, fun x hx => hp x (by rw [zip_snoc _ _ hql]; simp [hx])⟩
    · rw [ho.cellAt _ (by omega), List.getElem?_append_right (by omega), hcl, Nat.sub_self]; rfl
    · rw [ho.cellAt _ (by omega), List.getElem?_append_right (by omega), hcl, Nat.add_sub_cancel_left]; rfl
    · rw [ho.cellAt _ (by omega), List.getElem?_append_right (by omega), hcl, Nat.add_sub_cancel_left]; rfl
    · have hj1 : j < (compsOf init qs).length := (List.getElem?_eq_some_iff.1 hj).1
      rw [ho.cellAt _ (by omega), List.getElem?_append_left hj1, hj]
  obtain ⟨q, qs, hql, ⟨c0, c1, c2⟩, hcs, hcl, hpq, hps⟩ := hq
  obtain ⟨S, hS⟩ : ∃ S, S = strOfNums (hopB h.1 h.2) := ⟨_, rfl⟩
  obtain ⟨st, hst⟩ : ∃ S, S = hopS h.1 := ⟨_, rfl⟩
  rw [← hS] at c0
  rw [← hst] at c2
  have HQ := Lib.hid (And.intro hpq (And.intro hps (And.intro hql (And.intro hcs (And.intro hcl (And.intro hS hst))))))
  clear hpq hps hm hql hcs hcl hS hst hi
  obtain ⟨m, rfl⟩ : ∃ m, n = m + 1 := ⟨n - 1, by omega⟩
  rw [Nat.add_sub_cancel] at c0 c1 c2 HQ
  have t0 : (((m + 1 : Nat) : Int) == 0) = false := by rw [beq_eq_false_iff_ne]; omega
  have t1 : (((m + 1 : Nat) : Int) == 1) = false := by rw [beq_eq_false_iff_ne]; omega
  have t2 : wrap64 (((m + 1 : Nat) : Int) - 1) = (m : Int) := by rw [IntWalk.wrap64_in _ (by omega)]; omega
  go_enter Tryz.func80, Tryz.ntmps80
  go_wp2_with fail
  have hb0 : Below w.heap.size w (w.alloc (.cells #[.string S, .pointer (some ⟨q, 0, none⟩), .int .i64 st] 138)) := (Below.refl _ _).alloc (Nat.le_refl _) _
  refine (maCopy g m c (compsOf init qs) HQ.out.2.2.2.2.1 (by omega) (comps_one init qs) _ (fun j v hj => cB hb0 (HQ.out.2.2.2.1 j v hj))).mono ?_
  rintro e w1 ⟨v, rfl, hown, hB⟩
  have hb1 : Below w.heap.size w w1 := hb0.trans (hB.mono (by simp))
  have hpart : PartAt w1 w.heap.size h q := by
    refine ⟨⟨?_, ?_, ?_⟩, HQ.out.1.below hb1⟩
    · rw [← HQ.out.2.2.2.2.2.1]; exact cB hB (World.cell?_alloc_mark w _ _ _ 0)
    · exact cB hB (World.cell?_alloc_mark w _ _ _ 1)
    · rw [← HQ.out.2.2.2.2.2.2]; exact cB hB (World.cell?_alloc_mark w _ _ _ 2)
  have hma : MA w1 B v init := by
    have hml : init.length = m := by
      have h1 := HQ.out.2.2.2.2.1
      have h2 := comps_len init qs HQ.out.2.2.1
      omega
    refine ⟨qs, HQ.out.2.2.1, ?_, fun x hx => ⟨(HQ.out.2.1 x hx).1.below hb1, (HQ.out.2.1 x hx).2⟩⟩
    rw [hml]
    exact hown.mono (by simp; omega)
  have hne : init ≠ [] := fun e => by
    have h1 := HQ.out.2.2.2.2.1
    rw [e] at h1
    simp [compsOf] at h1
    omega
  have HR := Lib.hid (And.intro hma (And.intro hpart (And.intro hb1 hne)))
  clear hown hB hb0 hb1 hpart hma hne c0 c1 c2
  go_wp2_with fail
  go_ret2
  exact ⟨_, _, _, rfl, HR.out.1, fun e => absurd e HR.out.2.2.2, HR.out.2.1, HR.out.2.2.1⟩
end Go.Proofs.YtapkmoakbfpkeaaGreatDoor
