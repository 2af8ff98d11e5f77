/- The law FnAddrRight. -/
import Derived.Test.YtkfiacolgkocfaaGreatDoorE4
namespace Go.Proofs.YtkfiacolgkocfaaGreatDoor
open Go Go.RowKit Go.Proofs Go.Sort

theorem HAt.below {w w' : World} {b o : Nat} {l : List HIn} (h : HAt w b o l) (hb : Below w.heap.size w w') : HAt w' b o l := fun i x hx => ⟨cB hb (h i x hx).1, cB hb (h i x hx).2.1, (h i x hx).2.2.below hb⟩
theorem HAt.take {w : World} {b o : Nat} {l : List HIn} (h : HAt w b o l) (j : Nat) : HAt w b o (l.take j) := fun i x hx => h i x (by
  have hi : i < (l.take j).length := (List.getElem?_eq_some_iff.1 hx).1
  rw [List.getElem?_take] at hx
  split at hx
  · exact hx
  · cases hx)
theorem HAt.oks {w : World} {b o : Nat} {l : List HIn} (h : HAt w b o l) (f : List Int → List Int) (hf : ShaIs f) : ∀ x ∈ l.map (hopOf f), HopOk x := fun x hx => by
  obtain ⟨y, hy, rfl⟩ := List.mem_map.1 hx
  obtain ⟨i, hi⟩ := List.getElem?_of_mem hy
  exact hopOf_ok f hf y (h i y hi).2.2.2.2.1
theorem addrB_pos (hs : List Hop) (hh : ∀ x ∈ hs, HopOk x) (h0 : hs ≠ []) : 0 < (addrB hs).length := by
  cases hs with
  | nil => exact absurd rfl h0
  | cons h t =>
    rw [addrB_cons, List.length_append]
    have := hopB_pos h (hh h (by simp)).1
    omega
theorem noneCell (y : Int) : ∃ nv, NoCode nv ∧ ∀ w : World, (w.alloc (.cells #[.int .u8 1, .int .u8 2, .int .u8 3, .int .u8 5, .int .u8 7] 5)).cell? ⟨w.heap.size, (y % 5).toNat, none⟩ = some (.int .u8 nv) := by
  have h : y % 5 = 0 ∨ y % 5 = 1 ∨ y % 5 = 2 ∨ y % 5 = 3 ∨ y % 5 = 4 := by omega
  rcases h with h | h | h | h | h <;> rw [h]
  · exact ⟨1, by unfold NoCode; omega, fun w => World.cell?_alloc_mark w _ _ _ 0⟩
  · exact ⟨2, by unfold NoCode; omega, fun w => World.cell?_alloc_mark w _ _ _ 1⟩
  · exact ⟨3, by unfold NoCode; omega, fun w => World.cell?_alloc_mark w _ _ _ 2⟩
  · exact ⟨5, by unfold NoCode; omega, fun w => World.cell?_alloc_mark w _ _ _ 3⟩
  · exact ⟨7, by unfold NoCode; omega, fun w => World.cell?_alloc_mark w _ _ _ 4⟩

/-- 'wpApp' at a guarded operation. -/
theorem wpAppG {ops : Array Oper} {rest : List Oper} {o : Oper} {a : Act} {w : World} {Q : Exit → Act → World → Prop} (s x : Operand)
    (ho : o.op = .call { callee := .builtin .append, args := #[s, x], argTypes := #[26, 26] }) (hw : Region.wanted o (yielded ops a.tmps) = true) (base : Nat) (v : Value) (n : Nat) (xs : List Int) (hs : a.eval s = v) (hown : w.ownsRow base 5 1 v n (xs.map (Value.int .u8)))
    (ad : Addr) (m c : Nat) (ys : List Int) (hx : a.eval x = .slice (some ad) m c) (hl : ys.length = m) (hb : ∀ i, i < m → w.cell? (ad.add i) = some (.int .u8 (ys.getD i 0))) (hN : n + m ≤ 1000000) (hbase : base ≤ w.heap.size)
    (h : ∀ v' w', w'.ownsRow base 5 1 v' (n + m) ((xs ++ ys).map (Value.int .u8)) → w.grownBy w' v.ownBlock → wpList Tryz.prog ops Q rest (a.put o.dst v') w') : wpList Tryz.prog ops Q (o :: rest) a w := by
  obtain ⟨i0, hi, hz0, hz1, hz2⟩ := info_parts info5
  unfold wpList
  rw [if_pos hw]
  refine .inl (wp_append_own w s x 26 ho base 5 i0 _ 1 1 Tryz.underlying26 hi hz0 hz1 hz2 rfl (by decide) v n _ hs hown ad m c (ys.map (Value.int .u8)) hx (by simp [hl]) (fun j u hj => ?_) (u8one ys) (by unfold maxLen; omega) (by omega) hbase (fun v' w' q1 q2 _ => h v' w' (by rw [List.map_append]; exact q1) q2))
  have hj2 : j < ys.length := by simpa using (List.getElem?_eq_some_iff.1 hj).1
  rw [hb j (by omega), ← hj]
  simp [List.getD, hj2]
set_option maxHeartbeats 1600000 in
set_option maxRecDepth 100000 in
theorem lawRight (f : List Int → List Int) (hf : ShaIs f) (p : Option Addr) (c k : Nat) (l : List HIn) (hk : l.length = k) (hkc : k ≤ c) (x y : Int) (hx : 0 ≤ x ∧ x < 256) (hy : 0 ≤ y ∧ y < 256) (w : World) (hb : LIn w p l) (hT : Tab w) :
    Calls Tryz.prog 3 #[.slice p k c, .int .u8 x, .int .u8 y] w fun e w' => e = .returned (.bool true) ∧ Below w.heap.size w w' := by
  have HB := Lib.hid (And.intro hb (And.intro hf (And.intro hT hk)))
  clear hb hf hT hk
  go_enter Tryz.func3, Tryz.ntmps3
  go_wp2_with fail
  refine (zzFits1 p c k l HB.out.2.2.2 w HB.out.1).mono ?_
  rintro e w1 ⟨r, rfl, hB1⟩
  have H1 := Lib.hid hB1
  clear hB1
  cases r with
  | false =>
    go_wp2_with fail
    go_ret
    exact ⟨rfl, H1.out⟩
  | true =>
    go_wp2_with fail
    refine (addrShort p c k l HB.out.2.2.2 w1.heap.size _ ((HB.out.1.below H1.out).below ((Below.refl _ _).alloc (Nat.le_refl _) _)) (World.cell?_alloc_mark w1 _ _ _ 0)).mono ?_
    rintro e w2 ⟨r, rfl, hB2, hr⟩
    have H2 := Lib.hid (And.intro ((H1.out.alloc H1.out.size _).trans (hB2.mono (by have := H1.out.size; simp; omega))) hr)
    clear hB2 hr
    cases r with
    | false =>
      go_wp2_with fail
      refine (addrAwake f HB.out.2.1 _ (HB.out.2.2.1.below H2.out.1)).mono ?_
      rintro e w3 ⟨rfl, hB3⟩
      go_wp2_with fail
      go_ret
      exact ⟨rfl, H2.out.1.trans (hB3.mono H2.out.1.size)⟩
    | true =>
      obtain ⟨hk0, hk20, hn⟩ := H2.out.2 rfl
      have HN := Lib.hid hn
      clear hn
      obtain ⟨b, o, rfl, hat⟩ := HB.out.1 (by rw [HB.out.2.2.2]; exact hk0)
      have hAt : HAt w b o l := fun i h hi => ⟨(hat i h hi).1, (hat i h hi).2.1, (hat i h hi).2.2.1, (hat i h hi).2.2.2.1, (hat i h hi).2.2.2.2, HN.out h (List.mem_of_getElem? hi)⟩
      have HA := Lib.hid hAt
      clear hat hAt
      obtain ⟨nv, hnv, hnc⟩ := noneCell y
      have HNV := Lib.hid hnv
      replace hnc := hnc w2
      have hm0 := Int.emod_nonneg x (show (k : Int) ≠ 0 by omega)
      have hm1 := Int.emod_lt_of_pos x (show (0 : Int) < k by omega)
      obtain ⟨j, hj⟩ : ∃ j : Nat, (j : Int) = 1 + x % (k : Int) := ⟨(1 + x % (k : Int)).toNat, by omega⟩
      have hjw : wrap64 (1 + x % (k : Int)) = (j : Int) := by rw [IntWalk.wrap64_in _ (by omega)]; omega
      have hj1 : 1 ≤ j ∧ j ≤ k := by omega
      have hq0 : 0 ≤ y % 5 ∧ y % 5 < 5 := by omega
      clear hnv hj hm0 hm1
      go_wp2_with fail
      simp only [hjw]
      have hW3 : Below w.heap.size w (w2.alloc (.cells #[.int .u8 1, .int .u8 2, .int .u8 3, .int .u8 5, .int .u8 7] 5)) := H2.out.1.alloc H2.out.1.size _
      refine (addrOfB f HB.out.2.1 l k HB.out.2.2.2 (by omega) b o c _ (HA.out.below hW3)).mono ?_
      rintro e w3 ⟨v, rfl, hown, hB3⟩
      have hoks := HA.out.oks f HB.out.2.1
      have hne : l.map (hopOf f) ≠ [] := fun e => by have h1 := congrArg List.length e; have h2 := HB.out.2.2.2; simp at h1; rw [h1] at h2; simp at h2; omega
      have hlk : (l.map (hopOf f)).length = k := by rw [List.length_map]; exact HB.out.2.2.2
      obtain ⟨gb, cb, rfl, hbs⟩ := ownsRow_bs hown (addrB_pos _ hoks hne)
      have hw3 : Below w.heap.size w w3 := hW3.trans (hB3.mono hW3.size)
      have HR := Lib.hid (And.intro hbs (And.intro hw3 (And.intro hoks (And.intro hne hlk))))
      have har := addrRight (l.map (hopOf f)) hoks (by omega) [] (.inl hne) (.inl rfl) gb 0 _ cb w3 (by rw [List.append_nil]) (by rw [List.append_nil]; exact hbs) (HB.out.2.2.1.below hw3)
      have HAR := Lib.hid har
      have hNl := addrB_le _ hoks
      have hN1 := addrB_pos _ hoks hne
      rw [hlk] at hNl
      clear hbs hw3 hoks hne hlk hB3 hown har hW3 hnc
      obtain ⟨N, hN⟩ : ∃ N, N = (addrB (l.map (hopOf f))).length := ⟨_, rfl⟩
      rw [← hN] at HAR hNl hN1 ⊢
      have HN2 := Lib.hid hN
      clear hN
      go_wp2_with fail
      refine HAR.out.mono ?_
      rintro e w4 ⟨rfl, hB4⟩
      have H4 := Lib.hid (HR.out.2.1.trans (hB4.mono HR.out.2.1.size))
      have HR4 := Lib.hid (HR.out.1.below hB4)
      clear hB4
      go_wp2_with fail
      have htl : (l.take j).length = j := by rw [List.length_take, HB.out.2.2.2]; omega
      have HAT := Lib.hid ((HA.out.below H4.out).take j)
      refine (addrOfB f HB.out.2.1 (l.take j) j htl (by omega) b o c _ HAT.out).mono ?_
      rintro e w5 ⟨v, rfl, hown, hB5⟩
      have hoks := HAT.out.oks f HB.out.2.1
      have hlk : ((l.take j).map (hopOf f)).length = j := by rw [List.length_map]; exact htl
      have hne : (l.take j).map (hopOf f) ≠ [] := fun e => by rw [e] at hlk; simp at hlk; omega
      obtain ⟨gt, ct, rfl, hbt⟩ := ownsRow_bs hown (addrB_pos _ hoks hne)
      have hw5 : Below w.heap.size w w5 := H4.out.trans (hB5.mono H4.out.size)
      have HAR2 := Lib.hid (addrRight ((l.take j).map (hopOf f)) hoks (by omega) [] (.inl hne) (.inl rfl) gt 0 _ ct w5 (by rw [List.append_nil]) (by rw [List.append_nil]; exact hbt) (HB.out.2.2.1.below hw5))
      have H5 := Lib.hid (And.intro hw5 (HR4.out.below hB5))
      clear hbt hw5 hoks hne hlk hB5 hown htl
      obtain ⟨N2, hN2⟩ : ∃ N, N = (addrB ((l.take j).map (hopOf f))).length := ⟨_, rfl⟩
      rw [← hN2] at HAR2 ⊢
      clear hN2
      go_wp2_with fail
      refine HAR2.out.mono ?_
      rintro e w6 ⟨rfl, hB6⟩
      have H6 := Lib.hid (And.intro (H5.out.1.trans (hB6.mono H5.out.1.size)) (H5.out.2.below hB6))
      clear hB6
      go_wp2_with fail
      have HCL := Lib.hid (Tryz.bytes_Clone_at ⟨gb, 0, none⟩ N cb (addrB (l.map (hopOf f))) w6 HN2.out.symm (by omega) (fun i hi => by rw [Lib.add_plain]; exact H6.out.2 i (by rw [← HN2.out]; exact hi)))
      refine HCL.out.mono ?_
      rintro e w7 ⟨v7, rfl, hown7, _, hB7⟩
      have H7 := Lib.hid (And.intro (H6.out.1.trans (hB7.mono H6.out.1.size)) (hown7.mono H6.out.1.size))
      clear hown7 hB7
      go_wp2_with (at_builtin; refine wpAppG _ _ rfl (by first | rfl | simp [Region.wanted, yielded]) w.heap.size _ N (addrB (l.map (hopOf f))) rfl (H7.out.2.alloc _) ⟨w7.heap.size, 0, none⟩ 1 1 [nv] rfl rfl (one_new _ _ _) (by omega) (by have := H7.out.1.size; simp; omega) ?_)
      intro v8 w8 hown8 hgrow8
      have hb8 := grown_below (H7.out.1.alloc H7.out.1.size _) (H7.out.2.alloc _) hgrow8 (by have := H7.out.1.size; simp; omega)
      clear hgrow8
      have hown8' : w8.ownsRow w.heap.size 5 1 v8 (N + 1) ((addrB (l.map (hopOf f)) ++ [nv]).map (Value.int .u8)) := by rw [List.map_append]; exact hown8
      obtain ⟨g8, c8, rfl, hbs8⟩ := ownsRow_bs hown8' (by omega)
      clear hown8'
      have HAR3 := Lib.hid (addrRight (l.map (hopOf f)) HR.out.2.2.1 (by have := HR.out.2.2.2.2; omega) [nv] (.inl HR.out.2.2.2.1) (.inr ⟨nv, rfl, HNV.out⟩) g8 0 (N + 1) c8 w8 (by rw [List.length_append, ← HN2.out]; rfl) hbs8 (HB.out.2.2.1.below hb8))
      have H8 := Lib.hid hb8
      clear hb8 hbs8 hown8
      go_wp2_with fail
      refine HAR3.out.mono ?_
      rintro e w9 ⟨rfl, hB9⟩
      have H9 := Lib.hid (H8.out.trans (hB9.mono H8.out.size))
      clear hB9
      go_wp2_with fail
      have hb10 : Below w.heap.size w (w9.alloc (.cells #[.int .u8 nv] 5)) := H9.out.alloc H9.out.size _
      refine (addrRight [] (fun x hx => by cases hx) (by decide) [nv] (.inr (by simp)) (.inr ⟨nv, rfl, HNV.out⟩) w9.heap.size 0 1 1 _ rfl (bs_block w9 _ [nv] rfl) (HB.out.2.2.1.below hb10)).mono ?_
      rintro e w10 ⟨rfl, hB10⟩
      have H10 := Lib.hid (hb10.trans (hB10.mono hb10.size))
      clear hB10 hb10
      go_wp2_with fail
      refine (addrAwake f HB.out.2.1 _ (HB.out.2.2.1.below H10.out)).mono ?_
      rintro e w11 ⟨rfl, hB11⟩
      go_wp2_with fail
      go_ret
      exact ⟨rfl, H10.out.trans (hB11.mono H10.out.size)⟩
end Go.Proofs.YtkfiacolgkocfaaGreatDoor
