/- The guards: zzFits2, zzFits1, addrShort. -/
import Derived.Test.YtapkmoakbfpkeaaGreatDoorD5
namespace Go.Proofs.YtapkmoakbfpkeaaGreatDoor
open Go Go.RowKit Go.Proofs Go.Sort

/-- A part of whatever length. -/
def HIn.Ok0 (h : HIn) (w : World) : Prop := (0 ≤ h.K ∧ h.K < 256) ∧ h.s.Ok w ∧ U8 h.s.xs
def LAt (w : World) (b o : Nat) (l : List HIn) : Prop := ∀ i h, l[i]? = some h → w.cell? ⟨b, o + i * 2, none⟩ = some (.int .u8 h.K) ∧ w.cell? ⟨b, o + i * 2 + 1, none⟩ = some h.s.v ∧ h.Ok0 w
def LIn (w : World) (p : Option Addr) (l : List HIn) : Prop := 0 < l.length → ∃ b o, p = some ⟨b, o, none⟩ ∧ LAt w b o l
theorem HIn.Ok0.below {h : HIn} {w w' : World} (hk : h.Ok0 w) (hb : Below w.heap.size w w') : h.Ok0 w' := ⟨hk.1, hk.2.1.below hb, hk.2.2⟩
theorem LAt.below {w w' : World} {b o : Nat} {l : List HIn} (h : LAt w b o l) (hb : Below w.heap.size w w') : LAt w' b o l := fun i x hx => ⟨cB hb (h i x hx).1, cB hb (h i x hx).2.1, (h i x hx).2.2.below hb⟩
theorem LIn.below {w w' : World} {p : Option Addr} {l : List HIn} (h : LIn w p l) (hb : Below w.heap.size w w') : LIn w' p l := fun hl => by
  obtain ⟨b, o, hp, ha⟩ := h hl
  exact ⟨b, o, hp, ha.below hb⟩
def SomeBool (w : World) (e : Ending) (w' : World) : Prop := ∃ r, e = .returned (.bool r) ∧ Below w.heap.size w w'

set_option maxRecDepth 100000 in
theorem zzFits2 (K : Int) (p : Option Addr) (n c : Nat) (w : World) : Calls Tryz.prog 41 #[.agg #[.int .u8 K, .slice p n c]] w (SomeBool w) := by
  go_enter Tryz.func41, Tryz.ntmps41
  go_wp2_with fail
  all_goals
    go_ret
    exact ⟨_, rfl, (Below.refl _ _).alloc (Nat.le_refl _) _⟩

set_option maxRecDepth 100000 in
theorem zzFits1 (p : Option Addr) (c k : Nat) (l : List HIn) (hk : l.length = k) (w : World) (hb : LIn w p l) : Calls Tryz.prog 11 #[.slice p k c] w (SomeBool w) := by
  have HB := Lib.hid (And.intro hb hk)
  clear hb hk
  go_enter Tryz.func11, Tryz.ntmps11
  go_wp2_with fail
  · go_ret
    exact ⟨_, rfl, Below.refl _ _⟩
  · go_loopg [10] k (fun gk iv wr => ∃ (ds rs : List HIn), l = ds ++ rs ∧ gk = rs.length ∧ iv = .int .i64 (ds.length : Int) ∧ Hid (Below w.heap.size w wr))
    case atStart => exact ⟨[], l, rfl, HB.out.2.symm, rfl, Below.refl _ _⟩
    case round =>
      obtain ⟨ds, rs, hds, rfl, rfl, hI⟩ := hrel
      cases rs with
      | nil =>
        have hlt : ds.length = k := by rw [← HB.out.2, hds, List.append_nil]
        have hl2 : decide (ds.length < k) = false := by rw [decide_eq_false_iff_not, hlt]; omega
        clear hds hlt
        go_wp2_with fail
        go_ret
        exact ⟨_, rfl, hI.out⟩
      | cons r rs =>
        have hlt : ds.length < k := by rw [← HB.out.2, hds]; simp
        have hl2 : decide (ds.length < k) = true := by rw [decide_eq_true_iff]; omega
        obtain ⟨b, o, rfl, ha⟩ := HB.out.1 (by rw [hds, List.length_append, List.length_cons]; omega)
        obtain ⟨hc0, hc1, hok⟩ := ha ds.length r (by rw [hds]; simp)
        replace hc0 := cB hI.out hc0
        replace hc1 := cB hI.out hc1
        obtain ⟨K, p, m, c', xs⟩ := r
        have HD := Lib.hid hds
        clear hds hok ha
        replace hc0 : wr.cell? ⟨b, o + ds.length * 2, none⟩ = some (.int .u8 K) := hc0
        replace hc1 : wr.cell? ⟨b, o + ds.length * 2 + 1, none⟩ = some (.slice p m c') := hc1
        go_wp2_with fail
        have hWB : Below w.heap.size w (wr.alloc (.cells #[.int .u8 K, .slice p m c'] 29)) := hI.out.alloc hI.out.size _
        refine (zzFits2 K p m c' _).mono ?_
        rintro e w1 ⟨r, rfl, hB⟩
        have HO := Lib.hid (hWB.trans (hB.mono hWB.size))
        clear hB hWB hc0 hc1
        cases r with
        | true =>
          go_wp2_with fail
          go_roundg rs.length
          case measure => simp
          case rel => exact ⟨ds ++ [⟨K, p, m, c', xs⟩], rs, by rw [HD.out, List.append_assoc]; rfl, rfl, by simp, HO.out⟩
        | false =>
          go_wp2_with fail
          go_ret
          exact ⟨_, rfl, HO.out⟩

set_option maxRecDepth 100000 in
theorem addrShort (p : Option Addr) (c k : Nat) (l : List HIn) (hk : l.length = k) (g : Nat) (w : World) (hb : LIn w p l) (hg : w.cell? ⟨g, 0, none⟩ = some (.slice p k c)) : Calls Tryz.prog 12 #[.slice (some ⟨g, 0, none⟩) 1 1] w fun e w' => ∃ r, e = .returned (.bool r) ∧ Below w.heap.size w w' ∧ (r = true → 0 < k ∧ k ≤ 20 ∧ ∀ h ∈ l, h.s.n ≤ 100) := by
  have HB := Lib.hid (And.intro hb hk)
  clear hb hk
  go_enter Tryz.func12, Tryz.ntmps12
  go_wp2_with fail
  refine wp_loop_rounds 2 ?_
  rw [rounds_succ]
  by_cases hkk : 0 < k ∧ k ≤ 20
  · have HK := Lib.hid hkk
    have ht1 : ((k : Int) == 0) = false := by rw [beq_eq_false_iff_ne]; omega
    have ht2 : decide (20 < (k : Int)) = false := by rw [decide_eq_false_iff_not]; omega
    clear hkk
    go_wp2_with fail
    go_loopg [23] k (fun gk iv wr => ∃ (ds rs : List HIn), l = ds ++ rs ∧ gk = rs.length ∧ iv = .int .i64 (ds.length : Int) ∧ Hid (Below w.heap.size w wr ∧ ∀ h ∈ ds, h.s.n ≤ 100))
    case atStart => exact ⟨[], l, rfl, HB.out.2.symm, rfl, Below.refl _ _, fun h hh => by cases hh⟩
    case round =>
      obtain ⟨ds, rs, hds, rfl, rfl, hI⟩ := hrel
      cases rs with
      | nil =>
        have hlt : ds.length = k := by rw [← HB.out.2, hds, List.append_nil]
        have hl2 : decide (ds.length < k) = false := by rw [decide_eq_false_iff_not, hlt]; omega
        have HD := Lib.hid hds
        clear hds hlt
        go_wp2_with fail
        rw [rounds_succ]
        go_wp2_with fail
        go_ret
        exact ⟨_, rfl, hI.out.1, fun _ => ⟨HK.out.1, HK.out.2, by have h := hI.out.2; rw [HD.out, List.append_nil]; exact h⟩⟩
      | cons r rs =>
        have hlt : ds.length < k := by rw [← HB.out.2, hds]; simp
        have hl2 : decide (ds.length < k) = true := by rw [decide_eq_true_iff]; omega
        obtain ⟨b, o, rfl, ha⟩ := HB.out.1 (by rw [hds, List.length_append, List.length_cons]; omega)
        obtain ⟨hc0, hc1, hok⟩ := ha ds.length r (by rw [hds]; simp)
        replace hc0 := cB hI.out.1 hc0
        replace hc1 := cB hI.out.1 hc1
        obtain ⟨K, p, m, c', xs⟩ := r
        have HD := Lib.hid hds
        clear hds hok ha
        replace hc0 : wr.cell? ⟨b, o + ds.length * 2, none⟩ = some (.int .u8 K) := hc0
        replace hc1 : wr.cell? ⟨b, o + ds.length * 2 + 1, none⟩ = some (.slice p m c') := hc1
        have hk20 := HK.out.2
        by_cases hm : m ≤ 100
        · have hm1 : decide (100 < m) = false := by rw [decide_eq_false_iff_not]; omega
          have hm2 : decide (100 < (m : Int)) = false := by rw [decide_eq_false_iff_not]; omega
          go_wp2_with fail
          go_roundg rs.length
          case measure => simp
          case rel => exact ⟨ds ++ [⟨K, p, m, c', xs⟩], rs, by rw [HD.out, List.append_assoc]; rfl, rfl, by simp, hI.out.1.alloc hI.out.1.size _, fun h hh => by
            rcases List.mem_append.1 hh with hh | hh
            · exact hI.out.2 h hh
            · obtain rfl := List.mem_singleton.1 hh
              exact hm⟩
        · have hm1 : decide (100 < m) = true := by rw [decide_eq_true_iff]; omega
          have hm2 : decide (100 < (m : Int)) = true := by rw [decide_eq_true_iff]; omega
          go_wp2_with fail
          go_ret
          exact ⟨_, rfl, hI.out.1.alloc hI.out.1.size _, fun h => by cases h⟩
  · by_cases hk0 : k = 0
    · subst hk0
      go_wp2_with fail
      go_ret
      exact ⟨_, rfl, Below.refl _ _, fun h => by cases h⟩
    · have ht1 : ((k : Int) == 0) = false := by rw [beq_eq_false_iff_ne]; omega
      have ht2 : decide (20 < (k : Int)) = true := by rw [decide_eq_true_iff]; omega
      clear hkk
      go_wp2_with fail
      go_ret
      exact ⟨_, rfl, Below.refl _ _, fun h => by cases h⟩
end Go.Proofs.YtapkmoakbfpkeaaGreatDoor
