/- Slices of strings. -/
import Derived.Test.YtkfiacolgkocfaaGreatDoorD3
namespace Go.Proofs.YtkfiacolgkocfaaGreatDoor
open Go Go.RowKit Go.Proofs Go.Sort
def StrIn (w : World) (p : Option Addr) (n : Nat) (zs : List ByteArray) : Prop := zs.length = n ∧ (0 < n → ∃ b o, p = some ⟨b, o, none⟩ ∧ ∀ j, j < n → w.cell? ⟨b, o + j, none⟩ = some (.string (zs.getD j ByteArray.empty)))
theorem StrIn.below {w w' : World} {p : Option Addr} {n : Nat} {zs : List ByteArray} (h : StrIn w p n zs) (hb : Below w.heap.size w w') : StrIn w' p n zs := ⟨h.1, fun h0 => by
  obtain ⟨b, o, hp, hc⟩ := h.2 h0
  exact ⟨b, o, hp, fun j hj => cB hb (hc j hj)⟩⟩
theorem str_one (zs : List ByteArray) : ∀ u ∈ zs.map Value.string, u.oneCell' = true := fun u hu => by
  obtain ⟨x, _, rfl⟩ := List.mem_map.1 hu
  rfl
theorem own_str {w : World} {B n : Nat} {E : TypeId} {v : Value} {zs : List ByteArray} (h : w.ownsRow B E 1 v n (zs.map Value.string)) : ∃ p c, v = .slice p n c ∧ n ≤ c ∧ StrIn w p n zs := by
  have hl : zs.length = n := by have := h.1; simpa using this
  have h0 := h
  rcases h.2 with ⟨rfl, rfl⟩ | ⟨g, cap, cur, rfl, _, _, hc, _⟩
  · exact ⟨none, 0, rfl, Nat.le_refl _, hl, fun h => absurd h (Nat.lt_irrefl 0)⟩
  · refine ⟨_, cap, rfl, hc, hl, fun _ => ⟨g, 0, rfl, fun j hj => ?_⟩⟩
    rw [Nat.zero_add, h0.cellAt j (by omega)]
    have hx : j < zs.length := by omega
    simp [List.getD, hx]
theorem info9 : (Tryz.prog.info? 9).map (fun i => (i.zero, i.size, i.bytes)) = some (some (.string ⟨#[]⟩), 1, 16) := by kernel_rfl
theorem infoPID : (Tryz.prog.info? 72).map (fun i => (i.zero, i.size, i.bytes)) = some (some (.string ⟨#[]⟩), 1, 16) := by kernel_rfl
/-- append of one string onto a row of the call's own. -/
theorem wpAppZ {ops : Array Oper} {rest : List Oper} {o : Oper} {a : Act} {w : World} {Q : Exit → Act → World → Prop} (hgd : o.guard = none) (s x : Operand) (T E : TypeId) (hT : Tryz.prog.underlying T = some (.slice E)) (hinfo : (Tryz.prog.info? E).map (fun i => (i.zero, i.size, i.bytes)) = some (some (.string ⟨#[]⟩), 1, 16))
    (ho : o.op = .call { callee := .builtin .append, args := #[s, x], argTypes := #[T, T] }) (base : Nat) (v : Value) (n : Nat) (zs : List ByteArray) (hs : a.eval s = v) (hown : w.ownsRow base E 1 v n (zs.map Value.string))
    (z : ByteArray) (g c : Nat) (hx : a.eval x = .slice (some ⟨g, 0, none⟩) 1 c) (hb : w.cell? ⟨g, 0, none⟩ = some (.string z)) (hN : n ≤ 1000000) (hbase : base ≤ w.heap.size)
    (h : ∀ v' w', w'.ownsRow base E 1 v' (n + 1) ((zs ++ [z]).map Value.string) → w.grownBy w' v.ownBlock → wpList Tryz.prog ops Q rest (a.put o.dst v') w') : wpList Tryz.prog ops Q (o :: rest) a w := by
  obtain ⟨i0, hi, hz0, hz1, hz2⟩ := info_parts hinfo
  refine wpList_append_own w hgd s x T ho base E i0 _ 1 16 hT hi hz0 hz1 hz2 rfl (by decide) v n _ hs hown ⟨g, 0, none⟩ 1 c [.string z] hx rfl (fun j u hj => ?_) (fun u hu => by simp at hu; subst hu; rfl) (by unfold maxLen; omega) (by omega) hbase (fun v' w' h1 h2 _ => h v' w' (by rw [List.map_append]; exact h1) h2)
  match j, hj with
  | 0, hj =>
    rw [Lib.add_plain, Nat.zero_add, hb]
    exact hj
theorem made_own (E : TypeId) (n : Nat) (hn : n ≤ 1000) (w : World) : (w.alloc (.cells (madeCells #[.string ⟨#[]⟩] n) E)).ownsRow w.heap.size E 1 (.slice (some ⟨w.heap.size, 0, none⟩) 0 n) 0 (([] : List ByteArray).map Value.string) :=
  ⟨rfl, .inr ⟨w.heap.size, n, _, rfl, Nat.le_refl _, heap_alloc_new _ _, Nat.zero_le _, by unfold maxLen; omega, by rw [size_madeCells]; omega, rfl⟩⟩
theorem one_str (w : World) (z : ByteArray) (E : TypeId) : (w.alloc (.cells #[.string z] E)).cell? ⟨w.heap.size, 0, none⟩ = some (.string z) := World.cell?_alloc_mark w _ _ _ 0
/-- 'these strings come back, in memory of the call's own'. -/
def NewStrs (E : TypeId) (zs : List ByteArray) (w : World) (e : Ending) (w' : World) : Prop := ∃ v, e = .returned v ∧ w'.ownsRow w.heap.size E 1 v zs.length (zs.map Value.string) ∧ Below w.heap.size w w'
set_option maxRecDepth 100000 in
theorem convFrom (p : Option Addr) (n c : Nat) (zs : List ByteArray) (w : World) (hz : StrIn w p n zs) (hn : n ≤ 200) : Calls Tryz.prog 34 #[.slice p n c] w (NewStrs 72 zs w) := by
  have hmk : ∀ w, (Instr.makeSlice 70 (.int .i64 0) (.int .i64 (n : Int))).run Tryz.prog w = .ok (.slice (some ⟨w.heap.size, 0, none⟩) 0 n) (w.alloc (.cells (madeCells #[.string ⟨#[]⟩] n) 72)) := fun w => by
    obtain ⟨i0, hi, hz0, hz1, hz2⟩ := info_parts infoPID
    have h := run_make (P := Tryz.prog) w 70 72 i0 _ Tryz.underlying70 hi hz0 .i64 .i64 0 n (by omega) (by omega) (by rw [hz2]; omega) (by omega)
    simp only [Int.toNat_natCast, hz1, Nat.mul_one] at h
    exact h
  have HZ := Lib.hid hz
  clear hz
  go_enter Tryz.func34, Tryz.ntmps34
  go_wp2_with fail
  go_loopg [2, 10] n (fun gk sv iv wr => ∃ (i : Nat), gk = n - i ∧ i ≤ n ∧ iv = .int .i64 (i : Int) ∧ Hid (wr.ownsRow w.heap.size 72 1 sv i ((zs.take i).map Value.string) ∧ Below w.heap.size w wr))
  case atStart => exact ⟨0, rfl, Nat.zero_le _, rfl, (made_own _ n (by omega) w), (Below.refl _ _).alloc (Nat.le_refl _) _⟩
  case round =>
    obtain ⟨i, rfl, hi, rfl, hI⟩ := hrel
    by_cases hin : i = n
    · subst hin
      have hl2 : decide (i < i) = false := by rw [decide_eq_false_iff_not]; omega
      have HT := Lib.hid (show zs.take i = zs by rw [List.take_of_length_le (by rw [HZ.out.1]; omega)])
      clear hl2
      have hl3 : decide (i < i) = false := by rw [decide_eq_false_iff_not]; omega
      go_wp2_with fail
      go_ret
      exact ⟨_, rfl, by rw [HZ.out.1]; have h := hI.out.1; rw [HT.out] at h; exact h, hI.out.2⟩
    · have hl2 : decide (i < n) = true := by rw [decide_eq_true_iff]; omega
      obtain ⟨b, o, hp, hc⟩ := HZ.out.2 (by omega)
      have hc0 := cB hI.out.2 (hc i (by omega))
      obtain ⟨z, hz⟩ : ∃ z, z = zs.getD i ByteArray.empty := ⟨_, rfl⟩
      rw [← hz] at hc0
      have hts : zs.take (i + 1) = zs.take i ++ [z] := by
        have hil : i < zs.length := by rw [HZ.out.1]; omega
        rw [List.take_succ_eq_append_getElem hil, hz]
        simp [List.getD, hil]
      have HTS := Lib.hid hts
      have hlt : i < n := by omega
      subst hp
      clear hz hts hc hin
      go_wp2_with (at_builtin; refine wpAppZ rfl _ _ 70 72 Tryz.underlying70 infoPID rfl w.heap.size _ i (zs.take i) rfl (hI.out.1.alloc _) z wr.heap.size 1 rfl (one_str _ _ _) (by omega) (by have := hI.out.2.size; simp; omega) ?_)
      intro v' w' hown hgrow
      have hB' := grown_below (hI.out.2.alloc hI.out.2.size _) (hI.out.1.alloc _) hgrow (by have := hI.out.2.size; simp; omega)
      replace hown : w'.ownsRow w.heap.size 72 1 v' (i + 1) ((zs.take (i + 1)).map Value.string) := by rw [HTS.out]; simpa using hown
      have HO := Lib.hid (And.intro hown hB')
      clear hown hgrow hB' hc0
      go_wp2_with fail
      go_roundg (n - i - 1)
      case measure => omega
      case rel => exact ⟨i + 1, by omega, by omega, by simp, HO.out⟩
set_option maxRecDepth 100000 in
theorem convTo (p : Option Addr) (n c : Nat) (zs : List ByteArray) (w : World) (hz : StrIn w p n zs) (hn : n ≤ 200) : Calls Tryz.prog 35 #[.slice p n c] w (NewStrs 9 zs w) := by
  have hmk : ∀ w, (Instr.makeSlice 42 (.int .i64 0) (.int .i64 (n : Int))).run Tryz.prog w = .ok (.slice (some ⟨w.heap.size, 0, none⟩) 0 n) (w.alloc (.cells (madeCells #[.string ⟨#[]⟩] n) 9)) := fun w => by
    obtain ⟨i0, hi, hz0, hz1, hz2⟩ := info_parts info9
    have h := run_make (P := Tryz.prog) w 42 9 i0 _ Tryz.underlying42 hi hz0 .i64 .i64 0 n (by omega) (by omega) (by rw [hz2]; omega) (by omega)
    simp only [Int.toNat_natCast, hz1, Nat.mul_one] at h
    exact h
  have HZ := Lib.hid hz
  clear hz
  go_enter Tryz.func35, Tryz.ntmps35
  go_wp2_with fail
  go_loopg [2, 10] n (fun gk sv iv wr => ∃ (i : Nat), gk = n - i ∧ i ≤ n ∧ iv = .int .i64 (i : Int) ∧ Hid (wr.ownsRow w.heap.size 9 1 sv i ((zs.take i).map Value.string) ∧ Below w.heap.size w wr))
  case atStart => exact ⟨0, rfl, Nat.zero_le _, rfl, (made_own _ n (by omega) w), (Below.refl _ _).alloc (Nat.le_refl _) _⟩
  case round =>
    obtain ⟨i, rfl, hi, rfl, hI⟩ := hrel
    by_cases hin : i = n
    · subst hin
      have hl2 : decide (i < i) = false := by rw [decide_eq_false_iff_not]; omega
      have HT := Lib.hid (show zs.take i = zs by rw [List.take_of_length_le (by rw [HZ.out.1]; omega)])
      clear hl2
      have hl3 : decide (i < i) = false := by rw [decide_eq_false_iff_not]; omega
      go_wp2_with fail
      go_ret
      exact ⟨_, rfl, by rw [HZ.out.1]; have h := hI.out.1; rw [HT.out] at h; exact h, hI.out.2⟩
    · have hl2 : decide (i < n) = true := by rw [decide_eq_true_iff]; omega
      obtain ⟨b, o, hp, hc⟩ := HZ.out.2 (by omega)
      have hc0 := cB hI.out.2 (hc i (by omega))
      obtain ⟨z, hz⟩ : ∃ z, z = zs.getD i ByteArray.empty := ⟨_, rfl⟩
      rw [← hz] at hc0
      have hts : zs.take (i + 1) = zs.take i ++ [z] := by
        have hil : i < zs.length := by rw [HZ.out.1]; omega
        rw [List.take_succ_eq_append_getElem hil, hz]
        simp [List.getD, hil]
      have HTS := Lib.hid hts
      have hlt : i < n := by omega
      subst hp
      clear hz hts hc hin
      go_wp2_with (at_builtin; refine wpAppZ rfl _ _ 42 9 Tryz.underlying42 info9 rfl w.heap.size _ i (zs.take i) rfl (hI.out.1.alloc _) z wr.heap.size 1 rfl (one_str _ _ _) (by omega) (by have := hI.out.2.size; simp; omega) ?_)
      intro v' w' hown hgrow
      have hB' := grown_below (hI.out.2.alloc hI.out.2.size _) (hI.out.1.alloc _) hgrow (by have := hI.out.2.size; simp; omega)
      replace hown : w'.ownsRow w.heap.size 9 1 v' (i + 1) ((zs.take (i + 1)).map Value.string) := by rw [HTS.out]; simpa using hown
      have HO := Lib.hid (And.intro hown hB')
      clear hown hgrow hB' hc0
      go_wp2_with fail
      go_roundg (n - i - 1)
      case measure => omega
      case rel => exact ⟨i + 1, by omega, by omega, by simp, HO.out⟩
set_option maxRecDepth 100000 in
theorem protocolStrings (p : Option Addr) (n c : Nat) (zs : List ByteArray) (w : World) (hz : StrIn w p n zs) (hn : n ≤ 200) : Calls Tryz.prog 24 #[.slice p n c] w (NewStrs 9 zs w) := by
  have HZ := Lib.hid hz
  clear hz
  go_enter Tryz.func24, Tryz.ntmps24
  go_wp2_with fail
  go_loopg [3, 8] n (fun gk sv iv wr => ∃ (i : Nat), gk = n - i ∧ i ≤ n ∧ iv = .int .i64 (i : Int) ∧ Hid (wr.ownsRow w.heap.size 72 1 sv i ((zs.take i).map Value.string) ∧ Below w.heap.size w wr))
  case atStart => exact ⟨0, rfl, Nat.zero_le _, rfl, World.ownsRow_nil _ _ _ _, Below.refl _ _⟩
  case round =>
    obtain ⟨i, rfl, hi, rfl, hI⟩ := hrel
    by_cases hin : i = n
    · subst hin
      have hl2 : decide (i < i) = false := by rw [decide_eq_false_iff_not]; omega
      have HT := Lib.hid (show zs.take i = zs by rw [List.take_of_length_le (by rw [HZ.out.1]; omega)])
      obtain ⟨p2, c2, hv, _, hs2⟩ := own_str hI.out.1
      subst hv
      have HS2 := Lib.hid hs2
      clear hs2
      go_wp2_with fail
      refine (convTo p2 i c2 _ wr HS2.out (by omega)).mono ?_
      rintro e w2 ⟨v2, rfl, hown2, hB2⟩
      have H2 := Lib.hid (And.intro hown2 hB2)
      clear hown2 hB2
      go_wp2_with fail
      go_ret
      exact ⟨_, rfl, by have h := H2.out.1; rw [HT.out] at h; exact World.ownsRow.mono h hI.out.2.size, hI.out.2.trans (H2.out.2.mono hI.out.2.size)⟩
    · have hl2 : decide (i < n) = true := by rw [decide_eq_true_iff]; omega
      obtain ⟨b, o, hp, hc⟩ := HZ.out.2 (by omega)
      have hc0 := cB hI.out.2 (hc i (by omega))
      obtain ⟨z, hz⟩ : ∃ z, z = zs.getD i ByteArray.empty := ⟨_, rfl⟩
      rw [← hz] at hc0
      have hts : zs.take (i + 1) = zs.take i ++ [z] := by
        have hil : i < zs.length := by rw [HZ.out.1]; omega
        rw [List.take_succ_eq_append_getElem hil, hz]
        simp [List.getD, hil]
      have HTS := Lib.hid hts
      have hlt : i < n := by omega
      subst hp
      clear hz hts hc hin
      go_wp2_with (at_builtin; refine wpAppZ rfl _ _ 70 72 Tryz.underlying70 infoPID rfl w.heap.size _ i (zs.take i) rfl (hI.out.1.alloc _) z wr.heap.size 1 rfl (one_str _ _ _) (by omega) (by have := hI.out.2.size; simp; omega) ?_)
      intro v' w' hown hgrow
      have hB' := grown_below (hI.out.2.alloc hI.out.2.size _) (hI.out.1.alloc _) hgrow (by have := hI.out.2.size; simp; omega)
      replace hown : w'.ownsRow w.heap.size 72 1 v' (i + 1) ((zs.take (i + 1)).map Value.string) := by rw [HTS.out]; simpa using hown
      have HO := Lib.hid (And.intro hown hB')
      clear hown hgrow hB' hc0
      go_wp2_with fail
      go_roundg (n - i - 1)
      case measure => omega
      case rel => exact ⟨i + 1, by omega, by omega, by simp, HO.out⟩
end Go.Proofs.YtkfiacolgkocfaaGreatDoor
