/- slices.Grow, slices.Concat at lists of slices. -/
import Derived.Test.YtapkmoakbfpkeaaGreatDoorM1
namespace Go.Proofs.YtapkmoakbfpkeaaGreatDoor
open Go Go.RowKit Go.Proofs Go.Sort
/-- A slice of one-cell elements, and its cells. -/
structure Seg where
  p : Option Addr
  n : Nat
  c : Nat
  us : List Value
def Seg.v (s : Seg) : Value := .slice s.p s.n s.c
def Seg.Ok (s : Seg) (w : World) : Prop := s.us.length = s.n ∧ (∀ j u, s.us[j]? = some u → ∃ b o, s.p = some ⟨b, o, none⟩ ∧ w.cell? ⟨b, o + j, none⟩ = some u) ∧ (s.p = none → s.n = 0 ∧ s.c = 0) ∧ ∀ u ∈ s.us, u.oneCell' = true
def sumG (l : List Seg) : Nat := (l.map (·.n)).sum
def catG (l : List Seg) : List Value := (l.map (·.us)).flatten
def SegAt (w : World) (b : Nat) (l : List Seg) : Prop := ∀ i s, l[i]? = some s → w.cell? ⟨b, i, none⟩ = some s.v ∧ s.Ok w
theorem Seg.Ok.below {s : Seg} {w w' : World} (h : s.Ok w) (hb : Below w.heap.size w w') : s.Ok w' := ⟨h.1, fun j u hj => by
  obtain ⟨b, o, hp, hc⟩ := h.2.1 j u hj
  exact ⟨b, o, hp, cB hb hc⟩, h.2.2⟩
theorem catG_len (l : List Seg) (h : ∀ s ∈ l, s.us.length = s.n) : (catG l).length = sumG l := by
  induction l with
  | nil => rfl
  | cons s l ih =>
    have h1 := ih fun x hx => h x (List.mem_cons_of_mem _ hx)
    have h2 := h s List.mem_cons_self
    simp only [catG, sumG, List.map_cons, List.flatten_cons, List.length_append, List.sum_cons] at h1 ⊢
    omega
/-- append of whatever slice onto a row of the call's own, one cell an element. -/
theorem wpAppG1 (S T : TypeId) (z : Value) (byt : Nat) (hS : Tryz.prog.underlying S = some (.slice T)) (hinf : (Tryz.prog.info? T).map (fun i => (i.zero, i.size, i.bytes)) = some (some z, 1, byt)) (hzs : z.cells.size = 1) (hby : byt ≤ 100)
    {ops : Array Oper} {rest : List Oper} {o : Oper} {a : Act} {w : World} {Q : Exit → Act → World → Prop} (hgd : o.guard = none) (s x : Operand)
    (ho : o.op = .call { callee := .builtin .append, args := #[s, x], argTypes := #[S, S] }) (base : Nat) (v : Value) (n : Nat) (us : List Value) (hs : a.eval s = v) (hown : w.ownsRow base T 1 v n us)
    (p : Option Addr) (m c : Nat) (ys : List Value) (hx : a.eval x = .slice p m c) (hok : (Seg.mk p m c ys).Ok w) (hN : n + m ≤ 1000000) (hbase : base ≤ w.heap.size)
    (h : ∀ v' w', w'.ownsRow base T 1 v' (n + m) (us ++ ys) → w.grownBy w' v.ownBlock → wpList Tryz.prog ops Q rest (a.put o.dst v') w') : wpList Tryz.prog ops Q (o :: rest) a w := by
  obtain ⟨h1, h2, h3, h4⟩ := hok
  obtain ⟨i0, hi, hz0, hz1, hz2⟩ := info_parts hinf
  cases p with
  | none =>
    obtain ⟨rfl, rfl⟩ : m = 0 ∧ c = 0 := h3 rfl
    obtain rfl : ys = [] := List.eq_nil_of_length_eq_zero h1
    refine wpList_append_own_none hgd s x S ho base T i0 1 hS hi v n _ hs hown hx ?_
    exact h v w (by rw [List.append_nil]; exact hown) ⟨rfl, rfl, rfl, Nat.le_refl _, fun _ _ _ => rfl⟩
  | some ad =>
    refine wpList_append_own w hgd s x S ho base T i0 z 1 byt hS hi hz0 hz1 hz2 hzs (by decide) v n us hs hown ad m c ys hx (by rw [show ys.length = m from h1]; omega) (fun j u hj => ?_) h4 (by unfold maxLen; omega) (Nat.le_trans (Nat.mul_le_mul_left _ hby) (by omega)) hbase fun v' w' q1 q2 _ => h v' w' q1 q2
    obtain ⟨b, o', hp, hc⟩ := h2 j u hj
    obtain rfl : ad = ⟨b, o', none⟩ := Option.some.inj hp
    rw [Lib.add_plain]
    exact hc
theorem infoLs : (Tryz.prog.info? 22).map (fun i => (i.zero, i.size, i.bytes)) = some (some (.slice none 0 0), 1, 24) := by kernel_rfl
set_option maxRecDepth 100000 in
theorem growLL0 (w : World) : Calls Tryz.prog 54 #[.slice none 0 0, .int .i64 0] w fun e w' => e = .returned (.slice none 0 0) ∧ w' = w := by
  go_enter Tryz.func54, Tryz.ntmps54
  go_wp2_with fail
  go_ret
  exact ⟨rfl, rfl⟩
set_option maxRecDepth 100000 in
theorem growLL (n : Nat) (h0 : 0 < n) (hn : n ≤ 100000) (w : World) : Calls Tryz.prog 54 #[.slice none 0 0, .int .i64 (n : Int)] w fun e w' => ∃ v, e = .returned v ∧ w'.ownsRow w.heap.size 22 1 v 0 [] ∧ Below w.heap.size w w' := by
  have hmk : ∀ w, (Instr.makeSlice 42 (.int .i64 (n : Int)) (.int .i64 (n : Int))).run Tryz.prog w = .ok (.slice (some ⟨w.heap.size, 0, none⟩) n n) (w.alloc (.cells (madeCells #[.slice none 0 0] n) 22)) :=
    fun w => run_make_row' 42 22 (.slice none 0 0) 24 Tryz.underlying42 (by kernel_rfl) rfl .i64 .i64 n (by omega) (by omega) w
  have hn2 : (n : Int) ≤ 100000 := by omega
  have hby : Tryz.t22.bytes = 24 := by kernel_rfl
  have f1 : ¬ (281474976710656 < (n : Int) * (Tryz.t22.bytes : Int)) := by rw [hby]; omega
  have f2 : ¬ (281474976710656 < Builtin.nextslicecap n 0 * Tryz.t22.bytes) := by rw [hby, nextslicecap_zero h0]; omega
  have f3 : ¬ (n = 0) := by omega
  have hn3 : decide (0 < (n : Int)) = true := by simp; omega
  go_enter Tryz.func54, Tryz.ntmps54
  go_wp2_with fail
  go_ret
  · refine ⟨_, rfl, ⟨by simp, .inr ⟨w.heap.size, _, _, rfl, Nat.le_refl _, heap_alloc_new _ _, Nat.zero_le _, grownCap_le_maxLen w n 0 _ (by unfold maxLen; omega), ?_, by simp⟩⟩, ?_⟩
    · have := grownCap_ge w n 0 22
      unfold grownCap at this
      simp [Builtin.zeroCells]
      omega
    · exact ((Below.refl _ w).alloc (Nat.le_refl _) _).drew
set_option maxHeartbeats 1600000 in
set_option maxRecDepth 100000 in
theorem concatLL (l : List Seg) (k : Nat) (hk : l.length = k) (hk1 : k ≤ 20) (hs : sumG l ≤ 10000) (b c : Nat) (w : World) (hb : SegAt w b l) : Calls Tryz.prog 25 #[.slice (some ⟨b, 0, none⟩) k c] w fun e w' => ∃ v, e = .returned v ∧ w'.ownsRow w.heap.size 22 1 v (sumG l) (catG l) ∧ Below w.heap.size w w' := by
  have HB := Lib.hid (And.intro hb (And.intro hk hs))
  clear hb hk hs
  go_enter Tryz.func25, Tryz.ntmps25
  go_wp2_with fail
  go_loopg [3, 11] k (fun gk sv iv wr => ∃ (ds rs : List Seg), l = ds ++ rs ∧ gk = rs.length ∧ sv = .int .i64 (sumG ds : Int) ∧ iv = .int .i64 (ds.length : Int) ∧ w = wr)
  case atStart => exact ⟨[], l, rfl, HB.out.2.1.symm, rfl, rfl, rfl⟩
  case round =>
    obtain ⟨ds, rs, hds, rfl, rfl, rfl, rfl⟩ := hrel
    cases rs with
    | nil =>
      have hlt : ds.length = k := by rw [← HB.out.2.1, hds, List.append_nil]
      have hsd : sumG ds ≤ 10000 := by have := HB.out.2.2; rw [hds, List.append_nil] at this; exact this
      have hl2 : decide (ds.length < k) = false := by rw [decide_eq_false_iff_not, hlt]; omega
      have hg : Calls Tryz.prog 54 #[.slice none 0 0, .int .i64 (sumG ds : Int)] w fun e w' => ∃ v, e = .returned v ∧ w'.ownsRow w.heap.size 22 1 v 0 [] ∧ Below w.heap.size w w' := by
        by_cases h0 : sumG ds = 0
        · rw [h0]
          refine (growLL0 w).mono ?_
          rintro e w' ⟨rfl, rfl⟩
          exact ⟨_, rfl, World.ownsRow_nil _ _ _ _, Below.refl _ _⟩
        · exact growLL _ (by omega) (by omega) w
      have HG := Lib.hid hg
      clear hds hlt hg
      go_wp2_with fail
      refine HG.out.mono ?_
      rintro e w1 ⟨v, rfl, hown, hB⟩
      have HO := Lib.hid (And.intro hown hB)
      clear hown hB hl2 hsd HG
      obtain ⟨N, hN⟩ : ∃ N : Int, N = (sumG ds : Int) := ⟨_, rfl⟩
      obtain ⟨M, hM⟩ : ∃ N : Nat, N = ds.length := ⟨_, rfl⟩
      rw [← hN, ← hM]
      clear hN hM ds
      go_wp2_with fail
      go_loopg [6, 27] k (fun gk sv iv wr => ∃ (ds rs : List Seg), l = ds ++ rs ∧ gk = rs.length ∧ iv = .int .i64 (ds.length : Int) ∧ Hid (wr.ownsRow w.heap.size 22 1 sv (sumG ds) (catG ds) ∧ Below w.heap.size w wr))
      case atStart => exact ⟨[], l, rfl, HB.out.2.1.symm, rfl, HO⟩
      case round =>
        obtain ⟨ds, rs, hds, rfl, rfl, hI⟩ := hrel
        cases rs with
        | nil =>
          have HD := Lib.hid hds
          have hlt : ds.length = k := by rw [← HB.out.2.1, hds, List.append_nil]
          have hl2 : decide (ds.length < k) = false := by rw [decide_eq_false_iff_not, hlt]; omega
          clear hds hlt
          go_wp2_with fail
          go_ret
          have hdl : l = ds := by rw [HD.out, List.append_nil]
          exact ⟨_, rfl, by have h := hI.out.1; rw [← hdl] at h; exact h, hI.out.2⟩
        | cons r rs =>
          have hlt : ds.length < k := by rw [← HB.out.2.1, hds]; simp
          have hl2 : decide (ds.length < k) = true := by rw [decide_eq_true_iff]; omega
          obtain ⟨hc, hok⟩ := HB.out.1 ds.length r (by rw [hds]; simp)
          have hsum : sumG ds + r.n ≤ 10000 := by have := HB.out.2.2; rw [hds] at this; simp [sumG] at this; simp [sumG]; omega
          have hc2 : wr.cell? ⟨b, ds.length, none⟩ = some (.slice r.p r.n r.c) := cB hI.out.2 hc
          have HD := Lib.hid (And.intro hds hok)
          clear hds hok hc
          obtain ⟨p, n, c', us⟩ := r
          replace hc : wr.cell? ⟨b, ds.length, none⟩ = some (.slice p n c') := hc2
          replace hsum : sumG ds + n ≤ 10000 := hsum
          clear hc2
          go_wp2_with (at_builtin; refine wpAppG1 42 22 _ 24 Tryz.underlying42 infoLs rfl (by decide) rfl _ _ rfl w.heap.size _ _ (catG ds) rfl hI.out.1 p n c' us rfl (HD.out.2.below hI.out.2) (by omega) hI.out.2.size ?_)
          intro v' w' hown' hgrow
          have HO' := Lib.hid (And.intro hown' (grown_below hI.out.2 hI.out.1 hgrow hI.out.2.size))
          clear hown' hgrow
          go_wp2_with fail
          go_roundg rs.length
          case measure => simp
          case rel => exact ⟨ds ++ [⟨p, n, c', us⟩], rs, by rw [HD.out.1, List.append_assoc]; rfl, rfl, by simp, by show _ ∧ _; have h := HO'.out; simp only [sumG, catG, List.map_append, List.sum_append, List.flatten_append] at h ⊢; simpa using h⟩
    | cons r rs =>
      have hlt : ds.length < k := by rw [← HB.out.2.1, hds]; simp
      have hl2 : decide (ds.length < k) = true := by rw [decide_eq_true_iff]; omega
      obtain ⟨hc, hok⟩ := HB.out.1 ds.length r (by rw [hds]; simp)
      have hsum : sumG ds + r.n ≤ 10000 := by have := HB.out.2.2; rw [hds] at this; simp [sumG] at this; simp [sumG]; omega
      obtain ⟨p, n, c', us⟩ := r
      replace hc : w.cell? ⟨b, ds.length, none⟩ = some (.slice p n c') := hc
      replace hsum : sumG ds + n ≤ 10000 := hsum
      have HD := Lib.hid hds
      clear hds hok
      go_wp2_with fail
      go_roundg rs.length
      case measure => simp
      case rel => exact ⟨ds ++ [⟨p, n, c', us⟩], rs, by rw [HD.out, List.append_assoc]; rfl, rfl, by simp [sumG], by simp, rfl⟩

set_option maxRecDepth 100000 in
theorem growBB0 (w : World) : Calls Tryz.prog 55 #[.slice none 0 0, .int .i64 0] w fun e w' => e = .returned (.slice none 0 0) ∧ w' = w := by
  go_enter Tryz.func55, Tryz.ntmps55
  go_wp2_with fail
  go_ret
  exact ⟨rfl, rfl⟩
set_option maxRecDepth 100000 in
theorem growBB (n : Nat) (h0 : 0 < n) (hn : n ≤ 100000) (w : World) : Calls Tryz.prog 55 #[.slice none 0 0, .int .i64 (n : Int)] w fun e w' => ∃ v, e = .returned v ∧ w'.ownsRow w.heap.size 23 1 v 0 [] ∧ Below w.heap.size w w' := by
  have hmk : ∀ w, (Instr.makeSlice 30 (.int .i64 (n : Int)) (.int .i64 (n : Int))).run Tryz.prog w = .ok (.slice (some ⟨w.heap.size, 0, none⟩) n n) (w.alloc (.cells (madeCells #[.slice none 0 0] n) 23)) :=
    fun w => run_make_row' 30 23 (.slice none 0 0) 24 Tryz.underlying30 (by kernel_rfl) rfl .i64 .i64 n (by omega) (by omega) w
  have hn2 : (n : Int) ≤ 100000 := by omega
  have hby : Tryz.t23.bytes = 24 := by kernel_rfl
  have f1 : ¬ (281474976710656 < (n : Int) * (Tryz.t23.bytes : Int)) := by rw [hby]; omega
  have f2 : ¬ (281474976710656 < Builtin.nextslicecap n 0 * Tryz.t23.bytes) := by rw [hby, nextslicecap_zero h0]; omega
  have f3 : ¬ (n = 0) := by omega
  have hn3 : decide (0 < (n : Int)) = true := by simp; omega
  go_enter Tryz.func55, Tryz.ntmps55
  go_wp2_with fail
  go_ret
  · refine ⟨_, rfl, ⟨by simp, .inr ⟨w.heap.size, _, _, rfl, Nat.le_refl _, heap_alloc_new _ _, Nat.zero_le _, grownCap_le_maxLen w n 0 _ (by unfold maxLen; omega), ?_, by simp⟩⟩, ?_⟩
    · have := grownCap_ge w n 0 23
      unfold grownCap at this
      simp [Builtin.zeroCells]
      omega
    · exact ((Below.refl _ w).alloc (Nat.le_refl _) _).drew
set_option maxHeartbeats 1600000 in
set_option maxRecDepth 100000 in
theorem concatBB (l : List Seg) (k : Nat) (hk : l.length = k) (hk1 : k ≤ 20) (hs : sumG l ≤ 10000) (b c : Nat) (w : World) (hb : SegAt w b l) : Calls Tryz.prog 27 #[.slice (some ⟨b, 0, none⟩) k c] w fun e w' => ∃ v, e = .returned v ∧ w'.ownsRow w.heap.size 23 1 v (sumG l) (catG l) ∧ Below w.heap.size w w' := by
  have HB := Lib.hid (And.intro hb (And.intro hk hs))
  clear hb hk hs
  go_enter Tryz.func27, Tryz.ntmps27
  go_wp2_with fail
  go_loopg [3, 11] k (fun gk sv iv wr => ∃ (ds rs : List Seg), l = ds ++ rs ∧ gk = rs.length ∧ sv = .int .i64 (sumG ds : Int) ∧ iv = .int .i64 (ds.length : Int) ∧ w = wr)
  case atStart => exact ⟨[], l, rfl, HB.out.2.1.symm, rfl, rfl, rfl⟩
  case round =>
    obtain ⟨ds, rs, hds, rfl, rfl, rfl, rfl⟩ := hrel
    cases rs with
    | nil =>
      have hlt : ds.length = k := by rw [← HB.out.2.1, hds, List.append_nil]
      have hsd : sumG ds ≤ 10000 := by have := HB.out.2.2; rw [hds, List.append_nil] at this; exact this
      have hl2 : decide (ds.length < k) = false := by rw [decide_eq_false_iff_not, hlt]; omega
      have hg : Calls Tryz.prog 55 #[.slice none 0 0, .int .i64 (sumG ds : Int)] w fun e w' => ∃ v, e = .returned v ∧ w'.ownsRow w.heap.size 23 1 v 0 [] ∧ Below w.heap.size w w' := by
        by_cases h0 : sumG ds = 0
        · rw [h0]
          refine (growBB0 w).mono ?_
          rintro e w' ⟨rfl, rfl⟩
          exact ⟨_, rfl, World.ownsRow_nil _ _ _ _, Below.refl _ _⟩
        · exact growBB _ (by omega) (by omega) w
      have HG := Lib.hid hg
      clear hds hlt hg
      go_wp2_with fail
      refine HG.out.mono ?_
      rintro e w1 ⟨v, rfl, hown, hB⟩
      have HO := Lib.hid (And.intro hown hB)
      clear hown hB hl2 hsd HG
      obtain ⟨N, hN⟩ : ∃ N : Int, N = (sumG ds : Int) := ⟨_, rfl⟩
      obtain ⟨M, hM⟩ : ∃ N : Nat, N = ds.length := ⟨_, rfl⟩
      rw [← hN, ← hM]
      clear hN hM ds
      go_wp2_with fail
      go_loopg [6, 27] k (fun gk sv iv wr => ∃ (ds rs : List Seg), l = ds ++ rs ∧ gk = rs.length ∧ iv = .int .i64 (ds.length : Int) ∧ Hid (wr.ownsRow w.heap.size 23 1 sv (sumG ds) (catG ds) ∧ Below w.heap.size w wr))
      case atStart => exact ⟨[], l, rfl, HB.out.2.1.symm, rfl, HO⟩
      case round =>
        obtain ⟨ds, rs, hds, rfl, rfl, hI⟩ := hrel
        cases rs with
        | nil =>
          have HD := Lib.hid hds
          have hlt : ds.length = k := by rw [← HB.out.2.1, hds, List.append_nil]
          have hl2 : decide (ds.length < k) = false := by rw [decide_eq_false_iff_not, hlt]; omega
          clear hds hlt
          go_wp2_with fail
          go_ret
          have hdl : l = ds := by rw [HD.out, List.append_nil]
          exact ⟨_, rfl, by have h := hI.out.1; rw [← hdl] at h; exact h, hI.out.2⟩
        | cons r rs =>
          have hlt : ds.length < k := by rw [← HB.out.2.1, hds]; simp
          have hl2 : decide (ds.length < k) = true := by rw [decide_eq_true_iff]; omega
          obtain ⟨hc, hok⟩ := HB.out.1 ds.length r (by rw [hds]; simp)
          have hsum : sumG ds + r.n ≤ 10000 := by have := HB.out.2.2; rw [hds] at this; simp [sumG] at this; simp [sumG]; omega
          have hc2 : wr.cell? ⟨b, ds.length, none⟩ = some (.slice r.p r.n r.c) := cB hI.out.2 hc
          have HD := Lib.hid (And.intro hds hok)
          clear hds hok hc
          obtain ⟨p, n, c', us⟩ := r
          replace hc : wr.cell? ⟨b, ds.length, none⟩ = some (.slice p n c') := hc2
          replace hsum : sumG ds + n ≤ 10000 := hsum
          clear hc2
          go_wp2_with (at_builtin; refine wpAppG1 30 23 _ 24 Tryz.underlying30 infoBs rfl (by decide) rfl _ _ rfl w.heap.size _ _ (catG ds) rfl hI.out.1 p n c' us rfl (HD.out.2.below hI.out.2) (by omega) hI.out.2.size ?_)
          intro v' w' hown' hgrow
          have HO' := Lib.hid (And.intro hown' (grown_below hI.out.2 hI.out.1 hgrow hI.out.2.size))
          clear hown' hgrow
          go_wp2_with fail
          go_roundg rs.length
          case measure => simp
          case rel => exact ⟨ds ++ [⟨p, n, c', us⟩], rs, by rw [HD.out.1, List.append_assoc]; rfl, rfl, by simp, by show _ ∧ _; have h := HO'.out; simp only [sumG, catG, List.map_append, List.sum_append, List.flatten_append] at h ⊢; simpa using h⟩
    | cons r rs =>
      have hlt : ds.length < k := by rw [← HB.out.2.1, hds]; simp
      have hl2 : decide (ds.length < k) = true := by rw [decide_eq_true_iff]; omega
      obtain ⟨hc, hok⟩ := HB.out.1 ds.length r (by rw [hds]; simp)
      have hsum : sumG ds + r.n ≤ 10000 := by have := HB.out.2.2; rw [hds] at this; simp [sumG] at this; simp [sumG]; omega
      obtain ⟨p, n, c', us⟩ := r
      replace hc : w.cell? ⟨b, ds.length, none⟩ = some (.slice p n c') := hc
      replace hsum : sumG ds + n ≤ 10000 := hsum
      have HD := Lib.hid hds
      clear hds hok
      go_wp2_with fail
      go_roundg rs.length
      case measure => simp
      case rel => exact ⟨ds ++ [⟨p, n, c', us⟩], rs, by rw [HD.out, List.append_assoc]; rfl, rfl, by simp [sumG], by simp, rfl⟩
end Go.Proofs.YtapkmoakbfpkeaaGreatDoor
