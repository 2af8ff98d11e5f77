/- slices.Grow, slices.Concat at []byte. -/
import Derived.Test.YtapkmoakbfpkeaaGreatDoorD1
namespace Go.Proofs.YtapkmoakbfpkeaaGreatDoor
open Go Go.RowKit Go.Proofs Go.Sort

set_option maxRecDepth 100000 in
theorem growNil (n : Nat) (h0 : 0 < n) (hn : n ≤ 100000) (w : World) : Calls Tryz.prog 72 #[.slice none 0 0, .int .i64 (n : Int)] w fun e w' => ∃ v, e = .returned v ∧ w'.ownsRow w.heap.size 5 1 v 0 [] ∧ Below w.heap.size w w' := by
  have hmk : ∀ w, (Instr.makeSlice 23 (.int .i64 (n : Int)) (.int .i64 (n : Int))).run Tryz.prog w = .ok (.slice (some ⟨w.heap.size, 0, none⟩) n n) (w.alloc (.cells (madeCells #[.int .u8 0] n) 5)) :=
    fun w => run_make_row' 23 5 (.int .u8 0) 1 Tryz.underlying23 (by kernel_rfl) rfl .i64 .i64 n (by omega) (by omega) w
  have hn2 : (n : Int) ≤ 100000 := by omega
  have hby : Tryz.t5.bytes = 1 := by kernel_rfl
  have f1 : ¬ (281474976710656 < (n : Int) * (Tryz.t5.bytes : Int)) := by rw [hby]; omega
  have f2 : ¬ (281474976710656 < Builtin.nextslicecap n 0 * Tryz.t5.bytes) := by rw [hby, nextslicecap_zero h0]; omega
  have f3 : ¬ (n = 0) := by omega
  have hn3 : decide (0 < (n : Int)) = true := by simp; omega
  go_enter Tryz.func72, Tryz.ntmps72
  go_wp2_with fail
  · exfalso; simp only [hby] at *; omega
  · go_ret
    refine ⟨_, rfl, ⟨by simp, .inr ⟨w.heap.size, _, _, rfl, Nat.le_refl _, heap_alloc_new _ _, Nat.zero_le _, grownCap_le_maxLen w n 0 _ (by unfold maxLen; omega), ?_, by simp⟩⟩, ?_⟩
    · have := grownCap_ge w n 0 5
      unfold grownCap at this
      simp [Builtin.zeroCells]
      omega
    · exact ((Below.refl _ w).alloc (Nat.le_refl _) _).drew

/-- Slices of bytes, and what they hold. -/
structure Sl where
  p : Option Addr
  n : Nat
  c : Nat
  xs : List Int
def Sl.v (s : Sl) : Value := .slice s.p s.n s.c
def Sl.Ok (s : Sl) (w : World) : Prop := s.xs.length = s.n ∧ Lib.BytesIn w s.p s.n s.xs ∧ (s.p = none → s.n = 0 ∧ s.c = 0)
def sumL (l : List Sl) : Nat := (l.map (·.n)).sum
def catL (l : List Sl) : List Int := (l.map (·.xs)).flatten
/-- A slice of slices. -/
def SlAt (w : World) (b : Nat) (l : List Sl) : Prop := ∀ i s, l[i]? = some s → w.cell? ⟨b, i, none⟩ = some s.v ∧ s.Ok w

theorem BytesIn.below {p : Option Addr} {n : Nat} {xs : List Int} {w w' : World} (h : Lib.BytesIn w p n xs) (hb : Below w.heap.size w w') : Lib.BytesIn w' p n xs := fun hn => by
  obtain ⟨b, o, hp, hc⟩ := h hn
  exact ⟨b, o, hp, fun i hi => cB hb (hc i hi)⟩
theorem Sl.Ok.below {s : Sl} {w w' : World} (h : s.Ok w) (hb : Below w.heap.size w w') : s.Ok w' := ⟨h.1, BytesIn.below h.2.1 hb, h.2.2⟩
/-- append of whatever bytes onto a row of the call's own. -/
theorem wpAppS {ops : Array Oper} {rest : List Oper} {o : Oper} {a : Act} {w : World} {Q : Exit → Act → World → Prop} (hgd : o.guard = none) (s x : Operand)
    (ho : o.op = .call { callee := .builtin .append, args := #[s, x], argTypes := #[23, 23] }) (base : Nat) (v : Value) (n : Nat) (xs : List Int) (hs : a.eval s = v) (hown : w.ownsRow base 5 1 v n (xs.map (Value.int .u8)))
    (p : Option Addr) (m c : Nat) (ys : List Int) (hx : a.eval x = .slice p m c) (hok : (Sl.mk p m c ys).Ok w) (hN : n + m ≤ 1000000) (hbase : base ≤ w.heap.size)
    (h : ∀ v' w', w'.ownsRow base 5 1 v' (n + m) ((xs ++ ys).map (Value.int .u8)) → w.grownBy w' v.ownBlock → wpList Tryz.prog ops Q rest (a.put o.dst v') w') : wpList Tryz.prog ops Q (o :: rest) a w := by
  obtain ⟨h1, h2, h3⟩ := hok
  cases p with
  | none =>
    obtain ⟨rfl, rfl⟩ : m = 0 ∧ c = 0 := h3 rfl
    obtain rfl : ys = [] := List.eq_nil_of_length_eq_zero h1
    obtain ⟨i0, hi, hz0, hz1, hz2⟩ := info_parts info5
    refine wpList_append_own_none hgd s x 23 ho base 5 i0 1 Tryz.underlying23 hi v n _ hs hown hx ?_
    exact h v w (by rw [List.append_nil]; exact hown) ⟨rfl, rfl, rfl, Nat.le_refl _, fun _ _ _ => rfl⟩
  | some ad =>
    refine wpApp hgd s x ho base v n xs hs hown ad m c ys hx h1 (fun i hi => ?_) hN hbase fun v' w' q1 q2 _ => h v' w' q1 q2
    obtain ⟨b, o', hp, hc⟩ := h2 (Nat.lt_of_le_of_lt (Nat.zero_le _) hi)
    obtain rfl : ad = ⟨b, o', none⟩ := Option.some.inj hp
    rw [Lib.add_plain]
    exact hc i hi

theorem catL_len (l : List Sl) (h : ∀ s ∈ l, s.xs.length = s.n) : (catL l).length = sumL l := by
  induction l with
  | nil => rfl
  | cons s l ih =>
    have h1 := ih fun x hx => h x (List.mem_cons_of_mem _ hx)
    have h2 := h s List.mem_cons_self
    simp only [catL, sumL, List.map_cons, List.flatten_cons, List.length_append, List.sum_cons] at h1 ⊢
    omega
theorem SlAt.len {w : World} {b : Nat} {l : List Sl} (h : SlAt w b l) : (catL l).length = sumL l := catL_len l fun s hs => by
  obtain ⟨i, hi⟩ := List.getElem?_of_mem hs
  exact (h i s hi).2.1

set_option maxHeartbeats 800000 in
set_option maxRecDepth 100000 in
theorem concatB (l : List Sl) (k : Nat) (hk : l.length = k) (hk1 : k ≤ 20) (h0 : 0 < sumL l) (hs : sumL l ≤ 10000) (b c : Nat) (w : World) (hb : SlAt w b l) : Calls Tryz.prog 45 #[.slice (some ⟨b, 0, none⟩) k c] w (NewBytes (catL l) w) := by
  have HB := Lib.hid (And.intro hb (And.intro hk hs))
  clear hb hk hs
  go_enter Tryz.func45, Tryz.ntmps45
  go_wp2_with fail
  go_loopg [3, 11] k (fun gk sv iv wr => ∃ (ds rs : List Sl), l = ds ++ rs ∧ gk = rs.length ∧ sv = .int .i64 (sumL ds : Int) ∧ iv = .int .i64 (ds.length : Int) ∧ w = wr)
  case atStart => exact ⟨[], l, rfl, HB.out.2.1.symm, rfl, rfl, rfl⟩
  case round =>
    obtain ⟨ds, rs, hds, rfl, rfl, rfl, rfl⟩ := hrel
    cases rs with
    | nil =>
      have hlt : ds.length = k := by rw [← HB.out.2.1, hds, List.append_nil]
      have hsd : sumL ds ≤ 10000 := by have := HB.out.2.2; rw [hds, List.append_nil] at this; exact this
      have HD := Lib.hid (And.intro hds hlt)
      have hl2 : decide (ds.length < k) = false := by rw [decide_eq_false_iff_not, hlt]; omega
      have hs0 : 0 < sumL ds := by rw [hds, List.append_nil] at h0; exact h0
      clear hds hlt h0
      go_wp2_with fail
      refine (growNil _ hs0 (by omega) w).mono ?_
      rintro e w1 ⟨v, rfl, hown, hB⟩
      have HO := Lib.hid (And.intro hown hB)
      clear hown hB hl2 hs0 hsd
      obtain ⟨N, hN⟩ : ∃ N : Int, N = (sumL ds : Int) := ⟨_, rfl⟩
      obtain ⟨M, hM⟩ : ∃ N : Nat, N = ds.length := ⟨_, rfl⟩
      rw [← hN, ← hM]
      clear hN hM HD ds
      go_wp2_with fail
      go_loopg [6, 27] k (fun gk sv iv wr => ∃ (ds rs : List Sl), l = ds ++ rs ∧ gk = rs.length ∧ iv = .int .i64 (ds.length : Int) ∧ Hid (wr.ownsRow w.heap.size 5 1 sv (sumL ds) ((catL ds).map (Value.int .u8)) ∧ Below w.heap.size w wr))
      case atStart => exact ⟨[], l, rfl, HB.out.2.1.symm, rfl, HO⟩
      case round =>
        obtain ⟨ds, rs, hds, rfl, rfl, hI⟩ := hrel
        cases rs with
        | nil =>
          have HD := Lib.hid hds
          have hlt : ds.length = k := by rw [← HB.out.2.1, hds, List.append_nil]
          have hl2 : decide (ds.length < k) = false := by rw [decide_eq_false_iff_not, hlt]; omega
          clear hds hlt
          go_wp2_with fail
          go_ret
          have hdl : l = ds := by rw [HD.out, List.append_nil]
          exact ⟨_, rfl, by have h := hI.out.1; rw [← hdl] at h; rw [HB.out.1.len]; exact h, hI.out.2⟩
        | cons r rs =>
          have hlt : ds.length < k := by rw [← HB.out.2.1, hds]; simp
          have hl2 : decide (ds.length < k) = true := by rw [decide_eq_true_iff]; omega
          obtain ⟨hc, hok⟩ := HB.out.1 ds.length r (by rw [hds]; simp)
          have hsum : sumL ds + r.n ≤ 10000 := by have := HB.out.2.2; rw [hds] at this; simp [sumL] at this; simp [sumL]; omega
          have hc2 : wr.cell? ⟨b, ds.length, none⟩ = some (.slice r.p r.n r.c) := cB hI.out.2 hc
          have HD := Lib.hid (And.intro hds hok)
          clear hds hok hc
          obtain ⟨p, n, c', xs⟩ := r
          replace hc : wr.cell? ⟨b, ds.length, none⟩ = some (.slice p n c') := hc2
          replace hsum : sumL ds + n ≤ 10000 := hsum
          clear hc2
          go_wp2_with (at_builtin; refine wpAppS rfl _ _ rfl w.heap.size _ _ (catL ds) rfl hI.out.1 p n c' xs rfl (HD.out.2.below hI.out.2) (by omega) hI.out.2.size ?_)
          intro v' w' hown' hgrow
          have HO' := Lib.hid (And.intro hown' (grown_below hI.out.2 hI.out.1 hgrow hI.out.2.size))
          clear hown' hgrow
          go_wp2_with fail
          go_roundg rs.length
          case measure => simp
          case rel => exact ⟨ds ++ [⟨p, n, c', xs⟩], rs, by rw [HD.out.1, List.append_assoc]; rfl, rfl, by simp, by show _ ∧ _; have h := HO'.out; simp only [sumL, catL, List.map_append, List.sum_append, List.flatten_append] at h ⊢; simpa using h⟩
    | cons r rs =>
      have hlt : ds.length < k := by rw [← HB.out.2.1, hds]; simp
      have hl2 : decide (ds.length < k) = true := by rw [decide_eq_true_iff]; omega
      obtain ⟨hc, hok⟩ := HB.out.1 ds.length r (by rw [hds]; simp)
      have hsum : sumL ds + r.n ≤ 10000 := by have := HB.out.2.2; rw [hds] at this; simp [sumL] at this; simp [sumL]; omega
      obtain ⟨p, n, c', xs⟩ := r
      replace hc : w.cell? ⟨b, ds.length, none⟩ = some (.slice p n c') := hc
      replace hsum : sumL ds + n ≤ 10000 := hsum
      have HD := Lib.hid hds
      clear hds hok
      go_wp2_with fail
      go_roundg rs.length
      case measure => simp
      case rel => exact ⟨ds ++ [⟨p, n, c', xs⟩], rs, by rw [HD.out, List.append_assoc]; rfl, rfl, by simp [sumL], by simp, rfl⟩
end Go.Proofs.YtapkmoakbfpkeaaGreatDoor
