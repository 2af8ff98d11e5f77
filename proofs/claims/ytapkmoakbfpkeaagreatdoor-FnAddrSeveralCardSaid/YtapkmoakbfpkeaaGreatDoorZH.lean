/- slices.Grow, slices.Concat at lists of peers. The closure by which addrMerged seeks a peer; slices.BinarySearchFunc by it (R2's texts at another closure). Plain laws: lists of peers that are merged. addrMerged. The law FnAddrSeveral. The law FnAddrSeveral: the walk. Arguments, opened: a list of bytes. -/
import Derived.Test.YtapkmoakbfpkeaaGreatDoorZD
import Derived.Test.YtapkmoakbfpkeaaGreatDoorZG
import Derived.Test.YtapkmoakbfpkeaaGreatDoorF0
import Derived.Deep.Slices
namespace Go.Proofs.YtapkmoakbfpkeaaGreatDoor
open Go Go.RowKit Go.Proofs Go.Sort
/-- A slice of two-cell elements, and its cells. -/
structure Seg2 where
  p : Option Addr
  n : Nat
  c : Nat
  us : List Value
def Seg2.v (s : Seg2) : Value := .slice s.p s.n s.c
def Seg2.Ok (s : Seg2) (w : World) : Prop := s.us.length = s.n * 2 ∧ (∀ j u, s.us[j]? = some u → ∃ b o, s.p = some ⟨b, o, none⟩ ∧ w.cell? ⟨b, o + j, none⟩ = some u) ∧ (s.p = none → s.n = 0 ∧ s.c = 0) ∧ ∀ u ∈ s.us, u.oneCell' = true
def sumH (l : List Seg2) : Nat := (l.map (·.n)).sum
def catH (l : List Seg2) : List Value := (l.map (·.us)).flatten
def Seg2At (w : World) (b : Nat) (l : List Seg2) : Prop := ∀ i s, l[i]? = some s → w.cell? ⟨b, i, none⟩ = some s.v ∧ s.Ok w
theorem Seg2.Ok.below {s : Seg2} {w w' : World} (h : s.Ok w) (hb : Below w.heap.size w w') : s.Ok w' := ⟨h.1, fun j u hj => by
  obtain ⟨b, o, hp, hc⟩ := h.2.1 j u hj
  exact ⟨b, o, hp, cB hb hc⟩, h.2.2⟩
/-- append of whatever slice onto a row of the call's own, two cells an element. -/
theorem wpAppG2 (S T : TypeId) (z : Value) (byt : Nat) (hS : Tryz.prog.underlying S = some (.slice T)) (hinf : (Tryz.prog.info? T).map (fun i => (i.zero, i.size, i.bytes)) = some (some z, 2, byt)) (hzs : z.cells.size = 2) (hby : byt ≤ 100)
    {ops : Array Oper} {rest : List Oper} {o : Oper} {a : Act} {w : World} {Q : Exit → Act → World → Prop} (hgd : o.guard = none) (s x : Operand)
    (ho : o.op = .call { callee := .builtin .append, args := #[s, x], argTypes := #[S, S] }) (base : Nat) (v : Value) (n : Nat) (us : List Value) (hs : a.eval s = v) (hown : w.ownsRow base T 2 v n us)
    (p : Option Addr) (m c : Nat) (ys : List Value) (hx : a.eval x = .slice p m c) (hok : (Seg2.mk p m c ys).Ok w) (hN : n + m ≤ 1000000) (hbase : base ≤ w.heap.size)
    (h : ∀ v' w', w'.ownsRow base T 2 v' (n + m) (us ++ ys) → w.grownBy w' v.ownBlock → wpList Tryz.prog ops Q rest (a.put o.dst v') w') : wpList Tryz.prog ops Q (o :: rest) a w := by
  obtain ⟨h1, h2, h3, h4⟩ := hok
  obtain ⟨i0, hi, hz0, hz1, hz2⟩ := info_parts hinf
  cases p with
  | none =>
    obtain ⟨rfl, rfl⟩ : m = 0 ∧ c = 0 := h3 rfl
    obtain rfl : ys = [] := List.eq_nil_of_length_eq_zero h1
    refine wpList_append_own_none hgd s x S ho base T i0 2 hS hi v n _ hs hown hx ?_
    exact h v w (by rw [List.append_nil]; exact hown) ⟨rfl, rfl, rfl, Nat.le_refl _, fun _ _ _ => rfl⟩
  | some ad =>
    refine wpList_append_own w hgd s x S ho base T i0 z 2 byt hS hi hz0 hz1 hz2 hzs (by decide) v n us hs hown ad m c ys hx h1 (fun j u hj => ?_) h4 (by unfold maxLen; omega) (Nat.le_trans (Nat.mul_le_mul_left _ hby) (by omega)) hbase fun v' w' q1 q2 _ => h v' w' q1 q2
    obtain ⟨b, o', hp, hc⟩ := h2 j u hj
    obtain rfl : ad = ⟨b, o', none⟩ := Option.some.inj hp
    rw [Lib.add_plain]
    exact hc

set_option maxRecDepth 100000 in
theorem growAI0 (w : World) : Calls Tryz.prog 98 #[.slice none 0 0, .int .i64 0] w fun e w' => e = .returned (.slice none 0 0) ∧ w' = w := by
  go_enter Tryz.func98, Tryz.ntmps98
  go_wp2_with fail
  go_ret
  exact ⟨rfl, rfl⟩
set_option maxRecDepth 100000 in
theorem growAI (n : Nat) (h0 : 0 < n) (hn : n ≤ 100000) (w : World) : Calls Tryz.prog 98 #[.slice none 0 0, .int .i64 (n : Int)] w fun e w' => ∃ v, e = .returned v ∧ w'.ownsRow w.heap.size 32 2 v 0 [] ∧ Below w.heap.size w w' := by
  have hmk : ∀ w, (Instr.makeSlice 44 (.int .i64 (n : Int)) (.int .i64 (n : Int))).run Tryz.prog w = .ok (.slice (some ⟨w.heap.size, 0, none⟩) n n) (w.alloc (.cells (madeCells #[.slice none 0 0, .slice none 0 0] (n * 2)) 32)) := fun w => by
    obtain ⟨i0, hi, hz0, hz1, hz2⟩ := info_parts infoAI
    have h := run_make (P := Tryz.prog) w 44 32 i0 _ Tryz.underlying44 hi hz0 .i64 .i64 (n : Int) (n : Int) (by omega) (Int.le_refl _) (by rw [hz2]; omega) (by omega)
    rw [hz1] at h
    exact h
  have hn2 : (n : Int) ≤ 100000 := by omega
  have hby : Tryz.t32.bytes = 48 := by kernel_rfl
  have f1 : ¬ (281474976710656 < (n : Int) * (Tryz.t32.bytes : Int)) := by rw [hby]; omega
  have f2 : ¬ (281474976710656 < Builtin.nextslicecap n 0 * Tryz.t32.bytes) := by rw [hby, nextslicecap_zero h0]; omega
  have f3 : ¬ (n = 0) := by omega
  have hn3 : decide (0 < (n : Int)) = true := by simp; omega
  go_enter Tryz.func98, Tryz.ntmps98
  go_wp2_with fail
  go_ret
  · refine ⟨_, rfl, ⟨by simp, .inr ⟨w.heap.size, _, _, rfl, Nat.le_refl _, heap_alloc_new _ _, Nat.zero_le _, grownCap_le_maxLen w n 0 _ (by unfold maxLen; omega), ?_, by simp⟩⟩, ?_⟩
    · have := grownCap_ge w n 0 32
      unfold grownCap at this
      simp [Builtin.zeroCells]
      omega
    · exact ((Below.refl _ w).alloc (Nat.le_refl _) _).drew
set_option maxHeartbeats 1600000 in
set_option maxRecDepth 100000 in
theorem concatAI (l : List Seg2) (k : Nat) (hk : l.length = k) (hk1 : k ≤ 20) (hs : sumH l ≤ 10000) (b c : Nat) (w : World) (hb : Seg2At w b l) : Calls Tryz.prog 67 #[.slice (some ⟨b, 0, none⟩) k c] w fun e w' => ∃ v, e = .returned v ∧ w'.ownsRow w.heap.size 32 2 v (sumH l) (catH l) ∧ Below w.heap.size w w' := by
  have HB := Lib.hid (And.intro hb (And.intro hk hs))
  clear hb hk hs
  go_enter Tryz.func67, Tryz.ntmps67
  go_wp2_with fail
  go_loopg [3, 11] k (fun gk sv iv wr => ∃ (ds rs : List Seg2), l = ds ++ rs ∧ gk = rs.length ∧ sv = .int .i64 (sumH ds : Int) ∧ iv = .int .i64 (ds.length : Int) ∧ w = wr)
  case atStart => exact ⟨[], l, rfl, HB.out.2.1.symm, rfl, rfl, rfl⟩
  case round =>
    obtain ⟨ds, rs, hds, rfl, rfl, rfl, rfl⟩ := hrel
    cases rs with
    | nil =>
      have hlt : ds.length = k := by rw [← HB.out.2.1, hds, List.append_nil]
      have hsd : sumH ds ≤ 10000 := by have := HB.out.2.2; rw [hds, List.append_nil] at this; exact this
      have hl2 : decide (ds.length < k) = false := by rw [decide_eq_false_iff_not, hlt]; omega
      have hg : Calls Tryz.prog 98 #[.slice none 0 0, .int .i64 (sumH ds : Int)] w fun e w' => ∃ v, e = .returned v ∧ w'.ownsRow w.heap.size 32 2 v 0 [] ∧ Below w.heap.size w w' := by
        by_cases h0 : sumH ds = 0
        · rw [h0]
          refine (growAI0 w).mono ?_
          rintro e w' ⟨rfl, rfl⟩
          exact ⟨_, rfl, World.ownsRow_nil _ _ _ _, Below.refl _ _⟩
        · exact growAI _ (by omega) (by omega) w
      have HG := Lib.hid hg
      clear hds hlt hg
      go_wp2_with fail
      refine HG.out.mono ?_
      rintro e w1 ⟨v, rfl, hown, hB⟩
      have HO := Lib.hid (And.intro hown hB)
      clear hown hB hl2 hsd HG
      obtain ⟨N, hN⟩ : ∃ N : Int, N = (sumH ds : Int) := ⟨_, rfl⟩
      obtain ⟨M, hM⟩ : ∃ N : Nat, N = ds.length := ⟨_, rfl⟩
      rw [← hN, ← hM]
      clear hN hM ds
      go_wp2_with fail
      go_loopg [6, 27] k (fun gk sv iv wr => ∃ (ds rs : List Seg2), l = ds ++ rs ∧ gk = rs.length ∧ iv = .int .i64 (ds.length : Int) ∧ Hid (wr.ownsRow w.heap.size 32 2 sv (sumH ds) (catH ds) ∧ Below w.heap.size w wr))
      case atStart => exact ⟨[], l, rfl, HB.out.2.1.symm, rfl, HO⟩
      case round =>
        obtain ⟨ds, rs, hds, rfl, rfl, hI⟩ := hrel
        cases rs with
        | nil =>
          have HD := Lib.hid hds
          have hlt : ds.length = k := by rw [← HB.out.2.1, hds, List.append_nil]
          have hl2 : decide (ds.length < k) = false := by rw [decide_eq_false_iff_not, hlt]; omega
          clear hds hlt
          go_wp2_with fail
          go_ret
          have hdl : l = ds := by rw [HD.out, List.append_nil]
          exact ⟨_, rfl, by have h := hI.out.1; rw [← hdl] at h; exact h, hI.out.2⟩
        | cons r rs =>
          have hlt : ds.length < k := by rw [← HB.out.2.1, hds]; simp
          have hl2 : decide (ds.length < k) = true := by rw [decide_eq_true_iff]; omega
          obtain ⟨hc, hok⟩ := HB.out.1 ds.length r (by rw [hds]; simp)
          have hsum : sumH ds + r.n ≤ 10000 := by have := HB.out.2.2; rw [hds] at this; simp [sumH] at this; simp [sumH]; omega
          have hc2 : wr.cell? ⟨b, ds.length, none⟩ = some (.slice r.p r.n r.c) := cB hI.out.2 hc
          have HD := Lib.hid (And.intro hds hok)
          clear hds hok hc
          obtain ⟨p, n, c', us⟩ := r
          replace hc : wr.cell? ⟨b, ds.length, none⟩ = some (.slice p n c') := hc2
          replace hsum : sumH ds + n ≤ 10000 := hsum
          clear hc2
          go_wp2_with (at_builtin; refine wpAppG2 44 32 _ 48 Tryz.underlying44 infoAI rfl (by decide) rfl _ _ rfl w.heap.size _ _ (catH ds) rfl hI.out.1 p n c' us rfl (HD.out.2.below hI.out.2) (by omega) hI.out.2.size ?_)
          intro v' w' hown' hgrow
          have HO' := Lib.hid (And.intro hown' (grown_below hI.out.2 hI.out.1 hgrow hI.out.2.size))
          clear hown' hgrow
          go_wp2_with fail
          go_roundg rs.length
          case measure => simp
          case rel => exact ⟨ds ++ [⟨p, n, c', us⟩], rs, by rw [HD.out.1, List.append_assoc]; rfl, rfl, by simp, by show _ ∧ _; have h := HO'.out; simp only [sumH, catH, List.map_append, List.sum_append, List.flatten_append] at h ⊢; simpa using h⟩
    | cons r rs =>
      have hlt : ds.length < k := by rw [← HB.out.2.1, hds]; simp
      have hl2 : decide (ds.length < k) = true := by rw [decide_eq_true_iff]; omega
      obtain ⟨hc, hok⟩ := HB.out.1 ds.length r (by rw [hds]; simp)
      have hsum : sumH ds + r.n ≤ 10000 := by have := HB.out.2.2; rw [hds] at this; simp [sumH] at this; simp [sumH]; omega
      obtain ⟨p, n, c', us⟩ := r
      replace hc : w.cell? ⟨b, ds.length, none⟩ = some (.slice p n c') := hc
      replace hsum : sumH ds + n ≤ 10000 := hsum
      have HD := Lib.hid hds
      clear hds hok
      go_wp2_with fail
      go_roundg rs.length
      case measure => simp
      case rel => exact ⟨ds ++ [⟨p, n, c', us⟩], rs, by rw [HD.out, List.append_assoc]; rfl, rfl, by simp [sumH], by simp, rfl⟩
end Go.Proofs.YtapkmoakbfpkeaaGreatDoor
namespace Go.Proofs.YtapkmoakbfpkeaaGreatDoor
open Go Go.RowKit Go.Proofs Go.Sort
set_option maxRecDepth 100000 in
theorem cmpPeerM (g1 o1 n1 c1 : Nat) (p2 : Option Addr) (n2 c2 g o m c : Nat) (xs ys : List Int) (W : World) (hn1 : xs.length = n1) (hm : ys.length = m) (hu : U8 xs) (hv : U8 ys) (h1 : Bs W g1 o1 xs) (h2 : Bs W g o ys) :
    Calls Tryz.prog 68 #[.agg #[.slice (some ⟨g1, o1, none⟩) n1 c1, .slice p2 n2 c2], .slice (some ⟨g, o, none⟩) m c] W fun e w' => e = .returned (.int .i64 (cmpL xs ys)) ∧ Below W.heap.size W w' := by
  have hB : Below W.heap.size W (W.alloc (.cells #[.slice (some ⟨g1, o1, none⟩) n1 c1, .slice p2 n2 c2] 32)) := (Below.refl _ _).alloc (Nat.le_refl _) _
  have hbc := bytesCompare g1 o1 n1 c1 g o m c xs ys _ hn1 hm hu hv (h1.below hB) (h2.below hB)
  have HC := Lib.hid (And.intro hbc hB)
  obtain ⟨r, hr⟩ : ∃ r, r = cmpL xs ys := ⟨_, rfl⟩
  rw [← hr] at HC ⊢
  clear hbc hB hn1 hm hu hv h1 h2 hr
  go_enter Tryz.func68, Tryz.ntmps68
  go_wp2_with (go_at_call 35; refine HC.out.1.mono ?_; rintro e w' ⟨rfl, rfl⟩)
  go_ret
  exact ⟨rfl, HC.out.2⟩
set_option maxHeartbeats 1600000 in
set_option maxRecDepth 100000 in
theorem seekPeerM (B : Nat) (p : Option Addr) (n c : Nat) (I : List (List Int × List Adr)) (hn : I.length = n) (hn1 : n ≤ 1000) (w : World) (hrow : RowQ 32 (PlainI B) w B (.slice p n c) I) (hs : I.Pairwise infoLt) (hU : ∀ x ∈ I, U8 x.1)
    (g o m c2 : Nat) (id : List Int) (hm : id.length = m) (hid : U8 id) (hb : Bs w g o id) :
    Calls Tryz.prog 59 #[.slice p n c, .slice (some ⟨g, o, none⟩) m c2, .func (.func 68) #[] #[]] w (SeekQ I id w) := by
  have HB := Lib.hid (And.intro hrow (And.intro hs (And.intro hU (And.intro hm (And.intro hid (And.intro hb hn))))))
  clear hrow hs hU hm hid hb hn
  go_enter Tryz.func59, Tryz.ntmps59
  go_wp2_with fail
  go_loopg [9, 10] n (fun gk iv jv wr => ∃ i j : Nat, i ≤ j ∧ j ≤ n ∧ gk = j - i ∧ iv = .int .i64 (i : Int) ∧ jv = .int .i64 (j : Int) ∧ Hid ((∀ (a : Nat) x, I[a]? = some x → a < i → cmpL x.1 id < 0) ∧ (∀ (a : Nat) x, I[a]? = some x → j ≤ a → 0 ≤ cmpL x.1 id) ∧ Below w.heap.size w wr))
  case atStart => exact ⟨0, n, Nat.zero_le _, Nat.le_refl _, rfl, rfl, rfl, fun a x _ h => absurd h (Nat.not_lt_zero _), fun a x hx h => absurd (List.getElem?_eq_some_iff.1 hx).1 (by rw [HB.out.2.2.2.2.2.2]; omega), Below.refl _ _⟩
  case round =>
    obtain ⟨i, j, hij, hjn, rfl, rfl, rfl, hI⟩ := hrel
    by_cases hlt : i < j
    · have hl2 : decide (i < j) = true := by rw [decide_eq_true_iff]; exact hlt
      obtain ⟨h, hh⟩ : ∃ h, h = (i + j) / 2 := ⟨_, rfl⟩
      have hmid : ((i : Int) + (j : Int)) / 2 = (h : Int) := by omega
      have hb1 : i ≤ h := by omega
      have hb2 : h < j := by omega
      clear hh
      obtain ⟨x, hx⟩ : ∃ x, I[h]? = some x := ⟨_, List.getElem?_eq_getElem (by rw [HB.out.2.2.2.2.2.2]; omega)⟩
      obtain ⟨gI, rfl⟩ : ∃ gI, p = some ⟨gI, 0, none⟩ := by
        rcases RowQ.form HB.out.1 with ⟨_, e⟩ | ⟨gI, c', e, _⟩
        · rw [e] at hx; simp at hx
        · injection e with e; exact ⟨gI, e⟩
      obtain ⟨⟨u1, u2⟩, ⟨hc0, hc1⟩, hpl⟩ := RowQ.at HB.out.1 h x hx
      obtain ⟨g1, c1, cs1, rfl, _, _, hbs⟩ : BV _ _ u1 x.1 := hpl.1
      obtain ⟨p2, c3, rfl, _⟩ := RowP.slice (show BRow _ _ u2 x.2 from hpl.2)
      replace hc0 := cB hI.out.2.2 hc0
      replace hc1 := cB hI.out.2.2 hc1
      obtain ⟨n1, hn1'⟩ : ∃ n, n = x.1.length := ⟨_, rfl⟩
      obtain ⟨n2, hn2'⟩ : ∃ n, n = x.2.length := ⟨_, rfl⟩
      rw [← hn1'] at hc0
      rw [← hn2'] at hc1
      have hcp := cmpPeerM g1 0 n1 c1 p2 n2 c3 g o m c2 x.1 id wr hn1'.symm HB.out.2.2.2.1 (HB.out.2.2.1 x (List.mem_of_getElem? hx)) HB.out.2.2.2.2.1 (hbs.below hI.out.2.2) (HB.out.2.2.2.2.2.1.below hI.out.2.2)
      obtain ⟨r, hr⟩ : ∃ r, r = cmpL x.1 id := ⟨_, rfl⟩
      rw [← hr] at hcp
      have HP := Lib.hid (And.intro hcp (And.intro hx hr))
      clear hcp hx hr hpl hbs hn1' hn2'
      by_cases hr : r < 0
      · have hr1 : decide (r < 0) = true := by rw [decide_eq_true_iff]; exact hr
        go_wp2_with (go_at_call 68; refine HP.out.1.mono ?_; rintro e w1 ⟨rfl, hB1⟩)
        go_roundg (j - (h + 1))
        case measure => omega
        case rel =>
          refine ⟨h + 1, j, by omega, hjn, rfl, by simp, rfl, fun a y hy ha => ?_, hI.out.2.1, hI.out.2.2.trans (hB1.mono hI.out.2.2.size)⟩
          exact (cmp_mono HB.out.2.1 hy HP.out.2.1 (by omega)).1 (by rw [← HP.out.2.2]; exact hr)
      · have hr1 : decide (r < 0) = false := by rw [decide_eq_false_iff_not]; exact hr
        go_wp2_with (go_at_call 68; refine HP.out.1.mono ?_; rintro e w1 ⟨rfl, hB1⟩)
        go_roundg (h - i)
        case measure => omega
        case rel =>
          refine ⟨i, h, hb1, by omega, rfl, rfl, rfl, hI.out.1, fun a y hy ha => ?_, hI.out.2.2.trans (hB1.mono hI.out.2.2.size)⟩
          exact (cmp_mono HB.out.2.1 HP.out.2.1 hy ha).2 (by rw [← HP.out.2.2]; omega)
    · have hl2 : decide (i < j) = false := by rw [decide_eq_false_iff_not]; exact hlt
      obtain rfl : i = j := by omega
      have hpos : Pos I id i := ⟨by rw [HB.out.2.2.2.2.2.2]; exact hjn, hI.out.1, hI.out.2.1⟩
      have HQ := Lib.hid hpos
      clear hpos
      by_cases hin : i < n
      · have hin1 : decide (i < n) = true := by rw [decide_eq_true_iff]; exact hin
        obtain ⟨x, hx⟩ : ∃ x, I[i]? = some x := ⟨_, List.getElem?_eq_getElem (by rw [HB.out.2.2.2.2.2.2]; omega)⟩
        obtain ⟨gI, rfl⟩ : ∃ gI, p = some ⟨gI, 0, none⟩ := by
          rcases RowQ.form HB.out.1 with ⟨_, e⟩ | ⟨gI, c', e, _⟩
          · rw [e] at hx; simp at hx
          · injection e with e; exact ⟨gI, e⟩
        obtain ⟨⟨u1, u2⟩, ⟨hc0, hc1⟩, hpl⟩ := RowQ.at HB.out.1 i x hx
        obtain ⟨g1, c1, cs1, rfl, _, _, hbs⟩ : BV _ _ u1 x.1 := hpl.1
        obtain ⟨p2, c3, rfl, _⟩ := RowP.slice (show BRow _ _ u2 x.2 from hpl.2)
        replace hc0 := cB hI.out.2.2 hc0
        replace hc1 := cB hI.out.2.2 hc1
        obtain ⟨n1, hn1'⟩ : ∃ n, n = x.1.length := ⟨_, rfl⟩
        obtain ⟨n2, hn2'⟩ : ∃ n, n = x.2.length := ⟨_, rfl⟩
        rw [← hn1'] at hc0
        rw [← hn2'] at hc1
        have hcp := cmpPeerM g1 0 n1 c1 p2 n2 c3 g o m c2 x.1 id wr hn1'.symm HB.out.2.2.2.1 (HB.out.2.2.1 x (List.mem_of_getElem? hx)) HB.out.2.2.2.2.1 (hbs.below hI.out.2.2) (HB.out.2.2.2.2.2.1.below hI.out.2.2)
        obtain ⟨r, hr⟩ : ∃ r, r = cmpL x.1 id := ⟨_, rfl⟩
        rw [← hr] at hcp
        have HP := Lib.hid (And.intro hcp (And.intro hx hr))
        clear hcp hx hr hpl hbs hn1' hn2'
        by_cases hr : r = 0
        · subst hr
          go_wp2_with (go_at_call 68; refine HP.out.1.mono ?_; rintro e w1 ⟨rfl, hB1⟩)
          go_ret2
          exact ⟨i, true, rfl, HQ.out, fun _ => ⟨x, HP.out.2.1, HP.out.2.2.symm⟩, fun h => (by cases h), hI.out.2.2.trans (hB1.mono hI.out.2.2.size)⟩
        · have hr1 : (r == 0) = false := by rw [beq_eq_false_iff_ne]; exact hr
          go_wp2_with (go_at_call 68; refine HP.out.1.mono ?_; rintro e w1 ⟨rfl, hB1⟩)
          go_ret2
          exact ⟨i, false, rfl, HQ.out, fun h => (by cases h), fun _ y hy => by
            rw [HP.out.2.1] at hy
            rw [← Option.some.inj hy, ← HP.out.2.2]
            exact hr, hI.out.2.2.trans (hB1.mono hI.out.2.2.size)⟩
      · have hin1 : decide (i < n) = false := by rw [decide_eq_false_iff_not]; exact hin
        go_wp2_with fail
        go_ret2
        exact ⟨i, false, rfl, HQ.out, fun h => (by cases h), fun _ y hy => absurd (List.getElem?_eq_some_iff.1 hy).1 (by rw [HB.out.2.2.2.2.2.2]; exact hin), hI.out.2.2⟩
end Go.Proofs.YtapkmoakbfpkeaaGreatDoor
namespace Go.Proofs.YtapkmoakbfpkeaaGreatDoor
open Go Go.RowKit Go.Proofs Go.Sort
def InfoOk (x : List Int × List Adr) : Prop := (ValOk 6 x.1 ∧ U8 x.1) ∧ ∀ t ∈ x.2, AdrOk t ∧ t.length ≤ 900
def wsum (I : List (List Int × List Adr)) : Nat := (I.map fun x => x.2.length).sum
theorem wsum_app (I J : List (List Int × List Adr)) : wsum (I ++ J) = wsum I + wsum J := by simp [wsum]
theorem wsum_cons (x : List Int × List Adr) (J : List (List Int × List Adr)) : wsum (x :: J) = x.2.length + wsum J := by simp [wsum]
theorem wsum_mem {I : List (List Int × List Adr)} {x : List Int × List Adr} (h : x ∈ I) : x.2.length ≤ wsum I := by
  obtain ⟨A, C, rfl⟩ := List.append_of_mem h
  rw [wsum_app, wsum_cons]; omega
/-- I is what the peers C are, merged. -/
structure Merged (C I : List (List Int × List Adr)) : Prop where
  sorted : I.Pairwise infoLt
  ok : ∀ x ∈ I, InfoOk x
  len : I.length ≤ C.length
  ways : wsum I = wsum C
theorem Merged.nil : Merged [] [] := ⟨List.Pairwise.nil, (fun x h => by cases h), Nat.le_refl _, rfl⟩
theorem sorted_miss {I : List (List Int × List Adr)} {id : List Int} {k : Nat} (hs : I.Pairwise infoLt) (hp : Pos I id k) (hx : ∀ x, I[k]? = some x → cmpL x.1 id ≠ 0) (ts : List Adr) : (I.take k ++ (id, ts) :: I.drop k).Pairwise infoLt := by
  have hC : ∀ c ∈ I.drop k, 0 < cmpL c.1 id := fun c hc => by
    have h0 := hp.drop c hc
    obtain ⟨i, hi⟩ := List.getElem?_of_mem hc
    rw [List.getElem?_drop] at hi
    cases i with
    | zero => have := hx c hi; omega
    | succ i =>
      have hl := (List.getElem?_eq_some_iff.1 hi).1
      have hk : I[k]? = some I[k] := List.getElem?_eq_getElem (by omega)
      have h1 := hp.2.2 k _ hk (Nat.le_refl _)
      have h2 := hx _ hk
      have h3 := (List.pairwise_iff_getElem.1 hs) k (k + (i + 1)) (by omega) hl (by omega)
      have h4 : I[k + (i + 1)] = c := (List.getElem?_eq_some_iff.1 hi).2
      rw [h4] at h3
      unfold infoLt at h3
      have s1 := cmpL_swap I[k].1 c.1
      have s2 := cmpL_swap c.1 id
      have s3 := cmpL_swap I[k].1 id
      by_cases e : cmpL c.1 id = 0
      · have e2 := cmpL_zero _ _ e
        rw [e2] at h3
        omega
      · omega
  have hp2 := hs
  rw [← List.take_append_drop k I, List.pairwise_append] at hp2
  refine List.pairwise_append.2 ⟨hp2.1, List.pairwise_cons.2 ⟨fun c hc => ?_, hp2.2.1⟩, fun a ha c hc => ?_⟩
  · show cmpL id c.1 < 0
    have := hC c hc
    have := cmpL_swap c.1 id
    omega
  · rcases List.mem_cons.1 hc with rfl | hc
    · exact hp.take a ha
    · exact hp2.2.2 a ha c hc
theorem sorted_hit {I : List (List Int × List Adr)} {id : List Int} {k : Nat} (hs : I.Pairwise infoLt) {ts : List Adr} (hx : I[k]? = some (id, ts)) (us : List Adr) : (I.take k ++ (id, us) :: I.drop (k + 1)).Pairwise infoLt := by
  have h1 : (I.map (·.1)).Pairwise (fun a b => cmpL a b < 0) := List.pairwise_map.2 hs
  have h2 : (I.take k ++ (id, us) :: I.drop (k + 1)).map (·.1) = I.map (·.1) := by
    conv => rhs; rw [cut_at hx]
    simp
  have h3 : ((I.take k ++ (id, us) :: I.drop (k + 1)).map (·.1)).Pairwise (fun a b => cmpL a b < 0) := by rw [h2]; exact h1
  exact (List.pairwise_map (f := fun x : List Int × List Adr => x.1) (R := fun a b => cmpL a b < 0)).1 h3
theorem Merged.miss {C I : List (List Int × List Adr)} (h : Merged C I) {x : List Int × List Adr} (hx : InfoOk x) {k : Nat} (hp : Pos I x.1 k) (hno : ∀ y, I[k]? = some y → cmpL y.1 x.1 ≠ 0) : Merged (C ++ [x]) (I.take k ++ x :: I.drop k) := by
  refine ⟨sorted_miss h.sorted hp hno x.2, fun y hy => ?_, ?_, ?_⟩
  · rcases List.mem_append.1 hy with hy | hy
    · exact h.ok y (List.mem_of_mem_take hy)
    · rcases List.mem_cons.1 hy with rfl | hy
      · exact hx
      · exact h.ok y (List.mem_of_mem_drop hy)
  · have := h.len
    have := hp.1
    simp
    omega
  · have h1 : wsum I = wsum (I.take k) + wsum (I.drop k) := by rw [← wsum_app, List.take_append_drop]
    rw [wsum_app, wsum_cons, wsum_app, ← h.ways, h1]
    simp [wsum]
    omega
theorem Merged.hit {C I : List (List Int × List Adr)} (h : Merged C I) {y : List Int × List Adr} (hy : InfoOk y) {k : Nat} {ts : List Adr} (hx : I[k]? = some (y.1, ts)) : Merged (C ++ [y]) (I.take k ++ (y.1, ts ++ y.2) :: I.drop (k + 1)) := by
  have hc := cut_at hx
  have hkl := (List.getElem?_eq_some_iff.1 hx).1
  refine ⟨sorted_hit h.sorted hx _, fun z hz => ?_, ?_, ?_⟩
  · rcases List.mem_append.1 hz with hz | hz
    · exact h.ok z (List.mem_of_mem_take hz)
    · rcases List.mem_cons.1 hz with rfl | hz
      · have h1 := h.ok _ (List.mem_of_getElem? hx)
        refine ⟨hy.1, fun t ht => ?_⟩
        rcases List.mem_append.1 ht with ht | ht
        · exact h1.2 t ht
        · exact hy.2 t ht
      · exact h.ok z (List.mem_of_mem_drop hz)
  · have := h.len
    simp
    omega
  · have h1 : wsum I = wsum (I.take k) + (ts.length + wsum (I.drop (k + 1))) := by
      conv => lhs; rw [hc]
      rw [wsum_app, wsum_cons]
    rw [wsum_app, wsum_cons, wsum_app, ← h.ways, h1]
    simp [wsum]
    omega
theorem told_ok {L : List Adr} {I : List (List Int × List Adr)} (hL : ∀ hs ∈ L, AdrOk hs) (hl : ∀ hs ∈ L, hs.length ≤ 900) (h6 : ∀ hs ∈ L, ends6 hs) (h : IsInfos L I) : ∀ x ∈ I, InfoOk x := fun x hx => by
  have hF := (h.2 x.1 x.2).1 hx
  obtain ⟨hs, h1, h2⟩ := Fof_mem (L := L) (id := x.1) (by rw [hF]; simp)
  obtain ⟨h0, hk, _⟩ := hL hs h1
  obtain ⟨init, y, rfl⟩ : ∃ init y, hs = init ++ [y] := by
    rcases List.eq_nil_or_concat hs with e | ⟨i, y, e⟩
    · exact absurd e h0
    · exact ⟨i, y, by simpa using e⟩
  rw [lastId_snoc] at h2
  have hy := hk y (by simp)
  have hy6 := (ends6_snoc init y).1 (h6 _ h1)
  have hv := hy.2.1
  rw [hy6, h2] at hv
  refine ⟨⟨hv, by rw [← h2]; exact hy.2.2⟩, fun t ht => ⟨adr_ways hL hF t ht, ?_⟩⟩
  obtain ⟨hs', h1', rfl, _⟩ := Fof_ways hF t ht
  have := hl hs' h1'
  simp
  omega
theorem ways_le (K : List Adr) : (K.flatMap wayOf).length ≤ K.length := by
  induction K with
  | nil => exact Nat.le_refl _
  | cons a K ih =>
    rw [List.flatMap_cons, List.length_append, List.length_cons]
    have : (wayOf a).length ≤ 1 := by unfold wayOf; split <;> simp
    omega
theorem filt_len {α : Type} (p : α → Bool) : ∀ l : List α, l.length = (l.filter p).length + (l.filter fun x => !p x).length
  | [] => rfl
  | a :: l => by
    have ih := filt_len p l
    cases h : p a <;> simp [h] <;> omega
theorem parts_le : ∀ (ids : List (List Int)) (L : List Adr), ids.Nodup → (ids.map fun id => (L.filter fun hs => lastId hs == id).length).sum ≤ L.length
  | [], _, _ => Nat.zero_le _
  | id :: ids, L, hnd => by
    have hn := List.nodup_cons.1 hnd
    have ih := parts_le ids (L.filter fun hs => !(lastId hs == id)) hn.2
    have he : (ids.map fun i => ((L.filter fun hs => !(lastId hs == id)).filter fun hs => lastId hs == i).length) = ids.map fun i => (L.filter fun hs => lastId hs == i).length := by
      refine List.map_congr_left fun i hi => ?_
      rw [List.filter_filter]
      congr 1
      refine List.filter_congr fun hs _ => ?_
      by_cases e : lastId hs = i
      · have : ¬ i = id := fun e2 => hn.1 (by rw [← e2]; exact hi)
        simp [e, this]
      · simp [e]
    rw [he] at ih
    rw [List.map_cons, List.sum_cons]
    have h2 : L.length = (L.filter fun hs => lastId hs == id).length + (L.filter fun hs => !(lastId hs == id)).length := filt_len _ L
    omega
theorem told_wsum {L : List Adr} {I : List (List Int × List Adr)} (h : IsInfos L I) : wsum I ≤ L.length := by
  have h1 := parts_le (I.map (·.1)) L (infos_nodup h.1)
  refine Nat.le_trans ?_ h1
  have h2 : ∀ (J : List (List Int × List Adr)), (∀ x ∈ J, x ∈ I) → wsum J ≤ ((J.map (·.1)).map fun id => (L.filter fun hs => lastId hs == id).length).sum := fun J => by
    induction J with
    | nil => intro _; exact Nat.le_refl _
    | cons x J ih =>
      intro hJ
      have ih' := ih fun y hy => hJ y (by simp [hy])
      rw [wsum_cons, List.map_cons, List.map_cons, List.sum_cons]
      have hF := (h.2 x.1 x.2).1 (hJ x (by simp))
      have hx : x.2.length ≤ (L.filter fun hs => lastId hs == x.1).length := by
        unfold Fof at hF
        split at hF
        · rw [← Option.some.inj hF]
          exact ways_le _
        · cases hF
      omega
  exact h2 I fun x hx => hx
theorem full_count (I : List (List Int × List Adr)) : (I.flatMap fullOf).length ≤ I.length + wsum I := by
  induction I with
  | nil => exact Nat.le_refl _
  | cons x I ih =>
    rw [List.flatMap_cons, List.length_append, List.length_cons, wsum_cons, full_len]
    omega
end Go.Proofs.YtapkmoakbfpkeaaGreatDoor
namespace Go.Proofs.YtapkmoakbfpkeaaGreatDoor
open Go Go.RowKit Go.Proofs Go.Sort
abbrev PRow (w : World) (B : Nat) (v : Value) (I : List (List Int × List Adr)) : Prop := RowQ 32 (PlainI 0) w B v I
theorem PRow.below {w w' : World} {B : Nat} {v : Value} {I : List (List Int × List Adr)} (h : PRow w B v I) (hb : Below w.heap.size w w') : PRow w' B v I := RowQ.below h hb fun _ _ hm => hm.below hb
theorem seg_ok {w : World} {B n c : Nat} {p : Option Addr} {I : List (List Int × List Adr)} (h : PRow w B (.slice p n c) I) (hn : I.length = n) :
    ∃ us : List (Value × Value), us.length = n ∧ (Seg2.mk p n c (pairCells us)).Ok w ∧ ∀ (i : Nat) u x, us[i]? = some u → I[i]? = some x → PlainI 0 w u x := by
  obtain ⟨us, hl, ho, hP⟩ := h
  rw [hn] at ho
  refine ⟨us, by omega, ⟨by rw [pairCells_len]; show us.length * 2 = n * 2; omega, fun j u hj => ?_, fun e => ?_, pairs_one hl hP⟩, hP⟩
  · rcases ho.2 with ⟨e, h0⟩ | ⟨g, cap, cur, e, _⟩
    · have h1 := (List.getElem?_eq_some_iff.1 hj).1
      rw [show (Seg2.mk p n c (pairCells us)).us = pairCells us from rfl, pairCells_len] at h1
      omega
    · injection e with e1 e2 e3
      subst e1 e3
      refine ⟨g, 0, rfl, ?_⟩
      rw [Nat.zero_add]
      have h1 := (List.getElem?_eq_some_iff.1 hj).1
      rw [show (Seg2.mk (some ⟨g, 0, none⟩) n c (pairCells us)).us = pairCells us from rfl, pairCells_len] at h1
      exact (ho.cellAt j (by omega)).trans hj
  · rcases ho.2 with ⟨e2, h0⟩ | ⟨g, cap, cur, e2, _⟩
    · injection e2 with _ _ e3
      exact ⟨h0, e3⟩
    · injection e2 with e1
      rw [e1] at e
      cases e
theorem PRow.cat {w w' : World} {B : Nat} {v : Value} {I J : List (List Int × List Adr)} {us vs : List (Value × Value)} (hus : us.length = I.length) (hvs : vs.length = J.length) (hP : ∀ (i : Nat) u x, us[i]? = some u → I[i]? = some x → PlainI 0 w u x) (hQ : ∀ (i : Nat) u x, vs[i]? = some u → J[i]? = some x → PlainI 0 w u x)
    (hk : ∀ u x, PlainI 0 w u x → PlainI 0 w' u x) (ho : w'.ownsRow B 32 2 v (I.length + J.length) (pairCells us ++ pairCells vs)) : PRow w' B v (I ++ J) := by
  refine ⟨us ++ vs, by simp [hus, hvs], by rw [pairCells_app, List.length_append]; exact ho, fun i u x h1 h2 => ?_⟩
  by_cases hi : i < us.length
  · rw [List.getElem?_append_left hi] at h1
    rw [List.getElem?_append_left (by omega)] at h2
    exact hk _ _ (hP i u x h1 h2)
  · rw [List.getElem?_append_right (by omega)] at h1 h2
    rw [← hus] at h2
    exact hk _ _ (hQ _ u x h1 h2)
theorem PRow.ins {w w' : World} {B k : Nat} {v' : Value} {us : List (Value × Value)} {I : List (List Int × List Adr)} {u : Value × Value} {x : List Int × List Adr} (hul : us.length = I.length) (hP : ∀ (i : Nat) u x, us[i]? = some u → I[i]? = some x → PlainI 0 w u x) (hk : k ≤ I.length)
    (ho : w'.ownsRow B 32 2 v' (I.length + 1) (pairCells (us.take k ++ u :: us.drop k))) (hK : Kept 32 w w') (hu : PlainI 0 w u x) : PRow w' B v' (I.take k ++ x :: I.drop k) := by
  refine ⟨us.take k ++ u :: us.drop k, by simp; omega, ?_, ?_⟩
  · rw [show (I.take k ++ x :: I.drop k).length = I.length + 1 by simp; omega]; exact ho
  · refine ins_at (fun i a b h1 h2 => ?_) (hu.kept hK (by decide) (by decide)) (us.take k) (I.take k) (by simp; omega) (fun i a b h1 h2 => ?_)
    · rw [List.getElem?_drop] at h1 h2
      exact (hP _ a b h1 h2).kept hK (by decide) (by decide)
    · have hi : i < k := by have := (List.getElem?_eq_some_iff.1 h1).1; rw [List.length_take] at this; omega
      rw [List.getElem?_take_of_lt hi] at h1 h2
      exact (hP _ a b h1 h2).kept hK (by decide) (by decide)
theorem PRow.hit {w : World} {B g n c k : Nat} {us : List (Value × Value)} {I : List (List Int × List Adr)} {u1 u2 v7 : Value} {id : List Int} {ts ts7 : List Adr} (hul : us.length = I.length) (hIn : I.length = n) (hP : ∀ (i : Nat) u x, us[i]? = some u → I[i]? = some x → PlainI 0 w u x)
    (ho : w.ownsRow B 32 2 (.slice (some ⟨g, 0, none⟩) n c) n (pairCells us)) (hu : us[k]? = some (u1, u2)) (hx : I[k]? = some (id, ts)) (h7 : BRow w 0 v7 ts7) : PRow (w.setCell ⟨g, k * 2 + 1, none⟩ v7) B (.slice (some ⟨g, 0, none⟩) n c) (I.take k ++ (id, ts7) :: I.drop (k + 1)) := by
  have hcu := cut_at hu
  have hkl := (List.getElem?_eq_some_iff.1 hu).1
  have hAl : (us.take k).length = k := by simp; omega
  have ho2 := ho
  rw [hcu] at ho2
  have h3 := setRow (A := us.take k) (C := us.drop (k + 1)) ho2 v7
  rw [hAl] at h3
  obtain ⟨cur, hg⟩ : ∃ cur, w.heap[g]? = some (.cells cur 32 (0, 0)) := by
    rcases ho.2 with ⟨e, _⟩ | ⟨g', cap, cur, e, _, hh, _⟩
    · cases e
    · injection e with e1
      injection e1 with e1
      injection e1 with e1
      subst e1
      exact ⟨cur, hh⟩
  have hK : Kept 32 w (w.setCell ⟨g, k * 2 + 1, none⟩ v7) := Kept.setCell (p := ⟨g, k * 2 + 1, none⟩) hg _
  refine ⟨us.take k ++ (u1, v7) :: us.drop (k + 1), by simp; omega, ?_, ?_⟩
  · rw [show (I.take k ++ (id, ts7) :: I.drop (k + 1)).length = n by simp; omega]; exact h3
  · refine ins_at (fun i a b h1 h2 => ?_) ⟨hK.bv (by decide) (hP k _ _ hu hx).1, h7.kept hK (by decide) (by decide)⟩ (us.take k) (I.take k) (by simp; omega) (fun i a b h1 h2 => ?_)
    · rw [List.getElem?_drop] at h1 h2
      exact (hP _ a b h1 h2).kept hK (by decide) (by decide)
    · have hi : i < k := by have := (List.getElem?_eq_some_iff.1 h1).1; rw [List.length_take] at this; omega
      rw [List.getElem?_take_of_lt hi] at h1 h2
      exact (hP _ a b h1 h2).kept hK (by decide) (by decide)
theorem joinBB (n m c d : Nat) (p q : Option Addr) (ts ys : List Adr) (w : World) (h : BRow w 0 (.slice p n c) ts) (k : BRow w 0 (.slice q m d) ys) (hn : n + m ≤ 2000) (g c' : Nat) (h0 : w.cell? ⟨g, 0, none⟩ = some (.slice p n c)) (h1 : w.cell? ⟨g, 1, none⟩ = some (.slice q m d)) :
    Calls Tryz.prog 27 #[.slice (some ⟨g, 0, none⟩) 2 c'] w fun e w' => ∃ v, e = .returned v ∧ BRow w' 0 v (ts ++ ys) ∧ Below w.heap.size w w' := by
  obtain ⟨us, hok, hul, hP⟩ := segB h
  obtain ⟨vs, hok2, hvl, hQ⟩ := segB k
  have hun : us.length = n := hok.1
  have hvn : vs.length = m := hok2.1
  refine (concatBB [⟨p, n, c, us⟩, ⟨q, m, d, vs⟩] 2 rfl (by decide) (by simp [sumG]; omega) g c' w fun i s hi => ?_).mono ?_
  · match i, hi with
    | 0, hi => obtain rfl : (⟨p, n, c, us⟩ : Seg) = s := by simpa using hi
               exact ⟨h0, hok⟩
    | 1, hi => obtain rfl : (⟨q, m, d, vs⟩ : Seg) = s := by simpa using hi
               exact ⟨h1, hok2⟩
  · rintro e w' ⟨v, rfl, hown, hB⟩
    have e1 : sumG [⟨p, n, c, us⟩, ⟨q, m, d, vs⟩] = (ts ++ ys).length := by simp [sumG]; omega
    have e2 : catG [⟨p, n, c, us⟩, ⟨q, m, d, vs⟩] = us ++ vs := by simp [catG]
    rw [e1, e2] at hown
    refine ⟨v, rfl, ⟨us ++ vs, by simp; omega, ⟨hown.1, ?_⟩, fun i u x a1 a2 => ?_⟩, hB⟩
    · rcases hown.2 with h | ⟨g, cap, cur, hv, hg, r⟩
      · exact .inl h
      · exact .inr ⟨g, cap, cur, hv, Nat.zero_le _, r⟩
    · by_cases hi : i < us.length
      · rw [List.getElem?_append_left hi] at a1
        rw [List.getElem?_append_left (by omega)] at a2
        exact (hP i u x a1 a2).below hB
      · rw [List.getElem?_append_right (by omega)] at a1 a2
        rw [← hul] at a2
        exact (hQ _ u x a1 a2).below hB
/-- What addrMerged hands back. -/
def MQ (C : List (List Int × List Adr)) (w : World) (e : Ending) (w' : World) : Prop := ∃ p n c I, I.length = n ∧ e = .returned (.slice p n c) ∧ PRow w' w.heap.size (.slice p n c) I ∧ Merged C I ∧ Below w.heap.size w w'
set_option maxHeartbeats 4000000 in
set_option maxRecDepth 100000 in
theorem merged (I0 J0 : List (List Int × List Adr)) (pa pb : Option Addr) (na nb ca cb : Nat) (hna : I0.length = na) (hnb : J0.length = nb) (h200 : na + nb ≤ 200) (hsum : wsum (I0 ++ J0) ≤ 1000) (hok : ∀ x ∈ I0 ++ J0, InfoOk x) (w : World)
    (ha : PRow w 0 (.slice pa na ca) I0) (hb : PRow w 0 (.slice pb nb cb) J0) :
    Calls Tryz.prog 38 #[.slice pa na ca, .slice pb nb cb] w (MQ (I0 ++ J0) w) := by
  obtain ⟨usa, hla, hoa, hPa⟩ := seg_ok ha hna
  obtain ⟨usb, hlb, hob, hPb⟩ := seg_ok hb hnb
  have hb1 : Below w.heap.size w (w.alloc (.cells #[.slice pa na ca, .slice pb nb cb] 44)) := (Below.refl _ _).alloc (Nat.le_refl _) _
  have hcat := concatAI [⟨pa, na, ca, pairCells usa⟩, ⟨pb, nb, cb, pairCells usb⟩] 2 rfl (by omega) (by simp [sumH]; omega) w.heap.size 2 _ (fun i s hi => by
    match i, hi with
    | 0, hi => obtain rfl := Option.some.inj hi; exact ⟨World.cell?_alloc_mark w _ _ _ 0, hoa.below hb1⟩
    | 1, hi => obtain rfl := Option.some.inj hi; exact ⟨World.cell?_alloc_mark w _ _ _ 1, hob.below hb1⟩)
  have HB := Lib.hid (And.intro hcat (And.intro hb1 (And.intro hok (And.intro hsum (And.intro hPa (And.intro hPb (And.intro (hla.trans hna.symm) (hlb.trans hnb.symm))))))))
  have HL := Lib.hid (And.intro hna hnb)
  clear hcat hb1 hok hsum hPa hPb hla hlb hoa hob ha hb hna hnb
  go_enter Tryz.func38, Tryz.ntmps38
  go_wp2_with fail
  refine HB.out.1.mono ?_
  rintro e w2 ⟨v, rfl, hown, hB2⟩
  have hw2 := HB.out.2.1.trans (hB2.mono HB.out.2.1.size)
  have hrow : PRow w2 w.heap.size v (I0 ++ J0) := PRow.cat (w := w) HB.out.2.2.2.2.2.2.1 HB.out.2.2.2.2.2.2.2 HB.out.2.2.2.2.1 HB.out.2.2.2.2.2.1 (fun u x h => h.below hw2) (by
    have h1 : w2.ownsRow (w.alloc (.cells #[.slice pa na ca, .slice pb nb cb] 44)).heap.size 32 2 v (na + nb) (pairCells usa ++ pairCells usb) := by simpa [sumH, catH] using hown
    rw [HL.out.1, HL.out.2]
    refine ⟨h1.1, ?_⟩
    rcases h1.2 with h | ⟨g, cap, cur, hv, hg, r⟩
    · exact .inl h
    · exact .inr ⟨g, cap, cur, hv, by simp at hg; omega, r⟩)
  obtain ⟨C, hC⟩ : ∃ C, C = I0 ++ J0 := ⟨_, rfl⟩
  obtain ⟨pc, cc, rfl, _⟩ := RowQ.slice hrow
  rw [← hC] at hrow ⊢
  obtain ⟨N, hN⟩ : ∃ N, N = C.length := ⟨_, rfl⟩
  have hN2 : N ≤ 200 := by rw [hN, hC, List.length_append, HL.out.1, HL.out.2]; exact h200
  have hok := HB.out.2.2.1
  have hsum := HB.out.2.2.2.1
  rw [← hC] at hok hsum
  rw [← hN] at hrow ⊢
  have H2 := Lib.hid (And.intro hrow (And.intro hw2 (And.intro hok (And.intro hsum (And.intro hN hC)))))
  clear hown hrow hw2 hok hsum hN hC hB2 h200
  go_wp2_with fail
  go_loopg [5, 15] N (fun gk sv iv wr => ∃ (ds rs : List (List Int × List Adr)) (p2 : Option Addr) (n2 c2 : Nat) (I : List (List Int × List Adr)), C = ds ++ rs ∧ gk = rs.length ∧ sv = .slice p2 n2 c2 ∧ iv = .int .i64 (ds.length : Int) ∧ I.length = n2 ∧ Hid (PRow wr w2.heap.size (.slice p2 n2 c2) I ∧ Merged ds I ∧ Below w2.heap.size w2 wr))
  case atStart => exact ⟨[], C, none, 0, 0, [], rfl, H2.out.2.2.2.2.1, rfl, rfl, rfl, RowQ.nil _ _ _ _, Merged.nil, Below.refl _ _⟩
  case round =>
    obtain ⟨ds, rs, p2, n2, c2, I, hds, rfl, rfl, rfl, hIn, hI⟩ := hrel
    cases rs with
    | nil =>
      have hlt : ds.length = N := by rw [H2.out.2.2.2.2.1, hds, List.append_nil]
      have hl2 : decide (ds.length < N) = false := by rw [decide_eq_false_iff_not, hlt]; omega
      have HD := Lib.hid (And.intro (show C = ds by rw [hds, List.append_nil]) hIn)
      clear hds hlt hIn
      go_wp2_with fail
      go_ret
      obtain ⟨a1, a2, a4⟩ := hI.out
      have hw2 := H2.out.2.1
      refine ⟨p2, n2, c2, I, HD.out.2, rfl, RowQ.mono a1 hw2.size (fun _ _ h => h), ?_, hw2.trans (a4.mono hw2.size)⟩
      rw [← H2.out.2.2.2.2.2, HD.out.1]
      exact a2
    | cons r rs =>
      have hlt : ds.length < N := by rw [H2.out.2.2.2.2.1, hds]; simp
      have hl2 : decide (ds.length < N) = true := by rw [decide_eq_true_iff]; omega
      obtain ⟨g, rfl⟩ : ∃ g, pc = some ⟨g, 0, none⟩ := by
        rcases RowQ.form H2.out.1 with ⟨_, e⟩ | ⟨g, c', e, _⟩
        · rw [hds] at e; simp at e
        · injection e with e; exact ⟨g, e⟩
      have hokr := H2.out.2.2.1 r (by rw [hds]; simp)
      obtain ⟨⟨a1, a2⟩, ⟨hc0, hc1⟩, hpl⟩ := RowQ.at H2.out.1 ds.length r (by rw [hds]; simp)
      replace hpl : PlainI 0 w2 (a1, a2) r := hpl
      replace hc0 := cB hI.out.2.2 hc0
      replace hc1 := cB hI.out.2.2 hc1
      obtain ⟨id, ts⟩ := r
      obtain ⟨g1, c1, cs1, rfl, _, _, hbs⟩ : BV _ _ a1 id := hpl.1
      obtain ⟨p3, c3, rfl, _⟩ := RowP.slice (show BRow _ _ a2 ts from hpl.2)
      obtain ⟨M, hM⟩ : ∃ M, M = id.length := ⟨_, rfl⟩
      obtain ⟨K, hK⟩ : ∃ K, K = ts.length := ⟨_, rfl⟩
      rw [← hM, ← hK] at hpl
      rw [← hM] at hc0
      rw [← hK] at hc1
      obtain ⟨W3, hW3⟩ : ∃ W, W = wr.alloc (.cells #[.slice (some ⟨g1, 0, none⟩) M c1, .slice p3 K c3] 32) := ⟨_, rfl⟩
      have hb3 : Below wr.heap.size wr W3 := by rw [hW3]; exact (Below.refl _ _).alloc (Nat.le_refl _) _
      have hX : W3.heap[wr.heap.size]? = some (.cells #[.slice (some ⟨g1, 0, none⟩) M c1, .slice p3 K c3] 32 (0, 0)) := by rw [hW3]; exact heap_alloc_new _ _
      obtain ⟨⟨x0, x1⟩, _, _⟩ := two_cells hX
      have hnds : n2 ≤ 200 := by have := hI.out.2.1.len; omega
      have hsk := seekPeerM 0 p2 n2 c2 I hIn (by omega) W3 (RowQ.mono (PRow.below hI.out.1 hb3) (Nat.zero_le _) (fun _ _ h => h)) hI.out.2.1.sorted (fun x hx => (hI.out.2.1.ok x hx).1.2) g1 0 M c1 id hM.symm hokr.1.2 ((hbs.below hI.out.2.2).below hb3)
      have hw3 := hI.out.2.2.trans (hb3.mono hI.out.2.2.size)
      have hpl3 := (hpl.below hI.out.2.2).below hb3
      have HD := Lib.hid (And.intro hds (And.intro hokr (And.intro hsk (And.intro hX (And.intro hb3 (And.intro hw3 (And.intro hpl3 (And.intro hM (And.intro hK hIn)))))))))
      clear hds hokr hsk hX hb3 hw3 hpl3 hpl hbs hM hK hIn
      go_upto_region 5 with fail
      rw [← hW3]
      obtain ⟨X, hXe⟩ : ∃ X, X = wr.heap.size := ⟨_, rfl⟩
      rw [← hXe] at x0 x1 HD ⊢
      have HXe := Lib.hid hXe
      clear hW3 hXe
      go_wp2_with fail
      refine HD.out.2.2.1.mono ?_
      rintro e w4 ⟨kk, is, rfl, hpos, hyes, hno, hB4⟩
      obtain ⟨hds, hokr, _, hX, hb3, hw3, hpl3, hM, hK, hIn⟩ := HD.out
      rw [HXe.out] at hb3
      have y0 := cB hB4 x0
      have y1 := cB hB4 x1
      have hb34 := hb3.trans (hB4.mono hb3.size)
      have hw4 := hw3.trans (hB4.mono hw3.size)
      have hpl4 := hpl3.below hB4
      have hkn : kk ≤ n2 := by rw [← hIn]; exact hpos.1
      cases is with
      | false =>
        have H4 := Lib.hid (And.intro hpos (And.intro (hno rfl) (And.intro hb34 (And.intro hw4 hpl4))))
        clear hpos hyes hno hb34 hw4 hpl4 x0 x1 hds hokr hX hb3 hw3 hpl3 hM hK hIn
        go_wp2_with fail
        obtain ⟨W5, hW5⟩ : ∃ W, W = w4.alloc (.cells #[.slice (some ⟨g1, 0, none⟩) M c1, .slice p3 K c3] 32) := ⟨_, rfl⟩
        have hb5 : Below w4.heap.size w4 W5 := by rw [hW5]; exact (Below.refl _ _).alloc (Nat.le_refl _) _
        have hgv : W5.heap[w4.heap.size]? = some (.cells #[.slice (some ⟨g1, 0, none⟩) M c1, .slice p3 K c3] 32 (0, 0)) := by rw [hW5]; exact heap_alloc_new _ _
        rw [← hW5]
        clear hW5
        obtain ⟨us, hul, huo, huP⟩ := hI.out.1
        have hIn := HD.out.2.2.2.2.2.2.2.2.2
        have hb35 := H4.out.2.2.1.trans (hb5.mono H4.out.2.2.1.size)
        have hw5 := H4.out.2.2.2.1.trans (hb5.mono H4.out.2.2.2.1.size)
        have huo5 : W5.ownsRow w2.heap.size 32 2 (.slice p2 n2 c2) n2 (pairCells us) := by
          have h := ownsRow_below huo hb35
          rwa [hIn] at h
        have hne : (Value.slice p2 n2 c2).ownBlock ≠ some w4.heap.size := fun e => by
          have h1 := (huo.lt _ e).2
          have h2 := H4.out.2.2.1.size
          omega
        refine (insAny w2.heap.size p2 n2 c2 kk us W5 huo5 (pairs_one hul huP) hkn (by omega) hw5.size w4.heap.size (.slice (some ⟨g1, 0, none⟩) M c1, .slice p3 K c3) hgv hne rfl rfl).mono ?_
        rintro e w6 ⟨v6, rfl, ho6, hg6⟩
        obtain ⟨p6, c6, rfl⟩ : ∃ p c, v6 = .slice p (n2 + 1) c := by
          rcases ho6.2 with ⟨_, h0⟩ | ⟨g5, c5, _, e, _⟩
          · omega
          · exact ⟨_, c5, e⟩
        have H6 := Lib.hid (And.intro ho6 (And.intro hg6 (And.intro huo5 (And.intro hb35 (And.intro hw5 (And.intro hb5 (And.intro hul huP)))))))
        clear ho6 hg6 huo5 hb35 hw5 hb5 hgv hne hul huo huP hIn
        go_wp2_with fail
        go_roundg rs.length
        case measure => simp
        case rel =>
          obtain ⟨ho6, hg6, huo5, hb35, hw5, hb5, hul, huP⟩ := H6.out
          obtain ⟨hpos, hno, _, _, hpl4⟩ := H4.out
          obtain ⟨hds, hokr, _, _, _, _, _, hM, hK, hIn⟩ := HD.out
          refine ⟨ds ++ [(id, ts)], rs, p6, n2 + 1, c6, I.take kk ++ (id, ts) :: I.drop kk, by rw [hds, List.append_assoc]; rfl, rfl, rfl, by simp, by rw [← hIn]; simp; omega, ?_⟩
          refine ⟨?_, hI.out.2.1.miss hokr hpos hno, grown_below hw5 huo5 hg6 hw5.size⟩
          exact PRow.ins (w := W5) (us := us) hul (fun i u x e1 e2 => (huP i u x e1 e2).below hb35) (by omega) (by rw [hIn]; exact ho6) (Kept.row huo5 hg6) (hpl4.below hb5)
      | true =>
        obtain ⟨x, hx, hx0⟩ := hyes rfl
        obtain ⟨idx, tsx⟩ := x
        obtain rfl : idx = id := cmpL_zero _ _ hx0
        have hkn1 : kk < n2 := by rw [← hIn]; exact (List.getElem?_eq_some_iff.1 hx).1
        obtain ⟨gI, rfl⟩ : ∃ gI, p2 = some ⟨gI, 0, none⟩ := by
          rcases RowQ.form hI.out.1 with ⟨_, e⟩ | ⟨gI, c', e, _⟩
          · rw [e] at hx; simp at hx
          · injection e with e; exact ⟨gI, e⟩
        obtain ⟨us, hul, huo, huP⟩ := hI.out.1
        have huo4 : w4.ownsRow w2.heap.size 32 2 (.slice (some ⟨gI, 0, none⟩) n2 c2) n2 (pairCells us) := by
          have h := ownsRow_below huo hb34
          rwa [hIn] at h
        obtain ⟨⟨u1, u2⟩, hu⟩ : ∃ u, us[kk]? = some u := ⟨_, List.getElem?_eq_getElem (by rw [hul, hIn]; exact hkn1)⟩
        have hpu : PlainI 0 w4 (u1, u2) (idx, tsx) := (huP kk _ _ hu hx).below hb34
        obtain ⟨hcc0, hcc1⟩ := pairCells_at us kk _ hu
        have z1 : w4.cell? ⟨gI, kk * 2 + 1, none⟩ = some u2 := (huo4.cellAt (kk * 2 + 1) (by omega)).trans hcc1
        obtain ⟨p7, c7, rfl⟩ : ∃ p c, u2 = .slice p tsx.length c := by
          obtain ⟨p, c, e, _⟩ := RowP.slice hpu.2
          exact ⟨p, c, e⟩
        obtain ⟨n7, hn7⟩ : ∃ n, n = tsx.length := ⟨_, rfl⟩
        have hK2 : n7 ≤ 1000 ∧ K ≤ 1000 := by
          have w1 := wsum_mem (List.mem_of_getElem? hx)
          have w2' := hI.out.2.1.ways
          have w3 : wsum C = wsum ds + (ts.length + wsum rs) := by rw [hds, wsum_app, wsum_cons]
          have w4 := H2.out.2.2.2.1
          have w5 : tsx.length ≤ wsum I := w1
          omega
        have hjoin : ∀ wz, Below w4.heap.size w4 wz → Calls Tryz.prog 27 #[.slice (some ⟨wz.heap.size, 0, none⟩) 2 2] (wz.alloc (.cells #[.slice p7 n7 c7, .slice p3 K c3] 30)) fun e w' => ∃ v, e = .returned v ∧ BRow w' 0 v (tsx ++ ts) ∧ Below w4.heap.size w4 w' := fun wz hz => by
          have hb := (Below.refl wz.heap.size wz).alloc (Nat.le_refl _) (.cells #[.slice p7 n7 c7, .slice p3 K c3] 30)
          have h := joinBB n7 K c7 c3 p7 p3 tsx ts (wz.alloc (.cells #[.slice p7 n7 c7, .slice p3 K c3] 30)) (((by rw [hn7]; exact hpu.2 : BRow w4 0 (.slice p7 n7 c7) tsx).below hz).below hb) ((BRow.below (show BRow w4 0 (.slice p3 K c3) ts from hpl4.2) hz).below hb) (by omega) wz.heap.size 2 (World.cell?_alloc_mark wz _ _ _ 0) (World.cell?_alloc_mark wz _ _ _ 1)
          exact h.mono fun e w' ⟨v, e1, e2, e3⟩ => ⟨v, e1, e2, (hz.trans (hb.mono hz.size)).trans (e3.mono (hz.trans (hb.mono hz.size)).size)⟩
        have hgI : ∃ cur, w4.heap[gI]? = some (.cells cur 32 (0, 0)) := by
          rcases huo4.2 with ⟨e, _⟩ | ⟨g, cap, cur, e, _, hh, _⟩
          · cases e
          · injection e with e1
            injection e1 with e1
            injection e1 with e1
            subst e1
            exact ⟨cur, hh⟩
        have hgB : w2.heap.size ≤ gI := by
          rcases huo4.2 with ⟨e, _⟩ | ⟨g, cap, cur, e, h, _⟩
          · cases e
          · injection e with e1
            injection e1 with e1
            injection e1 with e1
            rw [e1]; exact h
        rw [← hn7] at z1
        have H4 := Lib.hid (And.intro hjoin (And.intro hgI (And.intro huo4 (And.intro hul (And.intro huP (And.intro hu (And.intro hx (And.intro hb34 (And.intro hw4 (And.intro hgB hn7))))))))))
        clear hjoin hgI huo4 hul huP hu hx hb34 hw4 hgB hn7 hpos hyes hno hpl4 x0 x1 hds hokr hX hb3 hw3 hpl3 hM hK hIn hpu hcc0 hcc1 hx0 huo
        go_upto_region 7 with fail
        go_region_law (try go_simp; go_at_call 27; (first | refine (H4.out.1 w4.drew (Below.refl _ _).drew).mono ?_ | refine (H4.out.1 w4 (Below.refl _ _)).mono ?_); rintro e w6 ⟨v7, rfl, hr7, hB6⟩; obtain ⟨p8, c8, rfl, _⟩ := RowP.slice hr7; have d6 := cB hB6 z1; have hgI6 := (hB6.block gI (Array.getElem?_eq_some_iff.1 H4.out.2.1.choose_spec).1).trans H4.out.2.1.choose_spec; have f6 : w6.frozen? ⟨gI, kk * 2 + 1, none⟩ = false := (by simp [World.frozen?, hgI6]))
        all_goals
          go_wp2_with fail
          go_roundg rs.length
          case measure => simp
          case rel =>
            obtain ⟨_, _, huo4, hul, huP, hu, hx, hb34, hw4, hgB, hn7⟩ := H4.out
            obtain ⟨hds, hokr, _, _, _, _, _, hM, hK, hIn⟩ := HD.out
            have hb36 := hb34.trans (hB6.mono hb34.size)
            have hw6 := hw4.trans (hB6.mono hw4.size)
            have huo6 := ownsRow_below huo4 hB6
            refine ⟨ds ++ [(idx, ts)], rs, some ⟨gI, 0, none⟩, n2, c2, I.take kk ++ (idx, tsx ++ ts) :: I.drop (kk + 1), by rw [hds, List.append_assoc]; rfl, rfl, rfl, by simp, by rw [← hIn]; simp; omega, ?_⟩
            refine ⟨?_, hI.out.2.1.hit hokr hx, ?_⟩
            · exact PRow.hit hul hIn (fun i u x e1 e2 => (huP i u x e1 e2).below hb36) huo6 hu hx (by rw [List.length_append] at hr7; exact hr7)
            · exact hw6.setCell (p := ⟨gI, kk * 2 + 1, none⟩) hgB _
end Go.Proofs.YtapkmoakbfpkeaaGreatDoor
namespace Go.Proofs.YtapkmoakbfpkeaaGreatDoor
open Go Go.RowKit Go.Proofs Go.Sort
/-- A list of bytes, handed over. -/
def BsIn (w : World) (p : Option Addr) (zs : List Sl) : Prop := 0 < zs.length → ∃ b o, p = some ⟨b, o, none⟩ ∧ ∀ i z, zs[i]? = some z → w.cell? ⟨b, o + i, none⟩ = some z.v ∧ z.Ok w ∧ U8 z.xs
theorem BsIn.below {w w' : World} {p : Option Addr} {zs : List Sl} (h : BsIn w p zs) (hb : Below w.heap.size w w') : BsIn w' p zs := fun hl => by
  obtain ⟨b, o, hp, ha⟩ := h hl
  exact ⟨b, o, hp, fun i z hi => ⟨cB hb (ha i z hi).1, (ha i z hi).2.1.below hb, (ha i z hi).2.2⟩⟩
set_option maxRecDepth 100000 in
theorem zzFits4 (p : Option Addr) (c k : Nat) (zs : List Sl) (hk : zs.length = k) (w : World) (hb : BsIn w p zs) : Calls Tryz.prog 37 #[.slice p k c] w (SomeBool w) := by
  have HB := Lib.hid (And.intro hb hk)
  clear hb hk
  go_enter Tryz.func37, Tryz.ntmps37
  go_wp2_with fail
  · go_ret
    exact ⟨_, rfl, Below.refl _ _⟩
  · go_loopg [10] k (fun gk iv wr => ∃ (ds rs : List Sl), zs = ds ++ rs ∧ gk = rs.length ∧ iv = .int .i64 (ds.length : Int) ∧ Hid (Below w.heap.size w wr))
    case atStart => exact ⟨[], zs, rfl, HB.out.2.symm, rfl, Below.refl _ _⟩
    case round =>
      obtain ⟨ds, rs, hds, rfl, rfl, hI⟩ := hrel
      cases rs with
      | nil =>
        have hlt : ds.length = k := by rw [← HB.out.2, hds, List.append_nil]
        have hl2 : decide (ds.length < k) = false := by rw [decide_eq_false_iff_not, hlt]; omega
        clear hds hlt
        go_wp2_with fail
        go_ret
        exact ⟨_, rfl, hI.out⟩
      | cons r rs =>
        have hlt : ds.length < k := by rw [← HB.out.2, hds]; simp
        have hl2 : decide (ds.length < k) = true := by rw [decide_eq_true_iff]; omega
        obtain ⟨b, o, rfl, ha⟩ := HB.out.1 (by rw [hds, List.length_append, List.length_cons]; omega)
        obtain ⟨hc0, _⟩ := ha ds.length r (by rw [hds]; simp)
        replace hc0 := cB hI.out hc0
        obtain ⟨q, m, d, xs⟩ := r
        replace hc0 : wr.cell? ⟨b, o + ds.length, none⟩ = some (.slice q m d) := hc0
        have HD := Lib.hid hds
        clear hds ha
        by_cases hz : 2147483647 < m
        · have hz1 : decide (2147483647 < m) = true := by rw [decide_eq_true_iff]; exact hz
          have hz2 : decide ((2147483647 : Int) < (m : Int)) = true := by rw [decide_eq_true_iff]; omega
          go_wp2_with fail
          go_ret
          exact ⟨_, rfl, hI.out⟩
        · have hz1 : decide (2147483647 < m) = false := by rw [decide_eq_false_iff_not]; exact hz
          have hz2 : decide ((2147483647 : Int) < (m : Int)) = false := by rw [decide_eq_false_iff_not]; omega
          go_wp2_with fail
          go_roundg rs.length
          case measure => simp
          case rel => exact ⟨ds ++ [⟨q, m, d, xs⟩], rs, by rw [HD.out, List.append_assoc]; rfl, rfl, by simp, hI.out⟩
theorem PRow.single {w : World} {B X : Nat} {u : Value × Value} {x : List Int × List Adr} (hX : w.heap[X]? = some (.cells #[u.1, u.2] 32 (0, 0))) (hB : B ≤ X) (hu : PlainI 0 w u x) : PRow w B (.slice (some ⟨X, 0, none⟩) 1 1) [x] :=
  ⟨[u], rfl, ⟨rfl, .inr ⟨X, 1, _, rfl, hB, hX, Nat.le_refl _, by unfold maxLen; omega, rfl, rfl⟩⟩, fun i a b h1 h2 => by
    match i, h1, h2 with
    | 0, h1, h2 =>
      obtain rfl := Option.some.inj h1
      obtain rfl := Option.some.inj h2
      exact hu⟩
/-- Peers as the loops have them. -/
structure Peers (k : Nat) (I : List (List Int × List Adr)) : Prop where
  sorted : I.Pairwise infoLt
  ok : ∀ x ∈ I, InfoOk x
  len : I.length ≤ 60 + k
  ways : wsum I ≤ 60
theorem Peers.more {k : Nat} {I J : List (List Int × List Adr)} {x : List Int × List Adr} (h : Peers k I) (hx : x.2 = []) (hm : Merged (I ++ [x]) J) : Peers (k + 1) J :=
  ⟨hm.sorted, hm.ok, by have := hm.len; have := h.len; simp at *; omega, by rw [hm.ways, wsum_app, wsum_cons, hx]; have := h.ways; simp [wsum] at *; omega⟩
theorem Peers.full {k : Nat} {I : List (List Int × List Adr)} (h : Peers k I) (hk : k ≤ 20) : (∀ hs ∈ I.flatMap fullOf, AdrOk hs) ∧ (I.flatMap fullOf).length ≤ 140 ∧ Told (I.flatMap fullOf) true I :=
  ⟨fun hs hh => by
    obtain ⟨x, hx, hh⟩ := List.mem_flatMap.1 hh
    obtain ⟨⟨h1, h2⟩, h3⟩ := h.ok x hx
    exact full_adr x.1 h1 h2 x.2 (fun t ht => (h3 t ht).1) (fun t ht => (h3 t ht).2) hs hh, by have := full_count I; have := h.len; have := h.ways; omega, full_told h.sorted fun x hx t ht => ((h.ok x hx).2 t ht).1.1⟩
end Go.Proofs.YtapkmoakbfpkeaaGreatDoor
namespace Go.Proofs.YtapkmoakbfpkeaaGreatDoor
open Go Go.RowKit Go.Proofs Go.Sort
theorem short_lenX {f : List Int → List Int} {ls : List LEl} (h : ∀ a ∈ ls, Short a) : ∀ x ∈ adrs f ls, x.length ≤ 900 := fun x hx => by
  obtain ⟨a, ha, rfl⟩ := List.mem_map.1 hx
  have := (h a ha).2.1
  rw [List.length_map]
  omega
set_option maxHeartbeats 8000000 in
set_option maxRecDepth 100000 in
theorem lawSeveral (f : List Int → List Int) (hf : ShaIs f) (p : Option Addr) (c k : Nat) (ls : List LEl) (hk : ls.length = k) (_hkc : k ≤ c) (hcm : c ≤ 9223372036854775807 ∧ (p = none → c = 0)) (q : Option Addr) (d m : Nat) (zs : List Sl) (hzk : zs.length = m) (hm : m ≤ 9223372036854775807) (w : World) (hb : LLIn w p ls) (hz : BsIn w q zs) (hT : Tab w) (hE : ErrV w) :
    Calls Tryz.prog 9 #[.slice p k c, .slice q m d] w fun e w' => e = .returned (.bool true) ∧ Below w.heap.size w w' := by
  have HB := Lib.hid (And.intro hb (And.intro hf (And.intro hT (And.intro hk (And.intro hE (show k ≤ 9223372036854775807 by omega))))))
  have HZ := Lib.hid (And.intro hz (And.intro hzk hm))
  have awake : ∀ (wx : World), Below w.heap.size w wx → Calls Tryz.prog 13 #[] wx fun e w' => e = .returned (.bool true) ∧ Below w.heap.size w w' := fun wx hx => (addrAwake f hf wx (hT.below hx)).mono fun e w' ⟨he, hB⟩ => ⟨he, hx.trans (hB.mono hx.size)⟩
  have HW := Lib.hid awake
  clear hb hf hT hk hE awake hcm hz hzk hm
  go_enter Tryz.func9, Tryz.ntmps9
  go_wp2_with fail
  refine (zzFits3 p c k ls HB.out.2.2.2.1 w HB.out.1).mono ?_
  rintro e w1 ⟨r, rfl, hB1⟩
  have H1 := Lib.hid hB1
  clear hB1
  cases r with
  | false =>
    go_wp2_with fail
    go_ret
    exact ⟨rfl, H1.out⟩
  | true =>
    go_wp2_with fail
    refine (zzFits4 q d m zs HZ.out.2.1 w1 (HZ.out.1.below H1.out)).mono ?_
    rintro e w1' ⟨r, rfl, hB1⟩
    have H1' := Lib.hid (H1.out.trans (hB1.mono H1.out.size))
    clear hB1 H1
    cases r with
    | false =>
      go_wp2_with fail
      go_ret
      exact ⟨rfl, H1'.out⟩
    | true =>
      go_wp2_with fail
      refine (addrShortL p c k ls HB.out.2.2.2.1 HB.out.2.2.2.2.2 w1' (HB.out.1.below H1'.out)).mono ?_
      rintro e w2 ⟨r, rfl, hB2, hr⟩
      have H2 := Lib.hid (And.intro (H1'.out.trans (hB2.mono H1'.out.size)) hr)
      clear hB2 hr H1'
      cases r with
      | false =>
        go_wp2_with fail
        refine (HW.out _ H2.out.1).mono ?_
        rintro e w3 ⟨rfl, hB3⟩
        go_wp2_with fail
        go_ret
        exact ⟨rfl, hB3⟩
      | true =>
        by_cases hs : 20 < m
        · have hs1 : decide (20 < m) = true := by rw [decide_eq_true_iff]; exact hs
          have hs2 : decide ((20 : Int) < (m : Int)) = true := by rw [decide_eq_true_iff]; omega
          go_wp2_with fail
          refine (HW.out _ H2.out.1).mono ?_
          rintro e w3 ⟨rfl, hB3⟩
          go_wp2_with fail
          go_ret
          exact ⟨rfl, hB3⟩
        have hs1 : decide (20 < m) = false := by rw [decide_eq_false_iff_not]; exact hs
        have hs2 : decide ((20 : Int) < (m : Int)) = false := by rw [decide_eq_false_iff_not]; omega
        obtain ⟨hk60, hsh⟩ := H2.out.2 rfl
        have HS := Lib.hid hsh
        clear hsh
        go_wp2_with fail
        refine (specInfos f HB.out.2.1 p c k ls HB.out.2.2.2.1 (by omega) HS.out w2 (HB.out.1.below H2.out.1)).mono ?_
        rintro e w3 ⟨pb, nb, cb, ok, I0, hJn, rfl, hrJ, htJ, hB3⟩
        have hw3 := H2.out.1.trans (hB3.mono H2.out.1.size)
        have hal : (adrs f ls).length = k := by unfold adrs; rw [List.length_map]; exact HB.out.2.2.2.1
        have hokA : ∀ x ∈ adrs f ls, AdrOk x := adrs_ok HB.out.2.1 HB.out.1 HS.out
        rcases htJ with ⟨rfl, h6, hII⟩ | ⟨rfl, _, _⟩
        rotate_left
        · have H3 := Lib.hid hw3
          clear hw3 hB3 hrJ hal hokA hJn
          go_wp2_with fail
          refine (HW.out _ H3.out).mono ?_
          rintro e w4 ⟨rfl, hB4⟩
          go_wp2_with fail
          go_ret
          exact ⟨rfl, hB4⟩
        have hP0 : Peers 0 I0 := ⟨hII.1, told_ok hokA (short_lenX HS.out) h6 hII, by have := infos_len hII; rw [hal] at this; omega, by have := told_wsum hII; rw [hal] at this; omega⟩
        have hrow0 : PRow w3 0 (.slice pb nb cb) I0 := RowQ.mono hrJ (Nat.zero_le _) (fun u x h => h.mono (Nat.zero_le _))
        have H3 := Lib.hid (And.intro hP0 (And.intro hrow0 (And.intro hw3 hJn)))
        clear hP0 hrow0 hw3 hJn hrJ h6 hII hal hokA hB3 hs1 hs2
        go_wp2_with fail
        go_loopg [5, 43] m (fun gk sv iv wr => ∃ (ds rs : List Sl) (p2 : Option Addr) (n2 c2 : Nat) (I : List (List Int × List Adr)), zs = ds ++ rs ∧ gk = rs.length ∧ sv = .slice p2 n2 c2 ∧ iv = .int .i64 (ds.length : Int) ∧ I.length = n2 ∧ Hid (PRow wr 0 (.slice p2 n2 c2) I ∧ Peers ds.length I ∧ Below w.heap.size w wr))
        case atStart => exact ⟨[], zs, pb, nb, cb, I0, rfl, HZ.out.2.1.symm, rfl, rfl, H3.out.2.2.2, H3.out.2.1, H3.out.1, H3.out.2.2.1⟩
        case round =>
          obtain ⟨ds, rs, p2, n2, c2, I, hds, rfl, rfl, rfl, hIn, hI⟩ := hrel
          cases rs with
          | cons r rs =>
            have hlt : ds.length < m := by rw [← HZ.out.2.1, hds]; simp
            have hl2 : decide (ds.length < m) = true := by rw [decide_eq_true_iff]; omega
            obtain ⟨b, o, rfl, ha⟩ := HZ.out.1 (by rw [hds, List.length_append, List.length_cons]; omega)
            obtain ⟨hc0, hzok, hzu⟩ := ha ds.length r (by rw [hds]; simp)
            replace hc0 := cB hI.out.2.2 hc0
            obtain ⟨q1, n1, d1, xs⟩ := r
            replace hc0 : wr.cell? ⟨b, o + ds.length, none⟩ = some (.slice q1 n1 d1) := hc0
            have HD := Lib.hid (And.intro hds (And.intro (hzok.below hI.out.2.2) (And.intro hzu hIn)))
            clear hds ha hzok hzu hIn
            by_cases hx : 100 < n1
            · have hx1 : decide (100 < n1) = true := by rw [decide_eq_true_iff]; exact hx
              have hx2 : decide ((100 : Int) < (n1 : Int)) = true := by rw [decide_eq_true_iff]; omega
              go_wp2_with fail
              refine (HW.out _ hI.out.2.2).mono ?_
              rintro e w4 ⟨rfl, hB4⟩
              go_wp2_with fail
              go_ret
              exact ⟨rfl, hB4⟩
            have hx1 : decide (100 < n1) = false := by rw [decide_eq_false_iff_not]; exact hx
            have hx2 : decide ((100 : Int) < (n1 : Int)) = false := by rw [decide_eq_false_iff_not]; omega
            obtain ⟨W0, hW0⟩ : ∃ W, W = wr := ⟨_, rfl⟩
            rw [← hW0] at hI HD hc0 ⊢
            clear hW0 wr
            go_wp2_with fail
            refine (addrID f HB.out.2.1 q1 n1 d1 xs W0 HD.out.2.1 HD.out.2.2.1 (by omega)).mono ?_
            rintro e w4 ⟨v4, rfl, hown4, hB4⟩
            have hid2 := idB_len f HB.out.2.1 xs
            have hbv4 : BV w4 0 v4 (idB f xs) := (BV.own hown4 (fun e => by rw [e] at hid2; simp at hid2)).mono (Nat.zero_le _)
            obtain ⟨g4, c4, cs4, rfl, _⟩ := id hbv4
            obtain ⟨M, hM⟩ : ∃ M, M = (idB f xs).length := ⟨_, rfl⟩
            rw [← hM] at hbv4 ⊢
            obtain ⟨W5, hW5⟩ : ∃ W, W = w4.alloc (.cells #[.slice (some ⟨g4, 0, none⟩) M c4, .slice none 0 0] 32) := ⟨_, rfl⟩
            have hb5 : Below w4.heap.size w4 W5 := by rw [hW5]; exact (Below.refl _ _).alloc (Nat.le_refl _) _
            have hX5 : W5.heap[w4.heap.size]? = some (.cells #[.slice (some ⟨g4, 0, none⟩) M c4, .slice none 0 0] 32 (0, 0)) := by rw [hW5]; exact heap_alloc_new _ _
            have hb05 := hB4.trans (hb5.mono hB4.size)
            have hw5 := hI.out.2.2.trans (hb05.mono hI.out.2.2.size)
            have hrow2 : PRow W5 0 (.slice (some ⟨w4.heap.size, 0, none⟩) 1 1) [(idB f xs, [])] := PRow.single (u := (.slice (some ⟨g4, 0, none⟩) M c4, .slice none 0 0)) hX5 (Nat.zero_le _) ⟨hbv4.below hb5, RowP.nil _ _ _ _⟩
            have hP := hI.out.2.1
            have hmg := merged I [(idB f xs, [])] p2 (some ⟨w4.heap.size, 0, none⟩) n2 1 c2 1 HD.out.2.2.2 rfl (by have := hP.len; have := HD.out.2.2.2; omega) (by rw [wsum_app, wsum_cons]; have := hP.ways; simp [wsum] at *; omega) (fun x hx => by
              rcases List.mem_append.1 hx with hx | hx
              · exact hP.ok x hx
              · rw [List.mem_singleton] at hx
                rw [hx]
                exact ⟨⟨idB_ok f HB.out.2.1 xs, idB_u8 f HB.out.2.1 HD.out.2.2.1⟩, fun t ht => by cases ht⟩) W5 (PRow.below hI.out.1 hb05) hrow2
            have H5 := Lib.hid (And.intro hmg (And.intro hw5 hM))
            clear hmg hw5 hrow2 hb05 hb5 hX5 hown4 hB4 hid2 hbv4 hM hP
            go_wp2_with fail
            rw [← hW5]
            clear hW5
            refine H5.out.1.mono ?_
            rintro e w6 ⟨p6, n6, c6, J, hJn, rfl, hrow6, hmJ, hB6⟩
            have H6 := Lib.hid (And.intro hJn (And.intro hrow6 (And.intro hmJ (H5.out.2.1.trans (hB6.mono H5.out.2.1.size)))))
            clear hJn hrow6 hmJ hB6
            go_wp2_with fail
            go_roundg rs.length
            case measure => simp
            case rel =>
              obtain ⟨hJn, hrow6, hmJ, hw6⟩ := H6.out
              refine ⟨ds ++ [⟨q1, n1, d1, xs⟩], rs, p6, n6, c6, J, by rw [HD.out.1, List.append_assoc]; rfl, rfl, rfl, by simp, hJn, ?_⟩
              rw [List.length_append]
              exact ⟨RowQ.mono hrow6 (Nat.zero_le _) (fun _ _ h => h), hI.out.2.1.more rfl hmJ, hw6⟩
          | nil =>
            have hlt : ds.length = m := by rw [← HZ.out.2.1, hds, List.append_nil]
            have hl2 : decide (ds.length < m) = false := by rw [decide_eq_false_iff_not, hlt]; omega
            have hP := hI.out.2.1
            rw [hlt] at hP
            obtain ⟨hF1, hF2, hF3⟩ := hP.full (by omega)
            have HP := Lib.hid (And.intro hP (And.intro hF1 (And.intro hF2 (And.intro hF3 hIn))))
            clear hds hlt hP hF1 hF2 hF3 hIn
            obtain ⟨W0, hW0⟩ : ∃ W, W = wr := ⟨_, rfl⟩
            rw [← hW0] at hI ⊢
            clear hW0 wr
            have hn2 : n2 ≤ 80 := by have := HP.out.1.len; have := HP.out.2.2.2.2; omega
            go_wp2_with fail
            go_loopg [9, 60] n2 (fun gk sv iv wr => ∃ (es ss : List (List Int × List Adr)) (p7 : Option Addr) (n7 c7 : Nat), I = es ++ ss ∧ gk = ss.length ∧ sv = .slice p7 n7 c7 ∧ iv = .int .i64 (es.length : Int) ∧ n7 = (es.flatMap fullOf).length ∧ Hid (BRow wr W0.heap.size (.slice p7 n7 c7) (es.flatMap fullOf) ∧ Below W0.heap.size W0 wr))
            case atStart => exact ⟨[], I, none, 0, 0, rfl, HP.out.2.2.2.2.symm, rfl, rfl, rfl, RowP.nil _ _ _ _, Below.refl _ _⟩
            case round =>
              obtain ⟨es, ss, p7, n7, c7, hes, rfl, rfl, rfl, hn7', hJ⟩ := hrel
              have HN7 := Lib.hid hn7'
              clear hn7'
              cases ss with
              | cons x ss =>
                have hlt : es.length < n2 := by rw [← HP.out.2.2.2.2, hes]; simp
                have hl2 : decide (es.length < n2) = true := by rw [decide_eq_true_iff]; omega
                obtain ⟨g, rfl⟩ : ∃ g, p2 = some ⟨g, 0, none⟩ := by
                  rcases RowQ.form hI.out.1 with ⟨_, e⟩ | ⟨g, c', e, _⟩
                  · rw [hes] at e; simp at e
                  · injection e with e; exact ⟨g, e⟩
                have hokx := HP.out.1.ok x (by rw [hes]; simp)
                obtain ⟨⟨a1, a2⟩, ⟨hc0, hc1⟩, hpl⟩ := RowQ.at hI.out.1 es.length x (by rw [hes]; simp)
                replace hpl : PlainI 0 W0 (a1, a2) x := hpl
                replace hc0 := cB hJ.out.2 hc0
                replace hc1 := cB hJ.out.2 hc1
                have hxw : x.2.length ≤ 60 := Nat.le_trans (wsum_mem (I := I) (by rw [hes]; simp)) HP.out.1.ways
                obtain ⟨id, ts⟩ := x
                obtain ⟨g1, c1, cs1, rfl, _, _, hbs⟩ : BV _ _ a1 id := hpl.1
                obtain ⟨p3, c3, rfl, _⟩ := RowP.slice (show BRow _ _ a2 ts from hpl.2)
                obtain ⟨M, hM⟩ : ∃ M, M = id.length := ⟨_, rfl⟩
                obtain ⟨K, hK⟩ : ∃ K, K = ts.length := ⟨_, rfl⟩
                have hli : ListIn W0 p3 ts := BRow.list (show BRow W0 0 (.slice p3 ts.length c3) ts from hpl.2)
                rw [← hM] at hc0
                rw [← hK] at hc1
                obtain ⟨W3, hW3⟩ : ∃ W, W = wr.alloc (.cells #[.slice (some ⟨g1, 0, none⟩) M c1, .slice p3 K c3] 32) := ⟨_, rfl⟩
                have hb3 : Below wr.heap.size wr W3 := by rw [hW3]; exact (Below.refl _ _).alloc (Nat.le_refl _) _
                have hX : W3.heap[wr.heap.size]? = some (.cells #[.slice (some ⟨g1, 0, none⟩) M c1, .slice p3 K c3] 32 (0, 0)) := by rw [hW3]; exact heap_alloc_new _ _
                obtain ⟨⟨x0, x1⟩, _, _⟩ := two_cells hX
                have hW03 := hJ.out.2.trans (hb3.mono hJ.out.2.size)
                have hw3 := hI.out.2.2.trans (hW03.mono hI.out.2.2.size)
                have hab := addrBytes id hokx.1.1 hokx.1.2 ts g1 0 M c1 hM.symm p3 K c3 hK.symm (by rw [hK]; have h : ts.length ≤ 60 := hxw; omega) (fun t ht => (hokx.2 t ht).1) (fun t ht => (hokx.2 t ht).2) W3 (hbs.below hW03) (hli.below hW03) (HB.out.2.2.1.below hw3)
                have HD := Lib.hid (And.intro hes (And.intro hab (And.intro hW03 hb3)))
                clear hes hab hW03 hb3 hw3 hbs hli hpl hX hokx hM hK hxw
                go_upto_region 19 with fail
                rw [← hW3]
                obtain ⟨X, hXe⟩ : ∃ X, X = wr.heap.size := ⟨_, rfl⟩
                rw [← hXe] at x0 x1 ⊢
                clear hW3 hXe
                go_wp2_with fail
                refine HD.out.2.1.mono ?_
                rintro e w4 ⟨v4, rfl, hr4, hB4⟩
                obtain ⟨p4, c4, rfl, _⟩ := RowP.slice hr4
                obtain ⟨us4, hok4, hul4, hP4⟩ := segB hr4
                obtain ⟨us7, hul7, huo7, huP7⟩ := hJ.out.1
                have hb4 := HD.out.2.2.2.trans (hB4.mono HD.out.2.2.2.size)
                have hW04 := hJ.out.2.trans (hb4.mono hJ.out.2.size)
                have hn7 := HN7.out
                have hfl : (es.flatMap fullOf).length + (fullOf (id, ts)).length ≤ 140 := by
                  have h := HP.out.2.2.1
                  rw [HD.out.1, List.flatMap_append, List.flatMap_cons, List.length_append, List.length_append] at h
                  omega
                rw [← hn7] at hfl huo7
                obtain ⟨F, hF⟩ : ∃ F, F = (fullOf (id, ts)).length := ⟨_, rfl⟩
                rw [← hF] at hfl hok4 ⊢
                have H4 := Lib.hid (And.intro hok4 (And.intro hul4 (And.intro hP4 (And.intro hul7 (And.intro (ownsRow_below huo7 hb4) (And.intro huP7 (And.intro hb4 (And.intro hW04 (And.intro hF hn7)))))))))
                clear hok4 hul4 hP4 hul7 huo7 huP7 hb4 hW04 hF hn7 hr4 hB4 x0 x1 hc0 hc1
                go_wp2_with (at_builtin; refine wpAppG1 30 23 _ 24 Tryz.underlying30 infoBs rfl (by decide) rfl _ _ rfl W0.heap.size _ n7 us7 rfl H4.out.2.2.2.2.1 p4 F c4 us4 rfl H4.out.1 (by omega) H4.out.2.2.2.2.2.2.2.1.size ?_)
                intro v5 w5 ho5 hg5
                obtain ⟨p5, c5, rfl⟩ : ∃ p c, v5 = .slice p (n7 + F) c := by
                  rcases ho5.2 with ⟨e, h0⟩ | ⟨g5, c5, _, e, _⟩
                  · exact ⟨none, 0, by rw [e, h0]⟩
                  · exact ⟨_, c5, e⟩
                have H5 := Lib.hid (And.intro ho5 hg5)
                clear ho5 hg5
                go_wp2_with fail
                go_roundg ss.length
                case measure => simp
                case rel =>
                  obtain ⟨ho5, hg5⟩ := H5.out
                  obtain ⟨hok4, hul4, hP4, hul7, huo4, huP7, hb4, hW04, hF, hn7⟩ := H4.out
                  have hK5 : Kept 23 w4 w5 := Kept.row huo4 hg5
                  have hcat : (es ++ [(id, ts)]).flatMap fullOf = es.flatMap fullOf ++ fullOf (id, ts) := by rw [List.flatMap_append]; simp
                  have hsz0 : W0.heap.size ≤ W3.heap.size := HD.out.2.2.1.size
                  refine ⟨es ++ [(id, ts)], ss, p5, n7 + F, c5, by rw [HD.out.1, List.append_assoc]; rfl, rfl, rfl, by simp, by rw [hcat, List.length_append, ← hn7, ← hF], ?_, grown_below hW04 huo4 hg5 hW04.size⟩
                  rw [hcat]
                  refine ⟨us7 ++ us4, by rw [List.length_append, List.length_append, hul7, hul4], by rw [List.length_append, ← hn7, ← hF]; exact ho5, fun i u x h1 h2 => ?_⟩
                  by_cases hi : i < us7.length
                  · rw [List.getElem?_append_left hi] at h1
                    rw [List.getElem?_append_left (by omega)] at h2
                    exact hK5.bv (by decide) ((huP7 i u x h1 h2).below hb4)
                  · rw [List.getElem?_append_right (by omega)] at h1 h2
                    rw [← hul7] at h2
                    exact hK5.bv (by decide) ((hP4 _ u x h1 h2).mono hsz0)
              | nil =>
                have hlt : es.length = n2 := by rw [← HP.out.2.2.2.2, hes, List.append_nil]
                have hl2 : decide (es.length < n2) = false := by rw [decide_eq_false_iff_not, hlt]; omega
                obtain rfl : I = es := by rw [hes, List.append_nil]
                have hwr := hI.out.2.2.trans (hJ.out.2.mono hI.out.2.2.size)
                have hin := implTold (I.flatMap fullOf) HP.out.2.1 p7 n7 c7 wr HN7.out.symm (by have h1 := HP.out.2.2.1; have h2 := HN7.out; omega) (BRow.list hJ.out.1) (HB.out.2.2.1.below hwr) (HB.out.2.2.2.2.1.below hwr)
                have H6 := Lib.hid (And.intro hin hwr)
                clear hes hlt hin hwr
                obtain ⟨W7, hW7⟩ : ∃ W, W = wr := ⟨_, rfl⟩
                rw [← hW7] at H6 hJ ⊢
                clear hW7 wr
                go_wp2_with fail
                refine H6.out.1.mono ?_
                rintro e w8 ⟨va, ok, J, rfl, hrJ, htJ, hB8⟩
                obtain ⟨rfl, rfl⟩ := HP.out.2.2.2.1.one htJ
                obtain ⟨pa, ca, rfl, _⟩ := RowQ.slice hrJ
                have hIn := HP.out.2.2.2.2
                have hb08 := hJ.out.2.trans (hB8.mono hJ.out.2.size)
                have heq := equalInfos W7.heap.size 0 pa p2 n2 ca c2 J w8 hIn (by omega) (fun x hx => Nat.le_trans (wsum_mem hx) (Nat.le_trans HP.out.1.ways (by omega))) (by rw [hIn] at hrJ; exact hrJ) (PRow.below hI.out.1 hb08)
                have H8 := Lib.hid (And.intro heq (H6.out.2.trans (hB8.mono H6.out.2.size)))
                rw [hIn]
                clear heq hrJ htJ hB8 hb08 hIn
                go_wp2_with (first
                  | (go_at_call 31; refine H8.out.1.mono ?_; rintro e w9 ⟨rfl, hb9⟩)
                  | (go_at_call 13; refine (HW.out _ (H8.out.2.trans (hb9.mono H8.out.2.size))).mono ?_; rintro e wd ⟨rfl, hbD⟩))
                go_ret
                exact ⟨rfl, hbD⟩
end Go.Proofs.YtapkmoakbfpkeaaGreatDoor
namespace Go.Proofs.YtapkmoakbfpkeaaGreatDoor
open Go Go.RowKit Go.Proofs Go.Sort Go.ChangeShapes Go.WideShapes Go.Deep
instance : Inhabited Sl := ⟨⟨none, 0, 0, []⟩⟩
set_option maxRecDepth 100000 in
theorem open_bss {H : Type} {enc : TypeId × Value → H} {w : World} {base : Nat} {held : Bool} {r : Reach} {b0 : Nat} {v : Value} {d : DataW H} {p : List MemPlace} (hval : Value.okWide Tryz.prog w r b0 30 v) (h : DataW.Trod enc Tryz.prog w base (fun _ => true) held 30 v d p) :
    ∃ (a : Option Addr) (k c : Nat) (zs : List Sl), v = .slice a k c ∧ zs.length = k ∧ k ≤ 9223372036854775807 ∧ BsIn w a zs := by
  obtain ⟨a0, len0, cap0, rfl⟩ := okWide_slice Tryz.underlying30 hval
  obtain ⟨fuel, hf⟩ := h
  have hf' : DataW.trod enc Tryz.prog w base (fun _ => true) held fuel 30 [.slice a0 len0 cap0] = some (d, p) := hf
  rcases open_slice1 Tryz.underlying30 (by kernel_rfl) hf' with ⟨h1, _⟩ | ⟨a, len, cap, m, n, V, D, Pl, h1, _, hl, hcm, hm, _, hi⟩
  · simp only [List.cons.injEq, Value.slice.injEq, and_true] at h1
    obtain ⟨rfl, rfl, rfl⟩ := h1
    exact ⟨none, 0, 0, [], rfl, rfl, by omega, fun h => by simp at h⟩
  · simp only [List.cons.injEq, Value.slice.injEq, and_true] at h1
    obtain ⟨rfl, rfl, rfl⟩ := h1
    obtain rfl : m = cap0 := hm
    have each : ∀ i, i < m → ∃ y : Sl, w.cell? (a.add i) = some y.v ∧ y.Ok w ∧ U8 y.xs := fun i him => by
      obtain ⟨c0, t0⟩ := hi i him
      obtain ⟨y, hy, h2, h3, _⟩ := open_sl t0
      simp only [List.cons.injEq, and_true] at hy
      exact ⟨y, by rw [c0, hy], h2, h3⟩
    obtain ⟨F, hF⟩ := choose_lt each
    refine ⟨some a, len0, m, (List.range len0).map F, rfl, by simp, by unfold maxLen at hcm; omega, fun hpos => ?_⟩
    have hlen : 0 < len0 := by simpa using hpos
    obtain ⟨b, o, s⟩ := a
    obtain rfl : s = none := by simpa [Addr.add] using World.cell?_spot (hF 0 (by omega)).1
    refine ⟨b, o, rfl, fun i y hy => ?_⟩
    have hil : i < len0 := by simpa using (List.getElem?_eq_some_iff.1 hy).1
    obtain rfl : F i = y := by simpa [hil] using hy
    obtain ⟨q0, q1, q2⟩ := hF i (by omega)
    rw [Go.WideShapes.add_plain] at q0
    exact ⟨q0, q1, q2⟩
end Go.Proofs.YtapkmoakbfpkeaaGreatDoor
