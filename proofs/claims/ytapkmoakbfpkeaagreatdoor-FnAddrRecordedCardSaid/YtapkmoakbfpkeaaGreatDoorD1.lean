/- The reference's small functions: addrNumber, addrFilled, slices.Grow, slices.Concat. -/
import Derived.Test.YtapkmoakbfpkeaaGreatDoorC1
import Derived.Deep.AppendLies
import Derived.Laws.AppendOwnNone
import Derived.Laws.CopyOwn
namespace Go.Proofs.YtapkmoakbfpkeaaGreatDoor
open Go Go.RowKit Go.Proofs Go.Sort

/-- 'these bytes come back, in memory of the call's own'. -/
def NewBytes (xs : List Int) (w : World) (e : Ending) (w' : World) : Prop :=
  ∃ v, e = .returned v ∧ w'.ownsRow w.heap.size 5 1 v xs.length (xs.map (Value.int .u8)) ∧ Below w.heap.size w w'
theorem info5 : (Tryz.prog.info? 5).map (fun i => (i.zero, i.size, i.bytes)) = some (some (.int .u8 0), 1, 1) := by kernel_rfl
theorem u8one (xs : List Int) : ∀ u ∈ xs.map (Value.int .u8), u.oneCell' = true := fun u hu => by
  obtain ⟨x, _, rfl⟩ := List.mem_map.1 hu
  rfl
/-- append of bytes onto a row of the call's own. -/
theorem wpApp {ops : Array Oper} {rest : List Oper} {o : Oper} {a : Act} {w : World} {Q : Exit → Act → World → Prop} (hgd : o.guard = none) (s x : Operand)
    (ho : o.op = .call { callee := .builtin .append, args := #[s, x], argTypes := #[23, 23] }) (base : Nat) (v : Value) (n : Nat) (xs : List Int) (hs : a.eval s = v) (hown : w.ownsRow base 5 1 v n (xs.map (Value.int .u8)))
    (ad : Addr) (m c : Nat) (ys : List Int) (hx : a.eval x = .slice (some ad) m c) (hl : ys.length = m) (hb : ∀ i, i < m → w.cell? (ad.add i) = some (.int .u8 (ys.getD i 0))) (hN : n + m ≤ 1000000) (hbase : base ≤ w.heap.size)
    (h : ∀ v' w', w'.ownsRow base 5 1 v' (n + m) ((xs ++ ys).map (Value.int .u8)) → w.grownBy w' v.ownBlock → (v' = .slice none 0 0 ↔ v = .slice none 0 0 ∧ m = 0) → wpList Tryz.prog ops Q rest (a.put o.dst v') w') : wpList Tryz.prog ops Q (o :: rest) a w := by
  obtain ⟨i0, hi, hz0, hz1, hz2⟩ := info_parts info5
  refine wpList_append_own w hgd s x 23 ho base 5 i0 _ 1 1 Tryz.underlying23 hi hz0 hz1 hz2 rfl (by decide) v n _ hs hown ad m c (ys.map (Value.int .u8)) hx (by simp [hl]) (fun j u hj => ?_) (u8one ys) (by unfold maxLen; omega) (by omega) hbase (fun v' w' h1 h2 h3 => h v' w' (by rw [List.map_append]; exact h1) h2 h3)
  have hj2 : j < ys.length := by simpa using (List.getElem?_eq_some_iff.1 hj).1
  rw [hb j (by omega), ← hj]
  simp [List.getD, hj2]
theorem grown_below {w0 w w' : World} {B size n : Nat} {v : Value} {xs : List Value} {e : TypeId} (hb : Below B w0 w) (ho : w.ownsRow B e size v n xs) (hg : w.grownBy w' v.ownBlock) (hB : B ≤ w.heap.size) : Below B w0 w' :=
  hb.grown hg hB fun k hk => (ho.lt k hk).1
theorem one_new (w : World) (x : Int) (t : TypeId) : ∀ i, i < 1 → (w.alloc (.cells #[.int .u8 x] t)).cell? ((⟨w.heap.size, 0, none⟩ : Addr).add i) = some (.int .u8 (([x] : List Int).getD i 0)) := fun i hi => by
  obtain rfl : i = 0 := by omega
  rw [Lib.add_plain]
  exact (World.cell?_alloc_mark w _ _ _ 0)

set_option maxRecDepth 100000 in
theorem addrNumber1 (n : Int) (h0 : 0 ≤ n) (h1 : n < 128) (w : World) : Calls Tryz.prog 49 #[.int .i64 n] w (NewBytes [n] w) := by
  go_enter Tryz.func49, Tryz.ntmps49
  go_wp2_with fail
  refine wp_loop_rounds 1 ?_
  rw [rounds_succ]
  go_wp2_with (at_builtin; refine wpApp rfl _ _ rfl w.heap.size _ 0 [] rfl (World.ownsRow_nil _ _ _ _) ⟨w.heap.size, 0, none⟩ 1 1 [n] rfl rfl (one_new _ _ _) (by omega) (by simp) ?_)
  intro v' w' hown hgrow _
  have hB : Below w.heap.size w w' := grown_below ((Below.refl _ _).alloc (Nat.le_refl _) _) (World.ownsRow_nil _ _ 5 1) hgrow (by simp)
  have HB := Lib.hid (And.intro hown hB)
  clear hown hgrow hB
  go_wp2_with fail
  go_ret
  exact ⟨_, rfl, HB.out.1, HB.out.2⟩

set_option maxRecDepth 100000 in
theorem addrNumber2 (n x y : Int) (h0 : 128 ≤ n) (h1 : n < 16384) (hx : bits .or .u8 (n % 256) 128 = x) (hy : n / 128 = y) (w : World) : Calls Tryz.prog 49 #[.int .i64 n] w (NewBytes [x, y] w) := by
  have hy1 : 0 ≤ y ∧ y < 128 := by omega
  have hyw : IntKind.u8.wrap y = y := IntWalk.u8_in _ (by omega)
  go_enter Tryz.func49, Tryz.ntmps49
  go_wp2_with fail
  refine wp_loop_rounds 2 ?_
  rw [rounds_succ]
  go_wp2_with (at_builtin; refine wpApp rfl _ _ rfl w.heap.size _ 0 [] rfl (World.ownsRow_nil _ _ _ _) ⟨w.heap.size, 0, none⟩ 1 1 [x] rfl rfl (one_new _ _ _) (by omega) (by simp) ?_)
  intro v1 w1 hown hgrow _
  have hB : Below w.heap.size w w1 := grown_below ((Below.refl _ _).alloc (Nat.le_refl _) _) (World.ownsRow_nil _ _ 5 1) hgrow (by simp)
  have HB := Lib.hid (And.intro hown hB)
  clear hown hgrow hB
  go_wp2_with fail
  rw [rounds_succ]
  go_wp2_with (at_builtin; refine wpApp rfl _ _ rfl w.heap.size _ 1 [x] rfl (HB.out.1.alloc _) ⟨w1.heap.size, 0, none⟩ 1 1 [y] rfl rfl (one_new _ _ _) (by omega) (by have := HB.out.2.size; simp; omega) ?_)
  intro v' w' hown hgrow _
  have hB : Below w.heap.size w w' := grown_below (HB.out.2.alloc HB.out.2.size _) (HB.out.1.alloc _) hgrow (by have := HB.out.2.size; simp; omega)
  have HB2 := Lib.hid (And.intro hown hB)
  clear hown hgrow hB
  go_wp2_with fail
  go_ret
  exact ⟨_, rfl, HB2.out.1, HB2.out.2⟩

/-- The bytes of data in n bytes, zeros behind. -/
def fillB (xs : List Int) (n : Nat) : List Int := xs.take n ++ List.replicate (n - xs.length) 0
theorem fillB_len (xs : List Int) (n : Nat) : (fillB xs n).length = n := by
  unfold fillB; rw [List.length_append, List.length_take, List.length_replicate]; omega

set_option maxRecDepth 100000 in
theorem addrFilled (p : Option Addr) (m c : Nat) (xs : List Int) (n : Nat) (w : World) (hx : xs.length = m) (hb : Lib.BytesIn w p m xs) (hn : n ≤ 100) :
    Calls Tryz.prog 48 #[.slice p m c, .int .i64 (n : Int)] w (NewBytes (fillB xs n) w) := by
  have hmk : ∀ w, (Instr.makeSlice 23 (.int .i64 (n : Int)) (.int .i64 (n : Int))).run Tryz.prog w = .ok (.slice (some ⟨w.heap.size, 0, none⟩) n n) (w.alloc (.cells (madeCells #[.int .u8 0] n) 5)) :=
    fun w => run_make_row' 23 5 (.int .u8 0) 1 Tryz.underlying23 (by kernel_rfl) rfl .i64 .i64 n (by omega) (by omega) w
  have HB := Lib.hid (And.intro hb hx)
  have hn2 : (n : Int) ≤ 100 := by omega
  clear hb hx
  go_enter Tryz.func48, Tryz.ntmps48
  go_wp2_with (with_reducible refine wpList_copy_splice rfl _ _ 23 23 rfl 5 Tryz.underlying23 (by kernel_rfl) (some ⟨w.heap.size, 0, none⟩) p n n m c rfl rfl w.heap.size 0 (List.replicate n (.int .u8 0)) 5 (by rw [← toList_madeCells_one]; exact heap_alloc_new _ _) ((xs.take n).map (Value.int .u8)) (by simp [HB.out.2, Nat.min_comm]) ?_ (by simp; omega) (u8one _) w.heap.size w ((Below.refl _ _).alloc (Nat.le_refl _) _) (Nat.le_refl _) ?_)
  · intro hpos
    have hm : 0 < m := by
      have := HB.out.2
      cases xs with
      | nil => simp at hpos
      | cons z zs => simp at this; omega
    obtain ⟨b, o, rfl, hc⟩ := HB.out.1.at hm
    refine ⟨⟨b, o, none⟩, rfl, fun j v hj => ?_⟩
    rw [Lib.add_plain]
    have hb := HB.out.1 hm
    have hx := HB.out.2
    rw [← List.map_take] at hj
    obtain ⟨hj1, hj2⟩ := List.getElem?_eq_some_iff.1 hj
    simp only [List.length_map, List.length_take] at hj1
    rw [World.cell?_alloc_some _ _ _ (by rw [hc j (by omega)]; rfl), hc j (by omega)]
    rw [← hj2]
    simp [List.getD, show j < xs.length by omega]
  · intro w' hh hB
    go_wp2_with fail
    go_ret
    refine ⟨_, rfl, ?_, hB⟩
    rw [fillB_len]
    have hs : splice (List.replicate n (Value.int .u8 0)) 0 (List.take n (List.map (Value.int .u8) xs)) = (fillB xs n).map (Value.int .u8) := by
      unfold splice fillB
      rw [List.map_append, List.map_take, List.map_replicate, List.drop_replicate]
      simp
      omega
    refine ⟨by simp [fillB_len], .inr ⟨w.heap.size, n, _, rfl, Nat.le_refl _, hh.out, Nat.le_refl _, by unfold maxLen; omega, ?_, ?_⟩⟩
    · rw [hs]; simp [fillB_len]
    · rw [hs]; simp only [Nat.mul_one]; exact List.take_of_length_le (by simp [fillB_len])
end Go.Proofs.YtapkmoakbfpkeaaGreatDoor
