/- protowire: numbers as bytes, written and read. protowire: a number read back; tags and bytes. protowire: tags and bytes, written and read. A peer record, written. A peer record, read. Arguments, opened: a list of lists of parts. Bytes handed over. -/
import Derived.Test.YtapkmoakbfpkeaaGreatDoorD1
import Derived.Test.YtapkmoakbfpkeaaGreatDoorC7
import Derived.Maps.AppendAt
import Derived.Test.YtapkmoakbfpkeaaGreatDoorZD
import Derived.Test.YtapkmoakbfpkeaaGreatDoorF0
import Derived.Deep.Slices
namespace Go.Proofs.YtapkmoakbfpkeaaGreatDoor
open Go Go.RowKit Go.Proofs Go.Sort
theorem orand (y : Int) (h0 : 0 ≤ y) (h1 : y < 18446744073709551616) : bits .or .u64 (bits .and .u64 y 127) 128 % 256 = y % 128 + 128 := by
  have e : bits .and .u64 y 127 = y % 128 := bits_mask .u64 64 (by decide) wraps_u64 7 (by decide) y (by omega) (by omega)
  rw [e, u64_or (y % 128) 128 (by omega) (by omega) (by omega) (by omega)]
  obtain ⟨z, hz⟩ := Int.eq_ofNat_of_zero_le (show 0 ≤ y % 128 by omega)
  have hz1 : z < 128 := by omega
  rw [hz]
  have h2 := Nat.shiftLeft_add_eq_or_of_lt (i := 7) (b := z) (by omega) 1
  rw [Int.toNat_natCast, show (128 : Int).toNat = 1 <<< 7 by rfl, Nat.or_comm, ← h2, Nat.shiftLeft_eq]
  omega
theorem ret2 {a b a' b' : Value} (h1 : a = a') (h2 : b = b') : Ending.returned (.tuple #[a, b]) = .returned (.tuple #[a', b']) := by rw [h1, h2]
/-- A number's bytes. -/
def uv (X : Int) : List Int :=
  if X < 128 then [X] else
  if X < 16384 then [X % 128 + 128, X / 128] else
  if X < 2097152 then [X % 128 + 128, X / 128 % 128 + 128, X / 16384] else
  if X < 268435456 then [X % 128 + 128, X / 128 % 128 + 128, X / 16384 % 128 + 128, X / 2097152] else
  if X < 34359738368 then [X % 128 + 128, X / 128 % 128 + 128, X / 16384 % 128 + 128, X / 2097152 % 128 + 128, X / 268435456] else
  if X < 4398046511104 then [X % 128 + 128, X / 128 % 128 + 128, X / 16384 % 128 + 128, X / 2097152 % 128 + 128, X / 268435456 % 128 + 128, X / 34359738368] else
  if X < 562949953421312 then [X % 128 + 128, X / 128 % 128 + 128, X / 16384 % 128 + 128, X / 2097152 % 128 + 128, X / 268435456 % 128 + 128, X / 34359738368 % 128 + 128, X / 4398046511104] else
  if X < 72057594037927936 then [X % 128 + 128, X / 128 % 128 + 128, X / 16384 % 128 + 128, X / 2097152 % 128 + 128, X / 268435456 % 128 + 128, X / 34359738368 % 128 + 128, X / 4398046511104 % 128 + 128, X / 562949953421312] else
  if X < 9223372036854775808 then [X % 128 + 128, X / 128 % 128 + 128, X / 16384 % 128 + 128, X / 2097152 % 128 + 128, X / 268435456 % 128 + 128, X / 34359738368 % 128 + 128, X / 4398046511104 % 128 + 128, X / 562949953421312 % 128 + 128, X / 72057594037927936] else
  [X % 128 + 128, X / 128 % 128 + 128, X / 16384 % 128 + 128, X / 2097152 % 128 + 128, X / 268435456 % 128 + 128, X / 34359738368 % 128 + 128, X / 4398046511104 % 128 + 128, X / 562949953421312 % 128 + 128, X / 72057594037927936 % 128 + 128, 1]
theorem new_bytes (w : World) (ys : List Int) (m : Nat) (hm : ys.length = m) : ∀ i, i < m → (w.alloc (.cells (ys.map (Value.int .u8)).toArray 5)).cell? ((⟨w.heap.size, 0, none⟩ : Addr).add i) = some (.int .u8 (ys.getD i 0)) := fun i hi => by
  rw [Lib.add_plain, Nat.zero_add]
  refine (World.cell?_alloc_mark w _ _ _ i).trans ?_
  have : i < ys.length := by omega
  simp [List.getD, this]
/-- What an append of the row v may turn: nothing but the row. -/
structure Grw (w : World) (v : Value) (w' : World) (v' : Value) : Prop where
  same : ∀ g, g < w.heap.size → v.ownBlock ≠ some g → w'.heap[g]? = w.heap[g]? ∧ v'.ownBlock ≠ some g
  size : w.heap.size ≤ w'.heap.size
  below : ∀ B w0, Below B w0 w → B ≤ w.heap.size → (∀ k, v.ownBlock = some k → B ≤ k) → Below B w0 w' ∧ ∀ k, v'.ownBlock = some k → B ≤ k
theorem Grw.trans {w w1 w2 : World} {v v1 v2 : Value} (h : Grw w v w1 v1) (k : Grw w1 v1 w2 v2) : Grw w v w2 v2 :=
  ⟨fun g hg hv => by
    obtain ⟨a1, a2⟩ := h.same g hg hv
    obtain ⟨b1, b2⟩ := k.same g (Nat.lt_of_lt_of_le hg h.size) a2
    exact ⟨b1.trans a1, b2⟩, Nat.le_trans h.size k.size, fun B w0 hb hB hk => by
    obtain ⟨a1, a2⟩ := h.below B w0 hb hB hk
    exact k.below B w0 a1 (Nat.le_trans hB h.size) a2⟩
theorem Grw.of {w w' : World} {v v' : Value} (hg : w.grownBy w' v.ownBlock) (hf : v'.ownBlock = v.ownBlock ∨ ∃ k, v'.ownBlock = some k ∧ w.heap.size ≤ k) : Grw w v w' v' :=
  ⟨fun g hl hv => ⟨hg.block g hl (fun e => hv e.symm), fun e => by
    rcases hf with h | ⟨k, h, hk⟩
    · exact hv (h ▸ e)
    · rw [h] at e
      have := Option.some.inj e
      omega⟩, hg.size, fun B w0 hb hB hk => ⟨hb.grown hg hB hk, fun k e => by
    rcases hf with h | ⟨k', h, hk'⟩
    · exact hk k (h ▸ e)
    · rw [h] at e
      have := Option.some.inj e
      omega⟩⟩
/-- A number's bytes behind a row of the call's own. -/
def AV (base : Nat) (v : Value) (n : Nat) (xs ys : List Int) (w : World) (e : Ending) (w' : World) : Prop := ∃ v', e = .returned v' ∧ w'.ownsRow base 5 1 v' (n + ys.length) ((xs ++ ys).map (Value.int .u8)) ∧ Grw w v w' v'
/-- append of new bytes onto a row of the call's own. -/
theorem wpAppAt {ops : Array Oper} {rest : List Oper} {o : Oper} {a : Act} {w : World} {Q : Exit → Act → World → Prop} (hgd : o.guard = none) (s x : Operand)
    (ho : o.op = .call { callee := .builtin .append, args := #[s, x], argTypes := #[23, 23] }) (base : Nat) (v : Value) (n : Nat) (xs : List Int) (hs : a.eval s = v) (hown : w.ownsRow base 5 1 v n (xs.map (Value.int .u8)))
    (ad : Addr) (m c : Nat) (ys : List Int) (hx : a.eval x = .slice (some ad) m c) (hl : ys.length = m) (hb : ∀ i, i < m → w.cell? (ad.add i) = some (.int .u8 (ys.getD i 0))) (hN : n + m ≤ 1000000) (hbase : base ≤ w.heap.size)
    (h : ∀ v' w', w'.ownsRow base 5 1 v' (n + m) ((xs ++ ys).map (Value.int .u8)) → w.grownBy w' v.ownBlock → (v'.ownBlock = v.ownBlock ∨ ∃ k, v'.ownBlock = some k ∧ w.heap.size ≤ k) → wpList Tryz.prog ops Q rest (a.put o.dst v') w') : wpList Tryz.prog ops Q (o :: rest) a w := by
  obtain ⟨i0, hi, hz0, hz1, hz2⟩ := info_parts info5
  refine wpList_append_own_at w hgd s x 23 ho base 5 i0 _ 1 1 Tryz.underlying23 hi hz0 hz1 hz2 rfl (by decide) v n _ hs hown ad m c (ys.map (Value.int .u8)) hx (by simp [hl]) (fun j u hj => ?_) (u8one ys) (by unfold maxLen; omega) (by omega) hbase (fun v' w' h1 h2 h3 h4 => h v' w' (by rw [List.map_append]; exact h1) h2 (h4.elim .inl fun h5 => .inr ⟨_, h5, Nat.le_refl _⟩))
  have hj2 : j < ys.length := by simpa using (List.getElem?_eq_some_iff.1 hj).1
  rw [hb j (by omega), ← hj]
  simp [List.getD, hj2]
set_option maxHeartbeats 1600000 in
set_option maxRecDepth 100000 in
theorem appV_1 (base : Nat) (v : Value) (n : Nat) (xs : List Int) (X : Int) (w : World) (hn : n ≤ 900000) (hbase : base ≤ w.heap.size) (hown : w.ownsRow base 5 1 v n (xs.map (Value.int .u8))) (h0 : 0 ≤ X) (h1 : X < 128) :
    Calls Tryz.prog 101 #[v, .int .u64 X] w (AV base v n xs [X] w) := by
  have e0 : decide (X < 128) = true := by rw [decide_eq_true_iff]; omega
  have HO := Lib.hid (And.intro hown hbase)
  clear hown hbase
  go_enter Tryz.func101, Tryz.ntmps101
  go_wp2_with (at_builtin; refine wpAppAt rfl _ _ rfl base v n xs rfl (HO.out.1.alloc _) ⟨w.heap.size, 0, none⟩ 1 1 [X] rfl rfl (new_bytes w [X] 1 rfl) (by omega) (by have := HO.out.2; simp; omega) ?_)
  intro v' w' hown' hgrow hfr
  have H1 := Lib.hid (And.intro hown' (Grw.of ((World.grownBy_alloc w _ _).trans hgrow) (hfr.elim .inl fun ⟨k, h, hk⟩ => .inr ⟨k, h, by first | omega | (simp at hk; omega)⟩)))
  clear hown' hgrow hfr
  go_wp2_with fail
  go_ret
  exact ⟨v', rfl, by simpa using H1.out.1, H1.out.2⟩
set_option maxHeartbeats 1600000 in
set_option maxRecDepth 100000 in
theorem appV_2 (base : Nat) (v : Value) (n : Nat) (xs : List Int) (X : Int) (w : World) (hn : n ≤ 900000) (hbase : base ≤ w.heap.size) (hown : w.ownsRow base 5 1 v n (xs.map (Value.int .u8))) (h0 : 128 ≤ X) (h1 : X < 16384) :
    Calls Tryz.prog 101 #[v, .int .u64 X] w (AV base v n xs [X % 128 + 128, X / 128] w) := by
  have e0 : decide (X < 128) = false := by rw [decide_eq_false_iff_not]; omega
  have e1 : decide (X < 16384) = true := by rw [decide_eq_true_iff]; omega
  obtain ⟨Z0, hZ0⟩ : ∃ z, z = X % 128 + 128 := ⟨_, rfl⟩
  have g0 : bits .or .u64 (bits .and .u64 X 127) 128 % 256 = Z0 := by rw [hZ0]; exact orand _ (by omega) (by omega)
  obtain ⟨L, hL⟩ : ∃ z, z = X / 128 := ⟨_, rfl⟩
  have hL1 : 0 ≤ L ∧ L < 128 := by omega
  rw [← hZ0]
  rw [← hL]
  have HO := Lib.hid (And.intro hown hbase)
  clear hown hbase hZ0
  have hLe := hL.symm
  clear hL
  go_enter Tryz.func101, Tryz.ntmps101
  go_wp2_with (at_builtin; refine wpAppAt rfl _ _ rfl base v n xs rfl (HO.out.1.alloc _) ⟨w.heap.size, 0, none⟩ 2 2 [Z0, L] rfl rfl (new_bytes w [Z0, L] 2 rfl) (by omega) (by have := HO.out.2; simp; omega) ?_)
  intro v' w' hown' hgrow hfr
  have H1 := Lib.hid (And.intro hown' (Grw.of ((World.grownBy_alloc w _ _).trans hgrow) (hfr.elim .inl fun ⟨k, h, hk⟩ => .inr ⟨k, h, by first | omega | (simp at hk; omega)⟩)))
  clear hown' hgrow hfr
  go_wp2_with fail
  go_ret
  exact ⟨v', rfl, by simpa using H1.out.1, H1.out.2⟩
set_option maxHeartbeats 1600000 in
set_option maxRecDepth 100000 in
theorem appV_3 (base : Nat) (v : Value) (n : Nat) (xs : List Int) (X : Int) (w : World) (hn : n ≤ 900000) (hbase : base ≤ w.heap.size) (hown : w.ownsRow base 5 1 v n (xs.map (Value.int .u8))) (h0 : 16384 ≤ X) (h1 : X < 2097152) :
    Calls Tryz.prog 101 #[v, .int .u64 X] w (AV base v n xs [X % 128 + 128, X / 128 % 128 + 128, X / 16384] w) := by
  have e0 : decide (X < 128) = false := by rw [decide_eq_false_iff_not]; omega
  have e1 : decide (X < 16384) = false := by rw [decide_eq_false_iff_not]; omega
  have e2 : decide (X < 2097152) = true := by rw [decide_eq_true_iff]; omega
  obtain ⟨Z0, hZ0⟩ : ∃ z, z = X % 128 + 128 := ⟨_, rfl⟩
  have g0 : bits .or .u64 (bits .and .u64 X 127) 128 % 256 = Z0 := by rw [hZ0]; exact orand _ (by omega) (by omega)
  obtain ⟨Z1, hZ1⟩ : ∃ z, z = X / 128 % 128 + 128 := ⟨_, rfl⟩
  have g1 : bits .or .u64 (bits .and .u64 (X / 128) 127) 128 % 256 = Z1 := by rw [hZ1]; exact orand _ (by omega) (by omega)
  obtain ⟨L, hL⟩ : ∃ z, z = X / 16384 := ⟨_, rfl⟩
  have hL1 : 0 ≤ L ∧ L < 128 := by omega
  rw [← hZ0]
  rw [← hZ1]
  rw [← hL]
  have HO := Lib.hid (And.intro hown hbase)
  clear hown hbase hZ0 hZ1
  have hLe := hL.symm
  clear hL
  go_enter Tryz.func101, Tryz.ntmps101
  go_wp2_with (at_builtin; refine wpAppAt rfl _ _ rfl base v n xs rfl (HO.out.1.alloc _) ⟨w.heap.size, 0, none⟩ 3 3 [Z0, Z1, L] rfl rfl (new_bytes w [Z0, Z1, L] 3 rfl) (by omega) (by have := HO.out.2; simp; omega) ?_)
  intro v' w' hown' hgrow hfr
  have H1 := Lib.hid (And.intro hown' (Grw.of ((World.grownBy_alloc w _ _).trans hgrow) (hfr.elim .inl fun ⟨k, h, hk⟩ => .inr ⟨k, h, by first | omega | (simp at hk; omega)⟩)))
  clear hown' hgrow hfr
  go_wp2_with fail
  go_ret
  exact ⟨v', rfl, by simpa using H1.out.1, H1.out.2⟩
set_option maxHeartbeats 1600000 in
set_option maxRecDepth 100000 in
theorem appV_4 (base : Nat) (v : Value) (n : Nat) (xs : List Int) (X : Int) (w : World) (hn : n ≤ 900000) (hbase : base ≤ w.heap.size) (hown : w.ownsRow base 5 1 v n (xs.map (Value.int .u8))) (h0 : 2097152 ≤ X) (h1 : X < 268435456) :
    Calls Tryz.prog 101 #[v, .int .u64 X] w (AV base v n xs [X % 128 + 128, X / 128 % 128 + 128, X / 16384 % 128 + 128, X / 2097152] w) := by
  have e0 : decide (X < 128) = false := by rw [decide_eq_false_iff_not]; omega
  have e1 : decide (X < 16384) = false := by rw [decide_eq_false_iff_not]; omega
  have e2 : decide (X < 2097152) = false := by rw [decide_eq_false_iff_not]; omega
  have e3 : decide (X < 268435456) = true := by rw [decide_eq_true_iff]; omega
  obtain ⟨Z0, hZ0⟩ : ∃ z, z = X % 128 + 128 := ⟨_, rfl⟩
  have g0 : bits .or .u64 (bits .and .u64 X 127) 128 % 256 = Z0 := by rw [hZ0]; exact orand _ (by omega) (by omega)
  obtain ⟨Z1, hZ1⟩ : ∃ z, z = X / 128 % 128 + 128 := ⟨_, rfl⟩
  have g1 : bits .or .u64 (bits .and .u64 (X / 128) 127) 128 % 256 = Z1 := by rw [hZ1]; exact orand _ (by omega) (by omega)
  obtain ⟨Z2, hZ2⟩ : ∃ z, z = X / 16384 % 128 + 128 := ⟨_, rfl⟩
  have g2 : bits .or .u64 (bits .and .u64 (X / 16384) 127) 128 % 256 = Z2 := by rw [hZ2]; exact orand _ (by omega) (by omega)
  obtain ⟨L, hL⟩ : ∃ z, z = X / 2097152 := ⟨_, rfl⟩
  have hL1 : 0 ≤ L ∧ L < 128 := by omega
  rw [← hZ0]
  rw [← hZ1]
  rw [← hZ2]
  rw [← hL]
  have HO := Lib.hid (And.intro hown hbase)
  clear hown hbase hZ0 hZ1 hZ2
  have hLe := hL.symm
  clear hL
  go_enter Tryz.func101, Tryz.ntmps101
  go_wp2_with (at_builtin; refine wpAppAt rfl _ _ rfl base v n xs rfl (HO.out.1.alloc _) ⟨w.heap.size, 0, none⟩ 4 4 [Z0, Z1, Z2, L] rfl rfl (new_bytes w [Z0, Z1, Z2, L] 4 rfl) (by omega) (by have := HO.out.2; simp; omega) ?_)
  intro v' w' hown' hgrow hfr
  have H1 := Lib.hid (And.intro hown' (Grw.of ((World.grownBy_alloc w _ _).trans hgrow) (hfr.elim .inl fun ⟨k, h, hk⟩ => .inr ⟨k, h, by first | omega | (simp at hk; omega)⟩)))
  clear hown' hgrow hfr
  go_wp2_with fail
  go_ret
  exact ⟨v', rfl, by simpa using H1.out.1, H1.out.2⟩
set_option maxHeartbeats 1600000 in
set_option maxRecDepth 100000 in
theorem appV_5 (base : Nat) (v : Value) (n : Nat) (xs : List Int) (X : Int) (w : World) (hn : n ≤ 900000) (hbase : base ≤ w.heap.size) (hown : w.ownsRow base 5 1 v n (xs.map (Value.int .u8))) (h0 : 268435456 ≤ X) (h1 : X < 34359738368) :
    Calls Tryz.prog 101 #[v, .int .u64 X] w (AV base v n xs [X % 128 + 128, X / 128 % 128 + 128, X / 16384 % 128 + 128, X / 2097152 % 128 + 128, X / 268435456] w) := by
  have e0 : decide (X < 128) = false := by rw [decide_eq_false_iff_not]; omega
  have e1 : decide (X < 16384) = false := by rw [decide_eq_false_iff_not]; omega
  have e2 : decide (X < 2097152) = false := by rw [decide_eq_false_iff_not]; omega
  have e3 : decide (X < 268435456) = false := by rw [decide_eq_false_iff_not]; omega
  have e4 : decide (X < 34359738368) = true := by rw [decide_eq_true_iff]; omega
  obtain ⟨Z0, hZ0⟩ : ∃ z, z = X % 128 + 128 := ⟨_, rfl⟩
  have g0 : bits .or .u64 (bits .and .u64 X 127) 128 % 256 = Z0 := by rw [hZ0]; exact orand _ (by omega) (by omega)
  obtain ⟨Z1, hZ1⟩ : ∃ z, z = X / 128 % 128 + 128 := ⟨_, rfl⟩
  have g1 : bits .or .u64 (bits .and .u64 (X / 128) 127) 128 % 256 = Z1 := by rw [hZ1]; exact orand _ (by omega) (by omega)
  obtain ⟨Z2, hZ2⟩ : ∃ z, z = X / 16384 % 128 + 128 := ⟨_, rfl⟩
  have g2 : bits .or .u64 (bits .and .u64 (X / 16384) 127) 128 % 256 = Z2 := by rw [hZ2]; exact orand _ (by omega) (by omega)
  obtain ⟨Z3, hZ3⟩ : ∃ z, z = X / 2097152 % 128 + 128 := ⟨_, rfl⟩
  have g3 : bits .or .u64 (bits .and .u64 (X / 2097152) 127) 128 % 256 = Z3 := by rw [hZ3]; exact orand _ (by omega) (by omega)
  obtain ⟨L, hL⟩ : ∃ z, z = X / 268435456 := ⟨_, rfl⟩
  have hL1 : 0 ≤ L ∧ L < 128 := by omega
  rw [← hZ0]
  rw [← hZ1]
  rw [← hZ2]
  rw [← hZ3]
  rw [← hL]
  have HO := Lib.hid (And.intro hown hbase)
  clear hown hbase hZ0 hZ1 hZ2 hZ3
  have hLe := hL.symm
  clear hL
  go_enter Tryz.func101, Tryz.ntmps101
  go_wp2_with (at_builtin; refine wpAppAt rfl _ _ rfl base v n xs rfl (HO.out.1.alloc _) ⟨w.heap.size, 0, none⟩ 5 5 [Z0, Z1, Z2, Z3, L] rfl rfl (new_bytes w [Z0, Z1, Z2, Z3, L] 5 rfl) (by omega) (by have := HO.out.2; simp; omega) ?_)
  intro v' w' hown' hgrow hfr
  have H1 := Lib.hid (And.intro hown' (Grw.of ((World.grownBy_alloc w _ _).trans hgrow) (hfr.elim .inl fun ⟨k, h, hk⟩ => .inr ⟨k, h, by first | omega | (simp at hk; omega)⟩)))
  clear hown' hgrow hfr
  go_wp2_with fail
  go_ret
  exact ⟨v', rfl, by simpa using H1.out.1, H1.out.2⟩
set_option maxHeartbeats 1600000 in
set_option maxRecDepth 100000 in
theorem appV_6 (base : Nat) (v : Value) (n : Nat) (xs : List Int) (X : Int) (w : World) (hn : n ≤ 900000) (hbase : base ≤ w.heap.size) (hown : w.ownsRow base 5 1 v n (xs.map (Value.int .u8))) (h0 : 34359738368 ≤ X) (h1 : X < 4398046511104) :
    Calls Tryz.prog 101 #[v, .int .u64 X] w (AV base v n xs [X % 128 + 128, X / 128 % 128 + 128, X / 16384 % 128 + 128, X / 2097152 % 128 + 128, X / 268435456 % 128 + 128, X / 34359738368] w) := by
  have e0 : decide (X < 128) = false := by rw [decide_eq_false_iff_not]; omega
  have e1 : decide (X < 16384) = false := by rw [decide_eq_false_iff_not]; omega
  have e2 : decide (X < 2097152) = false := by rw [decide_eq_false_iff_not]; omega
  have e3 : decide (X < 268435456) = false := by rw [decide_eq_false_iff_not]; omega
  have e4 : decide (X < 34359738368) = false := by rw [decide_eq_false_iff_not]; omega
  have e5 : decide (X < 4398046511104) = true := by rw [decide_eq_true_iff]; omega
  obtain ⟨Z0, hZ0⟩ : ∃ z, z = X % 128 + 128 := ⟨_, rfl⟩
  have g0 : bits .or .u64 (bits .and .u64 X 127) 128 % 256 = Z0 := by rw [hZ0]; exact orand _ (by omega) (by omega)
  obtain ⟨Z1, hZ1⟩ : ∃ z, z = X / 128 % 128 + 128 := ⟨_, rfl⟩
  have g1 : bits .or .u64 (bits .and .u64 (X / 128) 127) 128 % 256 = Z1 := by rw [hZ1]; exact orand _ (by omega) (by omega)
  obtain ⟨Z2, hZ2⟩ : ∃ z, z = X / 16384 % 128 + 128 := ⟨_, rfl⟩
  have g2 : bits .or .u64 (bits .and .u64 (X / 16384) 127) 128 % 256 = Z2 := by rw [hZ2]; exact orand _ (by omega) (by omega)
  obtain ⟨Z3, hZ3⟩ : ∃ z, z = X / 2097152 % 128 + 128 := ⟨_, rfl⟩
  have g3 : bits .or .u64 (bits .and .u64 (X / 2097152) 127) 128 % 256 = Z3 := by rw [hZ3]; exact orand _ (by omega) (by omega)
  obtain ⟨Z4, hZ4⟩ : ∃ z, z = X / 268435456 % 128 + 128 := ⟨_, rfl⟩
  have g4 : bits .or .u64 (bits .and .u64 (X / 268435456) 127) 128 % 256 = Z4 := by rw [hZ4]; exact orand _ (by omega) (by omega)
  obtain ⟨L, hL⟩ : ∃ z, z = X / 34359738368 := ⟨_, rfl⟩
  have hL1 : 0 ≤ L ∧ L < 128 := by omega
  rw [← hZ0]
  rw [← hZ1]
  rw [← hZ2]
  rw [← hZ3]
  rw [← hZ4]
  rw [← hL]
  have HO := Lib.hid (And.intro hown hbase)
  clear hown hbase hZ0 hZ1 hZ2 hZ3 hZ4
  have hLe := hL.symm
  clear hL
  go_enter Tryz.func101, Tryz.ntmps101
  go_wp2_with (at_builtin; refine wpAppAt rfl _ _ rfl base v n xs rfl (HO.out.1.alloc _) ⟨w.heap.size, 0, none⟩ 6 6 [Z0, Z1, Z2, Z3, Z4, L] rfl rfl (new_bytes w [Z0, Z1, Z2, Z3, Z4, L] 6 rfl) (by omega) (by have := HO.out.2; simp; omega) ?_)
  intro v' w' hown' hgrow hfr
  have H1 := Lib.hid (And.intro hown' (Grw.of ((World.grownBy_alloc w _ _).trans hgrow) (hfr.elim .inl fun ⟨k, h, hk⟩ => .inr ⟨k, h, by first | omega | (simp at hk; omega)⟩)))
  clear hown' hgrow hfr
  go_wp2_with fail
  go_ret
  exact ⟨v', rfl, by simpa using H1.out.1, H1.out.2⟩
set_option maxHeartbeats 1600000 in
set_option maxRecDepth 100000 in
theorem appV_7 (base : Nat) (v : Value) (n : Nat) (xs : List Int) (X : Int) (w : World) (hn : n ≤ 900000) (hbase : base ≤ w.heap.size) (hown : w.ownsRow base 5 1 v n (xs.map (Value.int .u8))) (h0 : 4398046511104 ≤ X) (h1 : X < 562949953421312) :
    Calls Tryz.prog 101 #[v, .int .u64 X] w (AV base v n xs [X % 128 + 128, X / 128 % 128 + 128, X / 16384 % 128 + 128, X / 2097152 % 128 + 128, X / 268435456 % 128 + 128, X / 34359738368 % 128 + 128, X / 4398046511104] w) := by
  have e0 : decide (X < 128) = false := by rw [decide_eq_false_iff_not]; omega
  have e1 : decide (X < 16384) = false := by rw [decide_eq_false_iff_not]; omega
  have e2 : decide (X < 2097152) = false := by rw [decide_eq_false_iff_not]; omega
  have e3 : decide (X < 268435456) = false := by rw [decide_eq_false_iff_not]; omega
  have e4 : decide (X < 34359738368) = false := by rw [decide_eq_false_iff_not]; omega
  have e5 : decide (X < 4398046511104) = false := by rw [decide_eq_false_iff_not]; omega
  have e6 : decide (X < 562949953421312) = true := by rw [decide_eq_true_iff]; omega
  obtain ⟨Z0, hZ0⟩ : ∃ z, z = X % 128 + 128 := ⟨_, rfl⟩
  have g0 : bits .or .u64 (bits .and .u64 X 127) 128 % 256 = Z0 := by rw [hZ0]; exact orand _ (by omega) (by omega)
  obtain ⟨Z1, hZ1⟩ : ∃ z, z = X / 128 % 128 + 128 := ⟨_, rfl⟩
  have g1 : bits .or .u64 (bits .and .u64 (X / 128) 127) 128 % 256 = Z1 := by rw [hZ1]; exact orand _ (by omega) (by omega)
  obtain ⟨Z2, hZ2⟩ : ∃ z, z = X / 16384 % 128 + 128 := ⟨_, rfl⟩
  have g2 : bits .or .u64 (bits .and .u64 (X / 16384) 127) 128 % 256 = Z2 := by rw [hZ2]; exact orand _ (by omega) (by omega)
  obtain ⟨Z3, hZ3⟩ : ∃ z, z = X / 2097152 % 128 + 128 := ⟨_, rfl⟩
  have g3 : bits .or .u64 (bits .and .u64 (X / 2097152) 127) 128 % 256 = Z3 := by rw [hZ3]; exact orand _ (by omega) (by omega)
  obtain ⟨Z4, hZ4⟩ : ∃ z, z = X / 268435456 % 128 + 128 := ⟨_, rfl⟩
  have g4 : bits .or .u64 (bits .and .u64 (X / 268435456) 127) 128 % 256 = Z4 := by rw [hZ4]; exact orand _ (by omega) (by omega)
  obtain ⟨Z5, hZ5⟩ : ∃ z, z = X / 34359738368 % 128 + 128 := ⟨_, rfl⟩
  have g5 : bits .or .u64 (bits .and .u64 (X / 34359738368) 127) 128 % 256 = Z5 := by rw [hZ5]; exact orand _ (by omega) (by omega)
  obtain ⟨L, hL⟩ : ∃ z, z = X / 4398046511104 := ⟨_, rfl⟩
  have hL1 : 0 ≤ L ∧ L < 128 := by omega
  rw [← hZ0]
  rw [← hZ1]
  rw [← hZ2]
  rw [← hZ3]
  rw [← hZ4]
  rw [← hZ5]
  rw [← hL]
  have HO := Lib.hid (And.intro hown hbase)
  clear hown hbase hZ0 hZ1 hZ2 hZ3 hZ4 hZ5
  have hLe := hL.symm
  clear hL
  go_enter Tryz.func101, Tryz.ntmps101
  go_wp2_with (at_builtin; refine wpAppAt rfl _ _ rfl base v n xs rfl (HO.out.1.alloc _) ⟨w.heap.size, 0, none⟩ 7 7 [Z0, Z1, Z2, Z3, Z4, Z5, L] rfl rfl (new_bytes w [Z0, Z1, Z2, Z3, Z4, Z5, L] 7 rfl) (by omega) (by have := HO.out.2; simp; omega) ?_)
  intro v' w' hown' hgrow hfr
  have H1 := Lib.hid (And.intro hown' (Grw.of ((World.grownBy_alloc w _ _).trans hgrow) (hfr.elim .inl fun ⟨k, h, hk⟩ => .inr ⟨k, h, by first | omega | (simp at hk; omega)⟩)))
  clear hown' hgrow hfr
  go_wp2_with fail
  go_ret
  exact ⟨v', rfl, by simpa using H1.out.1, H1.out.2⟩
set_option maxHeartbeats 1600000 in
set_option maxRecDepth 100000 in
theorem appV_8 (base : Nat) (v : Value) (n : Nat) (xs : List Int) (X : Int) (w : World) (hn : n ≤ 900000) (hbase : base ≤ w.heap.size) (hown : w.ownsRow base 5 1 v n (xs.map (Value.int .u8))) (h0 : 562949953421312 ≤ X) (h1 : X < 72057594037927936) :
    Calls Tryz.prog 101 #[v, .int .u64 X] w (AV base v n xs [X % 128 + 128, X / 128 % 128 + 128, X / 16384 % 128 + 128, X / 2097152 % 128 + 128, X / 268435456 % 128 + 128, X / 34359738368 % 128 + 128, X / 4398046511104 % 128 + 128, X / 562949953421312] w) := by
  have e0 : decide (X < 128) = false := by rw [decide_eq_false_iff_not]; omega
  have e1 : decide (X < 16384) = false := by rw [decide_eq_false_iff_not]; omega
  have e2 : decide (X < 2097152) = false := by rw [decide_eq_false_iff_not]; omega
  have e3 : decide (X < 268435456) = false := by rw [decide_eq_false_iff_not]; omega
  have e4 : decide (X < 34359738368) = false := by rw [decide_eq_false_iff_not]; omega
  have e5 : decide (X < 4398046511104) = false := by rw [decide_eq_false_iff_not]; omega
  have e6 : decide (X < 562949953421312) = false := by rw [decide_eq_false_iff_not]; omega
  have e7 : decide (X < 72057594037927936) = true := by rw [decide_eq_true_iff]; omega
  obtain ⟨Z0, hZ0⟩ : ∃ z, z = X % 128 + 128 := ⟨_, rfl⟩
  have g0 : bits .or .u64 (bits .and .u64 X 127) 128 % 256 = Z0 := by rw [hZ0]; exact orand _ (by omega) (by omega)
  obtain ⟨Z1, hZ1⟩ : ∃ z, z = X / 128 % 128 + 128 := ⟨_, rfl⟩
  have g1 : bits .or .u64 (bits .and .u64 (X / 128) 127) 128 % 256 = Z1 := by rw [hZ1]; exact orand _ (by omega) (by omega)
  obtain ⟨Z2, hZ2⟩ : ∃ z, z = X / 16384 % 128 + 128 := ⟨_, rfl⟩
  have g2 : bits .or .u64 (bits .and .u64 (X / 16384) 127) 128 % 256 = Z2 := by rw [hZ2]; exact orand _ (by omega) (by omega)
  obtain ⟨Z3, hZ3⟩ : ∃ z, z = X / 2097152 % 128 + 128 := ⟨_, rfl⟩
  have g3 : bits .or .u64 (bits .and .u64 (X / 2097152) 127) 128 % 256 = Z3 := by rw [hZ3]; exact orand _ (by omega) (by omega)
  obtain ⟨Z4, hZ4⟩ : ∃ z, z = X / 268435456 % 128 + 128 := ⟨_, rfl⟩
  have g4 : bits .or .u64 (bits .and .u64 (X / 268435456) 127) 128 % 256 = Z4 := by rw [hZ4]; exact orand _ (by omega) (by omega)
  obtain ⟨Z5, hZ5⟩ : ∃ z, z = X / 34359738368 % 128 + 128 := ⟨_, rfl⟩
  have g5 : bits .or .u64 (bits .and .u64 (X / 34359738368) 127) 128 % 256 = Z5 := by rw [hZ5]; exact orand _ (by omega) (by omega)
  obtain ⟨Z6, hZ6⟩ : ∃ z, z = X / 4398046511104 % 128 + 128 := ⟨_, rfl⟩
  have g6 : bits .or .u64 (bits .and .u64 (X / 4398046511104) 127) 128 % 256 = Z6 := by rw [hZ6]; exact orand _ (by omega) (by omega)
  obtain ⟨L, hL⟩ : ∃ z, z = X / 562949953421312 := ⟨_, rfl⟩
  have hL1 : 0 ≤ L ∧ L < 128 := by omega
  rw [← hZ0]
  rw [← hZ1]
  rw [← hZ2]
  rw [← hZ3]
  rw [← hZ4]
  rw [← hZ5]
  rw [← hZ6]
  rw [← hL]
  have HO := Lib.hid (And.intro hown hbase)
  clear hown hbase hZ0 hZ1 hZ2 hZ3 hZ4 hZ5 hZ6
  have hLe := hL.symm
  clear hL
  go_enter Tryz.func101, Tryz.ntmps101
  go_wp2_with (at_builtin; refine wpAppAt rfl _ _ rfl base v n xs rfl (HO.out.1.alloc _) ⟨w.heap.size, 0, none⟩ 8 8 [Z0, Z1, Z2, Z3, Z4, Z5, Z6, L] rfl rfl (new_bytes w [Z0, Z1, Z2, Z3, Z4, Z5, Z6, L] 8 rfl) (by omega) (by have := HO.out.2; simp; omega) ?_)
  intro v' w' hown' hgrow hfr
  have H1 := Lib.hid (And.intro hown' (Grw.of ((World.grownBy_alloc w _ _).trans hgrow) (hfr.elim .inl fun ⟨k, h, hk⟩ => .inr ⟨k, h, by first | omega | (simp at hk; omega)⟩)))
  clear hown' hgrow hfr
  go_wp2_with fail
  go_ret
  exact ⟨v', rfl, by simpa using H1.out.1, H1.out.2⟩
set_option maxHeartbeats 1600000 in
set_option maxRecDepth 100000 in
theorem appV_9 (base : Nat) (v : Value) (n : Nat) (xs : List Int) (X : Int) (w : World) (hn : n ≤ 900000) (hbase : base ≤ w.heap.size) (hown : w.ownsRow base 5 1 v n (xs.map (Value.int .u8))) (h0 : 72057594037927936 ≤ X) (h1 : X < 9223372036854775808) :
    Calls Tryz.prog 101 #[v, .int .u64 X] w (AV base v n xs [X % 128 + 128, X / 128 % 128 + 128, X / 16384 % 128 + 128, X / 2097152 % 128 + 128, X / 268435456 % 128 + 128, X / 34359738368 % 128 + 128, X / 4398046511104 % 128 + 128, X / 562949953421312 % 128 + 128, X / 72057594037927936] w) := by
  have e0 : decide (X < 128) = false := by rw [decide_eq_false_iff_not]; omega
  have e1 : decide (X < 16384) = false := by rw [decide_eq_false_iff_not]; omega
  have e2 : decide (X < 2097152) = false := by rw [decide_eq_false_iff_not]; omega
  have e3 : decide (X < 268435456) = false := by rw [decide_eq_false_iff_not]; omega
  have e4 : decide (X < 34359738368) = false := by rw [decide_eq_false_iff_not]; omega
  have e5 : decide (X < 4398046511104) = false := by rw [decide_eq_false_iff_not]; omega
  have e6 : decide (X < 562949953421312) = false := by rw [decide_eq_false_iff_not]; omega
  have e7 : decide (X < 72057594037927936) = false := by rw [decide_eq_false_iff_not]; omega
  have e8 : decide (X < 9223372036854775808) = true := by rw [decide_eq_true_iff]; omega
  obtain ⟨Z0, hZ0⟩ : ∃ z, z = X % 128 + 128 := ⟨_, rfl⟩
  have g0 : bits .or .u64 (bits .and .u64 X 127) 128 % 256 = Z0 := by rw [hZ0]; exact orand _ (by omega) (by omega)
  obtain ⟨Z1, hZ1⟩ : ∃ z, z = X / 128 % 128 + 128 := ⟨_, rfl⟩
  have g1 : bits .or .u64 (bits .and .u64 (X / 128) 127) 128 % 256 = Z1 := by rw [hZ1]; exact orand _ (by omega) (by omega)
  obtain ⟨Z2, hZ2⟩ : ∃ z, z = X / 16384 % 128 + 128 := ⟨_, rfl⟩
  have g2 : bits .or .u64 (bits .and .u64 (X / 16384) 127) 128 % 256 = Z2 := by rw [hZ2]; exact orand _ (by omega) (by omega)
  obtain ⟨Z3, hZ3⟩ : ∃ z, z = X / 2097152 % 128 + 128 := ⟨_, rfl⟩
  have g3 : bits .or .u64 (bits .and .u64 (X / 2097152) 127) 128 % 256 = Z3 := by rw [hZ3]; exact orand _ (by omega) (by omega)
  obtain ⟨Z4, hZ4⟩ : ∃ z, z = X / 268435456 % 128 + 128 := ⟨_, rfl⟩
  have g4 : bits .or .u64 (bits .and .u64 (X / 268435456) 127) 128 % 256 = Z4 := by rw [hZ4]; exact orand _ (by omega) (by omega)
  obtain ⟨Z5, hZ5⟩ : ∃ z, z = X / 34359738368 % 128 + 128 := ⟨_, rfl⟩
  have g5 : bits .or .u64 (bits .and .u64 (X / 34359738368) 127) 128 % 256 = Z5 := by rw [hZ5]; exact orand _ (by omega) (by omega)
  obtain ⟨Z6, hZ6⟩ : ∃ z, z = X / 4398046511104 % 128 + 128 := ⟨_, rfl⟩
  have g6 : bits .or .u64 (bits .and .u64 (X / 4398046511104) 127) 128 % 256 = Z6 := by rw [hZ6]; exact orand _ (by omega) (by omega)
  obtain ⟨Z7, hZ7⟩ : ∃ z, z = X / 562949953421312 % 128 + 128 := ⟨_, rfl⟩
  have g7 : bits .or .u64 (bits .and .u64 (X / 562949953421312) 127) 128 % 256 = Z7 := by rw [hZ7]; exact orand _ (by omega) (by omega)
  obtain ⟨L, hL⟩ : ∃ z, z = X / 72057594037927936 := ⟨_, rfl⟩
  have hL1 : 0 ≤ L ∧ L < 128 := by omega
  rw [← hZ0]
  rw [← hZ1]
  rw [← hZ2]
  rw [← hZ3]
  rw [← hZ4]
  rw [← hZ5]
  rw [← hZ6]
  rw [← hZ7]
  rw [← hL]
  have HO := Lib.hid (And.intro hown hbase)
  clear hown hbase hZ0 hZ1 hZ2 hZ3 hZ4 hZ5 hZ6 hZ7
  have hLe := hL.symm
  clear hL
  go_enter Tryz.func101, Tryz.ntmps101
  go_wp2_with (at_builtin; refine wpAppAt rfl _ _ rfl base v n xs rfl (HO.out.1.alloc _) ⟨w.heap.size, 0, none⟩ 9 9 [Z0, Z1, Z2, Z3, Z4, Z5, Z6, Z7, L] rfl rfl (new_bytes w [Z0, Z1, Z2, Z3, Z4, Z5, Z6, Z7, L] 9 rfl) (by omega) (by have := HO.out.2; simp; omega) ?_)
  intro v' w' hown' hgrow hfr
  have H1 := Lib.hid (And.intro hown' (Grw.of ((World.grownBy_alloc w _ _).trans hgrow) (hfr.elim .inl fun ⟨k, h, hk⟩ => .inr ⟨k, h, by first | omega | (simp at hk; omega)⟩)))
  clear hown' hgrow hfr
  go_wp2_with fail
  go_ret
  exact ⟨v', rfl, by simpa using H1.out.1, H1.out.2⟩
set_option maxHeartbeats 1600000 in
set_option maxRecDepth 100000 in
theorem appV_10 (base : Nat) (v : Value) (n : Nat) (xs : List Int) (X : Int) (w : World) (hn : n ≤ 900000) (hbase : base ≤ w.heap.size) (hown : w.ownsRow base 5 1 v n (xs.map (Value.int .u8))) (h0 : 9223372036854775808 ≤ X) (h1 : X < 18446744073709551616) :
    Calls Tryz.prog 101 #[v, .int .u64 X] w (AV base v n xs [X % 128 + 128, X / 128 % 128 + 128, X / 16384 % 128 + 128, X / 2097152 % 128 + 128, X / 268435456 % 128 + 128, X / 34359738368 % 128 + 128, X / 4398046511104 % 128 + 128, X / 562949953421312 % 128 + 128, X / 72057594037927936 % 128 + 128, 1] w) := by
  have e0 : decide (X < 128) = false := by rw [decide_eq_false_iff_not]; omega
  have e1 : decide (X < 16384) = false := by rw [decide_eq_false_iff_not]; omega
  have e2 : decide (X < 2097152) = false := by rw [decide_eq_false_iff_not]; omega
  have e3 : decide (X < 268435456) = false := by rw [decide_eq_false_iff_not]; omega
  have e4 : decide (X < 34359738368) = false := by rw [decide_eq_false_iff_not]; omega
  have e5 : decide (X < 4398046511104) = false := by rw [decide_eq_false_iff_not]; omega
  have e6 : decide (X < 562949953421312) = false := by rw [decide_eq_false_iff_not]; omega
  have e7 : decide (X < 72057594037927936) = false := by rw [decide_eq_false_iff_not]; omega
  have e8 : decide (X < 9223372036854775808) = false := by rw [decide_eq_false_iff_not]; omega
  obtain ⟨Z0, hZ0⟩ : ∃ z, z = X % 128 + 128 := ⟨_, rfl⟩
  have g0 : bits .or .u64 (bits .and .u64 X 127) 128 % 256 = Z0 := by rw [hZ0]; exact orand _ (by omega) (by omega)
  obtain ⟨Z1, hZ1⟩ : ∃ z, z = X / 128 % 128 + 128 := ⟨_, rfl⟩
  have g1 : bits .or .u64 (bits .and .u64 (X / 128) 127) 128 % 256 = Z1 := by rw [hZ1]; exact orand _ (by omega) (by omega)
  obtain ⟨Z2, hZ2⟩ : ∃ z, z = X / 16384 % 128 + 128 := ⟨_, rfl⟩
  have g2 : bits .or .u64 (bits .and .u64 (X / 16384) 127) 128 % 256 = Z2 := by rw [hZ2]; exact orand _ (by omega) (by omega)
  obtain ⟨Z3, hZ3⟩ : ∃ z, z = X / 2097152 % 128 + 128 := ⟨_, rfl⟩
  have g3 : bits .or .u64 (bits .and .u64 (X / 2097152) 127) 128 % 256 = Z3 := by rw [hZ3]; exact orand _ (by omega) (by omega)
  obtain ⟨Z4, hZ4⟩ : ∃ z, z = X / 268435456 % 128 + 128 := ⟨_, rfl⟩
  have g4 : bits .or .u64 (bits .and .u64 (X / 268435456) 127) 128 % 256 = Z4 := by rw [hZ4]; exact orand _ (by omega) (by omega)
  obtain ⟨Z5, hZ5⟩ : ∃ z, z = X / 34359738368 % 128 + 128 := ⟨_, rfl⟩
  have g5 : bits .or .u64 (bits .and .u64 (X / 34359738368) 127) 128 % 256 = Z5 := by rw [hZ5]; exact orand _ (by omega) (by omega)
  obtain ⟨Z6, hZ6⟩ : ∃ z, z = X / 4398046511104 % 128 + 128 := ⟨_, rfl⟩
  have g6 : bits .or .u64 (bits .and .u64 (X / 4398046511104) 127) 128 % 256 = Z6 := by rw [hZ6]; exact orand _ (by omega) (by omega)
  obtain ⟨Z7, hZ7⟩ : ∃ z, z = X / 562949953421312 % 128 + 128 := ⟨_, rfl⟩
  have g7 : bits .or .u64 (bits .and .u64 (X / 562949953421312) 127) 128 % 256 = Z7 := by rw [hZ7]; exact orand _ (by omega) (by omega)
  obtain ⟨Z8, hZ8⟩ : ∃ z, z = X / 72057594037927936 % 128 + 128 := ⟨_, rfl⟩
  have g8 : bits .or .u64 (bits .and .u64 (X / 72057594037927936) 127) 128 % 256 = Z8 := by rw [hZ8]; exact orand _ (by omega) (by omega)
  rw [← hZ0]
  rw [← hZ1]
  rw [← hZ2]
  rw [← hZ3]
  rw [← hZ4]
  rw [← hZ5]
  rw [← hZ6]
  rw [← hZ7]
  rw [← hZ8]
  have HO := Lib.hid (And.intro hown hbase)
  clear hown hbase hZ0 hZ1 hZ2 hZ3 hZ4 hZ5 hZ6 hZ7 hZ8
  go_enter Tryz.func101, Tryz.ntmps101
  go_wp2_with (at_builtin; refine wpAppAt rfl _ _ rfl base v n xs rfl (HO.out.1.alloc _) ⟨w.heap.size, 0, none⟩ 10 10 [Z0, Z1, Z2, Z3, Z4, Z5, Z6, Z7, Z8, 1] rfl rfl (new_bytes w [Z0, Z1, Z2, Z3, Z4, Z5, Z6, Z7, Z8, 1] 10 rfl) (by omega) (by have := HO.out.2; simp; omega) ?_)
  intro v' w' hown' hgrow hfr
  have H1 := Lib.hid (And.intro hown' (Grw.of ((World.grownBy_alloc w _ _).trans hgrow) (hfr.elim .inl fun ⟨k, h, hk⟩ => .inr ⟨k, h, by first | omega | (simp at hk; omega)⟩)))
  clear hown' hgrow hfr
  go_wp2_with fail
  go_ret
  exact ⟨v', rfl, by simpa using H1.out.1, H1.out.2⟩
theorem appV (base : Nat) (v : Value) (n : Nat) (xs : List Int) (X : Int) (w : World) (hn : n ≤ 900000) (hbase : base ≤ w.heap.size) (hown : w.ownsRow base 5 1 v n (xs.map (Value.int .u8))) (h0 : 0 ≤ X) (h1 : X < 18446744073709551616) :
    Calls Tryz.prog 101 #[v, .int .u64 X] w (AV base v n xs (uv X) w) := by
  unfold uv
  split
  · exact appV_1 base v n xs X w hn hbase hown (by omega) (by omega)
  split
  · exact appV_2 base v n xs X w hn hbase hown (by omega) (by omega)
  split
  · exact appV_3 base v n xs X w hn hbase hown (by omega) (by omega)
  split
  · exact appV_4 base v n xs X w hn hbase hown (by omega) (by omega)
  split
  · exact appV_5 base v n xs X w hn hbase hown (by omega) (by omega)
  split
  · exact appV_6 base v n xs X w hn hbase hown (by omega) (by omega)
  split
  · exact appV_7 base v n xs X w hn hbase hown (by omega) (by omega)
  split
  · exact appV_8 base v n xs X w hn hbase hown (by omega) (by omega)
  split
  · exact appV_9 base v n xs X w hn hbase hown (by omega) (by omega)
  exact appV_10 base v n xs X w hn hbase hown (by omega) (by omega)
set_option maxHeartbeats 3200000 in
set_option maxRecDepth 100000 in
theorem consV_1 (b o N c : Nat) (Y0 : Int) (w : World) (hN : 1 ≤ N)  (a0 : 0 ≤ Y0) (b0 : Y0 < 128) (c0 : w.cell? ⟨b, o, none⟩ = some (.int .u8 Y0)) :
    Calls Tryz.prog 105 #[.slice (some ⟨b, o, none⟩) N c] w fun e w' => e = .returned (.tuple #[.int .u64 (Y0), .int .i64 1]) ∧ w = w' := by
  have e0 : decide (Y0 < 128) = true := by rw [decide_eq_true_iff]; omega
  have n0 : decide ((N : Int) ≤ 0) = false := by rw [decide_eq_false_iff_not]; omega
  go_enter Tryz.func105, Tryz.ntmps105
  go_wp2_with fail
  go_ret2
  exact ⟨ret2 (int_eq (by omega)) rfl, rfl⟩
set_option maxHeartbeats 3200000 in
set_option maxRecDepth 100000 in
theorem consV_2 (b o N c : Nat) (Y0 Y1 : Int) (w : World) (hN : 2 ≤ N) (a0 : 128 ≤ Y0) (b0 : Y0 < 256) (a1 : 0 ≤ Y1) (b1 : Y1 < 128) (c0 : w.cell? ⟨b, o, none⟩ = some (.int .u8 Y0)) (c1 : w.cell? ⟨b, o + 1, none⟩ = some (.int .u8 Y1)) :
    Calls Tryz.prog 105 #[.slice (some ⟨b, o, none⟩) N c] w fun e w' => e = .returned (.tuple #[.int .u64 ((Y0 - 128) + Y1 * 128), .int .i64 2]) ∧ w = w' := by
  have e0 : decide (Y0 < 128) = false := by rw [decide_eq_false_iff_not]; omega
  have n0 : decide ((N : Int) ≤ 0) = false := by rw [decide_eq_false_iff_not]; omega
  have e1 : decide (Y1 < 128) = true := by rw [decide_eq_true_iff]; omega
  have n1 : decide ((N : Int) ≤ 1) = false := by rw [decide_eq_false_iff_not]; omega
  go_enter Tryz.func105, Tryz.ntmps105
  go_wp2_with fail
  go_ret2
  exact ⟨ret2 (int_eq (by omega)) rfl, rfl⟩
set_option maxHeartbeats 3200000 in
set_option maxRecDepth 100000 in
theorem consV_3 (b o N c : Nat) (Y0 Y1 Y2 : Int) (w : World) (hN : 3 ≤ N) (a0 : 128 ≤ Y0) (b0 : Y0 < 256) (a1 : 128 ≤ Y1) (b1 : Y1 < 256) (a2 : 0 ≤ Y2) (b2 : Y2 < 128) (c0 : w.cell? ⟨b, o, none⟩ = some (.int .u8 Y0)) (c1 : w.cell? ⟨b, o + 1, none⟩ = some (.int .u8 Y1)) (c2 : w.cell? ⟨b, o + 2, none⟩ = some (.int .u8 Y2)) :
    Calls Tryz.prog 105 #[.slice (some ⟨b, o, none⟩) N c] w fun e w' => e = .returned (.tuple #[.int .u64 ((Y0 - 128) + (Y1 - 128) * 128 + Y2 * 16384), .int .i64 3]) ∧ w = w' := by
  have e0 : decide (Y0 < 128) = false := by rw [decide_eq_false_iff_not]; omega
  have n0 : decide ((N : Int) ≤ 0) = false := by rw [decide_eq_false_iff_not]; omega
  have e1 : decide (Y1 < 128) = false := by rw [decide_eq_false_iff_not]; omega
  have n1 : decide ((N : Int) ≤ 1) = false := by rw [decide_eq_false_iff_not]; omega
  have e2 : decide (Y2 < 128) = true := by rw [decide_eq_true_iff]; omega
  have n2 : decide ((N : Int) ≤ 2) = false := by rw [decide_eq_false_iff_not]; omega
  go_enter Tryz.func105, Tryz.ntmps105
  go_wp2_with fail
  go_ret2
  exact ⟨ret2 (int_eq (by omega)) rfl, rfl⟩
set_option maxHeartbeats 3200000 in
set_option maxRecDepth 100000 in
theorem consV_4 (b o N c : Nat) (Y0 Y1 Y2 Y3 : Int) (w : World) (hN : 4 ≤ N) (a0 : 128 ≤ Y0) (b0 : Y0 < 256) (a1 : 128 ≤ Y1) (b1 : Y1 < 256) (a2 : 128 ≤ Y2) (b2 : Y2 < 256) (a3 : 0 ≤ Y3) (b3 : Y3 < 128) (c0 : w.cell? ⟨b, o, none⟩ = some (.int .u8 Y0)) (c1 : w.cell? ⟨b, o + 1, none⟩ = some (.int .u8 Y1)) (c2 : w.cell? ⟨b, o + 2, none⟩ = some (.int .u8 Y2)) (c3 : w.cell? ⟨b, o + 3, none⟩ = some (.int .u8 Y3)) :
    Calls Tryz.prog 105 #[.slice (some ⟨b, o, none⟩) N c] w fun e w' => e = .returned (.tuple #[.int .u64 ((Y0 - 128) + (Y1 - 128) * 128 + (Y2 - 128) * 16384 + Y3 * 2097152), .int .i64 4]) ∧ w = w' := by
  have e0 : decide (Y0 < 128) = false := by rw [decide_eq_false_iff_not]; omega
  have n0 : decide ((N : Int) ≤ 0) = false := by rw [decide_eq_false_iff_not]; omega
  have e1 : decide (Y1 < 128) = false := by rw [decide_eq_false_iff_not]; omega
  have n1 : decide ((N : Int) ≤ 1) = false := by rw [decide_eq_false_iff_not]; omega
  have e2 : decide (Y2 < 128) = false := by rw [decide_eq_false_iff_not]; omega
  have n2 : decide ((N : Int) ≤ 2) = false := by rw [decide_eq_false_iff_not]; omega
  have e3 : decide (Y3 < 128) = true := by rw [decide_eq_true_iff]; omega
  have n3 : decide ((N : Int) ≤ 3) = false := by rw [decide_eq_false_iff_not]; omega
  go_enter Tryz.func105, Tryz.ntmps105
  go_wp2_with fail
  go_ret2
  exact ⟨ret2 (int_eq (by omega)) rfl, rfl⟩
set_option maxHeartbeats 3200000 in
set_option maxRecDepth 100000 in
theorem consV_5 (b o N c : Nat) (Y0 Y1 Y2 Y3 Y4 : Int) (w : World) (hN : 5 ≤ N) (a0 : 128 ≤ Y0) (b0 : Y0 < 256) (a1 : 128 ≤ Y1) (b1 : Y1 < 256) (a2 : 128 ≤ Y2) (b2 : Y2 < 256) (a3 : 128 ≤ Y3) (b3 : Y3 < 256) (a4 : 0 ≤ Y4) (b4 : Y4 < 128) (c0 : w.cell? ⟨b, o, none⟩ = some (.int .u8 Y0)) (c1 : w.cell? ⟨b, o + 1, none⟩ = some (.int .u8 Y1)) (c2 : w.cell? ⟨b, o + 2, none⟩ = some (.int .u8 Y2)) (c3 : w.cell? ⟨b, o + 3, none⟩ = some (.int .u8 Y3)) (c4 : w.cell? ⟨b, o + 4, none⟩ = some (.int .u8 Y4)) :
    Calls Tryz.prog 105 #[.slice (some ⟨b, o, none⟩) N c] w fun e w' => e = .returned (.tuple #[.int .u64 ((Y0 - 128) + (Y1 - 128) * 128 + (Y2 - 128) * 16384 + (Y3 - 128) * 2097152 + Y4 * 268435456), .int .i64 5]) ∧ w = w' := by
  have e0 : decide (Y0 < 128) = false := by rw [decide_eq_false_iff_not]; omega
  have n0 : decide ((N : Int) ≤ 0) = false := by rw [decide_eq_false_iff_not]; omega
  have e1 : decide (Y1 < 128) = false := by rw [decide_eq_false_iff_not]; omega
  have n1 : decide ((N : Int) ≤ 1) = false := by rw [decide_eq_false_iff_not]; omega
  have e2 : decide (Y2 < 128) = false := by rw [decide_eq_false_iff_not]; omega
  have n2 : decide ((N : Int) ≤ 2) = false := by rw [decide_eq_false_iff_not]; omega
  have e3 : decide (Y3 < 128) = false := by rw [decide_eq_false_iff_not]; omega
  have n3 : decide ((N : Int) ≤ 3) = false := by rw [decide_eq_false_iff_not]; omega
  have e4 : decide (Y4 < 128) = true := by rw [decide_eq_true_iff]; omega
  have n4 : decide ((N : Int) ≤ 4) = false := by rw [decide_eq_false_iff_not]; omega
  go_enter Tryz.func105, Tryz.ntmps105
  go_wp2_with fail
  go_ret2
  exact ⟨ret2 (int_eq (by omega)) rfl, rfl⟩
set_option maxHeartbeats 3200000 in
set_option maxRecDepth 100000 in
theorem consV_6 (b o N c : Nat) (Y0 Y1 Y2 Y3 Y4 Y5 : Int) (w : World) (hN : 6 ≤ N) (a0 : 128 ≤ Y0) (b0 : Y0 < 256) (a1 : 128 ≤ Y1) (b1 : Y1 < 256) (a2 : 128 ≤ Y2) (b2 : Y2 < 256) (a3 : 128 ≤ Y3) (b3 : Y3 < 256) (a4 : 128 ≤ Y4) (b4 : Y4 < 256) (a5 : 0 ≤ Y5) (b5 : Y5 < 128) (c0 : w.cell? ⟨b, o, none⟩ = some (.int .u8 Y0)) (c1 : w.cell? ⟨b, o + 1, none⟩ = some (.int .u8 Y1)) (c2 : w.cell? ⟨b, o + 2, none⟩ = some (.int .u8 Y2)) (c3 : w.cell? ⟨b, o + 3, none⟩ = some (.int .u8 Y3)) (c4 : w.cell? ⟨b, o + 4, none⟩ = some (.int .u8 Y4)) (c5 : w.cell? ⟨b, o + 5, none⟩ = some (.int .u8 Y5)) :
    Calls Tryz.prog 105 #[.slice (some ⟨b, o, none⟩) N c] w fun e w' => e = .returned (.tuple #[.int .u64 ((Y0 - 128) + (Y1 - 128) * 128 + (Y2 - 128) * 16384 + (Y3 - 128) * 2097152 + (Y4 - 128) * 268435456 + Y5 * 34359738368), .int .i64 6]) ∧ w = w' := by
  have e0 : decide (Y0 < 128) = false := by rw [decide_eq_false_iff_not]; omega
  have n0 : decide ((N : Int) ≤ 0) = false := by rw [decide_eq_false_iff_not]; omega
  have e1 : decide (Y1 < 128) = false := by rw [decide_eq_false_iff_not]; omega
  have n1 : decide ((N : Int) ≤ 1) = false := by rw [decide_eq_false_iff_not]; omega
  have e2 : decide (Y2 < 128) = false := by rw [decide_eq_false_iff_not]; omega
  have n2 : decide ((N : Int) ≤ 2) = false := by rw [decide_eq_false_iff_not]; omega
  have e3 : decide (Y3 < 128) = false := by rw [decide_eq_false_iff_not]; omega
  have n3 : decide ((N : Int) ≤ 3) = false := by rw [decide_eq_false_iff_not]; omega
  have e4 : decide (Y4 < 128) = false := by rw [decide_eq_false_iff_not]; omega
  have n4 : decide ((N : Int) ≤ 4) = false := by rw [decide_eq_false_iff_not]; omega
  have e5 : decide (Y5 < 128) = true := by rw [decide_eq_true_iff]; omega
  have n5 : decide ((N : Int) ≤ 5) = false := by rw [decide_eq_false_iff_not]; omega
  go_enter Tryz.func105, Tryz.ntmps105
  go_wp2_with fail
  go_ret2
  exact ⟨ret2 (int_eq (by omega)) rfl, rfl⟩
set_option maxHeartbeats 3200000 in
set_option maxRecDepth 100000 in
theorem consV_7 (b o N c : Nat) (Y0 Y1 Y2 Y3 Y4 Y5 Y6 : Int) (w : World) (hN : 7 ≤ N) (a0 : 128 ≤ Y0) (b0 : Y0 < 256) (a1 : 128 ≤ Y1) (b1 : Y1 < 256) (a2 : 128 ≤ Y2) (b2 : Y2 < 256) (a3 : 128 ≤ Y3) (b3 : Y3 < 256) (a4 : 128 ≤ Y4) (b4 : Y4 < 256) (a5 : 128 ≤ Y5) (b5 : Y5 < 256) (a6 : 0 ≤ Y6) (b6 : Y6 < 128) (c0 : w.cell? ⟨b, o, none⟩ = some (.int .u8 Y0)) (c1 : w.cell? ⟨b, o + 1, none⟩ = some (.int .u8 Y1)) (c2 : w.cell? ⟨b, o + 2, none⟩ = some (.int .u8 Y2)) (c3 : w.cell? ⟨b, o + 3, none⟩ = some (.int .u8 Y3)) (c4 : w.cell? ⟨b, o + 4, none⟩ = some (.int .u8 Y4)) (c5 : w.cell? ⟨b, o + 5, none⟩ = some (.int .u8 Y5)) (c6 : w.cell? ⟨b, o + 6, none⟩ = some (.int .u8 Y6)) :
    Calls Tryz.prog 105 #[.slice (some ⟨b, o, none⟩) N c] w fun e w' => e = .returned (.tuple #[.int .u64 ((Y0 - 128) + (Y1 - 128) * 128 + (Y2 - 128) * 16384 + (Y3 - 128) * 2097152 + (Y4 - 128) * 268435456 + (Y5 - 128) * 34359738368 + Y6 * 4398046511104), .int .i64 7]) ∧ w = w' := by
  have e0 : decide (Y0 < 128) = false := by rw [decide_eq_false_iff_not]; omega
  have n0 : decide ((N : Int) ≤ 0) = false := by rw [decide_eq_false_iff_not]; omega
  have e1 : decide (Y1 < 128) = false := by rw [decide_eq_false_iff_not]; omega
  have n1 : decide ((N : Int) ≤ 1) = false := by rw [decide_eq_false_iff_not]; omega
  have e2 : decide (Y2 < 128) = false := by rw [decide_eq_false_iff_not]; omega
  have n2 : decide ((N : Int) ≤ 2) = false := by rw [decide_eq_false_iff_not]; omega
  have e3 : decide (Y3 < 128) = false := by rw [decide_eq_false_iff_not]; omega
  have n3 : decide ((N : Int) ≤ 3) = false := by rw [decide_eq_false_iff_not]; omega
  have e4 : decide (Y4 < 128) = false := by rw [decide_eq_false_iff_not]; omega
  have n4 : decide ((N : Int) ≤ 4) = false := by rw [decide_eq_false_iff_not]; omega
  have e5 : decide (Y5 < 128) = false := by rw [decide_eq_false_iff_not]; omega
  have n5 : decide ((N : Int) ≤ 5) = false := by rw [decide_eq_false_iff_not]; omega
  have e6 : decide (Y6 < 128) = true := by rw [decide_eq_true_iff]; omega
  have n6 : decide ((N : Int) ≤ 6) = false := by rw [decide_eq_false_iff_not]; omega
  go_enter Tryz.func105, Tryz.ntmps105
  go_wp2_with fail
  go_ret2
  exact ⟨ret2 (int_eq (by omega)) rfl, rfl⟩
set_option maxHeartbeats 3200000 in
set_option maxRecDepth 100000 in
theorem consV_8 (b o N c : Nat) (Y0 Y1 Y2 Y3 Y4 Y5 Y6 Y7 : Int) (w : World) (hN : 8 ≤ N) (a0 : 128 ≤ Y0) (b0 : Y0 < 256) (a1 : 128 ≤ Y1) (b1 : Y1 < 256) (a2 : 128 ≤ Y2) (b2 : Y2 < 256) (a3 : 128 ≤ Y3) (b3 : Y3 < 256) (a4 : 128 ≤ Y4) (b4 : Y4 < 256) (a5 : 128 ≤ Y5) (b5 : Y5 < 256) (a6 : 128 ≤ Y6) (b6 : Y6 < 256) (a7 : 0 ≤ Y7) (b7 : Y7 < 128) (c0 : w.cell? ⟨b, o, none⟩ = some (.int .u8 Y0)) (c1 : w.cell? ⟨b, o + 1, none⟩ = some (.int .u8 Y1)) (c2 : w.cell? ⟨b, o + 2, none⟩ = some (.int .u8 Y2)) (c3 : w.cell? ⟨b, o + 3, none⟩ = some (.int .u8 Y3)) (c4 : w.cell? ⟨b, o + 4, none⟩ = some (.int .u8 Y4)) (c5 : w.cell? ⟨b, o + 5, none⟩ = some (.int .u8 Y5)) (c6 : w.cell? ⟨b, o + 6, none⟩ = some (.int .u8 Y6)) (c7 : w.cell? ⟨b, o + 7, none⟩ = some (.int .u8 Y7)) :
    Calls Tryz.prog 105 #[.slice (some ⟨b, o, none⟩) N c] w fun e w' => e = .returned (.tuple #[.int .u64 ((Y0 - 128) + (Y1 - 128) * 128 + (Y2 - 128) * 16384 + (Y3 - 128) * 2097152 + (Y4 - 128) * 268435456 + (Y5 - 128) * 34359738368 + (Y6 - 128) * 4398046511104 + Y7 * 562949953421312), .int .i64 8]) ∧ w = w' := by
  have e0 : decide (Y0 < 128) = false := by rw [decide_eq_false_iff_not]; omega
  have n0 : decide ((N : Int) ≤ 0) = false := by rw [decide_eq_false_iff_not]; omega
  have e1 : decide (Y1 < 128) = false := by rw [decide_eq_false_iff_not]; omega
  have n1 : decide ((N : Int) ≤ 1) = false := by rw [decide_eq_false_iff_not]; omega
  have e2 : decide (Y2 < 128) = false := by rw [decide_eq_false_iff_not]; omega
  have n2 : decide ((N : Int) ≤ 2) = false := by rw [decide_eq_false_iff_not]; omega
  have e3 : decide (Y3 < 128) = false := by rw [decide_eq_false_iff_not]; omega
  have n3 : decide ((N : Int) ≤ 3) = false := by rw [decide_eq_false_iff_not]; omega
  have e4 : decide (Y4 < 128) = false := by rw [decide_eq_false_iff_not]; omega
  have n4 : decide ((N : Int) ≤ 4) = false := by rw [decide_eq_false_iff_not]; omega
  have e5 : decide (Y5 < 128) = false := by rw [decide_eq_false_iff_not]; omega
  have n5 : decide ((N : Int) ≤ 5) = false := by rw [decide_eq_false_iff_not]; omega
  have e6 : decide (Y6 < 128) = false := by rw [decide_eq_false_iff_not]; omega
  have n6 : decide ((N : Int) ≤ 6) = false := by rw [decide_eq_false_iff_not]; omega
  have e7 : decide (Y7 < 128) = true := by rw [decide_eq_true_iff]; omega
  have n7 : decide ((N : Int) ≤ 7) = false := by rw [decide_eq_false_iff_not]; omega
  go_enter Tryz.func105, Tryz.ntmps105
  go_wp2_with fail
  go_ret2
  exact ⟨ret2 (int_eq (by omega)) rfl, rfl⟩
set_option maxHeartbeats 3200000 in
set_option maxRecDepth 100000 in
theorem consV_9 (b o N c : Nat) (Y0 Y1 Y2 Y3 Y4 Y5 Y6 Y7 Y8 : Int) (w : World) (hN : 9 ≤ N) (a0 : 128 ≤ Y0) (b0 : Y0 < 256) (a1 : 128 ≤ Y1) (b1 : Y1 < 256) (a2 : 128 ≤ Y2) (b2 : Y2 < 256) (a3 : 128 ≤ Y3) (b3 : Y3 < 256) (a4 : 128 ≤ Y4) (b4 : Y4 < 256) (a5 : 128 ≤ Y5) (b5 : Y5 < 256) (a6 : 128 ≤ Y6) (b6 : Y6 < 256) (a7 : 128 ≤ Y7) (b7 : Y7 < 256) (a8 : 0 ≤ Y8) (b8 : Y8 < 128) (c0 : w.cell? ⟨b, o, none⟩ = some (.int .u8 Y0)) (c1 : w.cell? ⟨b, o + 1, none⟩ = some (.int .u8 Y1)) (c2 : w.cell? ⟨b, o + 2, none⟩ = some (.int .u8 Y2)) (c3 : w.cell? ⟨b, o + 3, none⟩ = some (.int .u8 Y3)) (c4 : w.cell? ⟨b, o + 4, none⟩ = some (.int .u8 Y4)) (c5 : w.cell? ⟨b, o + 5, none⟩ = some (.int .u8 Y5)) (c6 : w.cell? ⟨b, o + 6, none⟩ = some (.int .u8 Y6)) (c7 : w.cell? ⟨b, o + 7, none⟩ = some (.int .u8 Y7)) (c8 : w.cell? ⟨b, o + 8, none⟩ = some (.int .u8 Y8)) :
    Calls Tryz.prog 105 #[.slice (some ⟨b, o, none⟩) N c] w fun e w' => e = .returned (.tuple #[.int .u64 ((Y0 - 128) + (Y1 - 128) * 128 + (Y2 - 128) * 16384 + (Y3 - 128) * 2097152 + (Y4 - 128) * 268435456 + (Y5 - 128) * 34359738368 + (Y6 - 128) * 4398046511104 + (Y7 - 128) * 562949953421312 + Y8 * 72057594037927936), .int .i64 9]) ∧ w = w' := by
  have e0 : decide (Y0 < 128) = false := by rw [decide_eq_false_iff_not]; omega
  have n0 : decide ((N : Int) ≤ 0) = false := by rw [decide_eq_false_iff_not]; omega
  have e1 : decide (Y1 < 128) = false := by rw [decide_eq_false_iff_not]; omega
  have n1 : decide ((N : Int) ≤ 1) = false := by rw [decide_eq_false_iff_not]; omega
  have e2 : decide (Y2 < 128) = false := by rw [decide_eq_false_iff_not]; omega
  have n2 : decide ((N : Int) ≤ 2) = false := by rw [decide_eq_false_iff_not]; omega
  have e3 : decide (Y3 < 128) = false := by rw [decide_eq_false_iff_not]; omega
  have n3 : decide ((N : Int) ≤ 3) = false := by rw [decide_eq_false_iff_not]; omega
  have e4 : decide (Y4 < 128) = false := by rw [decide_eq_false_iff_not]; omega
  have n4 : decide ((N : Int) ≤ 4) = false := by rw [decide_eq_false_iff_not]; omega
  have e5 : decide (Y5 < 128) = false := by rw [decide_eq_false_iff_not]; omega
  have n5 : decide ((N : Int) ≤ 5) = false := by rw [decide_eq_false_iff_not]; omega
  have e6 : decide (Y6 < 128) = false := by rw [decide_eq_false_iff_not]; omega
  have n6 : decide ((N : Int) ≤ 6) = false := by rw [decide_eq_false_iff_not]; omega
  have e7 : decide (Y7 < 128) = false := by rw [decide_eq_false_iff_not]; omega
  have n7 : decide ((N : Int) ≤ 7) = false := by rw [decide_eq_false_iff_not]; omega
  have e8 : decide (Y8 < 128) = true := by rw [decide_eq_true_iff]; omega
  have n8 : decide ((N : Int) ≤ 8) = false := by rw [decide_eq_false_iff_not]; omega
  go_enter Tryz.func105, Tryz.ntmps105
  go_wp2_with fail
  go_ret2
  exact ⟨ret2 (int_eq (by omega)) rfl, rfl⟩
set_option maxHeartbeats 3200000 in
set_option maxRecDepth 100000 in
theorem consV_10 (b o N c : Nat) (Y0 Y1 Y2 Y3 Y4 Y5 Y6 Y7 Y8 Y9 : Int) (w : World) (hN : 10 ≤ N) (a0 : 128 ≤ Y0) (b0 : Y0 < 256) (a1 : 128 ≤ Y1) (b1 : Y1 < 256) (a2 : 128 ≤ Y2) (b2 : Y2 < 256) (a3 : 128 ≤ Y3) (b3 : Y3 < 256) (a4 : 128 ≤ Y4) (b4 : Y4 < 256) (a5 : 128 ≤ Y5) (b5 : Y5 < 256) (a6 : 128 ≤ Y6) (b6 : Y6 < 256) (a7 : 128 ≤ Y7) (b7 : Y7 < 256) (a8 : 128 ≤ Y8) (b8 : Y8 < 256) (a9 : 0 ≤ Y9) (b9 : Y9 < 2) (c0 : w.cell? ⟨b, o, none⟩ = some (.int .u8 Y0)) (c1 : w.cell? ⟨b, o + 1, none⟩ = some (.int .u8 Y1)) (c2 : w.cell? ⟨b, o + 2, none⟩ = some (.int .u8 Y2)) (c3 : w.cell? ⟨b, o + 3, none⟩ = some (.int .u8 Y3)) (c4 : w.cell? ⟨b, o + 4, none⟩ = some (.int .u8 Y4)) (c5 : w.cell? ⟨b, o + 5, none⟩ = some (.int .u8 Y5)) (c6 : w.cell? ⟨b, o + 6, none⟩ = some (.int .u8 Y6)) (c7 : w.cell? ⟨b, o + 7, none⟩ = some (.int .u8 Y7)) (c8 : w.cell? ⟨b, o + 8, none⟩ = some (.int .u8 Y8)) (c9 : w.cell? ⟨b, o + 9, none⟩ = some (.int .u8 Y9)) :
    Calls Tryz.prog 105 #[.slice (some ⟨b, o, none⟩) N c] w fun e w' => e = .returned (.tuple #[.int .u64 ((Y0 - 128) + (Y1 - 128) * 128 + (Y2 - 128) * 16384 + (Y3 - 128) * 2097152 + (Y4 - 128) * 268435456 + (Y5 - 128) * 34359738368 + (Y6 - 128) * 4398046511104 + (Y7 - 128) * 562949953421312 + (Y8 - 128) * 72057594037927936 + Y9 * 9223372036854775808), .int .i64 10]) ∧ w = w' := by
  have e0 : decide (Y0 < 128) = false := by rw [decide_eq_false_iff_not]; omega
  have n0 : decide ((N : Int) ≤ 0) = false := by rw [decide_eq_false_iff_not]; omega
  have e1 : decide (Y1 < 128) = false := by rw [decide_eq_false_iff_not]; omega
  have n1 : decide ((N : Int) ≤ 1) = false := by rw [decide_eq_false_iff_not]; omega
  have e2 : decide (Y2 < 128) = false := by rw [decide_eq_false_iff_not]; omega
  have n2 : decide ((N : Int) ≤ 2) = false := by rw [decide_eq_false_iff_not]; omega
  have e3 : decide (Y3 < 128) = false := by rw [decide_eq_false_iff_not]; omega
  have n3 : decide ((N : Int) ≤ 3) = false := by rw [decide_eq_false_iff_not]; omega
  have e4 : decide (Y4 < 128) = false := by rw [decide_eq_false_iff_not]; omega
  have n4 : decide ((N : Int) ≤ 4) = false := by rw [decide_eq_false_iff_not]; omega
  have e5 : decide (Y5 < 128) = false := by rw [decide_eq_false_iff_not]; omega
  have n5 : decide ((N : Int) ≤ 5) = false := by rw [decide_eq_false_iff_not]; omega
  have e6 : decide (Y6 < 128) = false := by rw [decide_eq_false_iff_not]; omega
  have n6 : decide ((N : Int) ≤ 6) = false := by rw [decide_eq_false_iff_not]; omega
  have e7 : decide (Y7 < 128) = false := by rw [decide_eq_false_iff_not]; omega
  have n7 : decide ((N : Int) ≤ 7) = false := by rw [decide_eq_false_iff_not]; omega
  have e8 : decide (Y8 < 128) = false := by rw [decide_eq_false_iff_not]; omega
  have n8 : decide ((N : Int) ≤ 8) = false := by rw [decide_eq_false_iff_not]; omega
  have e9 : decide (Y9 < 2) = true := by rw [decide_eq_true_iff]; omega
  have n9 : decide ((N : Int) ≤ 9) = false := by rw [decide_eq_false_iff_not]; omega
  go_enter Tryz.func105, Tryz.ntmps105
  go_wp2_with fail
  go_ret2
  exact ⟨ret2 (int_eq (by omega)) rfl, rfl⟩
end Go.Proofs.YtapkmoakbfpkeaaGreatDoor
namespace Go.Proofs.YtapkmoakbfpkeaaGreatDoor
open Go Go.RowKit Go.Proofs Go.Sort
theorem consU_1 (X : Int) (h0 : 0 ≤ X) (h1 : X < 128) (rest : List Int) (b o N c : Nat) (w : World) (hN : 1 ≤ N) (hb : Bs w b o ([X] ++ rest)) :
    Calls Tryz.prog 105 #[.slice (some ⟨b, o, none⟩) N c] w fun e w' => e = .returned (.tuple #[.int .u64 X, .int .i64 1]) ∧ w = w' := by
  refine (consV_1 b o N c (X) w hN (by omega) (by omega) (by have := hb 0 (by simp); simpa using this)).mono fun e w' ⟨he, hw⟩ => ⟨he.trans (ret2 (int_eq ?_) rfl), hw⟩
  rfl
theorem consU_2 (X : Int) (h0 : 128 ≤ X) (h1 : X < 16384) (rest : List Int) (b o N c : Nat) (w : World) (hN : 2 ≤ N) (hb : Bs w b o ([X % 128 + 128, X / 128] ++ rest)) :
    Calls Tryz.prog 105 #[.slice (some ⟨b, o, none⟩) N c] w fun e w' => e = .returned (.tuple #[.int .u64 X, .int .i64 2]) ∧ w = w' := by
  refine (consV_2 b o N c (X % 128 + 128) (X / 128) w hN (by omega) (by omega) (by omega) (by omega) (by have := hb 0 (by simp); simpa using this) (by have := hb 1 (by simp); simpa using this)).mono fun e w' ⟨he, hw⟩ => ⟨he.trans (ret2 (int_eq ?_) rfl), hw⟩
  obtain ⟨q1, hq1⟩ : ∃ q, q = X / 128 := ⟨_, rfl⟩
  have m0 : X % 128 = X - 128 * q1 := by omega
  rw [m0, ← hq1]
  clear hq1 m0 h0 h1
  omega
theorem consU_3 (X : Int) (h0 : 16384 ≤ X) (h1 : X < 2097152) (rest : List Int) (b o N c : Nat) (w : World) (hN : 3 ≤ N) (hb : Bs w b o ([X % 128 + 128, X / 128 % 128 + 128, X / 16384] ++ rest)) :
    Calls Tryz.prog 105 #[.slice (some ⟨b, o, none⟩) N c] w fun e w' => e = .returned (.tuple #[.int .u64 X, .int .i64 3]) ∧ w = w' := by
  refine (consV_3 b o N c (X % 128 + 128) (X / 128 % 128 + 128) (X / 16384) w hN (by omega) (by omega) (by omega) (by omega) (by omega) (by omega) (by have := hb 0 (by simp); simpa using this) (by have := hb 1 (by simp); simpa using this) (by have := hb 2 (by simp); simpa using this)).mono fun e w' ⟨he, hw⟩ => ⟨he.trans (ret2 (int_eq ?_) rfl), hw⟩
  obtain ⟨q1, hq1⟩ : ∃ q, q = X / 128 := ⟨_, rfl⟩
  obtain ⟨q2, hq2⟩ : ∃ q, q = X / 16384 := ⟨_, rfl⟩
  have m0 : X % 128 = X - 128 * q1 := by omega
  have m1 : X / 128 % 128 = q1 - 128 * q2 := by rw [← hq1]; have : q1 / 128 = q2 := (by rw [hq1, hq2]; omega); omega
  rw [m0, m1, ← hq2]
  clear hq1 m0 hq2 m1 h0 h1
  omega
theorem consU_4 (X : Int) (h0 : 2097152 ≤ X) (h1 : X < 268435456) (rest : List Int) (b o N c : Nat) (w : World) (hN : 4 ≤ N) (hb : Bs w b o ([X % 128 + 128, X / 128 % 128 + 128, X / 16384 % 128 + 128, X / 2097152] ++ rest)) :
    Calls Tryz.prog 105 #[.slice (some ⟨b, o, none⟩) N c] w fun e w' => e = .returned (.tuple #[.int .u64 X, .int .i64 4]) ∧ w = w' := by
  refine (consV_4 b o N c (X % 128 + 128) (X / 128 % 128 + 128) (X / 16384 % 128 + 128) (X / 2097152) w hN (by omega) (by omega) (by omega) (by omega) (by omega) (by omega) (by omega) (by omega) (by have := hb 0 (by simp); simpa using this) (by have := hb 1 (by simp); simpa using this) (by have := hb 2 (by simp); simpa using this) (by have := hb 3 (by simp); simpa using this)).mono fun e w' ⟨he, hw⟩ => ⟨he.trans (ret2 (int_eq ?_) rfl), hw⟩
  obtain ⟨q1, hq1⟩ : ∃ q, q = X / 128 := ⟨_, rfl⟩
  obtain ⟨q2, hq2⟩ : ∃ q, q = X / 16384 := ⟨_, rfl⟩
  obtain ⟨q3, hq3⟩ : ∃ q, q = X / 2097152 := ⟨_, rfl⟩
  have m0 : X % 128 = X - 128 * q1 := by omega
  have m1 : X / 128 % 128 = q1 - 128 * q2 := by rw [← hq1]; have : q1 / 128 = q2 := (by rw [hq1, hq2]; omega); omega
  have m2 : X / 16384 % 128 = q2 - 128 * q3 := by rw [← hq2]; have : q2 / 128 = q3 := (by rw [hq2, hq3]; omega); omega
  rw [m0, m1, m2, ← hq3]
  clear hq1 m0 hq2 m1 hq3 m2 h0 h1
  omega
theorem consU_5 (X : Int) (h0 : 268435456 ≤ X) (h1 : X < 34359738368) (rest : List Int) (b o N c : Nat) (w : World) (hN : 5 ≤ N) (hb : Bs w b o ([X % 128 + 128, X / 128 % 128 + 128, X / 16384 % 128 + 128, X / 2097152 % 128 + 128, X / 268435456] ++ rest)) :
    Calls Tryz.prog 105 #[.slice (some ⟨b, o, none⟩) N c] w fun e w' => e = .returned (.tuple #[.int .u64 X, .int .i64 5]) ∧ w = w' := by
  refine (consV_5 b o N c (X % 128 + 128) (X / 128 % 128 + 128) (X / 16384 % 128 + 128) (X / 2097152 % 128 + 128) (X / 268435456) w hN (by omega) (by omega) (by omega) (by omega) (by omega) (by omega) (by omega) (by omega) (by omega) (by omega) (by have := hb 0 (by simp); simpa using this) (by have := hb 1 (by simp); simpa using this) (by have := hb 2 (by simp); simpa using this) (by have := hb 3 (by simp); simpa using this) (by have := hb 4 (by simp); simpa using this)).mono fun e w' ⟨he, hw⟩ => ⟨he.trans (ret2 (int_eq ?_) rfl), hw⟩
  obtain ⟨q1, hq1⟩ : ∃ q, q = X / 128 := ⟨_, rfl⟩
  obtain ⟨q2, hq2⟩ : ∃ q, q = X / 16384 := ⟨_, rfl⟩
  obtain ⟨q3, hq3⟩ : ∃ q, q = X / 2097152 := ⟨_, rfl⟩
  obtain ⟨q4, hq4⟩ : ∃ q, q = X / 268435456 := ⟨_, rfl⟩
  have m0 : X % 128 = X - 128 * q1 := by omega
  have m1 : X / 128 % 128 = q1 - 128 * q2 := by rw [← hq1]; have : q1 / 128 = q2 := (by rw [hq1, hq2]; omega); omega
  have m2 : X / 16384 % 128 = q2 - 128 * q3 := by rw [← hq2]; have : q2 / 128 = q3 := (by rw [hq2, hq3]; omega); omega
  have m3 : X / 2097152 % 128 = q3 - 128 * q4 := by rw [← hq3]; have : q3 / 128 = q4 := (by rw [hq3, hq4]; omega); omega
  rw [m0, m1, m2, m3, ← hq4]
  clear hq1 m0 hq2 m1 hq3 m2 hq4 m3 h0 h1
  omega
theorem consU_6 (X : Int) (h0 : 34359738368 ≤ X) (h1 : X < 4398046511104) (rest : List Int) (b o N c : Nat) (w : World) (hN : 6 ≤ N) (hb : Bs w b o ([X % 128 + 128, X / 128 % 128 + 128, X / 16384 % 128 + 128, X / 2097152 % 128 + 128, X / 268435456 % 128 + 128, X / 34359738368] ++ rest)) :
    Calls Tryz.prog 105 #[.slice (some ⟨b, o, none⟩) N c] w fun e w' => e = .returned (.tuple #[.int .u64 X, .int .i64 6]) ∧ w = w' := by
  refine (consV_6 b o N c (X % 128 + 128) (X / 128 % 128 + 128) (X / 16384 % 128 + 128) (X / 2097152 % 128 + 128) (X / 268435456 % 128 + 128) (X / 34359738368) w hN (by omega) (by omega) (by omega) (by omega) (by omega) (by omega) (by omega) (by omega) (by omega) (by omega) (by omega) (by omega) (by have := hb 0 (by simp); simpa using this) (by have := hb 1 (by simp); simpa using this) (by have := hb 2 (by simp); simpa using this) (by have := hb 3 (by simp); simpa using this) (by have := hb 4 (by simp); simpa using this) (by have := hb 5 (by simp); simpa using this)).mono fun e w' ⟨he, hw⟩ => ⟨he.trans (ret2 (int_eq ?_) rfl), hw⟩
  obtain ⟨q1, hq1⟩ : ∃ q, q = X / 128 := ⟨_, rfl⟩
  obtain ⟨q2, hq2⟩ : ∃ q, q = X / 16384 := ⟨_, rfl⟩
  obtain ⟨q3, hq3⟩ : ∃ q, q = X / 2097152 := ⟨_, rfl⟩
  obtain ⟨q4, hq4⟩ : ∃ q, q = X / 268435456 := ⟨_, rfl⟩
  obtain ⟨q5, hq5⟩ : ∃ q, q = X / 34359738368 := ⟨_, rfl⟩
  have m0 : X % 128 = X - 128 * q1 := by omega
  have m1 : X / 128 % 128 = q1 - 128 * q2 := by rw [← hq1]; have : q1 / 128 = q2 := (by rw [hq1, hq2]; omega); omega
  have m2 : X / 16384 % 128 = q2 - 128 * q3 := by rw [← hq2]; have : q2 / 128 = q3 := (by rw [hq2, hq3]; omega); omega
  have m3 : X / 2097152 % 128 = q3 - 128 * q4 := by rw [← hq3]; have : q3 / 128 = q4 := (by rw [hq3, hq4]; omega); omega
  have m4 : X / 268435456 % 128 = q4 - 128 * q5 := by rw [← hq4]; have : q4 / 128 = q5 := (by rw [hq4, hq5]; omega); omega
  rw [m0, m1, m2, m3, m4, ← hq5]
  clear hq1 m0 hq2 m1 hq3 m2 hq4 m3 hq5 m4 h0 h1
  omega
theorem consU_7 (X : Int) (h0 : 4398046511104 ≤ X) (h1 : X < 562949953421312) (rest : List Int) (b o N c : Nat) (w : World) (hN : 7 ≤ N) (hb : Bs w b o ([X % 128 + 128, X / 128 % 128 + 128, X / 16384 % 128 + 128, X / 2097152 % 128 + 128, X / 268435456 % 128 + 128, X / 34359738368 % 128 + 128, X / 4398046511104] ++ rest)) :
    Calls Tryz.prog 105 #[.slice (some ⟨b, o, none⟩) N c] w fun e w' => e = .returned (.tuple #[.int .u64 X, .int .i64 7]) ∧ w = w' := by
  refine (consV_7 b o N c (X % 128 + 128) (X / 128 % 128 + 128) (X / 16384 % 128 + 128) (X / 2097152 % 128 + 128) (X / 268435456 % 128 + 128) (X / 34359738368 % 128 + 128) (X / 4398046511104) w hN (by omega) (by omega) (by omega) (by omega) (by omega) (by omega) (by omega) (by omega) (by omega) (by omega) (by omega) (by omega) (by omega) (by omega) (by have := hb 0 (by simp); simpa using this) (by have := hb 1 (by simp); simpa using this) (by have := hb 2 (by simp); simpa using this) (by have := hb 3 (by simp); simpa using this) (by have := hb 4 (by simp); simpa using this) (by have := hb 5 (by simp); simpa using this) (by have := hb 6 (by simp); simpa using this)).mono fun e w' ⟨he, hw⟩ => ⟨he.trans (ret2 (int_eq ?_) rfl), hw⟩
  obtain ⟨q1, hq1⟩ : ∃ q, q = X / 128 := ⟨_, rfl⟩
  obtain ⟨q2, hq2⟩ : ∃ q, q = X / 16384 := ⟨_, rfl⟩
  obtain ⟨q3, hq3⟩ : ∃ q, q = X / 2097152 := ⟨_, rfl⟩
  obtain ⟨q4, hq4⟩ : ∃ q, q = X / 268435456 := ⟨_, rfl⟩
  obtain ⟨q5, hq5⟩ : ∃ q, q = X / 34359738368 := ⟨_, rfl⟩
  obtain ⟨q6, hq6⟩ : ∃ q, q = X / 4398046511104 := ⟨_, rfl⟩
  have m0 : X % 128 = X - 128 * q1 := by omega
  have m1 : X / 128 % 128 = q1 - 128 * q2 := by rw [← hq1]; have : q1 / 128 = q2 := (by rw [hq1, hq2]; omega); omega
  have m2 : X / 16384 % 128 = q2 - 128 * q3 := by rw [← hq2]; have : q2 / 128 = q3 := (by rw [hq2, hq3]; omega); omega
  have m3 : X / 2097152 % 128 = q3 - 128 * q4 := by rw [← hq3]; have : q3 / 128 = q4 := (by rw [hq3, hq4]; omega); omega
  have m4 : X / 268435456 % 128 = q4 - 128 * q5 := by rw [← hq4]; have : q4 / 128 = q5 := (by rw [hq4, hq5]; omega); omega
  have m5 : X / 34359738368 % 128 = q5 - 128 * q6 := by rw [← hq5]; have : q5 / 128 = q6 := (by rw [hq5, hq6]; omega); omega
  rw [m0, m1, m2, m3, m4, m5, ← hq6]
  clear hq1 m0 hq2 m1 hq3 m2 hq4 m3 hq5 m4 hq6 m5 h0 h1
  omega
theorem consU_8 (X : Int) (h0 : 562949953421312 ≤ X) (h1 : X < 72057594037927936) (rest : List Int) (b o N c : Nat) (w : World) (hN : 8 ≤ N) (hb : Bs w b o ([X % 128 + 128, X / 128 % 128 + 128, X / 16384 % 128 + 128, X / 2097152 % 128 + 128, X / 268435456 % 128 + 128, X / 34359738368 % 128 + 128, X / 4398046511104 % 128 + 128, X / 562949953421312] ++ rest)) :
    Calls Tryz.prog 105 #[.slice (some ⟨b, o, none⟩) N c] w fun e w' => e = .returned (.tuple #[.int .u64 X, .int .i64 8]) ∧ w = w' := by
  refine (consV_8 b o N c (X % 128 + 128) (X / 128 % 128 + 128) (X / 16384 % 128 + 128) (X / 2097152 % 128 + 128) (X / 268435456 % 128 + 128) (X / 34359738368 % 128 + 128) (X / 4398046511104 % 128 + 128) (X / 562949953421312) w hN (by omega) (by omega) (by omega) (by omega) (by omega) (by omega) (by omega) (by omega) (by omega) (by omega) (by omega) (by omega) (by omega) (by omega) (by omega) (by omega) (by have := hb 0 (by simp); simpa using this) (by have := hb 1 (by simp); simpa using this) (by have := hb 2 (by simp); simpa using this) (by have := hb 3 (by simp); simpa using this) (by have := hb 4 (by simp); simpa using this) (by have := hb 5 (by simp); simpa using this) (by have := hb 6 (by simp); simpa using this) (by have := hb 7 (by simp); simpa using this)).mono fun e w' ⟨he, hw⟩ => ⟨he.trans (ret2 (int_eq ?_) rfl), hw⟩
  obtain ⟨q1, hq1⟩ : ∃ q, q = X / 128 := ⟨_, rfl⟩
  obtain ⟨q2, hq2⟩ : ∃ q, q = X / 16384 := ⟨_, rfl⟩
  obtain ⟨q3, hq3⟩ : ∃ q, q = X / 2097152 := ⟨_, rfl⟩
  obtain ⟨q4, hq4⟩ : ∃ q, q = X / 268435456 := ⟨_, rfl⟩
  obtain ⟨q5, hq5⟩ : ∃ q, q = X / 34359738368 := ⟨_, rfl⟩
  obtain ⟨q6, hq6⟩ : ∃ q, q = X / 4398046511104 := ⟨_, rfl⟩
  obtain ⟨q7, hq7⟩ : ∃ q, q = X / 562949953421312 := ⟨_, rfl⟩
  have m0 : X % 128 = X - 128 * q1 := by omega
  have m1 : X / 128 % 128 = q1 - 128 * q2 := by rw [← hq1]; have : q1 / 128 = q2 := (by rw [hq1, hq2]; omega); omega
  have m2 : X / 16384 % 128 = q2 - 128 * q3 := by rw [← hq2]; have : q2 / 128 = q3 := (by rw [hq2, hq3]; omega); omega
  have m3 : X / 2097152 % 128 = q3 - 128 * q4 := by rw [← hq3]; have : q3 / 128 = q4 := (by rw [hq3, hq4]; omega); omega
  have m4 : X / 268435456 % 128 = q4 - 128 * q5 := by rw [← hq4]; have : q4 / 128 = q5 := (by rw [hq4, hq5]; omega); omega
  have m5 : X / 34359738368 % 128 = q5 - 128 * q6 := by rw [← hq5]; have : q5 / 128 = q6 := (by rw [hq5, hq6]; omega); omega
  have m6 : X / 4398046511104 % 128 = q6 - 128 * q7 := by rw [← hq6]; have : q6 / 128 = q7 := (by rw [hq6, hq7]; omega); omega
  rw [m0, m1, m2, m3, m4, m5, m6, ← hq7]
  clear hq1 m0 hq2 m1 hq3 m2 hq4 m3 hq5 m4 hq6 m5 hq7 m6 h0 h1
  omega
theorem consU_9 (X : Int) (h0 : 72057594037927936 ≤ X) (h1 : X < 9223372036854775808) (rest : List Int) (b o N c : Nat) (w : World) (hN : 9 ≤ N) (hb : Bs w b o ([X % 128 + 128, X / 128 % 128 + 128, X / 16384 % 128 + 128, X / 2097152 % 128 + 128, X / 268435456 % 128 + 128, X / 34359738368 % 128 + 128, X / 4398046511104 % 128 + 128, X / 562949953421312 % 128 + 128, X / 72057594037927936] ++ rest)) :
    Calls Tryz.prog 105 #[.slice (some ⟨b, o, none⟩) N c] w fun e w' => e = .returned (.tuple #[.int .u64 X, .int .i64 9]) ∧ w = w' := by
  refine (consV_9 b o N c (X % 128 + 128) (X / 128 % 128 + 128) (X / 16384 % 128 + 128) (X / 2097152 % 128 + 128) (X / 268435456 % 128 + 128) (X / 34359738368 % 128 + 128) (X / 4398046511104 % 128 + 128) (X / 562949953421312 % 128 + 128) (X / 72057594037927936) w hN (by omega) (by omega) (by omega) (by omega) (by omega) (by omega) (by omega) (by omega) (by omega) (by omega) (by omega) (by omega) (by omega) (by omega) (by omega) (by omega) (by omega) (by omega) (by have := hb 0 (by simp); simpa using this) (by have := hb 1 (by simp); simpa using this) (by have := hb 2 (by simp); simpa using this) (by have := hb 3 (by simp); simpa using this) (by have := hb 4 (by simp); simpa using this) (by have := hb 5 (by simp); simpa using this) (by have := hb 6 (by simp); simpa using this) (by have := hb 7 (by simp); simpa using this) (by have := hb 8 (by simp); simpa using this)).mono fun e w' ⟨he, hw⟩ => ⟨he.trans (ret2 (int_eq ?_) rfl), hw⟩
  obtain ⟨q1, hq1⟩ : ∃ q, q = X / 128 := ⟨_, rfl⟩
  obtain ⟨q2, hq2⟩ : ∃ q, q = X / 16384 := ⟨_, rfl⟩
  obtain ⟨q3, hq3⟩ : ∃ q, q = X / 2097152 := ⟨_, rfl⟩
  obtain ⟨q4, hq4⟩ : ∃ q, q = X / 268435456 := ⟨_, rfl⟩
  obtain ⟨q5, hq5⟩ : ∃ q, q = X / 34359738368 := ⟨_, rfl⟩
  obtain ⟨q6, hq6⟩ : ∃ q, q = X / 4398046511104 := ⟨_, rfl⟩
  obtain ⟨q7, hq7⟩ : ∃ q, q = X / 562949953421312 := ⟨_, rfl⟩
  obtain ⟨q8, hq8⟩ : ∃ q, q = X / 72057594037927936 := ⟨_, rfl⟩
  have m0 : X % 128 = X - 128 * q1 := by omega
  have m1 : X / 128 % 128 = q1 - 128 * q2 := by rw [← hq1]; have : q1 / 128 = q2 := (by rw [hq1, hq2]; omega); omega
  have m2 : X / 16384 % 128 = q2 - 128 * q3 := by rw [← hq2]; have : q2 / 128 = q3 := (by rw [hq2, hq3]; omega); omega
  have m3 : X / 2097152 % 128 = q3 - 128 * q4 := by rw [← hq3]; have : q3 / 128 = q4 := (by rw [hq3, hq4]; omega); omega
  have m4 : X / 268435456 % 128 = q4 - 128 * q5 := by rw [← hq4]; have : q4 / 128 = q5 := (by rw [hq4, hq5]; omega); omega
  have m5 : X / 34359738368 % 128 = q5 - 128 * q6 := by rw [← hq5]; have : q5 / 128 = q6 := (by rw [hq5, hq6]; omega); omega
  have m6 : X / 4398046511104 % 128 = q6 - 128 * q7 := by rw [← hq6]; have : q6 / 128 = q7 := (by rw [hq6, hq7]; omega); omega
  have m7 : X / 562949953421312 % 128 = q7 - 128 * q8 := by rw [← hq7]; have : q7 / 128 = q8 := (by rw [hq7, hq8]; omega); omega
  rw [m0, m1, m2, m3, m4, m5, m6, m7, ← hq8]
  clear hq1 m0 hq2 m1 hq3 m2 hq4 m3 hq5 m4 hq6 m5 hq7 m6 hq8 m7 h0 h1
  omega
theorem consU_10 (X : Int) (h0 : 9223372036854775808 ≤ X) (h1 : X < 18446744073709551616) (rest : List Int) (b o N c : Nat) (w : World) (hN : 10 ≤ N) (hb : Bs w b o ([X % 128 + 128, X / 128 % 128 + 128, X / 16384 % 128 + 128, X / 2097152 % 128 + 128, X / 268435456 % 128 + 128, X / 34359738368 % 128 + 128, X / 4398046511104 % 128 + 128, X / 562949953421312 % 128 + 128, X / 72057594037927936 % 128 + 128, 1] ++ rest)) :
    Calls Tryz.prog 105 #[.slice (some ⟨b, o, none⟩) N c] w fun e w' => e = .returned (.tuple #[.int .u64 X, .int .i64 10]) ∧ w = w' := by
  refine (consV_10 b o N c (X % 128 + 128) (X / 128 % 128 + 128) (X / 16384 % 128 + 128) (X / 2097152 % 128 + 128) (X / 268435456 % 128 + 128) (X / 34359738368 % 128 + 128) (X / 4398046511104 % 128 + 128) (X / 562949953421312 % 128 + 128) (X / 72057594037927936 % 128 + 128) (1) w hN (by omega) (by omega) (by omega) (by omega) (by omega) (by omega) (by omega) (by omega) (by omega) (by omega) (by omega) (by omega) (by omega) (by omega) (by omega) (by omega) (by omega) (by omega) (by omega) (by omega) (by have := hb 0 (by simp); simpa using this) (by have := hb 1 (by simp); simpa using this) (by have := hb 2 (by simp); simpa using this) (by have := hb 3 (by simp); simpa using this) (by have := hb 4 (by simp); simpa using this) (by have := hb 5 (by simp); simpa using this) (by have := hb 6 (by simp); simpa using this) (by have := hb 7 (by simp); simpa using this) (by have := hb 8 (by simp); simpa using this) (by have := hb 9 (by simp); simpa using this)).mono fun e w' ⟨he, hw⟩ => ⟨he.trans (ret2 (int_eq ?_) rfl), hw⟩
  obtain ⟨q1, hq1⟩ : ∃ q, q = X / 128 := ⟨_, rfl⟩
  obtain ⟨q2, hq2⟩ : ∃ q, q = X / 16384 := ⟨_, rfl⟩
  obtain ⟨q3, hq3⟩ : ∃ q, q = X / 2097152 := ⟨_, rfl⟩
  obtain ⟨q4, hq4⟩ : ∃ q, q = X / 268435456 := ⟨_, rfl⟩
  obtain ⟨q5, hq5⟩ : ∃ q, q = X / 34359738368 := ⟨_, rfl⟩
  obtain ⟨q6, hq6⟩ : ∃ q, q = X / 4398046511104 := ⟨_, rfl⟩
  obtain ⟨q7, hq7⟩ : ∃ q, q = X / 562949953421312 := ⟨_, rfl⟩
  obtain ⟨q8, hq8⟩ : ∃ q, q = X / 72057594037927936 := ⟨_, rfl⟩
  obtain ⟨q9, hq9⟩ : ∃ q, q = X / 9223372036854775808 := ⟨_, rfl⟩
  have m0 : X % 128 = X - 128 * q1 := by omega
  have m1 : X / 128 % 128 = q1 - 128 * q2 := by rw [← hq1]; have : q1 / 128 = q2 := (by rw [hq1, hq2]; omega); omega
  have m2 : X / 16384 % 128 = q2 - 128 * q3 := by rw [← hq2]; have : q2 / 128 = q3 := (by rw [hq2, hq3]; omega); omega
  have m3 : X / 2097152 % 128 = q3 - 128 * q4 := by rw [← hq3]; have : q3 / 128 = q4 := (by rw [hq3, hq4]; omega); omega
  have m4 : X / 268435456 % 128 = q4 - 128 * q5 := by rw [← hq4]; have : q4 / 128 = q5 := (by rw [hq4, hq5]; omega); omega
  have m5 : X / 34359738368 % 128 = q5 - 128 * q6 := by rw [← hq5]; have : q5 / 128 = q6 := (by rw [hq5, hq6]; omega); omega
  have m6 : X / 4398046511104 % 128 = q6 - 128 * q7 := by rw [← hq6]; have : q6 / 128 = q7 := (by rw [hq6, hq7]; omega); omega
  have m7 : X / 562949953421312 % 128 = q7 - 128 * q8 := by rw [← hq7]; have : q7 / 128 = q8 := (by rw [hq7, hq8]; omega); omega
  have m8 : X / 72057594037927936 % 128 = q8 - 128 * q9 := by rw [← hq8]; have : q8 / 128 = q9 := (by rw [hq8, hq9]; omega); omega
  have hl : q9 = 1 := by omega
  rw [m0, m1, m2, m3, m4, m5, m6, m7, m8]
  clear hq1 m0 hq2 m1 hq3 m2 hq4 m3 hq5 m4 hq6 m5 hq7 m6 hq8 m7 hq9 m8 h0 h1
  omega
theorem consV (X : Int) (h0 : 0 ≤ X) (h1 : X < 18446744073709551616) (rest : List Int) (b o N c : Nat) (w : World) (hN : (uv X).length ≤ N) (hb : Bs w b o (uv X ++ rest)) :
    Calls Tryz.prog 105 #[.slice (some ⟨b, o, none⟩) N c] w fun e w' => e = .returned (.tuple #[.int .u64 X, .int .i64 ((uv X).length : Int)]) ∧ w = w' := by
  unfold uv at hN hb ⊢
  by_cases k1 : X < 128
  · rw [if_pos k1] at hN hb ⊢
    exact consU_1 X (by omega) (by omega) rest b o N c w hN hb
  rw [if_neg k1] at hN hb ⊢
  by_cases k2 : X < 16384
  · rw [if_pos k2] at hN hb ⊢
    exact consU_2 X (by omega) (by omega) rest b o N c w hN hb
  rw [if_neg k2] at hN hb ⊢
  by_cases k3 : X < 2097152
  · rw [if_pos k3] at hN hb ⊢
    exact consU_3 X (by omega) (by omega) rest b o N c w hN hb
  rw [if_neg k3] at hN hb ⊢
  by_cases k4 : X < 268435456
  · rw [if_pos k4] at hN hb ⊢
    exact consU_4 X (by omega) (by omega) rest b o N c w hN hb
  rw [if_neg k4] at hN hb ⊢
  by_cases k5 : X < 34359738368
  · rw [if_pos k5] at hN hb ⊢
    exact consU_5 X (by omega) (by omega) rest b o N c w hN hb
  rw [if_neg k5] at hN hb ⊢
  by_cases k6 : X < 4398046511104
  · rw [if_pos k6] at hN hb ⊢
    exact consU_6 X (by omega) (by omega) rest b o N c w hN hb
  rw [if_neg k6] at hN hb ⊢
  by_cases k7 : X < 562949953421312
  · rw [if_pos k7] at hN hb ⊢
    exact consU_7 X (by omega) (by omega) rest b o N c w hN hb
  rw [if_neg k7] at hN hb ⊢
  by_cases k8 : X < 72057594037927936
  · rw [if_pos k8] at hN hb ⊢
    exact consU_8 X (by omega) (by omega) rest b o N c w hN hb
  rw [if_neg k8] at hN hb ⊢
  by_cases k9 : X < 9223372036854775808
  · rw [if_pos k9] at hN hb ⊢
    exact consU_9 X (by omega) (by omega) rest b o N c w hN hb
  rw [if_neg k9] at hN hb ⊢
  exact consU_10 X (by omega) (by omega) rest b o N c w hN hb
theorem uv_len (X : Int) : 1 ≤ (uv X).length ∧ (uv X).length ≤ 10 := by
  unfold uv
  repeat' split
  all_goals simp
theorem uv_small (X : Int) (h : X < 128) : uv X = [X] := by unfold uv; rw [if_pos h]
theorem uv_u8 (X : Int) (h0 : 0 ≤ X) (h1 : X < 18446744073709551616) : U8 (uv X) := by
  unfold uv
  repeat' split
  all_goals
    intro y hy
    simp only [List.mem_cons, List.not_mem_nil, or_false] at hy
    omega
end Go.Proofs.YtapkmoakbfpkeaaGreatDoor
namespace Go.Proofs.YtapkmoakbfpkeaaGreatDoor
open Go Go.RowKit Go.Proofs Go.Sort
/-- The three tags: their number, type, code. -/
def Tag (num typ t : Int) : Prop := (num = 1 ∧ typ = 2 ∧ t = 10) ∨ (num = 2 ∧ typ = 0 ∧ t = 16) ∨ (num = 3 ∧ typ = 2 ∧ t = 26)
set_option maxRecDepth 100000 in
theorem encTag (num typ t : Int) (h : Tag num typ t) (w : World) : Calls Tryz.prog 133 #[.int .i32 num, .int .i8 typ] w fun e w' => e = .returned (.int .u64 t) ∧ w = w' := by
  rcases h with ⟨rfl, rfl, rfl⟩ | ⟨rfl, rfl, rfl⟩ | ⟨rfl, rfl, rfl⟩
  all_goals
    go_enter Tryz.func133, Tryz.ntmps133
    go_wp2_with fail
    go_ret
    exact ⟨by first | rfl | decide, rfl⟩
set_option maxRecDepth 100000 in
theorem decTag (num typ t : Int) (h : Tag num typ t) (w : World) : Calls Tryz.prog 134 #[.int .u64 t] w fun e w' => e = .returned (.tuple #[.int .i32 num, .int .i8 typ]) ∧ w = w' := by
  rcases h with ⟨rfl, rfl, rfl⟩ | ⟨rfl, rfl, rfl⟩ | ⟨rfl, rfl, rfl⟩
  all_goals
    go_enter Tryz.func134, Tryz.ntmps134
    go_wp2_with fail
    go_ret2
    exact ⟨by first | rfl | decide, rfl⟩
theorem Tag.code {num typ t : Int} (h : Tag num typ t) : 0 ≤ t ∧ t < 128 ∧ 1 ≤ num ∧ num ≤ 3 := by
  rcases h with ⟨rfl, rfl, rfl⟩ | ⟨rfl, rfl, rfl⟩ | ⟨rfl, rfl, rfl⟩ <;> omega
set_option maxRecDepth 100000 in
theorem appTag (num typ t : Int) (h : Tag num typ t) (base : Nat) (v : Value) (n : Nat) (xs : List Int) (w : World) (hn : n ≤ 900000) (hbase : base ≤ w.heap.size) (hown : w.ownsRow base 5 1 v n (xs.map (Value.int .u8))) :
    Calls Tryz.prog 99 #[v, .int .i32 num, .int .i8 typ] w (AV base v n xs [t] w) := by
  have hc := h.code
  have hav := appV base v n xs t w hn hbase hown hc.1 (by omega)
  rw [uv_small t hc.2.1] at hav
  have HB := Lib.hid (And.intro (encTag num typ t h w) hav)
  clear hav hown h
  go_enter Tryz.func99, Tryz.ntmps99
  go_wp2_with fail
  refine HB.out.1.mono ?_
  rintro e w' ⟨rfl, rfl⟩
  go_wp2_with fail
  refine HB.out.2.mono ?_
  rintro e w1 ⟨v', rfl, ho, hg⟩
  have H1 := Lib.hid (And.intro ho hg)
  clear ho hg
  go_wp2_with fail
  go_ret
  exact ⟨v', rfl, H1.out.1, H1.out.2⟩
theorem same_bs {w w' : World} {g o : Nat} {ys : List Int} (h : w'.heap[g]? = w.heap[g]?) (hb : Bs w g o ys) : Bs w' g o ys := fun i hi => (World.cell?_of_block (w := w) (a := ⟨g, o + i, none⟩) h).trans (hb i hi)
set_option maxRecDepth 100000 in
theorem appBytes (base : Nat) (v : Value) (n : Nat) (xs ys : List Int) (g o m c : Nat) (w : World) (hn : n + m ≤ 800000) (hm : ys.length = m) (hm0 : 0 < m) (hbase : base ≤ w.heap.size) (hown : w.ownsRow base 5 1 v n (xs.map (Value.int .u8))) (hs : Bs w g o ys) (hne : v.ownBlock ≠ some g) :
    Calls Tryz.prog 100 #[v, .slice (some ⟨g, o, none⟩) m c] w (AV base v n xs (uv m ++ ys) w) := by
  have hg : g < w.heap.size := World.block_lt_of_cell? w _ (hs 0 (by omega))
  have hav := appV base v n xs (m : Int) w (by omega) hbase hown (by omega) (by omega)
  have HB := Lib.hid (And.intro hav (And.intro hs (And.intro hne (And.intro hg (And.intro hm hbase)))))
  have hm64 : (m : Int) % 18446744073709551616 = m := by omega
  have hul := uv_len (m : Int)
  obtain ⟨U, hU⟩ : ∃ U, U = uv (m : Int) := ⟨_, rfl⟩
  rw [← hU] at HB hul ⊢
  clear hav hs hne hg hm hbase hown hU
  go_enter Tryz.func100, Tryz.ntmps100
  go_wp2_with fail
  refine HB.out.1.mono ?_
  rintro e w1 ⟨v1, rfl, ho1, hg1⟩
  have hs1 := hg1.same g HB.out.2.2.2.1 HB.out.2.2.1
  have H1 := Lib.hid (And.intro ho1 (And.intro hg1 (same_bs hs1.1 HB.out.2.1)))
  clear ho1 hg1 hs1
  go_wp2_with (at_builtin; refine wpAppAt rfl _ _ rfl base v1 (n + U.length) (xs ++ U) rfl H1.out.1 ⟨g, o, none⟩ m c ys rfl HB.out.2.2.2.2.1 (fun i hi => by rw [Lib.add_plain]; exact H1.out.2.2 i (by rw [HB.out.2.2.2.2.1]; exact hi)) (by omega) (Nat.le_trans HB.out.2.2.2.2.2 H1.out.2.1.size) ?_)
  intro v2 w2 ho2 hg2 hf2
  have H2 := Lib.hid (And.intro ho2 (H1.out.2.1.trans (Grw.of hg2 hf2)))
  clear ho2 hg2 hf2
  go_wp2_with fail
  go_ret
  refine ⟨v2, rfl, ?_, H2.out.2⟩
  have h := H2.out.1
  rw [List.length_append, HB.out.2.2.2.2.1, ← Nat.add_assoc, ← List.append_assoc]
  first | exact h | simpa using h
set_option maxRecDepth 100000 in
theorem consTag (num typ t : Int) (h : Tag num typ t) (rest : List Int) (b o N c : Nat) (w : World) (hN : 1 ≤ N) (hb : Bs w b o (t :: rest)) :
    Calls Tryz.prog 102 #[.slice (some ⟨b, o, none⟩) N c] w fun e w' => e = .returned (.tuple #[.int .i32 num, .int .i8 typ, .int .i64 1]) ∧ w = w' := by
  have hc := h.code
  have hcv := consV t hc.1 (by omega) rest b o N c w (by rw [uv_small t hc.2.1]; exact hN) (by rw [uv_small t hc.2.1]; exact hb)
  rw [uv_small t hc.2.1] at hcv
  have HB := Lib.hid (And.intro hcv (decTag num typ t h w))
  have hnum : decide (num < 1) = false := by rw [decide_eq_false_iff_not]; omega
  clear hcv hb h
  go_enter Tryz.func102, Tryz.ntmps102
  go_wp2_with fail
  refine HB.out.1.mono ?_
  rintro e w' ⟨rfl, rfl⟩
  go_wp2_with fail
  refine HB.out.2.mono ?_
  rintro e w' ⟨rfl, rfl⟩
  go_wp2_with fail
  go_ret3
  exact ⟨rfl, rfl⟩
set_option maxRecDepth 100000 in
theorem consBytes (ys rest : List Int) (m b o N c : Nat) (w : World) (_hm : ys.length = m) (hm0 : 0 < m) (hm1 : m ≤ 1000000) (hN : (uv (m : Int)).length + m ≤ N) (hN1 : N ≤ 9000000) (hNc : N ≤ c) (hb : Bs w b o (uv (m : Int) ++ (ys ++ rest))) :
    Calls Tryz.prog 104 #[.slice (some ⟨b, o, none⟩) N c] w fun e w' => e = .returned (.tuple #[.slice (some ⟨b, o + (uv (m : Int)).length, none⟩) m (c - (uv (m : Int)).length), .int .i64 (((uv (m : Int)).length : Int) + m)]) ∧ w = w' := by
  have hcv := consV (m : Int) (by omega) (by omega) (ys ++ rest) b o N c w (by omega) hb
  have hul := uv_len (m : Int)
  obtain ⟨k, hk⟩ : ∃ k, k = (uv (m : Int)).length := ⟨_, rfl⟩
  rw [← hk] at hcv hul hN ⊢
  have HB := Lib.hid hcv
  have k1 : decide ((k : Int) < 0) = false := by rw [decide_eq_false_iff_not]; omega
  have k2 : (0 : Int) ≤ (k : Int) := by omega
  have k3 : (k : Int) ≤ (N : Int) := by omega
  have k4 : ¬ k = c := by omega
  have k5 : k < c := by omega
  have k6 : ((N - k : Nat) : Int) % 18446744073709551616 = ((N - k : Nat) : Int) := by omega
  have k7 : decide (((N - k : Nat) : Int) < (m : Int)) = false := by rw [decide_eq_false_iff_not]; omega
  have k8 : ((N : Int) - k) % 18446744073709551616 = (N : Int) - k := by omega
  have k9 : decide ((N : Int) - k < (m : Int)) = false := by rw [decide_eq_false_iff_not]; omega
  have k10 : (m : Int) ≤ (c : Int) - k := by omega
  clear hcv hb hk
  go_enter Tryz.func104, Tryz.ntmps104
  go_wp2_with fail
  refine HB.out.mono ?_
  rintro e w' ⟨rfl, rfl⟩
  go_wp2_with fail
  go_ret2
  exact ⟨rfl, rfl⟩
end Go.Proofs.YtapkmoakbfpkeaaGreatDoor
namespace Go.Proofs.YtapkmoakbfpkeaaGreatDoor
open Go Go.RowKit Go.Proofs Go.Sort
/-- An address's message. -/
def mB (a : List Int) : List Int := 10 :: (uv (a.length : Int) ++ a)
inductive Fld where
  | peer (xs : List Int)
  | seq (X : Int)
  | addr (a : List Int)
def Fld.enc : Fld → List Int
  | .peer xs => 10 :: (uv (xs.length : Int) ++ xs)
  | .seq X => 16 :: uv X
  | .addr a => 26 :: (uv ((mB a).length : Int) ++ mB a)
def encF (F : List Fld) : List Int := F.flatMap Fld.enc
theorem encF_app (F G : List Fld) : encF (F ++ G) = encF F ++ encF G := List.flatMap_append
theorem encF_cons (f : Fld) (G : List Fld) : encF (f :: G) = f.enc ++ encF G := List.flatMap_cons
/-- A record's fields. -/
def recF (id : List Int) (S : Int) (al : List (List Int)) : List Fld := .peer id :: ((if S = 0 then [] else [.seq S]) ++ al.map .addr)
/-- A pointer to an address. -/
def AIa (w : World) (u : Value) (a : List Int) : Prop := ∃ r v, u = .pointer (some ⟨r, 0, none⟩) ∧ w.heap[r]? = some (.cells #[v] 127 (0, 0)) ∧ BV w 0 v a
theorem AIa.below {w w' : World} {u : Value} {a : List Int} (h : AIa w u a) (hb : Below w.heap.size w w') : AIa w' u a := by
  obtain ⟨r, v, h1, h2, h3⟩ := h
  exact ⟨r, v, h1, (hb.block r (Array.getElem?_eq_some_iff.1 h2).1).trans h2, h3.below hb⟩
abbrev PtrRow (w : World) (B : Nat) (v : Value) (al : List (List Int)) : Prop := RowP 125 AIa w B v al
theorem PtrRow.below {w w' : World} {B : Nat} {v : Value} {al : List (List Int)} (h : PtrRow w B v al) (hb : Below w.heap.size w w') : PtrRow w' B v al := RowP.below h hb fun _ _ hm => hm.below hb
theorem one_cell {w : World} {r : Nat} {v : Value} {T : TypeId} (h : w.heap[r]? = some (.cells #[v] T (0, 0))) : w.cell? ⟨r, 0, none⟩ = some v ∧ w.frozen? ⟨r, 0, none⟩ = false := by
  constructor <;> simp [World.cell?, World.frozen?, h]
theorem three_cells {w : World} {r : Nat} {a b c : Value} {T : TypeId} (h : w.heap[r]? = some (.cells #[a, b, c] T (0, 0))) : (w.cell? ⟨r, 0, none⟩ = some a ∧ w.cell? ⟨r, 1, none⟩ = some b ∧ w.cell? ⟨r, 2, none⟩ = some c) ∧ w.frozen? ⟨r, 0, none⟩ = false ∧ w.frozen? ⟨r, 1, none⟩ = false ∧ w.frozen? ⟨r, 2, none⟩ = false := by
  refine ⟨⟨?_, ?_, ?_⟩, ?_, ?_, ?_⟩ <;> simp [World.cell?, World.frozen?, h]
/-- The row b of bytes, in memory of the call's own. -/
structure BRw (w0 w : World) (v : Value) (xs : List Int) : Prop where
  own : w.ownsRow w0.heap.size 5 1 v xs.length (xs.map (Value.int .u8))
  bel : Below w0.heap.size w0 w
theorem BRw.av {w0 w w' : World} {v v' : Value} {xs ys : List Int} (h : BRw w0 w v xs) (ho : w'.ownsRow w0.heap.size 5 1 v' (xs.length + ys.length) ((xs ++ ys).map (Value.int .u8))) (hg : Grw w v w' v') : BRw w0 w' v' (xs ++ ys) :=
  ⟨by rw [List.length_append]; exact ho, (hg.below w0.heap.size w0 h.bel h.bel.size (fun k hk => (h.own.lt k hk).1)).1⟩
theorem BRw.nil (w : World) : BRw w w (.slice none 0 0) [] := ⟨World.ownsRow_nil _ _ _ _, Below.refl _ _⟩
theorem BRw.form {w0 w : World} {v : Value} {xs : List Int} (h : BRw w0 w v xs) (hx : xs ≠ []) : ∃ g c, v = .slice (some ⟨g, 0, none⟩) xs.length c ∧ w0.heap.size ≤ g ∧ g < w.heap.size ∧ Bs w g 0 xs := by
  obtain ⟨g, c, cs, e, hB, ⟨fr, hh⟩, hb⟩ := BV.own h.own hx
  exact ⟨g, c, e, hB.1, (Array.getElem?_eq_some_iff.1 hh).1, hb⟩
theorem BRw.over {w0 w w' : World} {v : Value} {xs : List Int} (h : BRw w0 w v xs) (hb : Below w.heap.size w w') : BRw w0 w' v xs := ⟨ownsRow_below h.own hb, h.bel.trans (hb.mono h.bel.size)⟩
def RB (id : List Int) (S : Int) (al : List (List Int)) (w : World) (e : Ending) (w' : World) : Prop := ∃ v, e = .returned (.tuple #[v, .nilIface]) ∧ BRw w w' v (encF (recF id S al))
theorem mB_len (a : List Int) : 1 ≤ (mB a).length ∧ (mB a).length ≤ a.length + 11 := by
  have := uv_len (a.length : Int)
  unfold mB
  simp only [List.length_cons, List.length_append]
  omega
def FldOk : Fld → Prop
  | .peer xs => xs.length ≤ 5000
  | .seq _ => True
  | .addr a => a.length ≤ 5000
theorem enc_len (f : Fld) (h : FldOk f) : f.enc.length ≤ 6000 := by
  cases f with
  | peer xs => have := uv_len (xs.length : Int); simp only [Fld.enc, List.length_cons, List.length_append]; have h' : xs.length ≤ 5000 := h; omega
  | seq X => have := uv_len X; simp only [Fld.enc, List.length_cons]; omega
  | addr a => have := uv_len ((mB a).length : Int); have := mB_len a; simp only [Fld.enc, List.length_cons, List.length_append]; have h' : a.length ≤ 5000 := h; omega
theorem encF_len : ∀ F : List Fld, (∀ f ∈ F, FldOk f) → (encF F).length ≤ 6000 * F.length
  | [], _ => Nat.zero_le _
  | f :: F, h => by
    have h1 := enc_len f (h f (by simp))
    have h2 := encF_len F (fun x hx => h x (by simp [hx]))
    rw [encF_cons, List.length_append, List.length_cons]
    omega
set_option maxHeartbeats 4000000 in
set_option maxRecDepth 100000 in
theorem marshal (id : List Int) (S : Int) (al : List (List Int)) (X : Nat) (vp : Value) (p : Option Addr) (n c : Nat) (hid : id ≠ []) (hidl : id.length ≤ 1000) (hS0 : 0 ≤ S) (hS1 : S < 18446744073709551616) (hn : al.length = n) (hn1 : n ≤ 100) (hal : ∀ a ∈ al, a ≠ [] ∧ a.length ≤ 5000) (w : World)
    (hX : w.heap[X]? = some (.cells #[vp, .int .u64 S, .slice p n c] 124 (0, 0))) (hp : BV w 0 vp id) (ha : PtrRow w 0 (.slice p n c) al) :
    Calls Tryz.prog 69 #[.pointer (some ⟨X, 0, none⟩)] w (RB id S al w) := by
  obtain ⟨⟨x0, x1, x2⟩, _⟩ := three_cells hX
  obtain ⟨g, d, cs, rfl, _, _, hbs⟩ := hp
  have hidp := List.length_pos_iff.2 hid
  obtain ⟨M, hM⟩ : ∃ M, M = id.length := ⟨_, rfl⟩
  rw [← hM] at x0 hidp hidl
  have hM1 : decide (0 < (M : Int)) = true := by rw [decide_eq_true_iff]; omega
  have HB := Lib.hid (And.intro hbs (And.intro ha (And.intro hal (And.intro hn hM))))
  clear hX hbs ha hal hn hM
  go_enter Tryz.func69, Tryz.ntmps69
  go_wp2_with fail
  refine (appTag 1 2 10 (.inl ⟨rfl, rfl, rfl⟩) w.heap.size (.slice none 0 0) 0 [] w (by omega) (Nat.le_refl _) (World.ownsRow_nil _ _ _ _)).mono ?_
  rintro e w1 ⟨v1, rfl, ho1, hg1⟩
  have hr1 : BRw w w1 v1 [10] := BRw.av (BRw.nil w) ho1 hg1
  have hgl : g < w.heap.size := World.block_lt_of_cell? w _ (HB.out.1 0 (by rw [← HB.out.2.2.2.2]; exact hidp))
  have hs1 := hg1.same g hgl (by simp [Value.ownBlock])
  have y0 := cB hr1.bel x0
  have y1 := cB hr1.bel x1
  have y2 := cB hr1.bel x2
  have H1 := Lib.hid (And.intro hr1 (And.intro hs1.2 (same_bs hs1.1 HB.out.1)))
  clear ho1 hg1 hr1 hs1
  go_wp2_with fail
  refine (appBytes w.heap.size v1 1 [10] id g 0 M d w1 (by omega) HB.out.2.2.2.2.symm hidp H1.out.1.bel.size H1.out.1.own H1.out.2.2 H1.out.2.1).mono ?_
  rintro e w2 ⟨v2, rfl, ho2, hg2⟩
  have hr2 : BRw w w2 v2 (Fld.peer id).enc := by
    have h := BRw.av (xs := [10]) H1.out.1 (by exact ho2) hg2
    rw [HB.out.2.2.2.2] at h
    exact h
  have z1 := cB hr2.bel x1
  have z2 := cB hr2.bel x2
  have H2 := Lib.hid hr2
  clear ho2 hg2 hr2 y0 y1 y2
  by_cases hS : S = 0
  · have hSb : (S != 0) = false := by simp [hS]
    obtain ⟨PRE, hPRE⟩ : ∃ P, P = [Fld.peer id] := ⟨_, rfl⟩
    have HPRE := Lib.hid (And.intro (show recF id S al = PRE ++ al.map .addr by rw [hPRE]; unfold recF; rw [if_pos hS]; rfl) (And.intro (show PRE.length ≤ 2 by rw [hPRE]; simp) (show ∀ f ∈ PRE, FldOk f from fun f hf => by rw [hPRE, List.mem_singleton] at hf; rw [hf]; show id.length ≤ 5000; rw [← HB.out.2.2.2.2]; omega)))
    have H5 : Hid (BRw w w2 v2 (encF PRE)) := by rw [hPRE]; show BRw w w2 v2 (encF [Fld.peer id]); rw [encF_cons]; simpa [encF] using H2.out
    clear hPRE
    go_wp2_with fail
    go_loopg [4, 40] n (fun gk sv iv wr => ∃ (ds rs : List (List Int)), al = ds ++ rs ∧ gk = rs.length ∧ iv = .int .i64 (ds.length : Int) ∧ Hid (BRw w wr sv (encF (PRE ++ ds.map .addr))))
    case atStart => exact ⟨[], al, rfl, HB.out.2.2.2.1.symm, rfl, by rw [List.map_nil, List.append_nil]; exact H5.out⟩
    case round =>
      obtain ⟨ds, rs, hds, rfl, rfl, hI⟩ := hrel
      cases rs with
      | nil =>
        have hlt : ds.length = n := by rw [← HB.out.2.2.2.1, hds, List.append_nil]
        have hl2 : decide (ds.length < n) = false := by rw [decide_eq_false_iff_not, hlt]; omega
        have HD := Lib.hid (show al = ds by rw [hds, List.append_nil])
        clear hds hlt
        go_wp2_with fail
        go_ret2
        refine ⟨_, rfl, ?_⟩
        have h := hI.out
        rw [← HD.out, ← HPRE.out.1] at h
        exact h
      | cons a rs =>
        have hlt : ds.length < n := by rw [← HB.out.2.2.2.1, hds]; simp
        have hl2 : decide (ds.length < n) = true := by rw [decide_eq_true_iff]; omega
        obtain ⟨gp, rfl⟩ : ∃ g, p = some ⟨g, 0, none⟩ := by
          rcases RowP.form HB.out.2.1 with ⟨_, e⟩ | ⟨g, c', e, _⟩
          · rw [hds] at e; simp at e
          · injection e with e; exact ⟨g, e⟩
        obtain ⟨ha0, hal1⟩ := HB.out.2.2.1 a (by rw [hds]; simp)
        obtain ⟨u, hcu, hau⟩ := RowP.at HB.out.2.1 ds.length a (by rw [hds]; simp)
        obtain ⟨r, va, rfl, hr, hbv⟩ : AIa w u a := hau
        obtain ⟨ga, da, csa, rfl, _, _, hbsa⟩ := hbv
        have hap := List.length_pos_iff.2 ha0
        obtain ⟨A, hA⟩ : ∃ A, A = a.length := ⟨_, rfl⟩
        rw [← hA] at hr hap hal1
        have hA1 : decide (0 < (A : Int)) = true := by rw [decide_eq_true_iff]; omega
        have hbel := hI.out.bel
        replace hcu := cB hbel hcu
        have hr0 := cB hbel (one_cell hr).1
        have hxl : (encF (PRE ++ ds.map .addr)).length ≤ 700000 := by
          have h1 := encF_len (PRE ++ ds.map .addr) (fun f hf => by
            rcases List.mem_append.1 hf with hf | hf
            · exact HPRE.out.2.2 f hf
            · obtain ⟨b, hb, rfl⟩ := List.mem_map.1 hf
              exact (HB.out.2.2.1 b (by rw [hds]; simp [hb])).2)
          have h2 := HPRE.out.2.1
          rw [List.length_append, List.length_map] at h1
          omega
        have HD := Lib.hid (And.intro hds (And.intro (hbsa.below hbel) hA))
        clear hds hbsa hA hr hbel ha0
        obtain ⟨W0, hW0⟩ : ∃ W, W = wr := ⟨_, rfl⟩
        rw [← hW0] at hI HD hcu hr0 ⊢
        clear hW0 wr
        go_wp2_with fail
        refine (appTag 1 2 10 (.inl ⟨rfl, rfl, rfl⟩) W0.heap.size (.slice none 0 0) 0 [] W0 (by omega) (Nat.le_refl _) (World.ownsRow_nil _ _ _ _)).mono ?_
        rintro e w3 ⟨v3, rfl, ho3, hg3⟩
        have hr3 : BRw W0 w3 v3 [10] := BRw.av (BRw.nil W0) ho3 hg3
        have hgl3 : ga < W0.heap.size := World.block_lt_of_cell? W0 _ (HD.out.2.1 0 (by rw [← HD.out.2.2]; exact hap))
        have hs3 := hg3.same ga hgl3 (by simp [Value.ownBlock])
        have hr1 := cB hr3.bel hr0
        have H3 := Lib.hid (And.intro hr3 (And.intro hs3.2 (same_bs hs3.1 HD.out.2.1)))
        clear ho3 hg3 hr3 hs3 hr0
        go_wp2_with fail
        refine (appBytes W0.heap.size v3 1 [10] a ga 0 A da w3 (by omega) HD.out.2.2.symm hap H3.out.1.bel.size H3.out.1.own H3.out.2.2 H3.out.2.1).mono ?_
        rintro e w4 ⟨v4, rfl, ho4, hg4⟩
        have hr4 : BRw W0 w4 v4 (mB a) := by
          have h := BRw.av (xs := [10]) H3.out.1 (by exact ho4) hg4
          rw [HD.out.2.2] at h
          exact h
        obtain ⟨g4, c4, rfl, hg4a, hg4b, hbs4⟩ := hr4.form (by unfold mB; simp)
        have hrB := BRw.over hI.out hr4.bel
        have hneB : ∀ v, BRw w W0 v (encF (PRE ++ ds.map .addr)) → v.ownBlock ≠ some g4 := fun v hv e => by
          have h1 := (hv.own.lt g4 e).2
          omega
        have hneB := hneB _ hI.out
        have hml := mB_len a
        obtain ⟨L, hL⟩ : ∃ L, L = (mB a).length := ⟨_, rfl⟩
        have H4 := Lib.hid (And.intro hrB (And.intro hneB (And.intro hbs4 (And.intro hg4b hL))))
        rw [← hL] at hml ⊢
        clear ho4 hg4 hr4 hrB hneB hbs4 hL hr1 hcu
        go_wp2_with fail
        refine (appTag 3 2 26 (.inr (.inr ⟨rfl, rfl, rfl⟩)) w.heap.size _ _ (encF (PRE ++ ds.map .addr)) w4 (by omega) H4.out.1.bel.size H4.out.1.own).mono ?_
        rintro e w5 ⟨v5, rfl, ho5, hg5⟩
        have hs5 := hg5.same g4 H4.out.2.2.2.1 H4.out.2.1
        have hr5 : BRw w w5 v5 (encF (PRE ++ ds.map .addr) ++ [26]) := BRw.av H4.out.1 ho5 hg5
        have H5' := Lib.hid (And.intro hr5 (And.intro hs5.2 (same_bs hs5.1 H4.out.2.2.1)))
        clear ho5 hg5 hs5 hr5
        go_wp2_with fail
        refine (appBytes w.heap.size v5 (encF (PRE ++ ds.map Fld.addr) ++ [26]).length (encF (PRE ++ ds.map .addr) ++ [26]) (mB a) g4 0 L c4 w5 (by rw [List.length_append]; show _ + 1 + L ≤ _; have hA2 := HD.out.2.2; omega) H4.out.2.2.2.2.symm (by omega) H5'.out.1.bel.size H5'.out.1.own H5'.out.2.2 H5'.out.2.1).mono ?_
        rintro e w6 ⟨v6, rfl, ho6, hg6⟩
        have H6 := Lib.hid (BRw.av H5'.out.1 ho6 hg6)
        clear ho6 hg6
        go_wp2_with fail
        go_roundg rs.length
        case measure => simp
        case rel =>
          refine ⟨ds ++ [a], rs, by rw [HD.out.1, List.append_assoc]; rfl, rfl, by simp, ?_⟩
          have h := H6.out
          rw [H4.out.2.2.2.2] at h
          have e : encF (PRE ++ (ds ++ [a]).map .addr) = encF (PRE ++ ds.map .addr) ++ [26] ++ (uv ((mB a).length : Int) ++ mB a) := by
            rw [List.map_append, ← List.append_assoc, encF_app]
            rw [List.append_assoc]
            congr 1
            simp [encF, Fld.enc]
          show BRw w _ _ _
          rw [e]
          exact h
  · have hSb : (S != 0) = true := by simp [hS]
    obtain ⟨PRE, hPRE⟩ : ∃ P, P = [Fld.peer id, .seq S] := ⟨_, rfl⟩
    have HPRE := Lib.hid (And.intro (show recF id S al = PRE ++ al.map .addr by rw [hPRE]; unfold recF; rw [if_neg hS]; rfl) (And.intro (show PRE.length ≤ 2 by rw [hPRE]; simp) (show ∀ f ∈ PRE, FldOk f from fun f hf => by rw [hPRE] at hf; rcases List.mem_cons.1 hf with rfl | hf; (show id.length ≤ 5000; rw [← HB.out.2.2.2.2]; omega); rw [List.mem_singleton] at hf; rw [hf]; trivial)))
    have hl0 := enc_len (.peer id) (show id.length ≤ 5000 by rw [← HB.out.2.2.2.2]; omega)
    go_wp2_with fail
    refine (appTag 2 0 16 (.inr (.inl ⟨rfl, rfl, rfl⟩)) w.heap.size v2 _ (Fld.peer id).enc w2 (by omega) H2.out.bel.size H2.out.own).mono ?_
    rintro e w7 ⟨v7, rfl, ho7, hg7⟩
    have hr7 : BRw w w7 v7 ((Fld.peer id).enc ++ [16]) := BRw.av H2.out ho7 hg7
    have q1 := cB hr7.bel x1
    have q2 := cB hr7.bel x2
    have H7 := Lib.hid hr7
    clear ho7 hg7 hr7 z1 z2
    go_wp2_with fail
    refine (appV w.heap.size v7 _ ((Fld.peer id).enc ++ [16]) S w7 (by rw [List.length_append]; simp; omega) H7.out.bel.size H7.out.own hS0 hS1).mono ?_
    rintro e w8 ⟨v8, rfl, ho8, hg8⟩
    have hr8 : BRw w w8 v8 ((Fld.peer id).enc ++ [16] ++ uv S) := BRw.av H7.out ho8 hg8
    have r2 := cB hr8.bel x2
    have H5 : Hid (BRw w w8 v8 (encF PRE)) := by rw [hPRE]; show BRw w w8 v8 (encF [Fld.peer id, .seq S]); have e : encF [Fld.peer id, .seq S] = (Fld.peer id).enc ++ [16] ++ uv S := (by simp [encF, Fld.enc]); rw [e]; exact hr8
    clear ho8 hg8 hr8 q1 q2 hPRE
    go_wp2_with fail
    go_loopg [4, 40] n (fun gk sv iv wr => ∃ (ds rs : List (List Int)), al = ds ++ rs ∧ gk = rs.length ∧ iv = .int .i64 (ds.length : Int) ∧ Hid (BRw w wr sv (encF (PRE ++ ds.map .addr))))
    case atStart => exact ⟨[], al, rfl, HB.out.2.2.2.1.symm, rfl, by rw [List.map_nil, List.append_nil]; exact H5.out⟩
    case round =>
      obtain ⟨ds, rs, hds, rfl, rfl, hI⟩ := hrel
      cases rs with
      | nil =>
        have hlt : ds.length = n := by rw [← HB.out.2.2.2.1, hds, List.append_nil]
        have hl2 : decide (ds.length < n) = false := by rw [decide_eq_false_iff_not, hlt]; omega
        have HD := Lib.hid (show al = ds by rw [hds, List.append_nil])
        clear hds hlt
        go_wp2_with fail
        go_ret2
        refine ⟨_, rfl, ?_⟩
        have h := hI.out
        rw [← HD.out, ← HPRE.out.1] at h
        exact h
      | cons a rs =>
        have hlt : ds.length < n := by rw [← HB.out.2.2.2.1, hds]; simp
        have hl2 : decide (ds.length < n) = true := by rw [decide_eq_true_iff]; omega
        obtain ⟨gp, rfl⟩ : ∃ g, p = some ⟨g, 0, none⟩ := by
          rcases RowP.form HB.out.2.1 with ⟨_, e⟩ | ⟨g, c', e, _⟩
          · rw [hds] at e; simp at e
          · injection e with e; exact ⟨g, e⟩
        obtain ⟨ha0, hal1⟩ := HB.out.2.2.1 a (by rw [hds]; simp)
        obtain ⟨u, hcu, hau⟩ := RowP.at HB.out.2.1 ds.length a (by rw [hds]; simp)
        obtain ⟨r, va, rfl, hr, hbv⟩ : AIa w u a := hau
        obtain ⟨ga, da, csa, rfl, _, _, hbsa⟩ := hbv
        have hap := List.length_pos_iff.2 ha0
        obtain ⟨A, hA⟩ : ∃ A, A = a.length := ⟨_, rfl⟩
        rw [← hA] at hr hap hal1
        have hA1 : decide (0 < (A : Int)) = true := by rw [decide_eq_true_iff]; omega
        have hbel := hI.out.bel
        replace hcu := cB hbel hcu
        have hr0 := cB hbel (one_cell hr).1
        have hxl : (encF (PRE ++ ds.map .addr)).length ≤ 700000 := by
          have h1 := encF_len (PRE ++ ds.map .addr) (fun f hf => by
            rcases List.mem_append.1 hf with hf | hf
            · exact HPRE.out.2.2 f hf
            · obtain ⟨b, hb, rfl⟩ := List.mem_map.1 hf
              exact (HB.out.2.2.1 b (by rw [hds]; simp [hb])).2)
          have h2 := HPRE.out.2.1
          rw [List.length_append, List.length_map] at h1
          omega
        have HD := Lib.hid (And.intro hds (And.intro (hbsa.below hbel) hA))
        clear hds hbsa hA hr hbel ha0
        obtain ⟨W0, hW0⟩ : ∃ W, W = wr := ⟨_, rfl⟩
        rw [← hW0] at hI HD hcu hr0 ⊢
        clear hW0 wr
        go_wp2_with fail
        refine (appTag 1 2 10 (.inl ⟨rfl, rfl, rfl⟩) W0.heap.size (.slice none 0 0) 0 [] W0 (by omega) (Nat.le_refl _) (World.ownsRow_nil _ _ _ _)).mono ?_
        rintro e w3 ⟨v3, rfl, ho3, hg3⟩
        have hr3 : BRw W0 w3 v3 [10] := BRw.av (BRw.nil W0) ho3 hg3
        have hgl3 : ga < W0.heap.size := World.block_lt_of_cell? W0 _ (HD.out.2.1 0 (by rw [← HD.out.2.2]; exact hap))
        have hs3 := hg3.same ga hgl3 (by simp [Value.ownBlock])
        have hr1 := cB hr3.bel hr0
        have H3 := Lib.hid (And.intro hr3 (And.intro hs3.2 (same_bs hs3.1 HD.out.2.1)))
        clear ho3 hg3 hr3 hs3 hr0
        go_wp2_with fail
        refine (appBytes W0.heap.size v3 1 [10] a ga 0 A da w3 (by omega) HD.out.2.2.symm hap H3.out.1.bel.size H3.out.1.own H3.out.2.2 H3.out.2.1).mono ?_
        rintro e w4 ⟨v4, rfl, ho4, hg4⟩
        have hr4 : BRw W0 w4 v4 (mB a) := by
          have h := BRw.av (xs := [10]) H3.out.1 (by exact ho4) hg4
          rw [HD.out.2.2] at h
          exact h
        obtain ⟨g4, c4, rfl, hg4a, hg4b, hbs4⟩ := hr4.form (by unfold mB; simp)
        have hrB := BRw.over hI.out hr4.bel
        have hneB : ∀ v, BRw w W0 v (encF (PRE ++ ds.map .addr)) → v.ownBlock ≠ some g4 := fun v hv e => by
          have h1 := (hv.own.lt g4 e).2
          omega
        have hneB := hneB _ hI.out
        have hml := mB_len a
        obtain ⟨L, hL⟩ : ∃ L, L = (mB a).length := ⟨_, rfl⟩
        have H4 := Lib.hid (And.intro hrB (And.intro hneB (And.intro hbs4 (And.intro hg4b hL))))
        rw [← hL] at hml ⊢
        clear ho4 hg4 hr4 hrB hneB hbs4 hL hr1 hcu
        go_wp2_with fail
        refine (appTag 3 2 26 (.inr (.inr ⟨rfl, rfl, rfl⟩)) w.heap.size _ _ (encF (PRE ++ ds.map .addr)) w4 (by omega) H4.out.1.bel.size H4.out.1.own).mono ?_
        rintro e w5 ⟨v5, rfl, ho5, hg5⟩
        have hs5 := hg5.same g4 H4.out.2.2.2.1 H4.out.2.1
        have hr5 : BRw w w5 v5 (encF (PRE ++ ds.map .addr) ++ [26]) := BRw.av H4.out.1 ho5 hg5
        have H5' := Lib.hid (And.intro hr5 (And.intro hs5.2 (same_bs hs5.1 H4.out.2.2.1)))
        clear ho5 hg5 hs5 hr5
        go_wp2_with fail
        refine (appBytes w.heap.size v5 (encF (PRE ++ ds.map Fld.addr) ++ [26]).length (encF (PRE ++ ds.map .addr) ++ [26]) (mB a) g4 0 L c4 w5 (by rw [List.length_append]; show _ + 1 + L ≤ _; have hA2 := HD.out.2.2; omega) H4.out.2.2.2.2.symm (by omega) H5'.out.1.bel.size H5'.out.1.own H5'.out.2.2 H5'.out.2.1).mono ?_
        rintro e w6 ⟨v6, rfl, ho6, hg6⟩
        have H6 := Lib.hid (BRw.av H5'.out.1 ho6 hg6)
        clear ho6 hg6
        go_wp2_with fail
        go_roundg rs.length
        case measure => simp
        case rel =>
          refine ⟨ds ++ [a], rs, by rw [HD.out.1, List.append_assoc]; rfl, rfl, by simp, ?_⟩
          have h := H6.out
          rw [H4.out.2.2.2.2] at h
          have e : encF (PRE ++ (ds ++ [a]).map .addr) = encF (PRE ++ ds.map .addr) ++ [26] ++ (uv ((mB a).length : Int) ++ mB a) := by
            rw [List.map_append, ← List.append_assoc, encF_app]
            rw [List.append_assoc]
            congr 1
            simp [encF, Fld.enc]
          show BRw w _ _ _
          rw [e]
          exact h
end Go.Proofs.YtapkmoakbfpkeaaGreatDoor
namespace Go.Proofs.YtapkmoakbfpkeaaGreatDoor
open Go Go.RowKit Go.Proofs Go.Sort
theorem own_empty8 (w : World) : (w.alloc (.cells #[] 5)).ownsRow w.heap.size 5 1 (.slice (some ⟨w.heap.size, 0, none⟩) 0 0) 0 (([] : List Int).map (Value.int .u8)) :=
  ⟨rfl, .inr ⟨w.heap.size, 0, #[], rfl, Nat.le_refl _, heap_alloc_new _ _, Nat.le_refl _, by unfold maxLen; omega, rfl, rfl⟩⟩
set_option maxHeartbeats 4000000 in
set_option maxRecDepth 100000 in
theorem unmAddr (a : List Int) (ha0 : a ≠ []) (hal : a.length ≤ 5000) (r g o M c : Nat) (hM : (mB a).length = M) (hMc : M ≤ c) (hcm : M ≤ 9000000) (w : World) (hr : w.heap[r]? = some (.cells #[.slice none 0 0] 127 (0, 0))) (hb : Bs w g o (mB a)) :
    Calls Tryz.prog 106 #[.pointer (some ⟨r, 0, none⟩), .slice (some ⟨g, o, none⟩) M c] w fun e w' => e = .returned .nilIface ∧ (∃ v, w'.heap[r]? = some (.cells #[v] 127 (0, 0)) ∧ BV w' 0 v a) ∧ Below r w w' := by
  have hap := List.length_pos_iff.2 ha0
  obtain ⟨A, hA⟩ : ∃ A, A = a.length := ⟨_, rfl⟩
  have hul := uv_len (a.length : Int)
  have hct := consTag 1 2 10 (.inl ⟨rfl, rfl, rfl⟩) (uv (a.length : Int) ++ a) g o M c w (by have := mB_len a; omega) hb
  have hb1 : Bs w g (o + 1) (uv (a.length : Int) ++ (a ++ [])) := by
    rw [List.append_nil]
    exact Bs.right (xs := [10]) hb
  have hcb := consBytes a [] a.length g (o + 1) (M - 1) (c - 1) w rfl hap (by omega) (by rw [← hM]; unfold mB; rw [List.length_cons, List.length_append]; omega) (by omega) (by omega) hb1
  have hbv : Bs w g (o + 1 + (uv (a.length : Int)).length) a := by rw [List.append_nil] at hb1; exact hb1.right
  have hM2 : M = 1 + ((uv (a.length : Int)).length + a.length) := by rw [← hM]; unfold mB; rw [List.length_cons, List.length_append]; omega
  rw [← hA] at hcb hul hbv hM2 hap hal
  obtain ⟨k, hk⟩ : ∃ k, k = (uv (A : Int)).length := ⟨_, rfl⟩
  rw [← hk] at hcb hul hbv hM2
  obtain ⟨⟨r0, rf⟩⟩ : Nonempty (w.cell? ⟨r, 0, none⟩ = some (.slice none 0 0) ∧ w.frozen? ⟨r, 0, none⟩ = false) := ⟨one_cell hr⟩
  have HB := Lib.hid (And.intro hct (And.intro hcb (And.intro hbv (And.intro hr (And.intro hA hM2)))))
  have hMp : decide (0 < (M : Int)) = true := by rw [decide_eq_true_iff]; omega
  have k1 : (1 : Int) ≤ (M : Int) := by omega
  have k2 : ¬ 1 = c := by omega
  have k3 : 1 < c := by omega
  have k4 : decide (((k : Int) + A) < 0) = false := by rw [decide_eq_false_iff_not]; omega
  have k5 : (0 : Int) ≤ (k : Int) + A := by omega
  have k6 : (k : Int) + A ≤ ((M - 1 : Nat) : Int) := by omega
  have k7 : M - 1 - (k + A) = 0 := by omega
  clear hct hb hb1 hcb hbv hr hA hM2 hk hM ha0
  go_enter Tryz.func106, Tryz.ntmps106
  go_wp2_with fail
  refine wp_loop_rounds 2 ?_
  rw [rounds_succ]
  go_wp2_with fail
  refine HB.out.1.mono ?_
  rintro e w' ⟨rfl, rfl⟩
  go_wp2_with fail
  refine HB.out.2.1.mono ?_
  rintro e w' ⟨rfl, rfl⟩
  go_wp2_with (at_builtin; refine wpAppAt rfl _ _ rfl w.heap.size _ 0 [] rfl (own_empty8 w) ⟨g, o + 1 + k, none⟩ A (c - 1 - k) a rfl HB.out.2.2.2.2.1.symm (fun i hi => by rw [Lib.add_plain]; exact cB ((Below.refl w.heap.size w).alloc (Nat.le_refl _) _) (HB.out.2.2.1 i (by rw [← HB.out.2.2.2.2.1]; exact hi))) (by omega) (by simp) ?_)
  intro v1 w1 ho1 hg1 hf1
  have hrl : r < w.heap.size := (Array.getElem?_eq_some_iff.1 HB.out.2.2.2.1).1
  have hr1 : w1.heap[r]? = some (.cells #[.slice none 0 0] 127 (0, 0)) := (hg1.block r (by simp; omega) (fun e => by have h1 : r = w.heap.size := (by simpa [Value.ownBlock] using e); omega)).trans ((Below.heap_alloc w _ r hrl).trans HB.out.2.2.2.1)
  have hb01 : Below w.heap.size w w1 := ((Below.refl w.heap.size w).alloc (Nat.le_refl _) _).grown hg1 (by simp) (fun k hk => by have h1 : w.heap.size = k := (by simpa [Value.ownBlock] using hk); omega)
  replace ho1 : w1.ownsRow w.heap.size 5 1 v1 a.length (a.map (Value.int .u8)) := by rw [← HB.out.2.2.2.2.1]; simpa using ho1
  have hbv1 : BV w1 w.heap.size v1 a := BV.own ho1 (fun e => by have h1 := HB.out.2.2.2.2.1; rw [e] at h1; simp at h1; omega)
  obtain ⟨s0, sf⟩ := one_cell hr1
  have hv1 := hbv1.one
  obtain ⟨g1, c1, cs1, rfl, _⟩ := id hbv1
  have H1 := Lib.hid (And.intro hr1 (And.intro hb01 (And.intro hbv1 hrl)))
  clear hr1 hb01 hbv1 ho1 hg1 hf1 hrl
  go_wp2_with fail
  all_goals
    rw [rounds_succ]
    go_wp2_with fail
    go_ret
    obtain ⟨hr1, hb01, hbv1, hrl⟩ := H1.out
    have hK : Kept 127 w1 (w1.setCell ⟨r, 0, none⟩ (.slice (some ⟨g1, 0, none⟩) a.length c1)) := Kept.setCell (p := ⟨r, 0, none⟩) hr1 _
    exact ⟨rfl, ⟨_, by simp [World.setCell, Array.getElem?_modify, hr1], (hK.bv (by decide) hbv1).mono (Nat.zero_le _)⟩, (hb01.mono (Nat.le_of_lt hrl)).setCell (Nat.le_refl _) _⟩
end Go.Proofs.YtapkmoakbfpkeaaGreatDoor
namespace Go.Proofs.YtapkmoakbfpkeaaGreatDoor
open Go Go.RowKit Go.Proofs Go.Sort Go.ChangeShapes Go.WideShapes Go.Deep
instance : Inhabited LEl := ⟨⟨none, 0, []⟩⟩
section
variable {H : Type} {enc : TypeId × Value → H} {w : World} {base : Nat} {held : Bool}
set_option maxRecDepth 100000 in
/-- The parts of an address, as an element. -/
theorem open_hops_cs {fuel : Nat} {cs : List Value} {x : DataW H × List MemPlace} (h : DataW.trod enc Tryz.prog w base (fun _ => true) held fuel 22 cs = some x) : ∃ a : LEl, cs = [a.v] ∧ LIn w a.p a.l ∧ a.l.length ≤ a.c := by
  rcases open_slice_pairs Tryz.underlying22 Tryz.underlying29 (by kernel_rfl) rfl rfl (by kernel_rfl) (by kernel_rfl) h with ⟨h1, _⟩ | ⟨a, len, cap, m, n, V0, V1, D0, D1, P0, P1, h1, _, hl, _, hm, _, hi⟩
  · exact ⟨⟨none, 0, []⟩, h1, fun h => by simp at h, Nat.le_refl _⟩
  · obtain rfl : m = cap := hm
    have each : ∀ i, i < m → ∃ y : HIn, w.cell? (a.add (i * 2)) = some (.int .u8 y.K) ∧ w.cell? (a.add (i * 2 + 1)) = some y.s.v ∧ y.Ok0 w := fun i him => by
      obtain ⟨c0, c1, t0, t1⟩ := hi i him
      obtain ⟨K, hK, _, hw⟩ := DataW.trod_int Tryz.underlying5 t0
      obtain ⟨s, hs, hok, hu, _⟩ := open_sl t1
      simp only [List.cons.injEq, and_true] at hK hs
      exact ⟨⟨K, s⟩, by rw [c0, hK], by rw [c1, hs], wf_u8 hw, hok, hu⟩
    obtain ⟨F, hF⟩ := choose_lt each
    refine ⟨⟨some a, m, (List.range len).map F⟩, by rw [h1]; simp [LEl.v], fun hpos => ?_, by simpa using hl⟩
    have hlen : 0 < len := by simpa using hpos
    obtain ⟨b, o, s⟩ := a
    obtain rfl : s = none := by simpa [Addr.add] using World.cell?_spot (hF 0 (by omega)).1
    refine ⟨b, o, rfl, fun i y hy => ?_⟩
    have hil : i < len := by simpa using (List.getElem?_eq_some_iff.1 hy).1
    obtain rfl : F i = y := by simpa [hil] using hy
    obtain ⟨q0, q1, q2⟩ := hF i (by omega)
    rw [Go.WideShapes.add_plain] at q0 q1
    exact ⟨q0, q1, q2⟩
set_option maxRecDepth 100000 in
theorem open_hopss {r : Reach} {b0 : Nat} {v : Value} {d : DataW H} {p : List MemPlace} (hval : Value.okWide Tryz.prog w r b0 42 v) (h : DataW.Trod enc Tryz.prog w base (fun _ => true) held 42 v d p) :
    ∃ (a : Option Addr) (k c : Nat) (ls : List LEl), v = .slice a k c ∧ ls.length = k ∧ k ≤ c ∧ (c ≤ 9223372036854775807 ∧ (a = none → c = 0)) ∧ LLIn w a ls := by
  obtain ⟨a0, len0, cap0, rfl⟩ := okWide_slice Tryz.underlying42 hval
  obtain ⟨fuel, hf⟩ := h
  have hf' : DataW.trod enc Tryz.prog w base (fun _ => true) held fuel 42 [.slice a0 len0 cap0] = some (d, p) := hf
  rcases open_slice1 Tryz.underlying42 (by kernel_rfl) hf' with ⟨h1, _⟩ | ⟨a, len, cap, m, n, V, D, Pl, h1, _, hl, hcm, hm, _, hi⟩
  · simp only [List.cons.injEq, Value.slice.injEq, and_true] at h1
    obtain ⟨rfl, rfl, rfl⟩ := h1
    exact ⟨none, 0, 0, [], rfl, rfl, Nat.le_refl _, ⟨by omega, fun _ => rfl⟩, fun h => by simp at h⟩
  · simp only [List.cons.injEq, Value.slice.injEq, and_true] at h1
    obtain ⟨rfl, rfl, rfl⟩ := h1
    obtain rfl : m = cap0 := hm
    have each : ∀ i, i < m → ∃ y : LEl, w.cell? (a.add i) = some y.v ∧ LIn w y.p y.l ∧ y.l.length ≤ y.c := fun i him => by
      obtain ⟨c0, t0⟩ := hi i him
      obtain ⟨y, hy, h2, h3⟩ := open_hops_cs t0
      simp only [List.cons.injEq, and_true] at hy
      exact ⟨y, by rw [c0, hy], h2, h3⟩
    obtain ⟨F, hF⟩ := choose_lt each
    refine ⟨some a, len0, m, (List.range len0).map F, rfl, by simp, hl, ⟨by unfold maxLen at hcm; omega, fun h => by cases h⟩, fun hpos => ?_⟩
    have hlen : 0 < len0 := by simpa using hpos
    obtain ⟨b, o, s⟩ := a
    obtain rfl : s = none := by simpa [Addr.add] using World.cell?_spot (hF 0 (by omega)).1
    refine ⟨b, o, rfl, fun i y hy => ?_⟩
    have hil : i < len0 := by simpa using (List.getElem?_eq_some_iff.1 hy).1
    obtain rfl : F i = y := by simpa [hil] using hy
    obtain ⟨q0, q1, q2⟩ := hF i (by omega)
    rw [Go.WideShapes.add_plain] at q0
    exact ⟨q0, q1, q2⟩
end
end Go.Proofs.YtapkmoakbfpkeaaGreatDoor
namespace Go.Proofs.YtapkmoakbfpkeaaGreatDoor
open Go Go.RowKit Go.Proofs Go.Sort Go.ChangeShapes Go.WideShapes

set_option maxRecDepth 100000 in
/-- Bytes handed over. -/
theorem open_bytes {H : Type} {enc : TypeId × Value → H} {w : World} {base : Nat} {held : Bool} {r : Reach} {b0 : Nat} {v : Value} {d : DataW H} {p : List MemPlace} (hval : Value.okWide Tryz.prog w r b0 23 v) (h : DataW.Trod enc Tryz.prog w base (fun _ => true) held 23 v d p) :
    ∃ (a : Option Addr) (m c : Nat) (xs : List Int), v = .slice a m c ∧ (Sl.mk a m c xs).Ok w ∧ U8 xs ∧ m ≤ 9223372036854775807 := by
  obtain ⟨a0, len0, cap0, rfl⟩ := okWide_slice Tryz.underlying23 hval
  obtain ⟨fuel, hf⟩ := h
  have hf' : DataW.trod enc Tryz.prog w base (fun _ => true) held fuel 23 [.slice a0 len0 cap0] = some (d, p) := hf
  obtain ⟨s, hs, hok, hu, hl⟩ := open_sl hf'
  have hc : cap0 ≤ maxLen := by
    rcases open_ints Tryz.underlying23 Tryz.underlying5 (by kernel_rfl) hf' with ⟨h1, _⟩ | ⟨a, len, cap, zs, h1, _, _, hm, _⟩
    · simp only [List.cons.injEq, Value.slice.injEq, and_true] at h1
      rw [h1.2.2]; exact Nat.zero_le _
    · simp only [List.cons.injEq, Value.slice.injEq, and_true] at h1
      rw [h1.2.2]; exact hm
  obtain ⟨p1, m, c, xs⟩ := s
  have e : (Value.slice a0 len0 cap0) = .slice p1 m c := (List.cons.inj hs).1
  injection e with e1 e2 e3
  subst e1 e2 e3
  refine ⟨_, _, _, xs, rfl, hok, hu, ?_⟩
  have hl' : len0 ≤ cap0 := hl
  unfold maxLen at hc
  omega
end Go.Proofs.YtapkmoakbfpkeaaGreatDoor
