/- The multihash of an ID: a code of one byte, a length of one byte, and just so many bytes: Decode, Cast. -/
import Derived.Test.YtapkmoakbfpkeaaGreatDoorA4
namespace Go.Proofs.YtapkmoakbfpkeaaGreatDoor
open Go Go.RowKit Go.Proofs

theorem ret3 {a b c a' b' c' : Value} (h1 : a = a') (h2 : b = b') (h3 : c = c') : Ending.returned (.tuple #[a, b, c]) = .returned (.tuple #[a', b', c']) := by rw [h1, h2, h3]
theorem ret4 {a b c d a' b' c' d' : Value} (h1 : a = a') (h2 : b = b') (h3 : c = c') (h4 : d = d') : Ending.returned (.tuple #[a, b, c, d]) = .returned (.tuple #[a', b', c', d']) := by rw [h1, h2, h3, h4]
theorem int_eq {k : IntKind} {a b : Int} (h : a = b) : Value.int k a = .int k b := by rw [h]
theorem cA {w : World} {a : Addr} {v : Value} (h : w.cell? a = some v) (o : Obj) : (w.alloc o).cell? a = some v :=
  (((Below.refl w.heap.size w).alloc (Nat.le_refl _) o).cell (World.block_lt_of_cell? w a h)).trans h
theorem cB {w w' : World} {a : Addr} {v : Value} (hb : Below w.heap.size w w') (h : w.cell? a = some v) : w'.cell? a = some v :=
  (hb.cell (World.block_lt_of_cell? w a h)).trans h
/-- Nothing but draws. -/
def Dr (w w' : World) : Prop := ∃ q, w' = w.drewN q

def MhU (b o n c : Nat) (x : Int) (w : World) (e : Ending) (w' : World) : Prop :=
  ∃ p, e = .returned (.tuple #[.int .u64 x, .slice (some p) (n - 1) (c - 1), .nilIface]) ∧ Dr w w' ∧ (2 ≤ n → p = ⟨b, o + 1, none⟩)

set_option maxRecDepth 100000 in
theorem mhUvarint (b o n c : Nat) (x : Int) (w : World) (h1 : 1 ≤ n) (hn : n ≤ 140737488355328) (hnc : n ≤ c) (h0 : 0 ≤ x) (hx : x < 128) (hc : w.cell? ⟨b, o, none⟩ = some (.int .u8 x)) :
    Calls Tryz.prog 417 #[.slice (some ⟨b, o, none⟩) n c] w (MhU b o n c x w) := by
  go_enter Tryz.func417, Tryz.ntmps417
  go_wp2_with (go_at_call 195; refine (fromUvarint_1 _ _ _ _ _ _ h1 hn h0 hx hc).mono ?_; rintro e w' ⟨rfl, rfl⟩)
  go_quiet (fail)
  go_wp2
  · go_ret3; exact ⟨⟨b, o, none⟩, rfl, ⟨_, rfl⟩, fun h => by omega⟩
  · go_ret3; exact ⟨⟨b, o + 1, none⟩, rfl, ⟨_, rfl⟩, fun _ => rfl⟩

def RMh (n : Nat) (x y : Int) (w : World) (e : Ending) (w' : World) : Prop :=
  ∃ p m k, e = .returned (.tuple #[.int .i64 n, .int .u64 x, .slice (some p) m k, .nilIface]) ∧ (m : Int) = y ∧ Dr w w'

set_option maxRecDepth 100000 in
/-- A multihash: its code, its length, and just so many bytes. -/
theorem readMh (b o n c : Nat) (x y : Int) (w : World) (hnc : n ≤ c) (hc47 : c ≤ 9223372036854775807) (h0 : 0 ≤ x) (hx : x < 128) (hy0 : 0 ≤ y) (hy : y < 128) (hny : (n : Int) = y + 2)
    (hc : w.cell? ⟨b, o, none⟩ = some (.int .u8 x)) (hc1 : w.cell? ⟨b, o + 1, none⟩ = some (.int .u8 y)) :
    Calls Tryz.prog 385 #[.slice (some ⟨b, o, none⟩) n c] w (RMh n x y w) := by
  have hny1 : (n : Int) ≤ y + 2 := by omega
  have hny2 : y + 2 ≤ (n : Int) := by omega
  clear hny
  go_enter Tryz.func385, Tryz.ntmps385
  go_wp2_with fail
  refine (mhUvarint b o n c x w (by omega) (by omega) hnc h0 hx hc).mono ?_
  rintro e w1 ⟨p, rfl, ⟨q, rfl⟩, hp⟩
  obtain rfl := hp (by omega)
  clear hp
  go_wp2_with fail
  refine (mhUvarint b (o + 1) (n - 1) (c - 1) y _ (by omega) (by omega) (by omega) hy0 hy (by go_simp)).mono ?_
  rintro e w1 ⟨p, rfl, ⟨q2, rfl⟩, hp⟩
  clear hp
  go_wp2_with fail
  go_quiet (fail)
  go_wp2
  refine bodyPost_ret (v := .tuple #[.int .i64 n, .int .u64 x, .slice (some p) y.toNat (c - 1 - 1), .nilIface]) ?_ rfl ⟨_, _, _, rfl, by omega, ⟨q + q2 + nq, ?_⟩⟩
  · simp [results, Tryz.results385, go_sem]; omega
  · simp [World.drewN]; omega

def DM (x y : Int) (w : World) (e : Ending) (w' : World) : Prop :=
  ∃ p m k, e = .returned (.tuple #[.agg #[.int .u64 x, .string ByteArray.empty, .int .i64 y, .slice (some p) m k], .nilIface]) ∧ Below w.heap.size w w'

set_option maxRecDepth 100000 in
theorem decodeMh (b o n c : Nat) (x y : Int) (w : World) (hnc : n ≤ c) (hc47 : c ≤ 9223372036854775807) (h0 : 0 ≤ x) (hx : x < 128) (hy0 : 0 ≤ y) (hy : y < 128) (hny : (n : Int) = y + 2)
    (hc : w.cell? ⟨b, o, none⟩ = some (.int .u8 x)) (hc1 : w.cell? ⟨b, o + 1, none⟩ = some (.int .u8 y)) :
    Calls Tryz.prog 327 #[.slice (some ⟨b, o, none⟩) n c] w (DM x y w) := by
  have hny1 : (n : Int) ≤ y + 2 := by omega
  have hny2 : y + 2 ≤ (n : Int) := by omega
  have HN := Lib.hid hny
  clear hny
  go_enter Tryz.func327, Tryz.ntmps327
  go_wp2_with fail
  refine (readMh b o n c x y _ hnc hc47 h0 hx hy0 hy HN.out (cA hc _) (cA hc1 _)).mono ?_
  rintro e w1 ⟨p, m, k, rfl, hm, ⟨q, rfl⟩⟩
  go_wp2_with fail
  refine bodyPost_ret (v := .tuple #[.agg #[.int .u64 x, .string ByteArray.empty, .int .i64 y, .slice (some p) m k], .nilIface]) ?_ rfl ?_
  · simp [results, Tryz.results327, go_sem]; rfl
  · exact ⟨p, m, k, rfl, below_drewN ((Below.refl _ _).alloc (Nat.le_refl _) _) _⟩

def DP (x y : Int) (w : World) (e : Ending) (w' : World) : Prop :=
  ∃ r p m k, e = .returned (.tuple #[.pointer (some ⟨r, 0, none⟩), .nilIface]) ∧ w'.heap[r]? = some (.cells #[.int .u64 x, .string ByteArray.empty, .int .i64 y, .slice (some p) m k] 295 (0, 0)) ∧ Below w.heap.size w w'

set_option maxRecDepth 100000 in
theorem DecodeMh (b o n c : Nat) (x y : Int) (w : World) (hnc : n ≤ c) (hc47 : c ≤ 9223372036854775807) (h0 : 0 ≤ x) (hx : x < 128) (hy0 : 0 ≤ y) (hy : y < 128) (hny : (n : Int) = y + 2)
    (hc : w.cell? ⟨b, o, none⟩ = some (.int .u8 x)) (hc1 : w.cell? ⟨b, o + 1, none⟩ = some (.int .u8 y)) :
    Calls Tryz.prog 280 #[.slice (some ⟨b, o, none⟩) n c] w (DP x y w) := by
  have HN := Lib.hid hny
  clear hny
  go_enter Tryz.func280, Tryz.ntmps280
  go_wp2_with fail
  refine (decodeMh b o n c x y _ hnc hc47 h0 hx hy0 hy HN.out hc hc1).mono ?_
  rintro e w1 ⟨p, m, k, rfl, hb⟩
  go_wp2_with fail
  go_ret2
  exact ⟨w1.heap.size, p, m, k, rfl, heap_alloc_new _ _, hb.alloc hb.size _⟩

set_option maxRecDepth 100000 in
/-- A multihash is cast to itself. -/
theorem CastMh (b o n c : Nat) (x y : Int) (w : World) (hnc : n ≤ c) (hc47 : c ≤ 9223372036854775807) (h0 : 0 ≤ x) (hx : x < 128) (hy0 : 0 ≤ y) (hy : y < 128) (hny : (n : Int) = y + 2)
    (hc : w.cell? ⟨b, o, none⟩ = some (.int .u8 x)) (hc1 : w.cell? ⟨b, o + 1, none⟩ = some (.int .u8 y)) :
    Calls Tryz.prog 289 #[.slice (some ⟨b, o, none⟩) n c] w fun e w' => e = .returned (.tuple #[.slice (some ⟨b, o, none⟩) n c, .nilIface]) ∧ Below w.heap.size w w' := by
  have HN := Lib.hid hny
  clear hny
  go_enter Tryz.func289, Tryz.ntmps289
  go_wp2_with fail
  refine (DecodeMh b o n c x y _ hnc hc47 h0 hx hy0 hy HN.out hc hc1).mono ?_
  rintro e w1 ⟨r, p, m, k, rfl, hr, hb⟩
  go_wp2_with fail
  go_ret2
  exact ⟨rfl, hb⟩
end Go.Proofs.YtapkmoakbfpkeaaGreatDoor
