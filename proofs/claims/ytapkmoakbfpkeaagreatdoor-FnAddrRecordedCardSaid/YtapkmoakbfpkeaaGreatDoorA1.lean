/- Small functions: errors.New, UvarintSize, ToUvarint, CodeToVarint: what each returns, and that nothing that was there has turned. -/
import Derived.Test.YtapkmoakbfpkeaaGreatDoorShelf
import Derived.WalkKit
import Derived.WalkLawsBesides
import Derived.WalkSpells
import Derived.Lib.Hide
import Derived.Deep.QuietTactic
import Derived.BigQuiet
import Derived.Deep.DeepFit
import Derived.Deep.DeepMust
import Derived.Deep.LoopGhost
import Derived.Deep.Light
import Derived.Deep.DeepCutAuto
import Derived.Deep.CutBlock
import Derived.Deep.RegionHeld3
import Derived.Deep.AppendSrc
namespace Go.Proofs.YtapkmoakbfpkeaaGreatDoor
open Go Go.RowKit Go.Proofs

/-- Draws go outward: two rules more for the walk. -/
@[go_sem] theorem setCell_drewN (w : World) (n : Nat) (a : Addr) (v : Value) : (w.drewN n).setCell a v = (w.setCell a v).drewN n := rfl
@[go_sem] theorem alloc_drewN (w : World) (n : Nat) (o : Obj) : (w.drewN n).alloc o = (w.alloc o).drewN n := rfl
theorem bl_lo (x : Nat) (h : x < 128) : Lib.bitLen x ≤ 7 :=
  (by decide +kernel : ∀ n : Fin 128, Lib.bitLen n.val ≤ 7) ⟨x, h⟩
theorem bl_mid (x : Nat) (h0 : 128 ≤ x) (h : x < 512) : 8 ≤ Lib.bitLen x ∧ Lib.bitLen x ≤ 9 :=
  (by decide +kernel : ∀ n : Fin 512, 128 ≤ n.val → 8 ≤ Lib.bitLen n.val ∧ Lib.bitLen n.val ≤ 9) ⟨x, h⟩ h0

theorem ret_int {k : IntKind} {a b : Int} (h : a = b) : Ending.returned (.int k a) = .returned (.int k b) := by rw [h]

theorem uvarintSize_1 (x : Nat) (h : x < 128) (w : World) : Calls Tryz.prog 144 #[.int .u64 x] w fun e w' => e = .returned (.int .i64 1) ∧ w' = w := by
  have hb := bl_lo x h
  go_enter Tryz.func144, Tryz.ntmps144
  go_wp2_with (go_at_call 93; refine (Tryz.bits_Len64 _ _ (by omega) (by omega)).mono ?_; rintro e w' ⟨rfl, rfl⟩)
  all_goals (go_ret; refine ⟨ret_int ?_, rfl⟩; (try simp only [beq_iff_eq, beq_eq_false_iff_ne] at *); show _ = _; omega)

theorem uvarintSize_2 (x : Nat) (h0 : 128 ≤ x) (h : x < 512) (w : World) : Calls Tryz.prog 144 #[.int .u64 x] w fun e w' => e = .returned (.int .i64 2) ∧ w' = w := by
  have hb := bl_mid x h0 h
  go_enter Tryz.func144, Tryz.ntmps144
  go_wp2_with (go_at_call 93; refine (Tryz.bits_Len64 _ _ (by omega) (by omega)).mono ?_; rintro e w' ⟨rfl, rfl⟩)
  all_goals (go_ret; refine ⟨ret_int ?_, rfl⟩; (try simp only [beq_iff_eq, beq_eq_false_iff_ne] at *); show _ = _; omega)

theorem errorsNew (s : ByteArray) (w : World) : Calls Tryz.prog 109 #[.string s] w fun e w' => (∃ a, e = .returned (.iface 215 (.pointer (some a)))) ∧ Below w.heap.size w w' := by
  go_enter Tryz.func109, Tryz.ntmps109
  go_wp2
  go_ret
  exact ⟨⟨_, rfl⟩, (Below.refl _ _).alloc (Nat.le_refl _) _⟩

theorem mk1 (w : World) : (Instr.makeSlice 23 (.int .i64 1) (.int .i64 1)).run Tryz.prog w = .ok (.slice (some ⟨w.heap.size, 0, none⟩) 1 1) (w.alloc (.cells #[.int .u8 0] 5)) := by kernel_rfl
theorem mk2 (w : World) : (Instr.makeSlice 23 (.int .i64 2) (.int .i64 2)).run Tryz.prog w = .ok (.slice (some ⟨w.heap.size, 0, none⟩) 2 2) (w.alloc (.cells #[.int .u8 0, .int .u8 0] 5)) := by kernel_rfl

theorem setCells_row1 (w : World) (u v : Value) (t : TypeId) : (w.alloc (.cells #[u] t)).setCells w.heap.size 0 [v] = w.alloc (.cells #[v] t) := by
  rw [World.setCells, World.setCells, World.setCell_alloc_new]; rfl
theorem setCells_row2 (w : World) (u0 u1 v0 v1 : Value) (t : TypeId) : (w.alloc (.cells #[u0, u1] t)).setCells w.heap.size 0 [v0, v1] = w.alloc (.cells #[v0, v1] t) := by
  rw [World.setCells, World.setCells, World.setCells, World.setCell_alloc_new]
  have := World.setCell_alloc_new (w := w) #[v0, u1] t 1 v1
  exact this
theorem byteCells_1 (x : Nat) (h : x < 256) : Lib.byteCells [x.toUInt8] = [.int .u8 x] := by
  simp [Lib.byteCells, Nat.mod_eq_of_lt h]
theorem byteCells_2 (x y : Nat) (h : x < 256) (h' : y < 256) : Lib.byteCells [x.toUInt8, y.toUInt8] = [.int .u8 x, .int .u8 y] := by
  simp [Lib.byteCells, Nat.mod_eq_of_lt h, Nat.mod_eq_of_lt h']

set_option maxRecDepth 100000 in
/-- 'make([]byte, n)' and 'PutUvarint': what ToUvarint lays for a number of one byte. -/
theorem toUvarint_1 (x : Nat) (h : x < 128) (w : World) : Calls Tryz.prog 213 #[.int .u64 x] w fun e w' =>
    e = .returned (.slice (some ⟨w.heap.size, 0, none⟩) 1 1) ∧ w' = w.alloc (.cells #[.int .u8 x] 5) := by
  have hmk := mk1
  have hl : (Lib.uvarint x).length = 1 := by rw [Lib.uvarint_small h]; rfl
  have hL := Lib.hid hl; clear hl
  go_enter Tryz.func213, Tryz.ntmps213
  go_wp2_with (go_at_call 144; refine (uvarintSize_1 _ h _).mono ?_; rintro e w' ⟨rfl, rfl⟩)
  refine (Tryz.binary_PutUvarint w'.heap.size 0 1 1 x (by omega) _ (by rw [hL.out]; exact Nat.le_refl _) (fun j hj => ?_)).mono ?_
  · rw [hL.out] at hj
    obtain rfl : j = 0 := by omega
    constructor <;> go_simp
  rintro e w1 ⟨rfl, rfl⟩
  rw [hL.out, Lib.uvarint_small h, byteCells_1 _ (by omega), setCells_row1]
  go_wp2
  go_ret
  exact ⟨rfl, rfl⟩

set_option maxRecDepth 100000 in
/-- .. of two bytes. -/
theorem toUvarint_2 (x : Nat) (h0 : 128 ≤ x) (h : x < 512) (w : World) : Calls Tryz.prog 213 #[.int .u64 x] w fun e w' =>
    e = .returned (.slice (some ⟨w.heap.size, 0, none⟩) 2 2) ∧ w' = w.alloc (.cells #[.int .u8 (x % 128 + 128), .int .u8 (x / 128)] 5) := by
  have hmk := mk2
  have hu : Lib.uvarint x = [(x % 128 + 128).toUInt8, (x / 128).toUInt8] := by rw [Lib.uvarint_big h0, Lib.uvarint_small (by omega)]
  have hU := Lib.hid hu; clear hu
  go_enter Tryz.func213, Tryz.ntmps213
  go_wp2_with (go_at_call 144; refine (uvarintSize_2 _ h0 h _).mono ?_; rintro e w' ⟨rfl, rfl⟩)
  refine (Tryz.binary_PutUvarint w'.heap.size 0 2 2 x (by omega) _ (by rw [hU.out]; exact Nat.le_refl _) (fun j hj => ?_)).mono ?_
  · rw [hU.out] at hj
    have : j = 0 ∨ j = 1 := by simp at hj; omega
    rcases this with rfl | rfl <;> constructor <;> go_simp
  rintro e w1 ⟨rfl, rfl⟩
  rw [hU.out, byteCells_2 _ _ (by omega) (by omega), setCells_row2]
  go_wp2
  go_ret
  exact ⟨rfl, rfl⟩

set_option maxRecDepth 100000 in
theorem codeToVarint_1 (x : Int) (h0 : 0 ≤ x) (h : x < 128) (w : World) : Calls Tryz.prog 196 #[.int .i64 x] w fun e w' =>
    e = .returned (.slice (some ⟨w.heap.size, 0, none⟩) 1 1) ∧ w' = w.alloc (.cells #[.int .u8 x] 5) := by
  obtain ⟨x, rfl⟩ := Int.eq_ofNat_of_zero_le h0
  go_enter Tryz.func196, Tryz.ntmps196
  go_wp2_with (go_at_call 213; refine (toUvarint_1 _ (by omega) _).mono ?_; rintro e w' ⟨rfl, rfl⟩)
  go_ret
  exact ⟨rfl, rfl⟩

set_option maxRecDepth 100000 in
theorem codeToVarint_2 (x : Int) (h0 : 128 ≤ x) (h : x < 512) (w : World) : Calls Tryz.prog 196 #[.int .i64 x] w fun e w' =>
    e = .returned (.slice (some ⟨w.heap.size, 0, none⟩) 2 2) ∧ w' = w.alloc (.cells #[.int .u8 (x % 128 + 128), .int .u8 (x / 128)] 5) := by
  obtain ⟨x, rfl⟩ := Int.eq_ofNat_of_zero_le (show 0 ≤ x by omega)
  go_enter Tryz.func196, Tryz.ntmps196
  go_wp2_with (go_at_call 213; refine (toUvarint_2 _ (by omega) (by omega) _).mono ?_; rintro e w' ⟨rfl, rfl⟩)
  go_ret
  exact ⟨rfl, rfl⟩
end Go.Proofs.YtapkmoakbfpkeaaGreatDoor
