/- Numbers' texts: FormatUint at base 10; the texts of the values of ports and of IPv4 addresses: some string, and no error. -/
import Derived.Test.YtapkmoakbfpkeaaGreatDoorA6
import Derived.Lib.AppendIntMem
namespace Go.Proofs.YtapkmoakbfpkeaaGreatDoor
open Go Go.RowKit Go.Proofs Go.Sort

theorem grow_below0 (w : World) (os : Array Obj) : Below w.heap.size w (Sort.grow w os) := by
  refine ⟨rfl, rfl, rfl, ?_, fun i hi => ?_⟩
  · show w.heap.size ≤ (w.heap ++ os).size
    simp
  · show (w.heap ++ os)[i]? = _
    rw [Array.getElem?_append_left hi]
theorem below_putRow {α : Type} [Inhabited α] (enc : α → Value) (w : World) (o : Obj) (off : Nat) (d : Array α) : Below w.heap.size w (putRow enc (w.alloc o) w.heap.size off d) := by
  rw [alloc_eq_grow]
  obtain ⟨os, _, h⟩ := putRow_grow_new enc w #[o] w.heap.size off d (Nat.le_refl _)
  rw [h]
  exact grow_below0 w os

set_option maxHeartbeats 1600000 in
set_option maxRecDepth 100000 in
theorem formatUint_in (u : Nat) (w : World) (hu1 : 1 ≤ u) (h100 : 100 ≤ u) (hu64 : u < 18446744073709551616) (hT : Tab w) :
    Calls Tryz.prog 299 #[.int .u64 u, .int .i64 10] w (SomeStr w) := by
  have hnd20 : Lib.nDigits u ≤ 20 := by have := Lib.numDigits_eq u hu1 hu64; split at this <;> omega
  have hal : Tryz.prog.arrayLen 337 = 24 := by simp [Program.arrayLen, Tryz.underlying337]
  have hsl2 : ∀ W, (Instr.sliceAt 337 (.pointer (some ⟨w.heap.size, 0, none⟩)) none (some (.int .i64 (Lib.nDigits u : Int))) none).run Tryz.prog W = .ok (.slice (some ⟨w.heap.size, 0, none⟩) (Lib.nDigits u) 24) W := fun W => by
    rw [run_sliceAt_array_h W 337 ⟨w.heap.size, 0, none⟩ (by simp [Program.arrayLen, Program.elem, Tryz.underlying337]) .i64 (Lib.nDigits u : Int) (by omega) (by rw [hal]; omega)]
    go_simp
  have hH0 := Lib.holds_zero0 w 337 (Lib.nDigits u) (by omega)
  have hfmt := Tryz.internal_strconv_formatBase10 w.heap.size 0 24 u (Array.replicate (Lib.nDigits u) 0) (w.alloc (.cells Lib.zeros24 337)) hH0 (by rw [Array.size_replicate]; exact Lib.lt_pow_nDigits u) hu64 (by rw [Array.size_replicate]; omega)
  rw [Array.size_replicate] at hfmt
  have HF := Lib.hid hfmt
  have HH0 := Lib.hid hH0
  have HT := Lib.hid hT
  clear hH0 hal hT hfmt
  go_enter Tryz.func299, Tryz.ntmps299
  go_wp2_with (go_at_call 362; refine (Tryz.internal_strconv_numDigits u hu1 hu64 _ (Lib.tabIs_alloc HT.out _)).mono ?_; rintro e w' ⟨rfl, rfl⟩)
  refine HF.out.mono ?_
  rintro e w' ⟨rfl, k, v', dk, rfl, hF⟩
  have hcv : (convert 23 9 (.slice (some ⟨w.heap.size, 0, none⟩) (Lib.nDigits u) 24)).run Tryz.prog ((putRow (fun (b : UInt8) => Value.int .u8 (b.toNat : Int)) (w.alloc (.cells Lib.zeros24 337)) w.heap.size 0 dk).drewN k) = .ok (.string ⟨(Lib.decDigits u).toArray⟩) ((putRow (fun (b : UInt8) => Value.int .u8 (b.toNat : Int)) (w.alloc (.cells Lib.zeros24 337)) w.heap.size 0 dk).drewN k) := by
    have h := run_convert_bytes_back (P := Tryz.prog) ((putRow (fun (b : UInt8) => Value.int .u8 (b.toNat : Int)) (w.alloc (.cells Lib.zeros24 337)) w.heap.size 0 dk).drewN k) 23 9 5 ⟨w.heap.size, 0, none⟩ 24 (Lib.decDigits u) Tryz.underlying23 Tryz.underlying5 Tryz.underlying9 (fun j hj => by
      rw [Lib.row_is_numeral hF j hj, Lib.add_plain, World.cell?_drewN]
      exact cell?_putRow (fun (b : UInt8) => Value.int .u8 (b.toNat : Int)) _ w.heap.size 0 _ dk HH0.out (by rw [hF.size, Array.size_replicate]) j (by rw [hF.size]; rw [Lib.decDigits_length] at hj; exact hj))
    rw [Lib.decDigits_length] at h
    exact h
  go_wp2
  go_ret
  exact ⟨_, rfl, by simp only [ByteArray.size, List.size_toArray, Lib.decDigits_length]; omega, below_drewN (below_putRow _ _ _ _ _) _⟩

set_option maxRecDepth 100000 in
theorem formatUint_small (u : Nat) (w : World) (h100 : u < 100) : Calls Tryz.prog 299 #[.int .u64 u, .int .i64 10] w (SomeStr w) := by
  go_enter Tryz.func299, Tryz.ntmps299
  go_wp2_with (go_at_call 361; refine (Tryz.internal_strconv_small u h100 _).mono ?_; rintro e w' ⟨rfl, rfl⟩)
  go_ret
  exact ⟨_, rfl, by have := Lib.nDigits_le20 u (by omega); simp only [ByteArray.size, List.size_toArray, Lib.decDigits_length]; omega, Below.refl _ _⟩

set_option maxRecDepth 100000 in
theorem formatUint (x : Int) (w : World) (h0 : 0 ≤ x) (h : x < 65536) (hT : Tab w) : Calls Tryz.prog 263 #[.int .u64 x, .int .i64 10] w (SomeStr w) := by
  obtain ⟨u, rfl⟩ := Int.eq_ofNat_of_zero_le h0
  have hF : Calls Tryz.prog 299 #[.int .u64 u, .int .i64 10] w (SomeStr w) := by
    by_cases hs : u < 100
    · exact formatUint_small u w hs
    · exact formatUint_in u w (by omega) (by omega) (by omega) hT
  have HF := Lib.hid hF
  clear hF hT
  go_enter Tryz.func263, Tryz.ntmps263
  go_wp2_with (go_at_call 299; refine HF.out.mono ?_; rintro e w' ⟨s, rfl, hs, hb⟩)
  go_ret
  exact ⟨_, rfl, hs, hb⟩

set_option maxRecDepth 100000 in
/-- A port's two bytes have a text. -/
theorem portBtS (b o n c : Nat) (x y : Int) (w : World) (hn : n = 2) (hx0 : 0 ≤ x) (hx : x < 256) (hy0 : 0 ≤ y) (hy : y < 256)
    (hc : w.cell? ⟨b, o, none⟩ = some (.int .u8 x)) (hc1 : w.cell? ⟨b, o + 1, none⟩ = some (.int .u8 y)) (hT : Tab w) :
    Calls Tryz.prog 218 #[.slice (some ⟨b, o, none⟩) n c] w (SomeStrNil w) := by
  go_enter Tryz.func218, Tryz.ntmps218
  subst hn
  go_wp2_with fail
  refine (Tryz.binary_BE_Uint16_z ⟨b, o, none⟩ 2 c [x, y] _ (Nat.le_refl _) (Nat.le_refl _) (fun i hi => ?_) (fun z hz => ?_)).mono ?_
  · have : i = 0 ∨ i = 1 := by simp at hi; omega
    rcases this with rfl | rfl
    · rw [Lib.add_plain]; exact hc
    · rw [Lib.add_plain]; exact hc1
  · have : z = x ∨ z = y := by simpa using hz
    rcases this with rfl | rfl <;> (simp only [Lit.wf, Bool.and_eq_true, decide_eq_true_eq]; exact ⟨by show (0 : Int) ≤ _; omega, by show _ ≤ (255 : Int); omega⟩)
  rintro e w1 ⟨rfl, hb⟩
  have hz : Lib.beZ (List.take 2 [x, y]) = x * 256 + y := by simp [Lib.beZ, Lib.beFromZ]
  rw [hz]
  have hT1 := Lib.hid (hT.below hb)
  clear hz hT
  go_wp2_with fail
  refine (formatUint (x * 256 + y) _ (by omega) (by omega) hT1.out).mono ?_
  rintro e w2 ⟨s, rfl, hs, hb2⟩
  go_wp2_with fail
  go_ret2
  exact ⟨_, rfl, by omega, hb.trans (hb2.mono hb.size)⟩
end Go.Proofs.YtapkmoakbfpkeaaGreatDoor
