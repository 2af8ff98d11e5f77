/- p2pVal at the bytes of an ID; the address's small leaves. -/
import Derived.Test.YtapkmoakbfpkeaaGreatDoorA5
import Derived.Lib.ItoaLen
namespace Go.Proofs.YtapkmoakbfpkeaaGreatDoor
open Go Go.RowKit Go.Proofs

set_option maxRecDepth 100000 in
/-- An ID passes: its code is 0, or it is 18 with 32 bytes. -/
theorem p2pVal_ok (b o n c : Nat) (x y : Int) (w : World) (hnc : n ≤ c) (hc47 : c ≤ 9223372036854775807) (hx : x = 0 ∨ (x = 18 ∧ y = 32)) (hy0 : 0 ≤ y) (hy : y < 128) (hny : (n : Int) = y + 2)
    (hc : w.cell? ⟨b, o, none⟩ = some (.int .u8 x)) (hc1 : w.cell? ⟨b, o + 1, none⟩ = some (.int .u8 y)) :
    Calls Tryz.prog 250 #[.slice (some ⟨b, o, none⟩) n c] w fun e w' => e = .returned .nilIface ∧ Below w.heap.size w w' := by
  have HN := Lib.hid hny
  clear hny
  rcases hx with rfl | ⟨rfl, rfl⟩
  all_goals
    go_enter Tryz.func250, Tryz.ntmps250
    go_wp2_with fail
    refine (DecodeMh b o n c _ _ _ hnc hc47 (by omega) (by omega) hy0 hy HN.out hc hc1).mono ?_
    rintro e w1 ⟨r, p, m, k, rfl, hr, hb⟩
    have c0 : w1.cell? ⟨r, 0, none⟩ = _ := cell_of_row w1 r 0 _ _ (0, 0) hr
    have c2 : w1.cell? ⟨r, 2, none⟩ = _ := cell_of_row w1 r 2 _ _ (0, 0) hr
    simp at c0 c2
    clear hr
    go_wp2_with fail
    go_ret
    exact ⟨rfl, hb⟩

/-- The library's table of powers of ten is what its text lays. -/
def Tab (w : World) : Prop := Lib.TabIs Tryz.prog w "internal/strconv.uint64pow10" .u64 Lib.pow10Tab
theorem gPow : Tryz.prog.globalNamed "internal/strconv.uint64pow10" = some 21 := by kernel_rfl
theorem Tab.below {w w' : World} (h : Tab w) (hb : Below w.heap.size w w') : Tab w' := by
  have hlt : 21 < w.heap.size := by
    have h' := h
    unfold Tab Lib.TabIs World.var? at h'
    rw [gPow, Option.bind_some] at h'
    split at h'
    · rename_i hh; exact (Array.getElem?_eq_some_iff.1 hh).1
    · cases h'
  exact var?_below hb gPow hlt h
theorem Tab.drewN {w : World} (h : Tab w) (n : Nat) : Tab (w.drewN n) := h.below (below_drewN (Below.refl _ _) n)
theorem Tab.drew {w : World} (h : Tab w) : Tab w.drew := h.below ((Below.refl _ _).drew)
theorem Tab.alloc {w : World} (h : Tab w) (o : Obj) : Tab (w.alloc o) := h.below ((Below.refl _ _).alloc (Nat.le_refl _) o)

/-- 'some string comes back': all that the reading of an address asks of a value's text. -/
def SomeStr (w : World) (e : Ending) (w' : World) : Prop := ∃ s, e = .returned (.string s) ∧ s.size ≤ 1000 ∧ Below w.heap.size w w'
def SomeStrNil (w : World) (e : Ending) (w' : World) : Prop := ∃ s, e = .returned (.tuple #[.string s, .nilIface]) ∧ s.size ≤ 2000 ∧ Below w.heap.size w w'

theorem grow_below (w : World) (k : Nat) (os : Array Obj) : Below w.heap.size w (Sort.grow (w.drewN k) os) := by
  refine ⟨rfl, rfl, rfl, ?_, fun i hi => ?_⟩
  · show w.heap.size ≤ (w.heap ++ os).size
    simp
  · show (w.heap ++ os)[i]? = _
    rw [Array.getElem?_append_left hi]

theorem itoa_any (x : Int) (w : World) (h0 : 0 ≤ x) (h : x < 65536) (hT : Tab w) : Calls Tryz.prog 267 #[.int .i64 x] w (SomeStr w) :=
  (Tryz.strconv_Itoa x (by omega) (by omega) w hT).mono fun e w' ⟨he, k, os, hw⟩ => ⟨_, he, by have := Lib.itoa_length_le x (by omega) (by omega); simp only [ByteArray.size, List.size_toArray]; omega, by rw [hw]; exact grow_below w k os⟩
end Go.Proofs.YtapkmoakbfpkeaaGreatDoor
