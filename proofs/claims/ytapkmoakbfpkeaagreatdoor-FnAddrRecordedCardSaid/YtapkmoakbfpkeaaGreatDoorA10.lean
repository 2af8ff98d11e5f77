/- zzHex; ZZIPString at sixteen bytes; ip6BtS. -/
import Derived.Test.YtapkmoakbfpkeaaGreatDoorA9
namespace Go.Proofs.YtapkmoakbfpkeaaGreatDoor
open Go Go.RowKit Go.Proofs Go.Sort

def HexPost (w : World) (e : Ending) (w' : World) : Prop := ∃ s : ByteArray, e = .returned (.string s) ∧ s.size ≤ 8 ∧ w' = w
/-- The number in a slot of a bool. -/
def onOf : Value → Nat | .bool true => 1 | _ => 0
/-- What holds at the head of zzHex's loop: after k digits. -/
def HexRel (n s ok : Value) : Prop := ∃ (k : Nat) (m : Int) (st : ByteArray), k ≤ 4 ∧ 0 ≤ m ∧ m < 16 ^ (4 - k) ∧ n = .int .i64 m ∧ s = .string st ∧ st.size = k ∧ ok = .bool (decide (k = 0) || decide (0 < m))

theorem and15 (m : Int) (h0 : 0 ≤ m) (h : m < 65536) : bits .and .i64 m 15 = m % 16 :=
  bits_mask .i64 63 (by decide) (fun n h0 h1 => by rw [IntKind.wrap_i64]; omega) 4 (by decide) m h0 (by omega)

set_option maxRecDepth 100000 in
theorem zzHex (n : Int) (w : World) (h0 : 0 ≤ n) (h : n < 65536) : Calls Tryz.prog 295 #[.int .i64 n] w (HexPost w) := by
  go_enter Tryz.func295, Tryz.ntmps295
  go_wp2
  go_loop [0, 3, 4] (fun n s ok => HexRel n s ok) (fun n _ ok => 2 * (intOf n).toNat + onOf ok)
  case atStart => exact ⟨0, n, _, by omega, h0, by simpa using h, rfl, rfl, rfl, by simp⟩
  case round =>
    obtain ⟨k, m, st, hk, hm0, hm, rfl, rfl, hst, rfl⟩ := hrel
    have hm5 : m < 65536 := by
      have hk5 : k = 0 ∨ k = 1 ∨ k = 2 ∨ k = 3 ∨ k = 4 := by omega
      rcases hk5 with rfl | rfl | rfl | rfl | rfl <;> simp at hm <;> omega
    by_cases hon : (decide (k = 0) || decide (0 < m)) = true
    · rw [hon]
      have ha := and15 m hm0 hm5
      have b0 : 0 ≤ m % 16 := by omega
      have b1 : m % 16 < 16 := by omega
      have hs1 : st.size ≤ 4 := by omega
      have HST := Lib.hid hst
      have HM := Lib.hid hm
      have HON := Lib.hid hon
      clear hst hm hon
      go_wp2
      have hm := HM.out
      have hst := HST.out
      have hk3 : k ≤ 3 := by
        rcases (show k ≤ 3 ∨ k = 4 by omega) with h | rfl
        · exact h
        · have := HON.out
          simp at hm this
          omega
      have hdiv : m / 16 < 16 ^ (4 - (k + 1)) := by
        have hk4 : k = 0 ∨ k = 1 ∨ k = 2 ∨ k = 3 := by omega
        rcases hk4 with rfl | rfl | rfl | rfl <;> simp at hm ⊢ <;> omega
      refine ⟨⟨k + 1, m / 16, _, by omega, by omega, hdiv, rfl, rfl, ?_, by simp⟩, ?_⟩
      · rw [ByteArray.size_append, ByteArray.size_extract, hst]
        have : (ByteArray.mk #[48, 49, 50, 51, 52, 53, 54, 55, 56, 57, 97, 98, 99, 100, 101, 102]).size = 16 := rfl
        rw [this]
        omega
      · simp only [intOf]
        by_cases hp : 0 < m / 16
        · simp [onOf, hp]; omega
        · simp [onOf, hp]; omega
    · have hoff : (decide (k = 0) || decide (0 < m)) = false := by simpa using hon
      rw [hoff]
      clear hon hoff
      go_wp2
      go_ret
      exact ⟨st, rfl, by omega, rfl⟩


theorem shlOr (x y : Int) (h0 : 0 ≤ x) (h1 : x < 256) (h2 : 0 ≤ y) (h3 : y < 256) : bits .or .i64 (x * 256) y = x * 256 + y := by
  exact bits_join .i64 63 (by decide) (fun n h0 h1 => by rw [IntKind.wrap_i64]; omega) 8 _ _ (by omega) (by omega) (by omega) h2 (by omega) (by omega)

set_option maxRecDepth 100000 in
theorem group (b o c v i : Nat) (x y : Int) (w : World) (hi : i < 8) (h0 : 0 ≤ x) (h1 : x < 256) (h2 : 0 ≤ y) (h3 : y < 256)
    (hv : w.cell? ⟨v, 0, none⟩ = some (.slice (some ⟨b, o, none⟩) 16 c)) (hx : w.cell? ⟨b, o + 2 * i, none⟩ = some (.int .u8 x)) (hy : w.cell? ⟨b, o + (2 * i + 1), none⟩ = some (.int .u8 y)) :
    Calls Tryz.prog 296 #[.int .i64 i, .pointer (some ⟨v, 0, none⟩)] w fun e w' => e = .returned (.int .i64 (x * 256 + y)) ∧ Dr w w' := by
  go_enter Tryz.func296, Tryz.ntmps296
  go_wp2_with fail
  have e1 : IntKind.i64.wrap (2 * (i : Int)) = 2 * (i : Int) := IntWalk.i64_in _ (by omega)
  have e2 : IntKind.i64.wrap (2 * (i : Int) + 1) = 2 * (i : Int) + 1 := IntWalk.i64_in _ (by omega)
  have e3 : (2 * (i : Int)).toNat = 2 * i := by omega
  have e4 : (2 * (i : Int) + 1).toNat = 2 * i + 1 := by omega
  have e5 : IntKind.i64.wrap x = x := wr64 x ⟨h0, h1⟩
  have e6 : IntKind.i64.wrap y = y := wr64 y ⟨h2, h3⟩
  have g1 : (0 : Int) ≤ 2 * (i : Int) := by omega
  have g2 : 2 * (i : Int) < 16 := by omega
  have g3 : (0 : Int) ≤ 2 * (i : Int) + 1 := by omega
  have g4 : 2 * (i : Int) + 1 < 16 := by omega
  go_quiet (fail)
  go_wp2
  go_ret
  exact ⟨ret_int (shlOr x y h0 h1 h2 h3), ⟨_, rfl⟩⟩
end Go.Proofs.YtapkmoakbfpkeaaGreatDoor
