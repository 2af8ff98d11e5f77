/- ZZIPString at sixteen bytes that are no ::ffff: address; ip6BtS. -/
import Derived.Test.YtapkmoakbfpkeaaGreatDoorA10
namespace Go.Proofs.YtapkmoakbfpkeaaGreatDoor
open Go Go.RowKit Go.Proofs Go.Sort

def grp (xs : List Int) (i : Nat) : Int := xs.getD (2 * i) 0 * 256 + xs.getD (2 * i + 1) 0
theorem getD_bd {xs : List Int} (hb : ∀ x ∈ xs, 0 ≤ x ∧ x < 256) (i : Nat) (h : i < xs.length) : 0 ≤ xs.getD i 0 ∧ xs.getD i 0 < 256 := by
  have e : xs.getD i 0 = xs[i] := by simp [List.getD, List.getElem?_eq_getElem h]
  rw [e]; exact hb _ (List.getElem_mem _)
theorem grp_bd {xs : List Int} (hx : xs.length = 16) (hb : ∀ x ∈ xs, 0 ≤ x ∧ x < 256) (i : Nat) (h : i < 8) : 0 ≤ grp xs i ∧ grp xs i < 65536 := by
  have h1 := getD_bd hb (2 * i) (by omega)
  have h2 := getD_bd hb (2 * i + 1) (by omega)
  unfold grp; omega

/-- The run of zeros that has been found: none, or from F up to T. -/
def FT (fr tt : Value) : Prop := ∃ F T : Nat, fr = .int .i64 F ∧ tt = .int .i64 T ∧ ((F = 255 ∧ T = 255) ∨ (F + 2 ≤ T ∧ T ≤ 8))
/-- What every world of the call reads as: the address's variable, and its bytes. -/
def Seen (v b o c : Nat) (xs : List Int) (W : World) : Prop := W.cell? ⟨v, 0, none⟩ = some (.slice (some ⟨b, o, none⟩) 16 c) ∧ ∀ i, i < 16 → W.cell? ⟨b, o + i, none⟩ = some (.int .u8 (xs.getD i 0))
theorem Seen.drewN {v b o c : Nat} {xs : List Int} {W : World} (h : Seen v b o c xs W) (q : Nat) : Seen v b o c xs (W.drewN q) := h
theorem group_any {v b o c : Nat} {xs : List Int} (hx : xs.length = 16) (hb : ∀ x ∈ xs, 0 ≤ x ∧ x < 256) {W : World} (h : Seen v b o c xs W) (i : Nat) (hi : i < 8) :
    Calls Tryz.prog 296 #[.int .i64 i, .pointer (some ⟨v, 0, none⟩)] W fun e w' => e = .returned (.int .i64 (grp xs i)) ∧ Dr W w' :=
  group b o c v i _ _ W hi (getD_bd hb _ (by omega)).1 (getD_bd hb _ (by omega)).2 (getD_bd hb _ (by omega)).1 (getD_bd hb _ (by omega)).2 h.1 (h.2 _ (by omega)) (h.2 _ (by omega))

set_option maxHeartbeats 1600000 in
set_option maxRecDepth 100000 in
theorem ip6Str (b o c : Nat) (xs : List Int) (w : World) (hx : xs.length = 16) (hc16 : 16 ≤ c) (hb : ∀ x ∈ xs, 0 ≤ x ∧ x < 256) (hc : ∀ i, i < 16 → w.cell? ⟨b, o + i, none⟩ = some (.int .u8 (xs.getD i 0))) (h4 : is4 xs = false) :
    Calls Tryz.prog 259 #[.slice (some ⟨b, o, none⟩) 16 c] w (SomeStr w) := by
  have hmf : ∀ (fn : Fn) (first cap : Array Value) (w : World), (Instr.makeFunc fn first cap).run Tryz.prog w = .ok (.func fn first cap) w := fun _ _ _ _ => rfl
  have HT4 : Hid (∀ O, Calls Tryz.prog 258 #[.slice (some ⟨b, o, none⟩) 16 c] (w.alloc O) fun e w' => e = .returned (.slice none 0 0) ∧ w' = w.alloc O) :=
    fun O => by have := to4_16 b o c xs (w.alloc O) hx hc16 hb (fun i hi => cA (hc i hi) O); rw [h4] at this; exact this
  have HC := Lib.hid hc
  clear hc h4
  go_enter Tryz.func259, Tryz.ntmps259
  go_wp2_with (go_at_call 258; refine (HT4.out _).mono ?_; rintro e w' ⟨rfl, rfl⟩)
  have hS0 : Hid (Seen w.heap.size b o c xs (w.alloc (.cells #[.slice (some ⟨b, o, none⟩) 16 c] 254))) := ⟨by go_simp, fun i hi => cA (HC.out i hi) _⟩
  obtain ⟨W0, hW0⟩ : ∃ W0, W0 = w.alloc (.cells #[.slice (some ⟨b, o, none⟩) 16 c] 254) := ⟨_, rfl⟩
  obtain ⟨v, hv⟩ : ∃ v, v = w.heap.size := ⟨_, rfl⟩
  have hBW : Hid (Below w.heap.size w W0) := by rw [hW0]; exact (Below.refl _ _).alloc (Nat.le_refl _) _
  rw [← hW0, ← hv] at hS0
  rw [← hW0, ← hv]
  clear hW0 hv HT4 HC
  go_loopg [8, 9, 10] 8 (fun gk fr tt i wr => FT fr tt ∧ ∃ k : Nat, k ≤ 8 ∧ gk + k = 8 ∧ i = .int .i64 k ∧ Dr W0 wr)
  case atStart => exact ⟨⟨255, 255, rfl, rfl, .inl ⟨rfl, rfl⟩⟩, 0, by omega, by omega, rfl, 0, rfl⟩
  case round =>
    obtain ⟨⟨F, T, rfl, rfl, hFT⟩, k, hk, hgk, rfl, q, rfl⟩ := hrel
    obtain ⟨gO, rfl⟩ : ∃ n, n = gk := ⟨_, rfl⟩
    have HGK := Lib.hid hgk
    clear hgk
    by_cases hlt : k < 8
    · have hd8 : decide ((k : Int) < 8) = true := decide_eq_true (by omega)
      go_wp2_with fail
      go_loopg [11] (8 - k) (fun gj j wr2 => ∃ m : Nat, k ≤ m ∧ m ≤ 8 ∧ gj + m = 8 ∧ j = .int .i64 m ∧ Dr W0 wr2)
      case atStart => exact ⟨k, Nat.le_refl _, hk, by omega, rfl, q, rfl⟩
      case round =>
        obtain ⟨m, hkm, hm8, hgm, rfl, q2, rfl⟩ := hrel
        have HGM := Lib.hid hgm
        clear hgm
        by_cases hm : m < 8
        · obtain ⟨g, hg⟩ : ∃ g, g = grp xs m := ⟨_, rfl⟩
          have hG := group_any hx hb (hS0.out.drewN q2) m hm
          rw [← hg] at hG
          have HG := Lib.hid hG
          have hgb := grp_bd hx hb m hm
          rw [← hg] at hgb
          clear hG hg
          by_cases hg0 : g = 0
          · subst hg0
            go_wp2_with (go_at_call 296; refine HG.out.mono ?_; rintro e w' ⟨rfl, ⟨q3, rfl⟩⟩)
            go_roundg (gk - 1)
            case measure => have := HGM.out; omega
            case rel => have := HGM.out; first | exact ⟨m + 1, by omega, by omega, by omega, by go_num, q2 + q3, rfl⟩ | ((repeat apply Exists.intro); exact ⟨⟨m + 1, by omega, by omega, by omega, by go_num, q2 + q3, rfl⟩, rfl⟩)
          · have hgn : (g == 0) = false := by simpa using hg0
            go_wp2_with (go_at_call 296; refine HG.out.mono ?_; rintro e w' ⟨rfl, ⟨q3, rfl⟩⟩)
            all_goals
              go_roundg (gO - 1)
              case measure => have := HGK.out; omega
              case rel => have := HGK.out; exact ⟨by first | exact ⟨k, m, rfl, rfl, .inr ⟨by omega, by omega⟩⟩ | exact ⟨F, T, rfl, rfl, hFT⟩, k + 1, by omega, by omega, by go_num, q2 + q3, rfl⟩
        · go_wp2_with fail
          all_goals
            go_roundg (gO - 1)
            case measure => have := HGK.out; omega
            case rel => have := HGK.out; exact ⟨by first | exact ⟨k, m, rfl, rfl, .inr ⟨by omega, by omega⟩⟩ | exact ⟨F, T, rfl, rfl, hFT⟩, k + 1, by omega, by omega, by go_num, q2, rfl⟩
    · go_wp2_with fail
      clear HGK hlt
      go_loopg [13, 14] 8 (fun gk s i wr => ∃ (st : ByteArray) (k : Nat), k ≤ 8 ∧ gk + k = 8 ∧ st.size ≤ 16 * k ∧ s = .string st ∧ i = .int .i64 k ∧ Dr W0 wr)
      case atStart => exact ⟨_, 0, by omega, by omega, by decide, rfl, rfl, q, rfl⟩
      case round =>
        obtain ⟨st, k, hk, hgk, hst, rfl, rfl, q, rfl⟩ := hrel
        have HGK := Lib.hid hgk
        clear hgk
        have hst1 : st.size ≤ 128 := by omega
        by_cases hlt : k < 8
        · by_cases hF : k = F
          · have hT8 : F + 2 ≤ T ∧ T ≤ 8 := by omega
            subst hF
            by_cases hT : T < 8
            · have hg := grp_bd hx hb T hT
              go_wp2_with (first | (go_at_call 296; refine (group_any hx hb (hS0.out.drewN q) T hT).mono ?_; rintro e w' ⟨rfl, ⟨q3, rfl⟩⟩) | (go_at_call 295; refine (zzHex _ _ hg.1 hg.2).mono ?_; rintro e w' ⟨s8, rfl, hs8, rfl⟩))
              go_roundg (8 - (T + 1))
              case measure => have := HGK.out; omega
              case rel => exact ⟨_, T + 1, by omega, by omega, by simp only [ByteArray.size_append]; have e1 : (ByteArray.mk #[58, 58]).size = 2 := rfl; omega, rfl, by go_num, q + q3, rfl⟩
            · go_wp2_with fail
              go_ret
              exact ⟨_, rfl, by simp only [ByteArray.size_append]; have e1 : (ByteArray.mk #[58, 58]).size = 2 := rfl; omega, below_drewN hBW.out _⟩
          · by_cases hk0 : 0 < k
            · have hg := grp_bd hx hb k hlt
              go_wp2_with (first | (go_at_call 296; refine (group_any hx hb (hS0.out.drewN q) k hlt).mono ?_; rintro e w' ⟨rfl, ⟨q3, rfl⟩⟩) | (go_at_call 295; refine (zzHex _ _ hg.1 hg.2).mono ?_; rintro e w' ⟨s8, rfl, hs8, rfl⟩))
              go_roundg (gk - 1)
              case measure => have := HGK.out; omega
              case rel => exact ⟨_, k + 1, by omega, by have := HGK.out; omega, by simp only [ByteArray.size_append]; (try have e1 : (ByteArray.mk #[58]).size = 1 := rfl); omega, rfl, by go_num, q + q3, rfl⟩
            · have hg := grp_bd hx hb k hlt
              go_wp2_with (first | (go_at_call 296; refine (group_any hx hb (hS0.out.drewN q) k hlt).mono ?_; rintro e w' ⟨rfl, ⟨q3, rfl⟩⟩) | (go_at_call 295; refine (zzHex _ _ hg.1 hg.2).mono ?_; rintro e w' ⟨s8, rfl, hs8, rfl⟩))
              go_roundg (gk - 1)
              case measure => have := HGK.out; omega
              case rel => exact ⟨_, k + 1, by omega, by have := HGK.out; omega, by simp only [ByteArray.size_append]; (try have e1 : (ByteArray.mk #[58]).size = 1 := rfl); omega, rfl, by go_num, q + q3, rfl⟩
        · go_wp2_with fail
          go_ret
          exact ⟨_, rfl, by omega, below_drewN hBW.out _⟩
end Go.Proofs.YtapkmoakbfpkeaaGreatDoor
