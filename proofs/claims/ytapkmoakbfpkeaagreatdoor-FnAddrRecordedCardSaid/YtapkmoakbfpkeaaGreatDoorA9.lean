/- IPv6: isZeros, To4 at sixteen bytes, zzHex. -/
import Derived.Test.YtapkmoakbfpkeaaGreatDoorA8
namespace Go.Proofs.YtapkmoakbfpkeaaGreatDoor
open Go Go.RowKit Go.Proofs Go.Sort

/-- The first n numbers are all 0. -/
def zer (xs : List Int) (n : Nat) : Bool := (xs.take n).all (· == 0)
theorem zer_succ (xs : List Int) (n : Nat) (h : n < xs.length) : zer xs (n + 1) = (zer xs n && (xs.getD n 0 == 0)) := by
  unfold zer
  rw [List.take_succ_eq_append_getElem h, List.all_append]
  congr 1
  have e : xs.getD n 0 = xs[n] := by simp [List.getD, List.getElem?_eq_getElem h]
  rw [e]
  simp only [List.all_cons, List.all_nil, Bool.and_true]
theorem zer_of_false (xs : List Int) (k n : Nat) (h : zer xs k = false) (hk : k ≤ n) : zer xs n = false := by
  unfold zer at *
  rw [List.all_eq_false] at *
  obtain ⟨x, hx, hf⟩ := h
  exact ⟨x, List.mem_of_mem_take (show x ∈ (xs.take n).take k by rw [List.take_take, Nat.min_eq_left hk]; exact hx), hf⟩

set_option maxRecDepth 100000 in
theorem isZeros (b o n c : Nat) (xs : List Int) (w : World) (hn : n ≤ 1000) (hx : xs.length = n) (hb : ∀ x ∈ xs, 0 ≤ x ∧ x < 256) (hc : ∀ i, i < n → w.cell? ⟨b, o + i, none⟩ = some (.int .u8 (xs.getD i 0))) :
    Calls Tryz.prog 294 #[.slice (some ⟨b, o, none⟩) n c] w fun e w' => e = .returned (.bool (zer xs n)) ∧ w' = w := by
  have HC := Lib.hid hc
  have HX := Lib.hid hx
  clear hc hx
  go_enter Tryz.func294, Tryz.ntmps294
  go_wp2
  go_loop [3] (fun i => ∃ k : Nat, k ≤ n ∧ i = .int .i64 k ∧ Hid (zer xs k = true)) (fun i => n - (intOf i).toNat)
  case atStart => exact ⟨0, Nat.zero_le _, rfl, by show zer xs 0 = true; simp [zer]⟩
  case round =>
    obtain ⟨k, hk, rfl, hz⟩ := hrel
    by_cases hlt : k < n
    · have hcell := HC.out k hlt
      have hs := zer_succ xs k (by rw [HX.out]; exact hlt)
      rw [hz.out, Bool.true_and] at hs
      have hbd : 0 ≤ xs.getD k 0 ∧ xs.getD k 0 < 256 := by
        have e : xs.getD k 0 = xs[k]'(by rw [HX.out]; exact hlt) := by simp [List.getD, List.getElem?_eq_getElem (show k < xs.length by rw [HX.out]; exact hlt)]
        rw [e]; exact hb _ (List.getElem_mem _)
      obtain ⟨x, hxe⟩ : ∃ x, x = xs.getD k 0 := ⟨_, rfl⟩
      rw [← hxe] at hcell hs hbd
      have HS := Lib.hid hs
      clear hs hxe
      by_cases hx0 : x = 0
      · subst hx0
        go_wp2
        go_round
        case rel => exact ⟨k + 1, by omega, by go_num, HS.out⟩
        case measure => simp [intOf]; omega
      · have hne : (x != 0) = true := by simpa using hx0
        go_wp2
        go_ret
        refine ⟨?_, rfl⟩
        have : zer xs n = false := zer_of_false xs (k + 1) n (by rw [HS.out]; simpa using hx0) (by omega)
        rw [this]; rfl
    · go_wp2
      go_ret
      obtain rfl : k = n := by omega
      refine ⟨?_, rfl⟩
      rw [hz.out]; rfl


/-- Is the address ::ffff:a.b.c.d? -/
def is4 (xs : List Int) : Bool := zer (xs.take 10) 10 && (xs.getD 10 0 == 255) && (xs.getD 11 0 == 255)
/-- What To4 hands back of sixteen bytes. -/
def to4V (b o c : Nat) : Bool → Value
  | true => .slice (some ⟨b, o + 12, none⟩) 4 (c - 12)
  | false => .slice none 0 0

set_option maxHeartbeats 800000 in
set_option maxRecDepth 100000 in
theorem to4_16 (b o c : Nat) (xs : List Int) (w : World) (hx : xs.length = 16) (hc16 : 16 ≤ c) (hb : ∀ x ∈ xs, 0 ≤ x ∧ x < 256) (hc : ∀ i, i < 16 → w.cell? ⟨b, o + i, none⟩ = some (.int .u8 (xs.getD i 0))) :
    Calls Tryz.prog 258 #[.slice (some ⟨b, o, none⟩) 16 c] w fun e w' => e = .returned (to4V b o c (is4 xs)) ∧ w' = w := by
  have hlen : (xs.take 10).length = 10 := by rw [List.length_take]; omega
  have hget : ∀ i, i < 10 → (xs.take 10).getD i 0 = xs.getD i 0 := fun i hi => by simp [List.getD, hi]
  have hz : ∀ W : World, (∀ i, i < 16 → W.cell? ⟨b, o + i, none⟩ = some (.int .u8 (xs.getD i 0))) → Calls Tryz.prog 294 #[.slice (some ⟨b, o, none⟩) 10 c] W fun e w' => e = .returned (.bool (zer (xs.take 10) 10)) ∧ w' = W := fun W hW =>
    isZeros b o 10 c (xs.take 10) W (by omega) hlen (fun x h => hb x (List.mem_of_mem_take h)) (fun i hi => by rw [hget i hi]; exact hW i (by omega))
  have c10 := hc 10 (by omega)
  have c11 := hc 11 (by omega)
  have h4 : is4 xs = (zer (xs.take 10) 10 && (xs.getD 10 0 == 255) && (xs.getD 11 0 == 255)) := rfl
  obtain ⟨x10, e10⟩ : ∃ x, x = xs.getD 10 0 := ⟨_, rfl⟩
  obtain ⟨x11, e11⟩ : ∃ x, x = xs.getD 11 0 := ⟨_, rfl⟩
  rw [← e10] at c10 h4
  rw [← e11] at c11 h4
  have HZ := Lib.hid hz
  have HC := Lib.hid hc
  clear hz hc e10 e11 hlen hget hx hb
  obtain ⟨z, hze⟩ : ∃ z, z = zer (xs.take 10) 10 := ⟨_, rfl⟩
  rw [← hze] at HZ h4
  clear hze
  rw [h4]
  clear h4
  cases z
  · go_enter Tryz.func258, Tryz.ntmps258
    go_wp2_with fail
    refine (HZ.out _ HC.out).mono ?_
    rintro e w' ⟨rfl, rfl⟩
    go_wp2_with fail
    go_ret
    exact ⟨rfl, rfl⟩
  · by_cases h10 : x10 = 255
    · subst h10
      by_cases h11 : x11 = 255
      · subst h11
        go_enter Tryz.func258, Tryz.ntmps258
        go_wp2_with fail
        refine (HZ.out _ HC.out).mono ?_
        rintro e w' ⟨rfl, rfl⟩
        go_wp2_with fail
        go_ret
        exact ⟨rfl, rfl⟩
      · have hb11 : (x11 == 255) = false := by simpa using h11
        rw [hb11]
        go_enter Tryz.func258, Tryz.ntmps258
        go_wp2_with fail
        refine (HZ.out _ HC.out).mono ?_
        rintro e w' ⟨rfl, rfl⟩
        go_wp2_with fail
        go_ret
        exact ⟨rfl, rfl⟩
    · have hb10 : (x10 == 255) = false := by simpa using h10
      rw [hb10]
      go_enter Tryz.func258, Tryz.ntmps258
      go_wp2_with fail
      refine (HZ.out _ HC.out).mono ?_
      rintro e w' ⟨rfl, rfl⟩
      go_wp2_with fail
      go_ret
      exact ⟨rfl, rfl⟩
end Go.Proofs.YtapkmoakbfpkeaaGreatDoor
