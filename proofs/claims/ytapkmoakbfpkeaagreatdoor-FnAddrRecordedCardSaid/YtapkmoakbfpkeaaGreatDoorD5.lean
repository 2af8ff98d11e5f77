/- AddrOf. -/
import Derived.Test.YtapkmoakbfpkeaaGreatDoorD4
namespace Go.Proofs.YtapkmoakbfpkeaaGreatDoor
open Go Go.RowKit Go.Proofs Go.Sort

/-- A part as the law hands it over. -/
structure HIn where
  K : Int
  s : Sl
def HIn.Ok (h : HIn) (w : World) : Prop := (0 ≤ h.K ∧ h.K < 256) ∧ h.s.Ok w ∧ U8 h.s.xs ∧ h.s.n ≤ 100
theorem HIn.Ok.below {h : HIn} {w w' : World} (hk : h.Ok w) (hb : Below w.heap.size w w') : h.Ok w' := ⟨hk.1, hk.2.1.below hb, hk.2.2⟩
/-- Its kind and value. -/
def hopOf (f : List Int → List Int) (h : HIn) : Hop := ((h.K % 8).toNat,
  if h.K % 8 = 0 then fillB h.s.xs 4 else if h.K % 8 = 1 then fillB h.s.xs 2 else if h.K % 8 = 2 then fillB h.s.xs 2 else if h.K % 8 = 6 then idB f h.s.xs else if h.K % 8 = 7 then fillB h.s.xs 16 else [])
def HIn.v (h : HIn) : Value := .agg #[.int .u8 h.K, h.s.v]
theorem hopOf0 (f : List Int → List Int) (K : Int) (s : Sl) (hk : K % 8 = 0) : hopOf f ⟨K, s⟩ = (0, fillB s.xs 4) := by unfold hopOf; simp [hk]
theorem hopOf1 (f : List Int → List Int) (K : Int) (s : Sl) (hk : K % 8 = 1) : hopOf f ⟨K, s⟩ = (1, fillB s.xs 2) := by unfold hopOf; simp [hk]
theorem hopOf2 (f : List Int → List Int) (K : Int) (s : Sl) (hk : K % 8 = 2) : hopOf f ⟨K, s⟩ = (2, fillB s.xs 2) := by unfold hopOf; simp [hk]
theorem hopOf3 (f : List Int → List Int) (K : Int) (s : Sl) (hk : K % 8 = 3) : hopOf f ⟨K, s⟩ = (3, []) := by unfold hopOf; simp [hk]
theorem hopOf4 (f : List Int → List Int) (K : Int) (s : Sl) (hk : K % 8 = 4) : hopOf f ⟨K, s⟩ = (4, []) := by unfold hopOf; simp [hk]
theorem hopOf5 (f : List Int → List Int) (K : Int) (s : Sl) (hk : K % 8 = 5) : hopOf f ⟨K, s⟩ = (5, []) := by unfold hopOf; simp [hk]
theorem hopOf6 (f : List Int → List Int) (K : Int) (s : Sl) (hk : K % 8 = 6) : hopOf f ⟨K, s⟩ = (6, idB f s.xs) := by unfold hopOf; simp [hk]
theorem hopOf7 (f : List Int → List Int) (K : Int) (s : Sl) (hk : K % 8 = 7) : hopOf f ⟨K, s⟩ = (7, fillB s.xs 16) := by unfold hopOf; simp [hk]
theorem hopBytes (f : List Int → List Int) (hf : ShaIs f) (h : HIn) (w : World) (hok : h.Ok w) : Calls Tryz.prog 20 #[h.v] w (NewBytes (hopB (hopOf f h).1 (hopOf f h).2) w) := by
  obtain ⟨K, p, m, c, xs⟩ := h
  obtain ⟨⟨h0, h1⟩, h2, h3, h4⟩ := hok
  have h0' : 0 ≤ K := h0
  have h1' : K < 256 := h1
  have h4' : m ≤ 100 := h4
  have hk : K % 8 = 0 ∨ K % 8 = 1 ∨ K % 8 = 2 ∨ K % 8 = 3 ∨ K % 8 = 4 ∨ K % 8 = 5 ∨ K % 8 = 6 ∨ K % 8 = 7 := by omega
  rcases hk with hk | hk | hk | hk | hk | hk | hk | hk
  · rw [hopOf0 f K _ hk]
    exact hopBytes0 K h0 h1 hk p m c xs w h2
  · rw [hopOf1 f K _ hk]
    exact hopBytes1 K h0 h1 hk p m c xs w h2
  · rw [hopOf2 f K _ hk]
    exact hopBytes2 K h0 h1 hk p m c xs w h2
  · rw [hopOf3 f K _ hk]
    exact hopBytes3 K h0 h1 hk p m c w
  · rw [hopOf4 f K _ hk]
    exact hopBytes4 K h0 h1 hk p m c w
  · rw [hopOf5 f K _ hk]
    exact hopBytes5 K h0 h1 hk p m c w
  · rw [hopOf6 f K _ hk]
    exact hopBytes6 K h0 h1 hk f hf p m c xs w h2 h3 (by omega)
  · rw [hopOf7 f K _ hk]
    exact hopBytes7 K h0 h1 hk p m c xs w h2
theorem U8.append {xs ys : List Int} (h1 : U8 xs) (h2 : U8 ys) : U8 (xs ++ ys) := fun x hx => by
  rcases List.mem_append.1 hx with h | h
  · exact h1 x h
  · exact h2 x h
theorem fillB_u8 {xs : List Int} (h : U8 xs) (n : Nat) : U8 (fillB xs n) := (h.take n).append fun x hx => by
  obtain ⟨_, rfl⟩ := List.mem_replicate.1 hx
  omega
theorem u8two {a b : Int} (ha : 0 ≤ a ∧ a < 256) (hb : 0 ≤ b ∧ b < 256) : U8 [a, b] := fun x hx => by
  rcases List.mem_cons.1 hx with rfl | hx
  · exact ha
  · rcases List.mem_cons.1 hx with rfl | hx
    · exact hb
    · cases hx
theorem idB_u8 (f : List Int → List Int) (hf : ShaIs f) {xs : List Int} (h : U8 xs) : U8 (idB f xs) := by
  unfold idB
  split
  · exact U8.append (u8two (by omega) (by omega)) h
  · exact U8.append (u8two (by omega) (by omega)) (hf.1 xs).2
theorem idB_ok (f : List Int → List Int) (hf : ShaIs f) (xs : List Int) : ValOk 6 (idB f xs) := by
  show ((idB f xs).getD 0 0 = 0 ∨ ((idB f xs).getD 0 0 = 18 ∧ (idB f xs).getD 1 0 = 32)) ∧ 0 ≤ (idB f xs).getD 1 0 ∧ (idB f xs).getD 1 0 < 100 ∧ ((idB f xs).length : Int) = (idB f xs).getD 1 0 + 2
  have h2 := (hf.1 xs).1
  unfold idB
  split
  · simp [List.getD]; omega
  · simp [List.getD, h2]
theorem hopOf_ok (f : List Int → List Int) (hf : ShaIs f) (h : HIn) (hu : U8 h.s.xs) : HopOk (hopOf f h) := by
  obtain ⟨K, s⟩ := h
  have hu' : U8 s.xs := hu
  have hk : K % 8 = 0 ∨ K % 8 = 1 ∨ K % 8 = 2 ∨ K % 8 = 3 ∨ K % 8 = 4 ∨ K % 8 = 5 ∨ K % 8 = 6 ∨ K % 8 = 7 := by omega
  have hnil : U8 ([] : List Int) := fun x hx => by cases hx
  rcases hk with hk | hk | hk | hk | hk | hk | hk | hk
  · rw [hopOf0 f K _ hk]; exact ⟨(show (0 : Nat) < 8 by decide), fillB_len _ _, fillB_u8 hu' _⟩
  · rw [hopOf1 f K _ hk]; exact ⟨(show (1 : Nat) < 8 by decide), fillB_len _ _, fillB_u8 hu' _⟩
  · rw [hopOf2 f K _ hk]; exact ⟨(show (2 : Nat) < 8 by decide), fillB_len _ _, fillB_u8 hu' _⟩
  · rw [hopOf3 f K _ hk]; exact ⟨(show (3 : Nat) < 8 by decide), rfl, hnil⟩
  · rw [hopOf4 f K _ hk]; exact ⟨(show (4 : Nat) < 8 by decide), rfl, hnil⟩
  · rw [hopOf5 f K _ hk]; exact ⟨(show (5 : Nat) < 8 by decide), rfl, hnil⟩
  · rw [hopOf6 f K _ hk]; exact ⟨(show (6 : Nat) < 8 by decide), idB_ok f hf _, idB_u8 f hf hu'⟩
  · rw [hopOf7 f K _ hk]; exact ⟨(show (7 : Nat) < 8 by decide), fillB_len _ _, fillB_u8 hu' _⟩
/-- The parts in a row of memory. -/
def HAt (w : World) (b o : Nat) (l : List HIn) : Prop := ∀ i h, l[i]? = some h → w.cell? ⟨b, o + i * 2, none⟩ = some (.int .u8 h.K) ∧ w.cell? ⟨b, o + i * 2 + 1, none⟩ = some h.s.v ∧ h.Ok w

set_option maxRecDepth 100000 in
theorem addrOfB (f : List Int → List Int) (hf : ShaIs f) (l : List HIn) (k : Nat) (hk : l.length = k) (hk1 : k ≤ 100) (b o c : Nat) (w : World) (hb : HAt w b o l) : Calls Tryz.prog 16 #[.slice (some ⟨b, o, none⟩) k c] w (NewBytes (addrB (l.map (hopOf f))) w) := by
  have HB := Lib.hid (And.intro hb (And.intro hk hf))
  clear hb hk hf
  go_enter Tryz.func16, Tryz.ntmps16
  go_wp2_with fail
  go_loopg [3, 8] k (fun gk sv iv wr => ∃ (ds rs : List HIn), l = ds ++ rs ∧ gk = rs.length ∧ iv = .int .i64 (ds.length : Int) ∧ Hid (wr.ownsRow w.heap.size 5 1 sv (addrB (ds.map (hopOf f))).length ((addrB (ds.map (hopOf f))).map (Value.int .u8)) ∧ Below w.heap.size w wr))
  case atStart => exact ⟨[], l, rfl, HB.out.2.1.symm, rfl, World.ownsRow_nil _ _ 5 1, Below.refl _ _⟩
  case round =>
    obtain ⟨ds, rs, hds, rfl, rfl, hI⟩ := hrel
    cases rs with
    | nil =>
      have HD := Lib.hid hds
      have hlt : ds.length = k := by rw [← HB.out.2.1, hds, List.append_nil]
      have hl2 : decide (ds.length < k) = false := by rw [decide_eq_false_iff_not, hlt]; omega
      clear hds hlt
      go_wp2_with fail
      go_ret
      have hdl : l = ds := by rw [HD.out, List.append_nil]
      exact ⟨_, rfl, by have h := hI.out.1; rw [← hdl] at h; exact h, hI.out.2⟩
    | cons r rs =>
      have hlt : ds.length < k := by rw [← HB.out.2.1, hds]; simp
      have hl2 : decide (ds.length < k) = true := by rw [decide_eq_true_iff]; omega
      obtain ⟨hc0, hc1, hok⟩ := HB.out.1 ds.length r (by rw [hds]; simp)
      replace hc0 := cB hI.out.2 hc0
      replace hc1 := cB hI.out.2 hc1
      obtain ⟨K, p, m, c', xs⟩ := r
      have HD := Lib.hid (And.intro hds (hok.below hI.out.2))
      clear hds hok
      replace hc0 : wr.cell? ⟨b, o + ds.length * 2, none⟩ = some (.int .u8 K) := hc0
      replace hc1 : wr.cell? ⟨b, o + ds.length * 2 + 1, none⟩ = some (.slice p m c') := hc1
      go_wp2_with fail
      have hWB : Below w.heap.size w (wr.alloc (.cells #[.int .u8 K, .slice p m c'] 29)) := hI.out.2.alloc hI.out.2.size _
      refine (hopBytes f HB.out.2.2 ⟨K, p, m, c', xs⟩ _ (HD.out.2.below ((Below.refl _ _).alloc (Nat.le_refl _) _))).mono ?_
      rintro e w1 ⟨v, rfl, hown, hB⟩
      obtain ⟨p2, c2, rfl, hok2⟩ := ownsRow_sl hown
      have hl1 : (addrB (ds.map (hopOf f))).length + (hopB (hopOf f ⟨K, p, m, c', xs⟩).1 (hopOf f ⟨K, p, m, c', xs⟩).2).length ≤ 1000000 := by
        have h := addrB_le (l.map (hopOf f)) (fun x hx => by
          obtain ⟨y, hy, rfl⟩ := List.mem_map.1 hx
          obtain ⟨i, hi⟩ := List.getElem?_of_mem hy
          exact hopOf_ok f HB.out.2.2 y (HB.out.1 i y hi).2.2.2.2.1)
        rw [HD.out.1] at h
        simp only [List.map_append, List.map_cons, addrB_append, addrB_cons, List.length_append, List.length_cons, List.length_map] at h
        have hlen := HB.out.2.1
        rw [HD.out.1] at hlen
        simp only [List.length_append, List.length_cons] at hlen
        omega
      have HO := Lib.hid (And.intro hok2 (And.intro (ownsRow_below (hI.out.1.alloc (.cells #[.int .u8 K, .slice p m c'] 29)) hB) (hWB.trans (hB.mono hWB.size))))
      clear hown hok2 hB hWB hc0 hc1
      go_wp2_with (at_builtin; refine wpAppS rfl _ _ rfl w.heap.size _ _ (addrB (ds.map (hopOf f))) rfl HO.out.2.1 p2 _ c2 (hopB (hopOf f ⟨K, p, m, c', xs⟩).1 (hopOf f ⟨K, p, m, c', xs⟩).2) rfl HO.out.1 hl1 HO.out.2.2.size ?_)
      intro v' w' hown' hgrow
      have HO' := Lib.hid (And.intro hown' (grown_below HO.out.2.2 HO.out.2.1 hgrow HO.out.2.2.size))
      clear hown' hgrow
      go_wp2_with fail
      go_roundg rs.length
      case measure => simp
      case rel => exact ⟨ds ++ [⟨K, p, m, c', xs⟩], rs, by rw [HD.out.1, List.append_assoc]; rfl, rfl, by simp, by
        show _ ∧ _
        have e : addrB ((ds ++ [HIn.mk K ⟨p, m, c', xs⟩]).map (hopOf f)) = addrB (ds.map (hopOf f)) ++ hopB (hopOf f ⟨K, p, m, c', xs⟩).1 (hopOf f ⟨K, p, m, c', xs⟩).2 := by
          rw [List.map_append, addrB_append]; simp [addrB]
        rw [e, List.length_append, List.map_append]; exact HO'.out⟩
end Go.Proofs.YtapkmoakbfpkeaaGreatDoor
