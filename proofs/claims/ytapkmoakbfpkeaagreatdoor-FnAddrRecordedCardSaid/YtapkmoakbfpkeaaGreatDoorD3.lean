/- AddrID. -/
import Derived.Test.YtapkmoakbfpkeaaGreatDoorD2
import Derived.Deep.WholeRow
import Derived.Deep.Onto
namespace Go.Proofs.YtapkmoakbfpkeaaGreatDoor
open Go Go.RowKit Go.Proofs Go.Sort

/-- A list of slices of which some were made on the way. -/
theorem slAt2 {w : World} {b : Nat} {s1 s2 : Sl} (h1 : w.cell? ⟨b, 0, none⟩ = some s1.v) (h2 : w.cell? ⟨b, 1, none⟩ = some s2.v) (k1 : s1.Ok w) (k2 : s2.Ok w) : SlAt w b [s1, s2] := fun i s hi => by
  match i, hi with
  | 0, hi => obtain rfl : s1 = s := Option.some.inj hi; exact ⟨h1, k1⟩
  | 1, hi => obtain rfl : s2 = s := Option.some.inj hi; exact ⟨h2, k2⟩
theorem slAt3 {w : World} {b : Nat} {s1 s2 s3 : Sl} (h1 : w.cell? ⟨b, 0, none⟩ = some s1.v) (h2 : w.cell? ⟨b, 1, none⟩ = some s2.v) (h3 : w.cell? ⟨b, 2, none⟩ = some s3.v) (k1 : s1.Ok w) (k2 : s2.Ok w) (k3 : s3.Ok w) : SlAt w b [s1, s2, s3] := fun i s hi => by
  match i, hi with
  | 0, hi => obtain rfl : s1 = s := Option.some.inj hi; exact ⟨h1, k1⟩
  | 1, hi => obtain rfl : s2 = s := Option.some.inj hi; exact ⟨h2, k2⟩
  | 2, hi => obtain rfl : s3 = s := Option.some.inj hi; exact ⟨h3, k3⟩
theorem sl_block {w : World} {g n : Nat} {xs : List Int} (cs : Array Value) (hg : w.heap[g]? = some (.cells cs 5 (0, 0))) (hc : cs = (xs.map (Value.int .u8)).toArray) (hn : xs.length = n) : (Sl.mk (some ⟨g, 0, none⟩) n n xs).Ok w := by
  subst hc
  refine ⟨hn, fun _ => ⟨g, 0, rfl, fun i hi => ?_⟩, fun h => by simp at h⟩
  have hn' : n = xs.length := hn.symm
  subst hn'
  have hi' : i < xs.length := hi
  simp [World.cell?, hg, List.getD, hi']

theorem _root_.Go.World.ownsRow.congr_len {w : World} {B e size n n' : Nat} {v : Value} {xs xs' : List Value} (h : w.ownsRow B e size v n xs) (hx : xs = xs') (hn : n = n') : w.ownsRow B e size v n' xs' := by subst hx; subst hn; exact h
theorem sl_block32 {w : World} {g n : Nat} {xs : List Int} (cs : Array Value) (hg : w.heap[g]? = some (.cells cs 90 (0, 0))) (hc : cs = (xs.map (Value.int .u8)).toArray) (hn : xs.length = n) : (Sl.mk (some ⟨g, 0, none⟩) n n xs).Ok w := by
  subst hc
  refine ⟨hn, fun _ => ⟨g, 0, rfl, fun i hi => ?_⟩, fun h => by simp at h⟩
  have hn' : n = xs.length := hn.symm
  subst hn'
  have hi' : i < xs.length := hi
  simp [World.cell?, hg, List.getD, hi']
theorem heap2 (w : World) (o1 o2 : Obj) : ((w.alloc o1).alloc o2).heap[w.heap.size]? = some o1 := by
  exact (Below.heap_alloc _ _ _ (by simp)).trans (heap_alloc_new _ _)
/-- 'the program's ShaSum is this function of the bytes'. -/
def ShaIs (f : List Int → List Int) : Prop := (∀ xs, (f xs).length = 32 ∧ U8 (f xs)) ∧
  ∀ (p : Option Addr) (m c : Nat) (xs : List Int) (w : World), (Sl.mk p m c xs).Ok w → U8 xs → 42 < m → m ≤ 200 → Calls Tryz.prog 46 #[.slice p m c] w fun e w' => e = .returned (.agg ((f xs).map (Value.int .u8)).toArray) ∧ Below w.heap.size w w'

set_option maxRecDepth 100000 in
theorem addrID1 (p : Option Addr) (m c : Nat) (xs : List Int) (w : World) (hok : (Sl.mk p m c xs).Ok w) (hm : m ≤ 42) : Calls Tryz.prog 18 #[.slice p m c] w (NewBytes ([0, (m : Int)] ++ xs) w) := by
  have HK := Lib.hid hok
  clear hok
  have hm2 : decide ((m : Int) ≤ 42) = true := by simp; omega
  have hm3 : decide (m ≤ 42) = true := by simp; omega
  go_enter Tryz.func18, Tryz.ntmps18
  go_wp2_with fail
  refine (concatB [⟨some ⟨w.heap.size, 0, none⟩, 2, 2, [0, (m : Int)]⟩, ⟨p, m, c, xs⟩] 2 rfl (by omega) (by simp [sumL]; omega) (by simp [sumL]; omega) _ _ _ (slAt2 (by go_simp; rfl) (by go_simp; rfl) (sl_block _ (heap2 _ _ _) rfl rfl) (HK.out.below (((Below.refl _ _).alloc (Nat.le_refl _) _).alloc (by simp) _)))).mono ?_
  rintro e w1 ⟨v, rfl, hown, hB⟩
  have HO := Lib.hid (And.intro hown hB)
  clear hown hB
  go_wp2_with fail
  go_ret
  refine ⟨_, rfl, ?_, ?_⟩
  · exact (HO.out.1.mono (by simp; omega)).congr_len (by simp [catL]) (by simp [catL])
  · exact (((Below.refl _ w).alloc (Nat.le_refl _) _).alloc (by simp) _).trans (HO.out.2.mono (by simp; omega))
set_option maxRecDepth 100000 in
theorem addrID2 (f : List Int → List Int) (hf : ShaIs f) (p : Option Addr) (m c : Nat) (xs : List Int) (w : World) (hok : (Sl.mk p m c xs).Ok w) (hu : U8 xs) (hm : 42 < m) (hm1 : m ≤ 200) : Calls Tryz.prog 18 #[.slice p m c] w (NewBytes ([18, 32] ++ f xs) w) := by
  have HK := Lib.hid hok
  clear hok
  have HF := Lib.hid hf
  obtain ⟨L, hL⟩ : ∃ L, L = f xs := ⟨_, rfl⟩
  have hLL := (hf.1 xs).1
  rw [← hL] at hLL ⊢
  have hm2 : decide ((m : Int) ≤ 42) = false := by simp; omega
  have hm3 : decide (m ≤ 42) = false := by simp; omega
  go_enter Tryz.func18, Tryz.ntmps18
  go_wp2_with fail
  refine (HF.out.2 p m c xs w HK.out hu hm hm1).mono ?_
  rintro e w1 ⟨rfl, hB⟩
  rw [← hL]
  have HB := Lib.hid (And.intro hB hL)
  clear hB hL hf hu
  have hLs : (L.map (Value.int .u8)).toArray.size = 32 := by simp [hLL]
  have hst : (storeCells ⟨w1.heap.size, 0, none⟩ (L.map (Value.int .u8))).run Tryz.prog (w1.alloc (.cells #[.int .u8 0, .int .u8 0, .int .u8 0, .int .u8 0, .int .u8 0, .int .u8 0, .int .u8 0, .int .u8 0, .int .u8 0, .int .u8 0, .int .u8 0, .int .u8 0, .int .u8 0, .int .u8 0, .int .u8 0, .int .u8 0, .int .u8 0, .int .u8 0, .int .u8 0, .int .u8 0, .int .u8 0, .int .u8 0, .int .u8 0, .int .u8 0, .int .u8 0, .int .u8 0, .int .u8 0, .int .u8 0, .int .u8 0, .int .u8 0, .int .u8 0, .int .u8 0] 90)) = .ok () (w1.alloc (.cells (L.map (Value.int .u8)).toArray 90)) := by
    have h := run_storeCells_new (P := Tryz.prog) w1 90 #[.int .u8 0, .int .u8 0, .int .u8 0, .int .u8 0, .int .u8 0, .int .u8 0, .int .u8 0, .int .u8 0, .int .u8 0, .int .u8 0, .int .u8 0, .int .u8 0, .int .u8 0, .int .u8 0, .int .u8 0, .int .u8 0, .int .u8 0, .int .u8 0, .int .u8 0, .int .u8 0, .int .u8 0, .int .u8 0, .int .u8 0, .int .u8 0, .int .u8 0, .int .u8 0, .int .u8 0, .int .u8 0, .int .u8 0, .int .u8 0, .int .u8 0, .int .u8 0] (L.map (Value.int .u8)).toArray (by rw [hLs]; kernel_rfl) (by rw [hLs]; rfl) (by rw [Array.all_eq_true']; intro u hu; exact u8one L u (by simpa using hu))
    exact h
  go_wp2_with fail
  refine (concatB [⟨some ⟨w1.heap.size + 1, 0, none⟩, 2, 2, [18, 32]⟩, ⟨some ⟨w1.heap.size, 0, none⟩, 32, 32, L⟩] 2 rfl (by omega) (by simp [sumL]) (by simp [sumL]) _ _ _ (slAt2 (by go_simp; rfl) (by go_simp; rfl) (sl_block _ (by have h := heap2 (w1.alloc (.cells (L.map (Value.int .u8)).toArray 90)); simp only [World.size_alloc] at h; exact h _ _) rfl rfl) (sl_block32 (L.map (Value.int .u8)).toArray ((Below.heap_alloc _ _ _ (by simp; omega)).trans (heap2 _ _ _)) rfl hLL))).mono ?_
  rintro e w2 ⟨v, rfl, hown, hB⟩
  have HO := Lib.hid (And.intro hown hB)
  clear hown hB
  go_wp2_with fail
  go_ret
  refine ⟨_, rfl, ?_, ?_⟩
  · exact (HO.out.1.mono (by have := HB.out.1.size; simp; omega)).congr_len (by simp [catL]) (by simp [catL])
  · exact (((HB.out.1.alloc HB.out.1.size _).alloc (by have := HB.out.1.size; simp; omega) _).alloc (by have := HB.out.1.size; simp; omega) _).trans (HO.out.2.mono (by have := HB.out.1.size; simp; omega))
end Go.Proofs.YtapkmoakbfpkeaaGreatDoor
