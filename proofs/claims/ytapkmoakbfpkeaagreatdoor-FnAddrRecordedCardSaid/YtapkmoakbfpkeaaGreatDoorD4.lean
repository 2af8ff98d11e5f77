/- AddrHopBytes (printed by gen_d4.py). -/
import Derived.Test.YtapkmoakbfpkeaaGreatDoorD3
import Derived.Test.YtapkmoakbfpkeaaGreatDoorC6
import Derived.Deep.RegionHeldLaw
namespace Go.Proofs.YtapkmoakbfpkeaaGreatDoor
open Go Go.RowKit Go.Proofs Go.Sort

theorem ownsRow_sl {w : World} {B n : Nat} {v : Value} {xs : List Int} (h : w.ownsRow B 5 1 v n (xs.map (Value.int .u8))) : ∃ p c, v = .slice p n c ∧ (Sl.mk p n c xs).Ok w := by
  have hl : xs.length = n := by have := h.1; simpa using this
  have h0 := h
  rcases h.2 with ⟨rfl, rfl⟩ | ⟨g, cap, cur, rfl, _, hg, _⟩
  · exact ⟨none, 0, rfl, hl, fun h => absurd h (Nat.lt_irrefl 0), fun _ => ⟨rfl, rfl⟩⟩
  · refine ⟨_, _, rfl, hl, fun _ => ⟨g, 0, rfl, fun i hi => ?_⟩, fun h => by simp at h⟩
    have hi' : i < n := hi
    rw [Nat.zero_add, h0.cellAt i (by omega)]
    have hx : i < xs.length := by omega
    simp [List.getD, hx]

/-- 'wpAppS' at a step of a region that draws its order. -/
theorem stepAppS {ops : Array Oper} {o : Oper} {a : Act} {w : World} {K : Act → World → Prop} {Q : Exit → Act → World → Prop} {E : Prop} (hgd : o.guard = none) (d : Nat) (hd : o.dst = some d) (s x : Operand)
    (ho : o.op = .call { callee := .builtin .append, args := #[s, x], argTypes := #[23, 23] }) (base : Nat) (v : Value) (n : Nat) (xs : List Int) (hs : a.eval s = v) (hown : w.ownsRow base 5 1 v n (xs.map (Value.int .u8)))
    (ad : Addr) (m c : Nat) (ys : List Int) (hx : a.eval x = .slice (some ad) m c) (hok : (Sl.mk (some ad) m c ys).Ok w) (hN : n + m ≤ 1000000) (hbase : base ≤ w.heap.size)
    (h : ∀ v' w', w'.ownsRow base 5 1 v' (n + m) ((xs ++ ys).map (Value.int .u8)) → w.grownBy w' v.ownBlock → K (a.put (some d) v') w') : if Region.wanted o (yielded ops a.tmps) = true then Oper.wp Tryz.prog o a w K Q else E := by
  have hw : Region.wanted o (yielded ops a.tmps) = true := by simp [Region.wanted, hgd]
  rw [if_pos hw]
  obtain ⟨h1, h2, _⟩ := hok
  have h1' : ys.length = m := h1
  obtain ⟨i0, hi, hz0, hz1, hz2⟩ := info_parts info5
  refine wp_append_own w s x 23 ho base 5 i0 _ 1 1 Tryz.underlying23 hi hz0 hz1 hz2 rfl (by decide) v n _ hs hown ad m c (ys.map (Value.int .u8)) hx (by simp [h1']) (fun j u hj => ?_) (u8one ys) (by unfold maxLen; omega) (by omega) hbase (fun v' w' q1 q2 _ => by rw [hd]; exact h v' w' (by rw [List.map_append]; exact q1) q2)
  have hj2 : j < ys.length := by simpa using (List.getElem?_eq_some_iff.1 hj).1
  have hm0 : 0 < m := by omega
  obtain ⟨b, o', hp, hc⟩ := h2 hm0
  obtain rfl : ad = ⟨b, o', none⟩ := Option.some.inj hp
  rw [Lib.add_plain, hc j (show j < m by omega), ← hj]
  simp [List.getD, hj2]
theorem ownsRow_sl1 {w : World} {B n : Nat} {v : Value} {xs : List Int} (h : w.ownsRow B 5 1 v n (xs.map (Value.int .u8))) (hn : 0 < n) : ∃ ad c, v = .slice (some ad) n c ∧ (Sl.mk (some ad) n c xs).Ok w := by
  obtain ⟨p, c, hv, hok⟩ := ownsRow_sl h
  cases p with
  | none => have := (hok.2.2 rfl).1; exact absurd this (by show ¬ n = 0; omega)
  | some ad => exact ⟨ad, c, hv, hok⟩

set_option maxRecDepth 100000 in
theorem hopBytes0 (K : Int) (hK0 : 0 ≤ K) (hK1 : K < 256) (hK : K % 8 = 0) (p : Option Addr) (m c : Nat) (xs : List Int) (w : World) (hok : (Sl.mk p m c xs).Ok w) : Calls Tryz.prog 20 #[.agg #[.int .u8 K, .slice p m c]] w (NewBytes ([4] ++ fillB xs 4) w) := by
  have HK := Lib.hid hok
  clear hok
  go_enter Tryz.func20, Tryz.ntmps20
  go_wp2_with fail
  have hB0 : Below w.heap.size w ((w.alloc (.cells #[.int .u8 K, .slice p m c] 29)).alloc (.cells #[.int .u8 4] 5)) := ((Below.refl _ _).alloc (Nat.le_refl _) _).alloc (by simp) _
  have hL0 : ((w.alloc (.cells #[.int .u8 K, .slice p m c] 29)).alloc (.cells #[.int .u8 4] 5)).ownsRow w.heap.size 5 1 (.slice (some ⟨w.heap.size + 1, 0, none⟩) 1 1) 1 [.int .u8 4] := by
    have h := World.ownsRow_lit (base := w.heap.size) (e := 5) (size := 1) (w.alloc (.cells #[.int .u8 K, .slice p m c] 29)) #[.int .u8 4] 1 (by simp) (by decide) (by simp)
    simpa only [World.size_alloc] using h
  refine (addrFilled p m c xs 4 _ HK.out.1 (BytesIn.below HK.out.2.1 hB0) (by omega)).mono ?_
  rintro e w1 ⟨v, rfl, hown, hB⟩
  rw [fillB_len] at hown
  obtain ⟨p', c', rfl, hok'⟩ := ownsRow_sl hown
  have HO := Lib.hid (And.intro hok' (And.intro (ownsRow_below hL0 (hB.mono (by simp))) (hB0.trans (hB.mono (by simp; omega)))))
  clear hown hB hok' hB0 hL0
  go_wp2_with (at_builtin; refine wpAppS rfl _ _ rfl w.heap.size _ 1 [4] rfl HO.out.2.1 p' 4 c' (fillB xs 4) rfl HO.out.1 (by omega) HO.out.2.2.size ?_)
  intro v' w' hown' hgrow
  have HO' := Lib.hid (And.intro hown' (grown_below HO.out.2.2 HO.out.2.1 hgrow HO.out.2.2.size))
  clear hown' hgrow
  go_wp2_with fail
  go_ret
  exact ⟨_, rfl, HO'.out.1.congr_len rfl (by simp [fillB_len]), HO'.out.2⟩

set_option maxRecDepth 100000 in
theorem hopBytes1 (K : Int) (hK0 : 0 ≤ K) (hK1 : K < 256) (hK : K % 8 = 1) (p : Option Addr) (m c : Nat) (xs : List Int) (w : World) (hok : (Sl.mk p m c xs).Ok w) : Calls Tryz.prog 20 #[.agg #[.int .u8 K, .slice p m c]] w (NewBytes ([6] ++ fillB xs 2) w) := by
  have HK := Lib.hid hok
  clear hok
  go_enter Tryz.func20, Tryz.ntmps20
  go_wp2_with fail
  have hB0 : Below w.heap.size w ((w.alloc (.cells #[.int .u8 K, .slice p m c] 29)).alloc (.cells #[.int .u8 6] 5)) := ((Below.refl _ _).alloc (Nat.le_refl _) _).alloc (by simp) _
  have hL0 : ((w.alloc (.cells #[.int .u8 K, .slice p m c] 29)).alloc (.cells #[.int .u8 6] 5)).ownsRow w.heap.size 5 1 (.slice (some ⟨w.heap.size + 1, 0, none⟩) 1 1) 1 [.int .u8 6] := by
    have h := World.ownsRow_lit (base := w.heap.size) (e := 5) (size := 1) (w.alloc (.cells #[.int .u8 K, .slice p m c] 29)) #[.int .u8 6] 1 (by simp) (by decide) (by simp)
    simpa only [World.size_alloc] using h
  refine (addrFilled p m c xs 2 _ HK.out.1 (BytesIn.below HK.out.2.1 hB0) (by omega)).mono ?_
  rintro e w1 ⟨v, rfl, hown, hB⟩
  rw [fillB_len] at hown
  obtain ⟨p', c', rfl, hok'⟩ := ownsRow_sl hown
  have HO := Lib.hid (And.intro hok' (And.intro (ownsRow_below hL0 (hB.mono (by simp))) (hB0.trans (hB.mono (by simp; omega)))))
  clear hown hB hok' hB0 hL0
  go_wp2_with (at_builtin; refine wpAppS rfl _ _ rfl w.heap.size _ 1 [6] rfl HO.out.2.1 p' 2 c' (fillB xs 2) rfl HO.out.1 (by omega) HO.out.2.2.size ?_)
  intro v' w' hown' hgrow
  have HO' := Lib.hid (And.intro hown' (grown_below HO.out.2.2 HO.out.2.1 hgrow HO.out.2.2.size))
  clear hown' hgrow
  go_wp2_with fail
  go_ret
  exact ⟨_, rfl, HO'.out.1.congr_len rfl (by simp [fillB_len]), HO'.out.2⟩

set_option maxRecDepth 100000 in
theorem hopBytes2 (K : Int) (hK0 : 0 ≤ K) (hK1 : K < 256) (hK : K % 8 = 2) (p : Option Addr) (m c : Nat) (xs : List Int) (w : World) (hok : (Sl.mk p m c xs).Ok w) : Calls Tryz.prog 20 #[.agg #[.int .u8 K, .slice p m c]] w (NewBytes ([145, 2] ++ fillB xs 2) w) := by
  have HK := Lib.hid hok
  clear hok
  have hB0 : Below w.heap.size w (w.alloc (.cells #[.int .u8 K, .slice p m c] 29)).drew := ((Below.refl _ _).alloc (Nat.le_refl _) _).drew
  have hc1 : (w.alloc (.cells #[.int .u8 K, .slice p m c] 29)).cell? ⟨w.heap.size, 1, none⟩ = some (.slice p m c) := World.cell?_alloc_mark w _ _ _ 1
  have H0 := Lib.hid hB0
  clear hB0
  go_enter Tryz.func20, Tryz.ntmps20
  go_wp2_with fail
  go_region_held_law (fun w' => w'.cell? ⟨w.heap.size, 1, none⟩ = some (.slice p m c))
    (first | exact hc1 | exact cB (hB.trans (Below.refl _ _)) hc1 | exact cB hB2 (cB hB hc1) | exact hgrow.cell (cB hB2 (cB hB hc1)) (fun e => by have := (hown.lt _ e.symm).1; simp at this; omega))
    (first
      | (go_at_call 49; refine (addrNumber2 273 145 2 (by omega) (by omega) (by decide) (by decide) _).mono ?_; rintro e w1 ⟨v, rfl, hown, hB⟩)
      | (go_at_call 48; refine (addrFilled p m c xs 2 _ HK.out.1 (BytesIn.below HK.out.2.1 (H0.out.trans (hB.mono (by simp)))) (by omega)).mono ?_; rintro e w2 ⟨v2, rfl, hown2, hB2⟩; rw [fillB_len] at hown2; obtain ⟨ad, c', rfl, hok'⟩ := ownsRow_sl1 hown2 (by omega))
      | (refine stepAppS rfl 27 rfl _ _ rfl w.heap.size _ 2 [145, 2] rfl ((ownsRow_below hown hB2).mono (by simp)) ad 2 c' (fillB xs 2) rfl hok' (by omega) (((H0.out.trans (hB.mono (by simp))).trans (hB2.mono (H0.out.trans (hB.mono (by simp))).size)).size) ?_; intro v' w' hown' hgrow))
  all_goals
    go_wp2_with fail
    go_ret
    have hw2 : Below w.heap.size w w2 := (H0.out.trans (hB.mono (by simp))).trans (hB2.mono (H0.out.trans (hB.mono (by simp))).size)
    exact ⟨_, rfl, hown'.congr_len rfl (by simp [fillB_len]), grown_below hw2 ((ownsRow_below hown hB2).mono (by simp)) hgrow hw2.size⟩

set_option maxRecDepth 100000 in
theorem hopBytes3 (K : Int) (hK0 : 0 ≤ K) (hK1 : K < 256) (hK : K % 8 = 3) (p : Option Addr) (m c : Nat) (w : World) : Calls Tryz.prog 20 #[.agg #[.int .u8 K, .slice p m c]] w (NewBytes [205, 3] w) := by
  have hB0 : Below w.heap.size w (w.alloc (.cells #[.int .u8 K, .slice p m c] 29)) := (Below.refl _ _).alloc (Nat.le_refl _) _
  go_enter Tryz.func20, Tryz.ntmps20
  go_wp2_with fail
  refine (addrNumber2 461 205 3 (by omega) (by omega) (by decide) (by decide) _).mono ?_
  rintro e w1 ⟨v, rfl, hown, hB⟩
  have HO' := Lib.hid (And.intro (hown.mono (show w.heap.size ≤ _ by simp)) (hB0.trans (hB.mono (by simp))))
  clear hown hB hB0
  go_wp2_with fail
  go_ret
  exact ⟨_, rfl, HO'.out.1, HO'.out.2⟩

set_option maxRecDepth 100000 in
theorem hopBytes4 (K : Int) (hK0 : 0 ≤ K) (hK1 : K < 256) (hK : K % 8 = 4) (p : Option Addr) (m c : Nat) (w : World) : Calls Tryz.prog 20 #[.agg #[.int .u8 K, .slice p m c]] w (NewBytes [221, 3] w) := by
  have hB0 : Below w.heap.size w (w.alloc (.cells #[.int .u8 K, .slice p m c] 29)) := (Below.refl _ _).alloc (Nat.le_refl _) _
  go_enter Tryz.func20, Tryz.ntmps20
  go_wp2_with fail
  refine (addrNumber2 477 221 3 (by omega) (by omega) (by decide) (by decide) _).mono ?_
  rintro e w1 ⟨v, rfl, hown, hB⟩
  have HO' := Lib.hid (And.intro (hown.mono (show w.heap.size ≤ _ by simp)) (hB0.trans (hB.mono (by simp))))
  clear hown hB hB0
  go_wp2_with fail
  go_ret
  exact ⟨_, rfl, HO'.out.1, HO'.out.2⟩

set_option maxRecDepth 100000 in
theorem hopBytes5 (K : Int) (hK0 : 0 ≤ K) (hK1 : K < 256) (hK : K % 8 = 5) (p : Option Addr) (m c : Nat) (w : World) : Calls Tryz.prog 20 #[.agg #[.int .u8 K, .slice p m c]] w (NewBytes [162, 2] w) := by
  have hB0 : Below w.heap.size w (w.alloc (.cells #[.int .u8 K, .slice p m c] 29)) := (Below.refl _ _).alloc (Nat.le_refl _) _
  go_enter Tryz.func20, Tryz.ntmps20
  go_wp2_with fail
  refine (addrNumber2 290 162 2 (by omega) (by omega) (by decide) (by decide) _).mono ?_
  rintro e w1 ⟨v, rfl, hown, hB⟩
  have HO' := Lib.hid (And.intro (hown.mono (show w.heap.size ≤ _ by simp)) (hB0.trans (hB.mono (by simp))))
  clear hown hB hB0
  go_wp2_with fail
  go_ret
  exact ⟨_, rfl, HO'.out.1, HO'.out.2⟩

set_option maxRecDepth 100000 in
theorem hopBytes7 (K : Int) (hK0 : 0 ≤ K) (hK1 : K < 256) (hK : K % 8 = 7) (p : Option Addr) (m c : Nat) (xs : List Int) (w : World) (hok : (Sl.mk p m c xs).Ok w) : Calls Tryz.prog 20 #[.agg #[.int .u8 K, .slice p m c]] w (NewBytes ([41] ++ fillB xs 16) w) := by
  have HK := Lib.hid hok
  clear hok
  go_enter Tryz.func20, Tryz.ntmps20
  go_wp2_with fail
  have hB0 : Below w.heap.size w ((w.alloc (.cells #[.int .u8 K, .slice p m c] 29)).alloc (.cells #[.int .u8 41] 5)) := ((Below.refl _ _).alloc (Nat.le_refl _) _).alloc (by simp) _
  have hL0 : ((w.alloc (.cells #[.int .u8 K, .slice p m c] 29)).alloc (.cells #[.int .u8 41] 5)).ownsRow w.heap.size 5 1 (.slice (some ⟨w.heap.size + 1, 0, none⟩) 1 1) 1 [.int .u8 41] := by
    have h := World.ownsRow_lit (base := w.heap.size) (e := 5) (size := 1) (w.alloc (.cells #[.int .u8 K, .slice p m c] 29)) #[.int .u8 41] 1 (by simp) (by decide) (by simp)
    simpa only [World.size_alloc] using h
  refine (addrFilled p m c xs 16 _ HK.out.1 (BytesIn.below HK.out.2.1 hB0) (by omega)).mono ?_
  rintro e w1 ⟨v, rfl, hown, hB⟩
  rw [fillB_len] at hown
  obtain ⟨p', c', rfl, hok'⟩ := ownsRow_sl hown
  have HO := Lib.hid (And.intro hok' (And.intro (ownsRow_below hL0 (hB.mono (by simp))) (hB0.trans (hB.mono (by simp; omega)))))
  clear hown hB hok' hB0 hL0
  go_wp2_with (at_builtin; refine wpAppS rfl _ _ rfl w.heap.size _ 1 [41] rfl HO.out.2.1 p' 16 c' (fillB xs 16) rfl HO.out.1 (by omega) HO.out.2.2.size ?_)
  intro v' w' hown' hgrow
  have HO' := Lib.hid (And.intro hown' (grown_below HO.out.2.2 HO.out.2.1 hgrow HO.out.2.2.size))
  clear hown' hgrow
  go_wp2_with fail
  go_ret
  exact ⟨_, rfl, HO'.out.1.congr_len rfl (by simp [fillB_len]), HO'.out.2⟩

/-- The bytes of an ID. -/
def idB (f : List Int → List Int) (xs : List Int) : List Int := if xs.length ≤ 42 then [0, (xs.length : Int)] ++ xs else [18, 32] ++ f xs
theorem idB_len (f : List Int → List Int) (hf : ShaIs f) (xs : List Int) : 2 ≤ (idB f xs).length ∧ (idB f xs).length ≤ 44 := by
  unfold idB
  have := (hf.1 xs).1
  split <;> simp <;> omega
theorem addrID (f : List Int → List Int) (hf : ShaIs f) (p : Option Addr) (m c : Nat) (xs : List Int) (w : World) (hok : (Sl.mk p m c xs).Ok w) (hu : U8 xs) (hm1 : m ≤ 200) : Calls Tryz.prog 18 #[.slice p m c] w (NewBytes (idB f xs) w) := by
  unfold idB
  have hl : xs.length = m := hok.1
  by_cases h : xs.length ≤ 42
  · rw [if_pos h, hl]
    exact addrID1 p m c xs w hok (by omega)
  · rw [if_neg h]
    exact addrID2 f hf p m c xs w hok hu (by omega) hm1

set_option maxRecDepth 100000 in
theorem hopBytes6 (K : Int) (hK0 : 0 ≤ K) (hK1 : K < 256) (hK : K % 8 = 6) (f : List Int → List Int) (hf : ShaIs f) (p : Option Addr) (m c : Nat) (xs : List Int) (w : World) (hok : (Sl.mk p m c xs).Ok w) (hu : U8 xs) (hm : m ≤ 200) : Calls Tryz.prog 20 #[.agg #[.int .u8 K, .slice p m c]] w (NewBytes ([165, 3, ((idB f xs).length : Int)] ++ idB f xs) w) := by
  obtain ⟨I, hI⟩ : ∃ I, I = idB f xs := ⟨_, rfl⟩
  have hIL : I.length ≤ 44 := by rw [hI]; exact (idB_len f hf xs).2
  have hI1 : decide (I.length < 128) = true := by rw [decide_eq_true_iff]; omega
  rw [← hI]
  have HK := Lib.hid (And.intro hok (And.intro hf (And.intro hu hI)))
  clear hok hf hu hI
  have hB0 : Below w.heap.size w (w.alloc (.cells #[.int .u8 K, .slice p m c] 29)) := (Below.refl _ _).alloc (Nat.le_refl _) _
  have hc1 : (w.alloc (.cells #[.int .u8 K, .slice p m c] 29)).cell? ⟨w.heap.size, 1, none⟩ = some (.slice p m c) := World.cell?_alloc_mark w _ _ _ 1
  go_enter Tryz.func20, Tryz.ntmps20
  go_wp2_with fail
  refine (addrID f HK.out.2.1 p m c xs _ (HK.out.1.below hB0) HK.out.2.2.1 hm).mono ?_
  rintro e w1 ⟨v, rfl, hown, hB⟩
  rw [← HK.out.2.2.2] at hown
  obtain ⟨p', c', rfl, hok'⟩ := ownsRow_sl hown
  have HO := Lib.hid (And.intro hok' (hB0.trans (hB.mono (by simp))))
  clear hown hB hB0 hok' hc1
  go_wp2_with fail
  refine (addrNumber2 421 165 3 (by omega) (by omega) (by decide) (by decide) _).mono ?_
  rintro e w2 ⟨v2, rfl, hown, hB⟩
  obtain ⟨p2, c2, rfl, hok2⟩ := ownsRow_sl hown
  have HO2 := Lib.hid (And.intro hok2 (And.intro (HO.out.1.below hB) (HO.out.2.trans (hB.mono HO.out.2.size))))
  clear hown hB hok2
  go_wp2_with fail
  refine (addrNumber1 (I.length : Int) (by omega) (by omega) _).mono ?_
  rintro e w3 ⟨v3, rfl, hown, hB⟩
  obtain ⟨p3, c3, rfl, hok3⟩ := ownsRow_sl hown
  have HO3 := Lib.hid (And.intro hok3 (And.intro (HO2.out.1.below hB) (And.intro (HO2.out.2.1.below hB) (HO2.out.2.2.trans (hB.mono HO2.out.2.2.size)))))
  clear hown hB hok3
  go_wp2_with fail
  refine (concatB [⟨p2, 2, c2, [165, 3]⟩, ⟨p3, 1, c3, [(I.length : Int)]⟩, ⟨p', I.length, c', I⟩] 3 rfl (by omega) (by simp [sumL]; omega) (by simp [sumL]; omega) _ _ _ (slAt3 (World.cell?_alloc_mark w3 _ _ _ 0) (World.cell?_alloc_mark w3 _ _ _ 1) (World.cell?_alloc_mark w3 _ _ _ 2) (HO3.out.2.1.below ((Below.refl _ _).alloc (Nat.le_refl _) _)) (HO3.out.1.below ((Below.refl _ _).alloc (Nat.le_refl _) _)) (HO3.out.2.2.1.below ((Below.refl _ _).alloc (Nat.le_refl _) _)))).mono ?_
  rintro e w4 ⟨v, rfl, hown, hB⟩
  have HO := Lib.hid (And.intro hown hB)
  clear hown hB
  go_wp2_with fail
  go_ret
  refine ⟨_, rfl, (HO.out.1.mono (by have := HO3.out.2.2.2.size; simp; omega)).congr_len (by simp [catL]) (by simp [catL]), (HO3.out.2.2.2.alloc HO3.out.2.2.2.size _).trans (HO.out.2.mono (by have := HO3.out.2.2.2.size; simp; omega))⟩
end Go.Proofs.YtapkmoakbfpkeaaGreatDoor
