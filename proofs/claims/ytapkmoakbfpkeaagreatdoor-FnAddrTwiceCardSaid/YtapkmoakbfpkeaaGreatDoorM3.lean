/- The law FnAddrTwice. -/
import Derived.Test.YtapkmoakbfpkeaaGreatDoorM2
import Derived.Test.YtapkmoakbfpkeaaGreatDoorE4
namespace Go.Proofs.YtapkmoakbfpkeaaGreatDoor
open Go Go.RowKit Go.Proofs Go.Sort
theorem segB {w : World} {B n c : Nat} {p : Option Addr} {ts : List Adr} (h : BRow w B (.slice p n c) ts) : ∃ us, (Seg.mk p n c us).Ok w ∧ us.length = ts.length ∧ ∀ (i : Nat) u x, us[i]? = some u → ts[i]? = some x → BV w B u (addrB x) := by
  rcases RowP.form h with ⟨e, rfl⟩ | ⟨g, c', e, hc, _⟩
  · injection e with e1 e2 e3
    subst e1 e2 e3
    exact ⟨[], ⟨rfl, fun j u hj => by simp at hj, fun _ => ⟨rfl, rfl⟩, fun u hu => by cases hu⟩, rfl, fun i u x hi => by simp at hi⟩
  · injection e with e1 e2 e3
    subst e1 e2 e3
    obtain ⟨us, hl, hown, hP⟩ := h
    refine ⟨us, ⟨hl, fun j u hj => ⟨g, 0, rfl, ?_⟩, fun e => by simp at e, fun u hu => ?_⟩, hl, hP⟩
    · have hj2 : j < us.length := (List.getElem?_eq_some_iff.1 hj).1
      show w.cell? ⟨g, 0 + j, none⟩ = some u
      rw [Nat.zero_add]
      exact (hown.cellAt j (by omega)).trans hj
    · obtain ⟨i, hi⟩ := List.getElem?_of_mem (show u ∈ us from hu)
      have hj2 := (List.getElem?_eq_some_iff.1 hi).1
      exact (hP i u _ hi (List.getElem?_eq_getElem (by omega))).one
theorem twiceBB (B n c : Nat) (p : Option Addr) (ts : List Adr) (w : World) (h : BRow w B (.slice p n c) ts) (hn : n ≤ 1000) (g c' : Nat) (h0 : w.cell? ⟨g, 0, none⟩ = some (.slice p n c)) (h1 : w.cell? ⟨g, 1, none⟩ = some (.slice p n c)) :
    Calls Tryz.prog 27 #[.slice (some ⟨g, 0, none⟩) 2 c'] w fun e w' => ∃ p5 c5, e = .returned (.slice p5 (n + n) c5) ∧ ListIn w' p5 (ts ++ ts) ∧ Below w.heap.size w w' := by
  obtain ⟨us, hok, hul, hP⟩ := segB h
  have hun : us.length = n := hok.1
  refine (concatBB [⟨p, n, c, us⟩, ⟨p, n, c, us⟩] 2 rfl (by decide) (by simp [sumG]; omega) g c' w fun i s hi => ?_).mono ?_
  · match i, hi with
    | 0, hi => obtain rfl : (⟨p, n, c, us⟩ : Seg) = s := by simpa using hi
               exact ⟨h0, hok⟩
    | 1, hi => obtain rfl : (⟨p, n, c, us⟩ : Seg) = s := by simpa using hi
               exact ⟨h1, hok⟩
  · rintro e w' ⟨v, rfl, hown, hB⟩
    have e1 : sumG [⟨p, n, c, us⟩, ⟨p, n, c, us⟩] = n + n := by simp [sumG]
    have e2 : catG [⟨p, n, c, us⟩, ⟨p, n, c, us⟩] = us ++ us := by simp [catG]
    rw [e1, e2] at hown
    have hPP : ∀ (i : Nat) u x, (us ++ us)[i]? = some u → (ts ++ ts)[i]? = some x → BV w' B u (addrB x) := fun i u x h1 h2 => by
      by_cases hi : i < us.length
      · rw [List.getElem?_append_left hi] at h1
        rw [List.getElem?_append_left (by omega)] at h2
        exact (hP i u x h1 h2).below hB
      · rw [List.getElem?_append_right (by omega)] at h1 h2
        rw [← hul] at h2
        exact (hP _ u x h1 h2).below hB
    rcases id hown.2 with ⟨rfl, h0⟩ | ⟨g5, c5, cur, rfl, _⟩
    · rw [h0]
      exact ⟨none, 0, rfl, fun i hs hi => by
        have := (List.getElem?_eq_some_iff.1 hi).1
        simp at this
        omega, hB⟩
    · refine ⟨_, c5, rfl, fun i hs hi => ?_, hB⟩
      have hi2 : i < us.length + us.length := by have := (List.getElem?_eq_some_iff.1 hi).1; simp at this; omega
      obtain ⟨u, hu⟩ : ∃ u, (us ++ us)[i]? = some u := ⟨_, List.getElem?_eq_getElem (by simp; omega)⟩
      obtain ⟨g6, c6, cs, e6, _, _, hb⟩ := hPP i _ hs hu hi
      exact ⟨g5, g6, 0, c6, rfl, by rw [hown.cellAt i (by omega), hu, e6], hb⟩
theorem segL {w : World} {k c : Nat} {p : Option Addr} {ls : List LEl} (h : LLIn w p ls) (hk : ls.length = k) (hpn : p = none → c = 0) : (Seg.mk p k c (ls.map LEl.v)).Ok w := by
  refine ⟨by show (ls.map LEl.v).length = k; simp [hk], fun j u hj => ?_, fun e => ⟨?_, hpn e⟩, fun u hu => ?_⟩
  · replace hj : (ls.map LEl.v)[j]? = some u := hj
    rw [List.getElem?_map] at hj
    obtain ⟨a, ha, rfl⟩ := Option.map_eq_some_iff.1 hj
    obtain ⟨b, o, rfl, hat⟩ := h (by have := (List.getElem?_eq_some_iff.1 ha).1; omega)
    exact ⟨b, o, rfl, (hat j a ha).1⟩
  · show k = 0
    rcases Nat.eq_zero_or_pos k with h0 | h0
    · exact h0
    · obtain ⟨b, o, e2, _⟩ := h (by omega)
      rw [show p = none from e] at e2
      cases e2
  · obtain ⟨a, _, rfl⟩ := List.mem_map.1 (show u ∈ ls.map LEl.v from hu)
    rfl
theorem twiceLL (k c : Nat) (p : Option Addr) (ls : List LEl) (w : World) (h : LLIn w p ls) (hk : ls.length = k) (hpn : p = none → c = 0) (hn : k ≤ 1000) (g c' : Nat) (h0 : w.cell? ⟨g, 0, none⟩ = some (.slice p k c)) (h1 : w.cell? ⟨g, 1, none⟩ = some (.slice p k c)) :
    Calls Tryz.prog 25 #[.slice (some ⟨g, 0, none⟩) 2 c'] w fun e w' => ∃ p5 c5, e = .returned (.slice p5 (k + k) c5) ∧ LLIn w' p5 (ls ++ ls) ∧ Below w.heap.size w w' := by
  have hok := segL h hk hpn
  refine (concatLL [⟨p, k, c, ls.map LEl.v⟩, ⟨p, k, c, ls.map LEl.v⟩] 2 rfl (by decide) (by simp [sumG]; omega) g c' w fun i s hi => ?_).mono ?_
  · match i, hi with
    | 0, hi => obtain rfl : (⟨p, k, c, ls.map LEl.v⟩ : Seg) = s := by simpa using hi
               exact ⟨h0, hok⟩
    | 1, hi => obtain rfl : (⟨p, k, c, ls.map LEl.v⟩ : Seg) = s := by simpa using hi
               exact ⟨h1, hok⟩
  · rintro e w' ⟨v, rfl, hown, hB⟩
    have e1 : sumG [⟨p, k, c, ls.map LEl.v⟩, ⟨p, k, c, ls.map LEl.v⟩] = k + k := by simp [sumG]
    have e2 : catG [⟨p, k, c, ls.map LEl.v⟩, ⟨p, k, c, ls.map LEl.v⟩] = (ls ++ ls).map LEl.v := by simp [catG]
    rw [e1, e2] at hown
    have h' := h.below hB
    rcases id hown.2 with ⟨rfl, h0⟩ | ⟨g5, c5, cur, rfl, _⟩
    · rw [h0]
      exact ⟨none, 0, rfl, fun hl => by simp at hl; omega, hB⟩
    · refine ⟨_, c5, rfl, fun hl => ⟨g5, 0, rfl, fun i a hi => ?_⟩, hB⟩
      have hi2 := (List.getElem?_eq_some_iff.1 hi).1
      rw [List.length_append] at hi2
      have hm : a ∈ ls := by
        have := List.mem_of_getElem? hi
        simpa using this
      obtain ⟨j, hj⟩ := List.getElem?_of_mem hm
      obtain ⟨b, o, rfl, hat⟩ := h' (List.length_pos_of_mem hm)
      refine ⟨?_, (hat j a hj).2⟩
      rw [Nat.zero_add, hown.cellAt i (by omega), List.getElem?_map, hi]
      rfl
/-- What addresses tell: the peers, or nothing. -/
def Told (L : List Adr) (ok : Bool) (I : List (List Int × List Adr)) : Prop := (ok = true ∧ (∀ hs ∈ L, ends6 hs) ∧ IsInfos L I) ∨ (ok = false ∧ (∃ hs ∈ L, ¬ ends6 hs) ∧ I = [])
theorem Told.one {L : List Adr} {ok ok' : Bool} {I I' : List (List Int × List Adr)} (h : Told L ok I) (h' : Told L ok' I') : ok' = ok ∧ I' = I := by
  rcases h with ⟨rfl, a1, a2⟩ | ⟨rfl, ⟨x, a1, a2⟩, a3⟩ <;> rcases h' with ⟨rfl, b1, b2⟩ | ⟨rfl, ⟨y, b1, b2⟩, b3⟩
  · exact ⟨rfl, infos_eq b2 a2⟩
  · exact absurd (a1 y b1) b2
  · exact absurd (b1 x a1) a2
  · exact ⟨rfl, b3.trans a3.symm⟩
theorem Told.twice {L : List Adr} {ok : Bool} {I : List (List Int × List Adr)} (h : Told L ok I) : Told (L ++ L) ok (I.map fun x => (x.1, x.2 ++ x.2)) := by
  rcases h with ⟨rfl, a1, a2⟩ | ⟨rfl, ⟨x, a1, a2⟩, rfl⟩
  · exact .inl ⟨rfl, fun hs hh => by rw [List.mem_append, or_self] at hh; exact a1 hs hh, infos_twice a2⟩
  · exact .inr ⟨rfl, ⟨x, by simp [a1], a2⟩, rfl⟩
theorem infos_len {L : List Adr} {I : List (List Int × List Adr)} (h : IsInfos L I) : I.length ≤ L.length := by
  have h1 := nodup_le (I.map (·.1)) (L.map lastId) (List.pairwise_map.2 (h.1.imp fun {a b} hab e => by
    unfold infoLt at hab
    rw [e, cmpL_self] at hab
    omega)) (fun x hx => by
      obtain ⟨⟨id, ts⟩, hy, rfl⟩ := List.mem_map.1 hx
      obtain ⟨hs, h1, h2⟩ := Fof_mem (L := L) (id := id) (by rw [(h.2 id ts).1 hy]; simp)
      exact List.mem_map.2 ⟨hs, h1, h2⟩)
  simpa using h1
theorem Told.len {L : List Adr} {ok : Bool} {I : List (List Int × List Adr)} (h : Told L ok I) : I.length ≤ L.length ∧ ∀ x ∈ I, x.2.length ≤ L.length := by
  rcases h with ⟨rfl, a1, a2⟩ | ⟨rfl, _, rfl⟩
  · refine ⟨infos_len a2, fun x hx => ?_⟩
    have h1 := Fof_len L x.1
    rw [(a2.2 x.1 x.2).1 hx] at h1
    simpa using h1
  · exact ⟨Nat.zero_le _, fun x hx => by cases hx⟩
def ITold (L : List Adr) (w : World) (e : Ending) (w' : World) : Prop := ∃ v ok I, e = .returned (.tuple #[v, .bool ok]) ∧ RowQ 32 (PlainI w.heap.size) w' w.heap.size v I ∧ Told L ok I ∧ Below w.heap.size w w'
theorem implTold (L : List Adr) (hL : ∀ hs ∈ L, AdrOk hs) (p : Option Addr) (n c : Nat) (w : World) (hn : L.length = n) (hn1 : n ≤ 1000) (hin : ListIn w p L) (hT : Tab w) (hE : ErrV w) :
    Calls Tryz.prog 23 #[.slice p n c] w (ITold L w) := by
  refine (implInfos L hL p n c w hn hn1 hin hT hE).mono ?_
  rintro e w' ⟨hB, ⟨h6, v, I, rfl, hI, hr⟩ | ⟨hx, rfl⟩⟩
  · exact ⟨v, true, I, rfl, hr, .inl ⟨rfl, h6, hI⟩, hB⟩
  · exact ⟨_, false, [], rfl, RowQ.nil _ _ _ _, .inr ⟨rfl, hx, rfl⟩, hB⟩
theorem adrs_app (f : List Int → List Int) (ls ms : List LEl) : adrs f (ls ++ ms) = adrs f ls ++ adrs f ms := List.map_append
set_option maxHeartbeats 16000000 in
set_option maxRecDepth 100000 in
theorem lawTwice (f : List Int → List Int) (hf : ShaIs f) (p : Option Addr) (c k : Nat) (ls : List LEl) (hk : ls.length = k) (_hkc : k ≤ c) (hcm : c ≤ 9223372036854775807 ∧ (p = none → c = 0)) (w : World) (hb : LLIn w p ls) (hT : Tab w) (hE : ErrV w) :
    Calls Tryz.prog 4 #[.slice p k c] w fun e w' => e = .returned (.bool true) ∧ Below w.heap.size w w' := by
  have HB := Lib.hid (And.intro hb (And.intro hf (And.intro hT (And.intro hk (And.intro hE (And.intro hcm.2 (show k ≤ 9223372036854775807 by omega)))))))
  have awake : ∀ (wx : World), Below w.heap.size w wx → Calls Tryz.prog 13 #[] wx fun e w' => e = .returned (.bool true) ∧ Below w.heap.size w w' := fun wx hx => (addrAwake f hf wx (hT.below hx)).mono fun e w' ⟨he, hB⟩ => ⟨he, hx.trans (hB.mono hx.size)⟩
  have HW := Lib.hid awake
  clear hb hf hT hk hE awake hcm
  go_enter Tryz.func4, Tryz.ntmps4
  go_wp2_with fail
  refine (zzFits3 p c k ls HB.out.2.2.2.1 w HB.out.1).mono ?_
  rintro e w1 ⟨r, rfl, hB1⟩
  have H1 := Lib.hid hB1
  clear hB1
  cases r with
  | false =>
    go_wp2_with fail
    go_ret
    exact ⟨rfl, H1.out⟩
  | true =>
    go_wp2_with fail
    refine (addrShortL p c k ls HB.out.2.2.2.1 HB.out.2.2.2.2.2.2 w1 (HB.out.1.below H1.out)).mono ?_
    rintro e w2 ⟨r, rfl, hB2, hr⟩
    have H2 := Lib.hid (And.intro (H1.out.trans (hB2.mono H1.out.size)) hr)
    clear hB2 hr
    cases r with
    | false =>
      go_wp2_with fail
      refine (HW.out _ H2.out.1).mono ?_
      rintro e w3 ⟨rfl, hB3⟩
      go_wp2_with fail
      go_ret
      exact ⟨rfl, hB3⟩
    | true =>
      by_cases hk3 : 30 < k
      · have h31 : decide (30 < k) = true := by rw [decide_eq_true_iff]; exact hk3
        have h32 : decide ((30 : Int) < (k : Int)) = true := by rw [decide_eq_true_iff]; omega
        go_wp2_with fail
        refine (HW.out _ H2.out.1).mono ?_
        rintro e w3 ⟨rfl, hB3⟩
        go_wp2_with fail
        go_ret
        exact ⟨rfl, hB3⟩
      have h31 : decide (30 < k) = false := by rw [decide_eq_false_iff_not]; exact hk3
      have h32 : decide ((30 : Int) < (k : Int)) = false := by rw [decide_eq_false_iff_not]; omega
      obtain ⟨_, hsh⟩ := H2.out.2 rfl
      have hk30 : k ≤ 30 := by omega
      have HS := Lib.hid hsh
      clear hsh
      go_wp2_with fail
      refine (addrList f HB.out.2.1 p c k ls HB.out.2.2.2.1 (by omega) HS.out w2 (HB.out.1.below H2.out.1)).mono ?_
      rintro e w3 ⟨v, rfl, hrow, hB3⟩
      obtain ⟨p3, c3, rfl, _⟩ := RowP.slice hrow
      have hal : (adrs f ls).length = k := by unfold adrs; rw [List.length_map]; exact HB.out.2.2.2.1
      rw [hal] at hrow ⊢
      have hw3 := H2.out.1.trans (hB3.mono H2.out.1.size)
      have hok : ∀ x ∈ adrs f ls, AdrOk x := adrs_ok HB.out.2.1 HB.out.1 HS.out
      have hin := implTold (adrs f ls) hok p3 k c3 w3 hal (by omega) (BRow.list hrow) (HB.out.2.2.1.below hw3) (HB.out.2.2.2.2.1.below hw3)
      have H3 := Lib.hid (And.intro hin (And.intro hw3 (And.intro hok hal)))
      clear hin hw3 hok hal hrow hB3
      go_wp2_with fail
      refine H3.out.1.mono ?_
      rintro e w4 ⟨va, ok, I, rfl, hrI, htI, hB4⟩
      have hw4 := H3.out.2.1.trans (hB4.mono H3.out.2.1.size)
      have hb4 : Below w4.heap.size w4 (w4.alloc (.cells #[.slice p k c, .slice p k c] 42)) := (Below.refl _ _).alloc (Nat.le_refl _) _
      have hcat := twiceLL k c p ls _ ((HB.out.1.below hw4).below hb4) HB.out.2.2.2.1 HB.out.2.2.2.2.2.1 (by omega) w4.heap.size 2 (World.cell?_alloc_mark w4 _ _ _ 0) (World.cell?_alloc_mark w4 _ _ _ 1)
      have H4 := Lib.hid (And.intro hrI (And.intro htI (And.intro hw4 (And.intro hcat hb4))))
      clear hrI htI hw4 hcat hb4 hB4
      go_wp2_with fail
      refine H4.out.2.2.2.1.mono ?_
      rintro e w5 ⟨p5, c5, rfl, hl5, hB5⟩
      have h45 := H4.out.2.2.2.2.trans (hB5.mono H4.out.2.2.2.2.size)
      have hw5 := H4.out.2.2.1.trans (h45.mono H4.out.2.2.1.size)
      have hsh2 : ∀ a ∈ ls ++ ls, Short a := fun a ha => by rw [List.mem_append, or_self] at ha; exact HS.out a ha
      have hal5 := addrList f HB.out.2.1 p5 c5 (k + k) (ls ++ ls) (by rw [List.length_append, HB.out.2.2.2.1]) (by omega) hsh2 w5 hl5
      have H5 := Lib.hid (And.intro hal5 (And.intro h45 hw5))
      clear hal5 h45 hw5 hsh2 hl5 hB5
      go_wp2_with fail
      refine H5.out.1.mono ?_
      rintro e w6 ⟨v6, rfl, hrow6, hB6⟩
      obtain ⟨p6, c6, rfl, _⟩ := RowP.slice hrow6
      have hll : (adrs f (ls ++ ls)).length = k + k := by rw [adrs_app, List.length_append, H3.out.2.2.2]
      have hw6 := H5.out.2.2.trans (hB6.mono H5.out.2.2.size)
      have h46 := H5.out.2.1.trans (hB6.mono H5.out.2.1.size)
      have hin6 := implTold (adrs f (ls ++ ls)) (fun x hx => by rw [adrs_app, List.mem_append, or_self] at hx; exact H3.out.2.2.1 x hx) p6 (k + k) c6 w6 hll (by omega) (BRow.list hrow6) (HB.out.2.2.1.below hw6) (HB.out.2.2.2.2.1.below hw6)
      rw [hll]
      have H6 := Lib.hid (And.intro hin6 (And.intro h46 hw6))
      clear hin6 h46 hw6 hll hrow6 hB6
      go_wp2_with fail
      refine H6.out.1.mono ?_
      rintro e w7 ⟨vb, ok', J, rfl, hrJ, htJ, hB7⟩
      have htt := H4.out.2.1.twice
      rw [← adrs_app] at htt
      obtain ⟨rfl, rfl⟩ := htt.one htJ
      have h47 := H6.out.2.1.trans (hB7.mono H6.out.2.1.size)
      have hrI := RowQ.below H4.out.1 h47 (fun _ _ h => h.below h47)
      obtain ⟨pa, ca, rfl, _⟩ := RowQ.slice hrI
      obtain ⟨pb, cb, rfl, _⟩ := RowQ.slice hrJ
      obtain ⟨hIl, hIt⟩ := H4.out.2.1.len
      rw [H3.out.2.2.2] at hIl hIt
      rw [List.length_map] at hrJ ⊢
      obtain ⟨m, hm⟩ : ∃ m, m = I.length := ⟨_, rfl⟩
      have HM := Lib.hid hm
      have H7 := Lib.hid (And.intro hrI (And.intro hrJ (And.intro trivial (And.intro (H6.out.2.2.trans (hB7.mono H6.out.2.2.size)) hIt))))
      rw [← hm] at hIl H7 ⊢
      clear htt htJ h47 hrI hrJ hm hB7 hIt
      cases ok' <;> go_wp2_with fail
      all_goals
        go_loopg [48] m (fun gk iv wr => ∃ (ds rs : List (List Int × List Adr)), I = ds ++ rs ∧ gk = rs.length ∧ iv = .int .i64 (ds.length : Int) ∧ Hid (Below w7.heap.size w7 wr))
        case atStart => exact ⟨[], I, rfl, HM.out, rfl, Below.refl _ _⟩
        case round =>
          obtain ⟨ds, rs, hds, rfl, rfl, hJ⟩ := hrel
          cases rs with
          | nil =>
            have hlt : ds.length = m := by rw [HM.out, hds, List.append_nil]
            have hl2 : decide (ds.length < m) = false := by rw [decide_eq_false_iff_not, hlt]; omega
            clear hds hlt
            go_wp2_with (go_at_call 13; refine (HW.out _ (H7.out.2.2.2.1.trans (hJ.out.mono H7.out.2.2.2.1.size))).mono ?_; rintro e wd ⟨rfl, hbD⟩)
            go_ret
            exact ⟨rfl, hbD⟩
          | cons r rs =>
            have hlt : ds.length < m := by rw [HM.out, hds]; simp
            have hl2 : decide (ds.length < m) = true := by rw [decide_eq_true_iff]; omega
            obtain ⟨ga, rfl⟩ : ∃ g, pa = some ⟨g, 0, none⟩ := by
              rcases RowQ.form H7.out.1 with ⟨_, e⟩ | ⟨g, c', e, _⟩
              · rw [hds] at e; simp at e
              · injection e with e; exact ⟨g, e⟩
            obtain ⟨gb, rfl⟩ : ∃ g, pb = some ⟨g, 0, none⟩ := by
              rcases RowQ.form H7.out.2.1 with ⟨_, e⟩ | ⟨g, c', e, _⟩
              · rw [hds] at e; simp at e
              · injection e with e; exact ⟨g, e⟩
            obtain ⟨id, ts⟩ := r
            obtain ⟨⟨a1, a2⟩, ⟨ha0, ha1⟩, hpa⟩ := RowQ.at H7.out.1 ds.length (id, ts) (by rw [hds]; simp)
            obtain ⟨⟨b1, b2⟩, ⟨hb0, hb1⟩, hpb⟩ := RowQ.at H7.out.2.1 ds.length (id, ts ++ ts) (by rw [List.getElem?_map, hds]; simp)
            obtain ⟨g1, c1, cs1, rfl, _, _, hbs1⟩ : BV _ _ a1 id := hpa.1
            obtain ⟨g3, c3', cs3, rfl, _, _, hbs3⟩ : BV _ _ b1 id := hpb.1
            have hra : BRow w7 w3.heap.size a2 ts := hpa.2
            have hrb := hpb.2
            obtain ⟨p2, c2, rfl, _⟩ := RowP.slice hra
            obtain ⟨p4, c4, rfl, _⟩ : ∃ p c, b2 = .slice p (ts ++ ts).length c ∧ (ts ++ ts).length ≤ c := RowP.slice hrb
            have htn := H7.out.2.2.2.2 (id, ts) (by rw [hds]; simp)
            replace htn : ts.length ≤ k := htn
            replace ha0 := cB hJ.out ha0
            replace ha1 := cB hJ.out ha1
            replace hb0 := cB hJ.out hb0
            replace hb1 := cB hJ.out hb1
            obtain ⟨W1, hW1⟩ : ∃ W, W = wr.alloc (.cells #[.slice (some ⟨g1, 0, none⟩) id.length c1, .slice p2 ts.length c2] 32) := ⟨_, rfl⟩
            have hbr : Below wr.heap.size wr W1 := by rw [hW1]; exact (Below.refl _ _).alloc (Nat.le_refl _) _
            have x0 : W1.cell? ⟨wr.heap.size, 0, none⟩ = some (.slice (some ⟨g1, 0, none⟩) id.length c1) := by rw [hW1]; exact World.cell?_alloc_mark wr _ _ _ 0
            have x1 : W1.cell? ⟨wr.heap.size, 1, none⟩ = some (.slice p2 ts.length c2) := by rw [hW1]; exact World.cell?_alloc_mark wr _ _ _ 1
            have y0 := cB hbr hb0
            have y1 := cB hbr hb1
            have hb71 := hJ.out.trans (hbr.mono hJ.out.size)
            have hbc : Below W1.heap.size W1 (W1.drew.alloc (.cells #[.slice p2 ts.length c2, .slice p2 ts.length c2] 30)) := ((Below.refl _ _).drew).alloc (Nat.le_refl _) _
            have hcat := twiceBB w3.heap.size ts.length c2 p2 ts (W1.drew.alloc (.cells #[.slice p2 ts.length c2, .slice p2 ts.length c2] 30)) ((hra.below hb71).below hbc) (by omega) W1.heap.size 2 (World.cell?_alloc_mark W1.drew _ _ _ 0) (World.cell?_alloc_mark W1.drew _ _ _ 1)
            have hlb := (BRow.list hrb).below hb71
            have hC := Lib.hid (And.intro hcat (And.intro hbc (And.intro hlb (And.intro hb71 (And.intro (hbs1.below hb71) (And.intro (hbs3.below hb71) hds))))))
            rw [List.length_append] at y1 hb1
            clear hcat hbc hlb hb71 hbs1 hbs3 hra hrb hpa hpb hds hbr
            obtain ⟨K, hK⟩ : ∃ K, K = id.length := ⟨_, rfl⟩
            obtain ⟨n, hn⟩ : ∃ K, K = ts.length := ⟨_, rfl⟩
            rw [← hK] at ha0 hb0 x0 y0 hW1
            rw [← hn] at ha1 hb1 x1 y1 hC hW1 htn
            have HKN := Lib.hid (And.intro hK hn)
            clear hK hn
            go_upto_region 12 with fail
            rw [← hW1]
            obtain ⟨X, hX⟩ : ∃ X, X = wr.heap.size := ⟨_, rfl⟩
            rw [← hX] at x0 x1 ⊢
            clear hX hW1
            go_cut [76] (fun t76 wx => t76 = .bool false ∧ Hid (Below W1.heap.size W1 wx))
            case first =>
              go_region_held_law (fun w' => w'.cell? ⟨X, 0, none⟩ = some (.slice (some ⟨g1, 0, none⟩) K c1) ∧ w'.cell? ⟨X, 1, none⟩ = some (.slice p2 n c2) ∧ w'.cell? ⟨gb, ds.length * 2, none⟩ = some (.slice (some ⟨g3, 0, none⟩) K c3') ∧ w'.cell? ⟨gb, ds.length * 2 + 1, none⟩ = some (.slice p4 (n + n) c4))
                (first | exact ⟨x0, x1, y0, y1⟩ | exact ⟨cB hC.out.2.1 x0, cB hC.out.2.1 x1, cB hC.out.2.1 y0, cB hC.out.2.1 y1⟩ | exact ⟨cB hbX x0, cB hbX x1, cB hbX y0, cB hbX y1⟩)
                (first
                  | (go_at_call 17; refine (equalSame g3 c3' K g1 c1 id W1.drew HKN.out.1.symm (hC.out.2.2.2.2.2.1.below ((Below.refl W1.heap.size W1).drew)) (hC.out.2.2.2.2.1.below ((Below.refl W1.heap.size W1).drew))).mono ?_; rintro e wy ⟨rfl, rfl⟩; have hbX := (Below.refl W1.heap.size W1).drew)
                  | (go_at_call 27; refine hC.out.1.mono ?_; rintro e wy ⟨p5, c5, rfl, hl5, hBy⟩; have hbY : Below W1.heap.size W1 wy := hC.out.2.1.trans (hBy.mono hC.out.2.1.size); have hbX := hbY)
                  | (go_at_call 26; refine (equalRows p4 p5 (n + n) c4 c5 (ts ++ ts) wy (by rw [List.length_append, HKN.out.2]) (by omega) (hC.out.2.2.1.below hbY) hl5).mono ?_; rintro e wz ⟨rfl, rfl⟩; have hbX := hbY))
              all_goals
                go_wp2_with fail
                go_meet
                case rel => exact ⟨rfl, hbX⟩
            case rest =>
              obtain ⟨rfl, hI⟩ := hcut
              go_wp2_with fail
              go_roundg rs.length
              case measure => simp
              case rel => exact ⟨ds ++ [(id, ts)], rs, by rw [hC.out.2.2.2.2.2.2, List.append_assoc]; rfl, rfl, by simp, hC.out.2.2.2.1.trans (hI.out.mono hC.out.2.2.2.1.size)⟩
end Go.Proofs.YtapkmoakbfpkeaaGreatDoor
