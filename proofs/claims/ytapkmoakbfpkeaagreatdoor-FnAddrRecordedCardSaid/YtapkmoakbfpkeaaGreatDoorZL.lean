/- impl.RecordOf. The law FnAddrRecorded. -/
import Derived.Test.YtapkmoakbfpkeaaGreatDoorZJ
import Derived.Test.YtapkmoakbfpkeaaGreatDoorZG
namespace Go.Proofs.YtapkmoakbfpkeaaGreatDoor
open Go Go.RowKit Go.Proofs Go.Sort
theorem recOf_rec (id : List Int) (S : Int) (al : List (List Int)) : recOf (recF id S al) = ⟨id, S, al⟩ := by
  have h : ∀ (bl : List (List Int)) (s : Rec), (bl.map Fld.addr).foldl Rec.step s = ⟨s.P, s.S, s.al ++ bl⟩ := fun bl => by
    induction bl with
    | nil => intro s; simp
    | cons b bl ih => intro s; rw [List.map_cons, List.foldl_cons, ih]; simp [Rec.step]
  unfold recOf recF
  rw [List.foldl_cons, List.foldl_append, h]
  by_cases hS : S = 0
  · rw [if_pos hS, hS]; simp [Rec.step]
  · rw [if_neg hS]; simp [Rec.step]
theorem three_set012 {w : World} {r : Nat} {a b c : Value} {T : TypeId} (h : w.heap[r]? = some (.cells #[a, b, c] T (0, 0))) (x y z : Value) : (((w.setCell ⟨r, 0, none⟩ x).setCell ⟨r, 1, none⟩ y).setCell ⟨r, 2, none⟩ z).heap[r]? = some (.cells #[x, y, z] T (0, 0)) := by
  simp [World.setCell, Array.getElem?_modify, h]
theorem kept_set3 {w : World} {r : Nat} {a b c : Value} {T : TypeId} (h : w.heap[r]? = some (.cells #[a, b, c] T (0, 0))) (x y z : Value) : Kept T w (((w.setCell ⟨r, 0, none⟩ x).setCell ⟨r, 1, none⟩ y).setCell ⟨r, 2, none⟩ z) := by
  obtain ⟨cs, hcs⟩ := heap_atSet (o := 0) h x
  obtain ⟨cs2, hcs2⟩ := heap_atSet (o := 1) hcs y
  exact ((Kept.setCell (p := ⟨r, 0, none⟩) h x).trans (Kept.setCell (p := ⟨r, 1, none⟩) hcs y)).trans (Kept.setCell (p := ⟨r, 2, none⟩) hcs2 z)
def RO (id : List Int) (S : Int) (ts : List Adr) (w : World) (e : Ending) (w' : World) : Prop := ∃ g c p n d, n = ts.length ∧ e = .returned (.tuple #[.agg #[.slice (some ⟨g, 0, none⟩) id.length c, .int .u64 S, .slice p n d], .bool true]) ∧ BV w' 0 (.slice (some ⟨g, 0, none⟩) id.length c) id ∧ BRow w' 0 (.slice p n d) ts ∧ Below w.heap.size w w'
set_option maxHeartbeats 8000000 in
set_option maxRecDepth 100000 in
theorem recordOf (id : List Int) (S : Int) (hid0 : id ≠ []) (hidl : id.length ≤ 1000) (hS0 : 0 ≤ S) (hS1 : S < 18446744073709551616) (ts : List Adr) (hn1 : ts.length ≤ 100) (hts : ∀ hs ∈ ts, AdrOk hs) (htl : ∀ hs ∈ ts, hs.length ≤ 40) (g N c : Nat) (hN : (encF (recF id S (ts.map addrB))).length = N) (w : World) (hb : Bs w g 0 (encF (recF id S (ts.map addrB)))) :
    Calls Tryz.prog 40 #[.slice (some ⟨g, 0, none⟩) N c] w (RO id S ts w) := by
  have hF0 : encF (recF id S (ts.map addrB)) ≠ [] := by unfold recF; rw [encF_cons]; simp [Fld.enc]
  have hal : ∀ a ∈ ts.map addrB, a ≠ [] ∧ a.length ≤ 5000 := fun a ha => by
    obtain ⟨t, ht, rfl⟩ := List.mem_map.1 ha
    obtain ⟨h0, hk, _⟩ := hts t ht
    have h1 := htl t ht
    have h2 := addrB_le t hk
    exact ⟨fun e => by have := addrB_pos t hk h0; rw [e] at this; simp at this, by omega⟩
  have hFi : ∀ f ∈ recF id S (ts.map addrB), FldIn f := fun f hf => by
    unfold recF at hf
    rcases List.mem_cons.1 hf with rfl | hf
    · exact ⟨hid0, by omega⟩
    · rcases List.mem_append.1 hf with hf | hf
      · split at hf
        · cases hf
        · rw [List.mem_singleton] at hf; rw [hf]; exact ⟨hS0, hS1⟩
      · obtain ⟨a, ha, rfl⟩ := List.mem_map.1 hf
        exact hal a ha
  have hFl : (recF id S (ts.map addrB)).length ≤ 102 := by
    unfold recF
    rw [List.length_cons, List.length_append, List.length_map, List.length_map]
    split <;> simp <;> omega
  have hNl : N ≤ 700000 := by
    have h := encF_len (recF id S (ts.map addrB)) (fun f hf => by
      have h := hFi f hf
      cases f with
      | peer xs => exact h.2
      | seq X => trivial
      | addr a => exact h.2)
    omega
  have hrec := recOf_rec id S (ts.map addrB)
  obtain ⟨F, hF⟩ : ∃ F, F = recF id S (ts.map addrB) := ⟨_, rfl⟩
  rw [← hF] at hb hF0 hFi hFl hN hrec
  have hN0 : 0 < N := by rw [← hN]; exact List.length_pos_iff.2 hF0
  obtain ⟨W1, hW1⟩ : ∃ W, W = (w.alloc (.cells #[.slice none 0 0, .int .u64 0, .slice none 0 0] 70)).alloc (.cells #[.slice none 0 0, .int .u64 0, .slice none 0 0] 124) := ⟨_, rfl⟩
  have hb1 : Below w.heap.size w W1 := by rw [hW1]; exact ((Below.refl _ _).alloc (Nat.le_refl _) _).alloc (by simp) _
  have hz1 : W1.heap.size = w.heap.size + 1 + 1 := by rw [hW1]; simp
  have hR1 : W1.heap[w.heap.size]? = some (.cells #[.slice none 0 0, .int .u64 0, .slice none 0 0] 70 (0, 0)) := by rw [hW1]; exact (Below.heap_alloc _ _ _ (by simp)).trans (heap_alloc_new w _)
  have hX1 : W1.heap[w.heap.size + 1]? = some (.cells #[.slice none 0 0, .int .u64 0, .slice none 0 0] 124 (0, 0)) := by
    rw [hW1]
    have h := heap_alloc_new (w.alloc (.cells #[.slice none 0 0, .int .u64 0, .slice none 0 0] 70)) (.cells #[.slice none 0 0, .int .u64 0, .slice none 0 0] 124)
    rw [World.size_alloc] at h
    exact h
  have hcl0 := cloneAt g 0 c (encF F) hF0 (by omega) W1 (hb.below hb1)
  rw [hN] at hcl0
  have HB := Lib.hid (And.intro hcl0 (And.intro hN (And.intro hFi (And.intro hFl (And.intro hts (And.intro htl (And.intro hb1 (And.intro hrec (And.intro hR1 hX1)))))))))
  clear hb hN hFi hFl hF hal hF0 hrec hts htl hcl0 hb1 hR1 hX1
  obtain ⟨m, hm⟩ : ∃ m, m = id.length := ⟨_, rfl⟩
  have HM := Lib.hid hm
  clear hm
  go_enter Tryz.func40, Tryz.ntmps40
  go_upto_region 2 with fail
  rw [← hW1]
  obtain ⟨X, hXe⟩ : ∃ X, X = w.heap.size + 1 := ⟨_, rfl⟩
  rw [← hXe]
  have HX := Lib.hid (And.intro hXe hz1)
  clear hXe hz1 hW1
  go_wp2_with fail
  refine HB.out.1.mono ?_
  rintro e w2 ⟨g2, c2, rfl, hbv2, hB2⟩
  have hX2 : w2.heap[X]? = some (.cells #[.slice none 0 0, .int .u64 0, .slice none 0 0] 124 (0, 0)) := by
    have h := HB.out.2.2.2.2.2.2.2.2.2
    rw [← HX.out.1] at h
    exact (hB2.block X (by rw [HX.out.2]; have := HX.out.1; omega)).trans h
  have hU2 : U8B w2 g2 0 (encF F) ∧ N ≤ c2 := by
    obtain ⟨g', c', cs, e, ⟨_, hle, _⟩, ⟨fr, hh⟩, hbs⟩ := hbv2
    injection e with e1 e2 e3
    injection e1 with e1
    injection e1 with e1
    subst e1 e3
    exact ⟨⟨⟨cs, fr, hh⟩, hbs⟩, by have := HB.out.2.1; omega⟩
  have hun := unmarshal F HB.out.2.2.1 (by have := HB.out.2.2.2.1; omega) X g2 0 N c2 HB.out.2.1 hN0 hU2.2 (by omega) w2 hX2 hU2.1
  rw [HB.out.2.2.2.2.2.2.2.1] at hun
  have H2 := Lib.hid (And.intro hun (And.intro hB2 (HB.out.2.2.2.2.2.2.1.trans (hB2.mono HB.out.2.2.2.2.2.2.1.size))))
  clear hun hB2 hbv2 hX2 hU2
  go_wp2_with fail
  refine H2.out.1.mono ?_
  rintro e w3 ⟨rfl, ⟨vp, va, hst⟩, hB3⟩
  have hXw : w.heap.size ≤ X := by have := HX.out.1; omega
  have hw3 : Below w.heap.size w w3 := H2.out.2.2.trans (hB3.mono hXw)
  have hR3 : w3.heap[w.heap.size]? = some (.cells #[.slice none 0 0, .int .u64 0, .slice none 0 0] 70 (0, 0)) := (hB3.block _ (by have := HX.out.1; omega)).trans ((H2.out.2.1.block _ (by rw [HX.out.2]; omega)).trans HB.out.2.2.2.2.2.2.2.2.1)
  have hbvp : BV w3 0 vp id := hst.peer.elim (fun h => absurd h.1 hid0) (fun h => h)
  obtain ⟨gp, cp, e1⟩ := hbvp.slice
  subst e1
  obtain ⟨pa, ca, e2, _⟩ := RowP.slice hst.row
  subst e2
  have hst1 := hst.at_
  have hrow3 : PtrRow w3 X (.slice pa (ts.map addrB).length ca) (ts.map addrB) := hst.row
  rw [List.length_map] at hst1 hrow3
  obtain ⟨n, hn⟩ : ∃ n, n = ts.length := ⟨_, rfl⟩
  obtain ⟨⟨x0, x1, x2⟩, _⟩ := three_cells hst1
  replace x0 : w3.cell? ⟨X, 0, none⟩ = some (.slice (some ⟨gp, 0, none⟩) id.length cp) := x0
  replace x2 : w3.cell? ⟨X, 2, none⟩ = some (.slice pa ts.length ca) := by simpa using x2
  replace x1 : w3.cell? ⟨X, 1, none⟩ = some (.int .u64 S) := x1
  have hcl : ∀ wz, Below w3.heap.size w3 wz → Calls Tryz.prog 21 #[.slice (some ⟨gp, 0, none⟩) m cp] wz fun e w' => ∃ g c, e = .returned (.slice (some ⟨g, 0, none⟩) m c) ∧ BV w' 0 (.slice (some ⟨g, 0, none⟩) m c) id ∧ Below wz.heap.size wz w' := fun wz hz => by
    obtain ⟨g', c', cs, e, _, _, hbs⟩ := hbvp
    injection e with e1
    injection e1 with e1
    injection e1 with e1
    subst e1
    have h := cloneAt gp 0 cp id hid0 (by omega) wz (hbs.below hz)
    rw [← HM.out] at h
    exact h.mono fun e w' ⟨g, c, h1, h2, h3⟩ => ⟨g, c, h1, h2.mono (Nat.zero_le _), h3⟩
  rw [← HM.out] at x0
  rw [← hn] at x2 hrow3
  have H3 := Lib.hid (And.intro hcl (And.intro hw3 (And.intro hR3 (And.intro hrow3 hn))))
  clear hcl hw3 hR3 hrow3 hst hst1 hbvp hB3 hn
  go_upto_region 4 with fail
  go_cut [5] (fun t5 wx => ∃ Q, t5 = .pointer (some ⟨Q, 0, none⟩) ∧ Hid ((∃ gq cq, wx.heap[Q]? = some (.cells #[.slice (some ⟨gq, 0, none⟩) m cq, .int .u64 S, .slice none 0 0] 70 (0, 0)) ∧ BV wx 0 (.slice (some ⟨gq, 0, none⟩) m cq) id) ∧ Below w3.heap.size w3 wx ∧ w3.heap.size ≤ Q))
  case first =>
    have x0a : (w3.alloc (.cells #[.slice none 0 0, .int .u64 0, .slice none 0 0] 70)).cell? ⟨X, 0, none⟩ = some (.slice (some ⟨gp, 0, none⟩) m cp) := cB ((Below.refl _ _).alloc (Nat.le_refl _) _) x0
    have x1a : (w3.alloc (.cells #[.slice none 0 0, .int .u64 0, .slice none 0 0] 70)).cell? ⟨X, 1, none⟩ = some (.int .u64 S) := cB ((Below.refl _ _).alloc (Nat.le_refl _) _) x1
    go_region_law (go_simp; go_at_call 21; first
      | (refine (H3.out.1 w3.drew ((Below.refl _ _).drew)).mono ?_; rintro e w6 ⟨g6, c6, rfl, hbv6, hB6⟩; have hBx : Below w3.heap.size w3 w6 := ((Below.refl w3.heap.size w3).drew).trans hB6; have y1 := cB hBx x1; have y1a : (w6.alloc (.cells #[.slice none 0 0, .int .u64 0, .slice none 0 0] 70)).cell? ⟨X, 1, none⟩ = some (.int .u64 S) := cB ((Below.refl _ _).alloc (Nat.le_refl _) _) y1)
      | (refine (H3.out.1 (w3.alloc (.cells #[.slice none 0 0, .int .u64 0, .slice none 0 0] 70)).drew (((Below.refl _ _).alloc (Nat.le_refl _) _).drew)).mono ?_; rintro e w6 ⟨g6, c6, rfl, hbv6, hB6⟩; have hBx : Below w3.heap.size w3 w6 := (((Below.refl w3.heap.size w3).alloc (Nat.le_refl _) (.cells #[.slice none 0 0, .int .u64 0, .slice none 0 0] 70)).drew).trans (hB6.mono (by simp)); have y1 := cB hBx x1; have hR6 : w6.heap[w3.heap.size]? = some (.cells #[.slice none 0 0, .int .u64 0, .slice none 0 0] 70 (0, 0)) := (hB6.block _ (by simp)).trans (heap_alloc_new w3 _); obtain ⟨⟨b0, b1, b2⟩, bf0, bf1, bf2⟩ := three_cells hR6))
    all_goals
      go_wp2_with fail
      go_meet
      case rel =>
        first
          | (have hr9 := three_set012 hR6 (.slice (some ⟨g6, 0, none⟩) m c6) (.int .u64 S) (.slice none 0 0); have hb9 := (kept_set3 hR6 (.slice (some ⟨g6, 0, none⟩) m c6) (.int .u64 S) (.slice none 0 0)).bv (by decide) hbv6; have hB9 := ((hBx.setCell (p := ⟨w3.heap.size, 0, none⟩) (Nat.le_refl _) (.slice (some ⟨g6, 0, none⟩) m c6)).setCell (p := ⟨w3.heap.size, 1, none⟩) (Nat.le_refl _) (.int .u64 S)).setCell (p := ⟨w3.heap.size, 2, none⟩) (Nat.le_refl _) (.slice none 0 0); exact ⟨w3.heap.size, rfl, ⟨⟨g6, c6, hr9, hb9⟩, hB9, Nat.le_refl _⟩⟩)
          | (have hr9 := heap_alloc_new w6 (.cells #[.slice (some ⟨g6, 0, none⟩) m c6, .int .u64 S, .slice none 0 0] 70); have hb9 := hbv6.below ((Below.refl _ w6).alloc (Nat.le_refl _) (.cells #[.slice (some ⟨g6, 0, none⟩) m c6, .int .u64 S, .slice none 0 0] 70)); exact ⟨w6.heap.size, rfl, ⟨⟨g6, c6, hr9, hb9⟩, hBx.alloc hBx.size _, hBx.size⟩⟩)
  case rest =>
    obtain ⟨Q, rfl, hI⟩ := hcut
    obtain ⟨⟨gq, cq, hQ0, hbq0⟩, hBW, hWQ⟩ := hI.out
    have y2 := cB hBW x2
    have HI := Lib.hid (And.intro hQ0 (And.intro hbq0 (And.intro hBW hWQ)))
    clear hQ0 hbq0 hBW hWQ hI x0 x1 x2
    go_wp2_with fail
    go_loopg [22] n (fun gk iv wr => ∃ (ds rs : List Adr), ts = ds ++ rs ∧ gk = rs.length ∧ iv = .int .i64 (ds.length : Int) ∧ Hid ((∃ p2 c2, wr.heap[Q]? = some (.cells #[.slice (some ⟨gq, 0, none⟩) m cq, .int .u64 S, .slice p2 ds.length c2] 70 (0, 0)) ∧ BRow wr Q (.slice p2 ds.length c2) ds) ∧ BV wr 0 (.slice (some ⟨gq, 0, none⟩) m cq) id ∧ Below Q wc wr))
    case atStart => exact ⟨[], ts, rfl, H3.out.2.2.2.2, rfl, ⟨none, 0, HI.out.1, RowP.nil _ _ _ _⟩, HI.out.2.1, Below.refl _ _⟩
    case round =>
      obtain ⟨ds, rs, hds, rfl, rfl, hI⟩ := hrel
      obtain ⟨⟨p2, c2, hcP, hrow⟩, hbp, hBP⟩ := hI.out
      have hWQ := HI.out.2.2.2
      have hBw : Below w3.heap.size w3 wr := HI.out.2.2.1.trans (hBP.mono hWQ)
      have hPz : Q < wr.heap.size := (Array.getElem?_eq_some_iff.1 hcP).1
      obtain ⟨⟨d0, d1, d2⟩, _, _, z2⟩ := three_cells hcP
      cases rs with
      | cons r rs =>
        clear d0 d1
        have hn2 : n ≤ 100 := by rw [H3.out.2.2.2.2]; exact hn1
        have hlt : ds.length < n := by rw [H3.out.2.2.2.2, hds]; simp
        have hl2 : decide (ds.length < n) = true := by rw [decide_eq_true_iff]; omega
        obtain ⟨hr0, hrk, hrl⟩ := HB.out.2.2.2.2.1 r (by rw [hds]; simp)
        obtain ⟨gr, rfl⟩ : ∃ g, pa = some ⟨g, 0, none⟩ := by
          rcases RowP.form H3.out.2.2.2.1 with ⟨_, e⟩ | ⟨g, c', e, _⟩
          · rw [hds] at e; simp at e
          · injection e with e; exact ⟨g, e⟩
        obtain ⟨u, hcu, hu⟩ := RowP.at H3.out.2.2.2.1 ds.length (addrB r) (by rw [hds]; simp)
        obtain ⟨bx, vx, rfl, hbx, hbvx⟩ := hu
        obtain ⟨gx, cx, csx, rfl, _, _, hbsx⟩ := hbvx
        replace hcu := cB hBw hcu
        have hcx : wr.cell? ⟨bx, 0, none⟩ = some (.slice (some ⟨gx, 0, none⟩) (addrB r).length cx) := cB hBw (by simp [World.cell?, hbx])
        have hL0 : addrB r ≠ [] := fun e => by have := addrB_pos r hrk hr0; rw [e] at this; simp at this
        have hLN : (addrB r).length ≤ 123000 := by have := addrB_le r hrk; omega
        have hcl : ∀ wz, Below wr.heap.size wr wz → Calls Tryz.prog 21 #[.slice (some ⟨gx, 0, none⟩) (addrB r).length cx] wz fun e w' => ∃ g c, e = .returned (.slice (some ⟨g, 0, none⟩) (addrB r).length c) ∧ BV w' 0 (.slice (some ⟨g, 0, none⟩) (addrB r).length c) (addrB r) ∧ BV w' Q (.slice (some ⟨g, 0, none⟩) (addrB r).length c) (addrB r) ∧ Below wr.heap.size wr w' := fun wz hz => by
          exact (cloneAt gx 0 cx (addrB r) hL0 (by omega) wz ((hbsx.below hBw).below hz)).mono fun e w' ⟨g, c, h1, h2, h3⟩ => ⟨g, c, h1, h2.mono (Nat.zero_le _), h2.mono (by have := hz.size; omega), hz.trans (h3.mono hz.size)⟩
        obtain ⟨us, hul, huo, huP⟩ := hrow
        have HD := Lib.hid (And.intro hds (And.intro hcl (And.intro hcP (And.intro hul (And.intro huo (And.intro huP (And.intro hbp hBP)))))))
        have HZ := Lib.hid hPz
        clear hds hcl hbsx hrk hr0 hrl hcP hul huo huP hbp hBP hBw hL0 hbx hI
        obtain ⟨K, hK⟩ : ∃ K, K = (addrB r).length := ⟨_, rfl⟩
        rw [← hK] at HD hcx
        clear hK
        go_upto_region 8 with fail
        go_region_law (first
          | (go_simp; go_at_call 21; (first | refine (HD.out.2.1 wr.drew (Below.refl _ _).drew).mono ?_ | refine (HD.out.2.1 wr (Below.refl _ _)).mono ?_); rintro e w6 ⟨g6, c6, rfl, _, hbv6, hB6⟩; have d6 := cB hB6 d2; have d6a : (w6.alloc (.cells #[.slice (some ⟨g6, 0, none⟩) K c6] 23)).cell? ⟨Q, 2, none⟩ = some (.slice p2 ds.length c2) := cB ((Below.refl _ _).alloc (Nat.le_refl _) _) d6; have e6 : w6.heap.size ≠ Q := by have := hB6.size; have := HZ.out; omega)
          | (have hP6 := hB6.size
             have hpz := HZ.out
             have hown6 : (w6.alloc (.cells #[.slice (some ⟨g6, 0, none⟩) K c6] 23)).ownsRow Q 23 1 (.slice p2 ds.length c2) ds.length us := (ownsRow_below HD.out.2.2.2.2.1 hB6).alloc _
             have hbase : Q ≤ (w6.alloc (.cells #[.slice (some ⟨g6, 0, none⟩) K c6] 23)).heap.size := by rw [World.size_alloc]; omega
             refine stepAppB rfl 34 rfl _ _ rfl Q _ ds.length us rfl hown6 w6.heap.size 1 (.slice (some ⟨g6, 0, none⟩) K c6) rfl rfl (World.cell?_alloc_mark w6 _ _ _ 0) (by omega) hbase ?_
             intro v7 w7 hown7 hgrow7
             obtain ⟨p7, c7, rfl⟩ : ∃ p7 c7, v7 = .slice p7 (ds.length + 1) c7 := by
               rcases hown7.2 with ⟨_, h0⟩ | ⟨g7, c7, _, e, _⟩
               · exact absurd h0 (by omega)
               · exact ⟨_, c7, e⟩
             have hK7 : Kept 23 w6 w7 := (Kept.below ((Below.refl _ _).alloc (Nat.le_refl _) _)).trans (Kept.row hown6 hgrow7)
             have hP7 := hK7 _ _ _ _ ((hB6.block Q hpz).trans HD.out.2.2.1) (by decide)
             obtain ⟨⟨_, _, d7⟩, _, _, z7⟩ := three_cells hP7))
        all_goals
          go_wp2_with fail
          go_roundg rs.length
          case measure => simp
          case rel =>
            obtain ⟨hds, _, hcP, hul, huo, huP, hbp, hBP⟩ := HD.out
            have hpz := HZ.out
            have hK8 : Kept 70 w7 (w7.setCell ⟨Q, 2, none⟩ (.slice p7 (ds.length + 1) c7)) := Kept.setCell (p := ⟨Q, 2, none⟩) hP7 _
            have hb7 : Below Q wr w7 := grown_below ((hB6.mono (Nat.le_of_lt hpz)).alloc (by have := hB6.size; omega) _) hown6 hgrow7 hbase
            refine ⟨ds ++ [r], rs, by rw [hds, List.append_assoc]; rfl, rfl, by simp, ?_⟩
            rw [List.length_append]
            exact ⟨⟨p7, c7, three_set2 hP7 _, BRow.kept (RowP.push hul huP hown7 (fun u x h => hK7.bv (by decide) (h.below hB6)) (hK7.bv (by decide) hbv6)) hK8 (by decide) (by decide)⟩, hK8.bv (by decide) (hK7.bv (by decide) (hbp.below hB6)), (hBP.trans hb7).setCell (Nat.le_refl _) _⟩
      | nil =>
        have hlt : ds.length = n := by rw [H3.out.2.2.2.2, hds, List.append_nil]
        have hl2 : decide (ds.length < n) = false := by rw [decide_eq_false_iff_not, hlt]; omega
        have HD := Lib.hid (show ts = ds by rw [hds, List.append_nil])
        clear hds
        rw [hlt] at hcP hrow d2
        clear hlt
        have hr : wr.heap[w.heap.size]? = some (.cells #[.slice none 0 0, .int .u64 0, .slice none 0 0] 70 (0, 0)) := (hBw.block _ (Array.getElem?_eq_some_iff.1 H3.out.2.2.1).1).trans H3.out.2.2.1
        obtain ⟨⟨r0, r1, r2⟩, y0, y1, y2'⟩ := three_cells hr
        have HE := Lib.hid (And.intro hbp (And.intro hrow (And.intro hBw (And.intro hr hcP))))
        clear hbp hrow hBw hr hI hBP
        go_wp2_with fail
        obtain ⟨W9, hW9⟩ : ∃ W, W = ((wr.setCell ⟨w.heap.size, 0, none⟩ (.slice (some ⟨gq, 0, none⟩) m cq)).setCell ⟨w.heap.size, 1, none⟩ (.int .u64 S)).setCell ⟨w.heap.size, 2, none⟩ (.slice p2 n c2) := ⟨_, rfl⟩
        rw [← hW9]
        obtain ⟨hbp, hrow, hBw, hr, _⟩ := HE.out
        have hr9 : W9.heap[w.heap.size]? = some (.cells #[.slice (some ⟨gq, 0, none⟩) m cq, .int .u64 S, .slice p2 n c2] 70 (0, 0)) := by rw [hW9]; exact three_set012 hr _ _ _
        have hK9 : Kept 70 wr W9 := by rw [hW9]; exact kept_set3 hr _ _ _
        obtain ⟨⟨k0, k1, k2⟩, _⟩ := three_cells hr9
        refine bodyPost_ret (v := .tuple #[.agg #[.slice (some ⟨gq, 0, none⟩) m cq, .int .u64 S, .slice p2 n c2], .bool true]) (by simp [results, Tryz.results40, go_sem, k0, k1, k2]) rfl ⟨gq, cq, p2, n, c2, H3.out.2.2.2.2, by rw [HM.out], by rw [← HM.out]; exact hK9.bv (by decide) hbp, ?_, ?_⟩
        · show BRow W9 0 _ ts
          rw [HD.out]
          exact (hrow.mono (Nat.zero_le _)).kept hK9 (by decide) (by decide)
        · rw [hW9]
          exact (((H3.out.2.1.trans (hBw.mono H3.out.2.1.size)).setCell (Nat.le_refl _) _).setCell (Nat.le_refl _) _).setCell (Nat.le_refl _) _
end Go.Proofs.YtapkmoakbfpkeaaGreatDoor
namespace Go.Proofs.YtapkmoakbfpkeaaGreatDoor
open Go Go.RowKit Go.Proofs Go.Sort
theorem wf_u64 {n : Int} (h : (Lit.int .u64 n).wf = true) : 0 ≤ n ∧ n < 18446744073709551616 := by
  have h2 : (decide (0 ≤ n) && decide (n ≤ 18446744073709551615)) = true := h
  simp at h2
  omega
theorem back_told9 {id : List Int} {ts : List Adr} (h0 : ∀ t ∈ ts, t ≠ []) {ok : Bool} {I : List (List Int × List Adr)} (h : Told (fullOf (id, ts)) ok I) : ok = true ∧ I = [(id, ts)] := by
  have h1 : Told ([(id, ts)].flatMap fullOf) true [(id, ts)] := full_told (List.pairwise_singleton _ _) (fun x hx => by rw [List.mem_singleton] at hx; rw [hx]; exact h0)
  rw [show [(id, ts)].flatMap fullOf = fullOf (id, ts) by simp] at h1
  exact h1.one h
theorem short_len9 {f : List Int → List Int} {ls : List LEl} (h : ∀ a ∈ ls, Short a) : ∀ x ∈ adrs f ls, x.length ≤ 40 := fun x hx => by
  obtain ⟨a, ha, rfl⟩ := List.mem_map.1 hx
  have := (h a ha).2.1
  rw [List.length_map]
  omega
set_option maxHeartbeats 8000000 in
set_option maxRecDepth 100000 in
theorem lawRecorded (f : List Int → List Int) (hf : ShaIs f) (p1 : Option Addr) (m1 c1 : Nat) (xs : List Int) (hm1 : m1 ≤ 9223372036854775807) (p : Option Addr) (c k : Nat) (ls : List LEl) (hk : ls.length = k) (_hkc : k ≤ c) (hcm : c ≤ 9223372036854775807 ∧ (p = none → c = 0)) (S : Int) (hS : 0 ≤ S ∧ S < 18446744073709551616) (w : World) (hok : (Sl.mk p1 m1 c1 xs).Ok w) (hu : U8 xs) (hb : LLIn w p ls) (hT : Tab w) (hE : ErrV w) :
    Calls Tryz.prog 10 #[.slice p1 m1 c1, .slice p k c, .int .u64 S] w fun e w' => e = .returned (.bool true) ∧ Below w.heap.size w w' := by
  have HB := Lib.hid (And.intro hb (And.intro hf (And.intro hT (And.intro hk (And.intro hE (show k ≤ 9223372036854775807 by omega))))))
  have HX := Lib.hid (And.intro hok hu)
  have HS0 := Lib.hid hS
  have awake : ∀ (wx : World), Below w.heap.size w wx → Calls Tryz.prog 13 #[] wx fun e w' => e = .returned (.bool true) ∧ Below w.heap.size w w' := fun wx hx => (addrAwake f hf wx (hT.below hx)).mono fun e w' ⟨he, hB⟩ => ⟨he, hx.trans (hB.mono hx.size)⟩
  have HW := Lib.hid awake
  have HW2 := Lib.hid (fun (w0 wx : World) (h0 : Below w.heap.size w w0) (hx : Below w0.heap.size w0 wx) => (addrAwake f hf wx (hT.below (h0.trans (hx.mono h0.size)))).mono (R' := fun e w' => e = .returned (.bool true) ∧ Below w0.heap.size w0 w') fun e w' ⟨he, hB⟩ => ⟨he, hx.trans (hB.mono hx.size)⟩)
  clear hb hf hT hk hE awake hcm hok hu hS
  by_cases hz : 2147483647 < m1
  · have hz1 : decide (2147483647 < m1) = true := by rw [decide_eq_true_iff]; exact hz
    have hz2 : decide ((2147483647 : Int) < (m1 : Int)) = true := by rw [decide_eq_true_iff]; omega
    go_enter Tryz.func10, Tryz.ntmps10
    go_wp2_with fail
    go_ret
    exact ⟨rfl, Below.refl _ _⟩
  have hz1 : decide (2147483647 < m1) = false := by rw [decide_eq_false_iff_not]; exact hz
  have hz2 : decide ((2147483647 : Int) < (m1 : Int)) = false := by rw [decide_eq_false_iff_not]; omega
  go_enter Tryz.func10, Tryz.ntmps10
  go_wp2_with fail
  refine (zzFits3 p c k ls HB.out.2.2.2.1 w HB.out.1).mono ?_
  rintro e w1 ⟨r, rfl, hB1⟩
  have H1 := Lib.hid hB1
  clear hB1
  cases r with
  | false =>
    go_wp2_with fail
    go_ret
    exact ⟨rfl, H1.out⟩
  | true =>
    go_wp2_with fail
    refine (addrShortL p c k ls HB.out.2.2.2.1 HB.out.2.2.2.2.2 w1 (HB.out.1.below H1.out)).mono ?_
    rintro e w2 ⟨r, rfl, hB2, hr⟩
    have H2 := Lib.hid (And.intro (H1.out.trans (hB2.mono H1.out.size)) hr)
    clear hB2 hr hz1 hz2
    cases r with
    | false =>
      go_wp2_with fail
      refine (HW.out _ H2.out.1).mono ?_
      rintro e w3 ⟨rfl, hB3⟩
      go_wp2_with fail
      go_ret
      exact ⟨rfl, hB3⟩
    | true =>
      by_cases hs : 100 < m1
      · have hs1 : decide (100 < m1) = true := by rw [decide_eq_true_iff]; exact hs
        have hs2 : decide ((100 : Int) < (m1 : Int)) = true := by rw [decide_eq_true_iff]; omega
        go_wp2_with fail
        refine (HW.out _ H2.out.1).mono ?_
        rintro e w3 ⟨rfl, hB3⟩
        go_wp2_with fail
        go_ret
        exact ⟨rfl, hB3⟩
      have hs1 : decide (100 < m1) = false := by rw [decide_eq_false_iff_not]; exact hs
      have hs2 : decide ((100 : Int) < (m1 : Int)) = false := by rw [decide_eq_false_iff_not]; omega
      obtain ⟨hk60, hsh⟩ := H2.out.2 rfl
      have HS := Lib.hid hsh
      clear hsh
      by_cases hk0 : k = 0
      · subst hk0
        go_wp2_with fail
        refine (HW.out _ H2.out.1).mono ?_
        rintro e w3 ⟨rfl, hB3⟩
        go_wp2_with fail
        go_ret
        exact ⟨rfl, hB3⟩
      have hk1 : ((k : Int) == 0) = false := by rw [beq_eq_false_iff_ne]; omega
      go_wp2_with fail
      refine (addrID f HB.out.2.1 p1 m1 c1 xs w2 (HX.out.1.below H2.out.1) HX.out.2 (by omega)).mono ?_
      rintro e w3 ⟨v3, rfl, hown3, hB3⟩
      have hid2 := idB_len f HB.out.2.1 xs
      have hbv3 : BV w3 w2.heap.size v3 (idB f xs) := BV.own hown3 (fun e => by rw [e] at hid2; simp at hid2)
      obtain ⟨g3, c3, cs3, rfl, _, _, hbs3⟩ := hbv3
      have hw3 := H2.out.1.trans (hB3.mono H2.out.1.size)
      obtain ⟨M, hM⟩ : ∃ M, M = (idB f xs).length := ⟨_, rfl⟩
      have H3 := Lib.hid (And.intro hbs3 (And.intro hw3 hM))
      have HI2 := Lib.hid hid2
      rw [← hM]
      clear hown3 hB3 hid2 hbs3 hw3 hM
      go_wp2_with fail
      refine (addrList f HB.out.2.1 p c k ls HB.out.2.2.2.1 (by omega) HS.out w3 (HB.out.1.below H3.out.2.1)).mono ?_
      rintro e w4 ⟨v, rfl, hrow, hB4⟩
      obtain ⟨p4, c4, rfl, _⟩ := RowP.slice hrow
      have hal : (adrs f ls).length = k := by unfold adrs; rw [List.length_map]; exact HB.out.2.2.2.1
      rw [hal] at hrow ⊢
      have hw4 := H3.out.2.1.trans (hB4.mono H3.out.2.1.size)
      have hokA : ∀ x ∈ adrs f ls, AdrOk x := adrs_ok HB.out.2.1 HB.out.1 HS.out
      have hbs4 := H3.out.1.below hB4
      obtain ⟨W5, hW5⟩ : ∃ W, W = w4.alloc (.cells #[.slice (some ⟨g3, 0, none⟩) M c3, .slice p4 k c4] 32) := ⟨_, rfl⟩
      have hb5 : Below w4.heap.size w4 W5 := by rw [hW5]; exact (Below.refl _ _).alloc (Nat.le_refl _) _
      have x0 : W5.cell? ⟨w4.heap.size, 0, none⟩ = some (.slice (some ⟨g3, 0, none⟩) M c3) := by rw [hW5]; exact World.cell?_alloc_mark w4 _ _ _ 0
      have x1 : W5.cell? ⟨w4.heap.size, 1, none⟩ = some (.slice p4 k c4) := by rw [hW5]; exact World.cell?_alloc_mark w4 _ _ _ 1
      have hw5 := hw4.trans (hb5.mono hw4.size)
      have hrb := recordBytes (idB f xs) S (fun e => by have := HI2.out; rw [e] at this; simp at this) (by have := HI2.out; omega) HS0.out.1 HS0.out.2 (adrs f ls) g3 M c3 H3.out.2.2.symm p4 k c4 hal (by omega) hokA (short_len9 HS.out) W5 (hbs4.below hb5) ((BRow.list hrow).below hb5)
      have hfo := full_adr (idB f xs) (idB_ok f HB.out.2.1 xs) (idB_u8 f HB.out.2.1 HX.out.2) (adrs f ls) hokA (fun x hx => by have := short_len9 HS.out x hx; omega)
      have H5 := Lib.hid (And.intro hrb (And.intro hfo (And.intro hw5 (And.intro (hbs4.below hb5) (And.intro ((BRow.list hrow).below hb5) (And.intro hal hokA))))))
      clear hrb hfo hw5 hbs4 hrow hal hokA hw4 hb5 hB4
      go_upto_region 6 with fail
      rw [← hW5]
      obtain ⟨X, hX⟩ : ∃ X, X = w4.heap.size := ⟨_, rfl⟩
      rw [← hX] at x0 x1 ⊢
      clear hX hW5
      go_wp2_with fail
      refine H5.out.1.mono ?_
      rintro e w6 ⟨v6, rfl, hr6⟩
      have he6 : encF (recF (idB f xs) S ((adrs f ls).map addrB)) ≠ [] := by unfold recF; rw [encF_cons]; simp [Fld.enc]
      obtain ⟨g6, c6, rfl, _, _, hbs6⟩ := hr6.form he6
      have hw6 := H5.out.2.2.1.trans (hr6.bel.mono H5.out.2.2.1.size)
      obtain ⟨N, hN⟩ : ∃ N, N = (encF (recF (idB f xs) S ((adrs f ls).map addrB))).length := ⟨_, rfl⟩
      have hro := recordOf (idB f xs) S (fun e => by have := HI2.out; rw [e] at this; simp at this) (by have := HI2.out; omega) HS0.out.1 HS0.out.2 (adrs f ls) (by rw [H5.out.2.2.2.2.2.1]; omega) H5.out.2.2.2.2.2.2 (short_len9 HS.out) g6 N c6 hN.symm w6 hbs6
      have H6 := Lib.hid (And.intro hro (And.intro hr6.bel hw6))
      rw [← hN]
      clear hro hr6 hw6 hbs6 he6 hN
      go_wp2_with fail
      refine H6.out.1.mono ?_
      rintro e w7 ⟨g7, c7, p7, n7, d7, hn7, rfl, hbv7, hrow7, hB7⟩
      rw [H5.out.2.2.2.2.2.1] at hn7
      subst n7
      rw [← H3.out.2.2] at hbv7 ⊢
      obtain ⟨W8, hW8⟩ : ∃ W, W = w7.alloc (.cells #[.slice (some ⟨g7, 0, none⟩) M c7, .int .u64 S, .slice p7 k d7] 70) := ⟨_, rfl⟩
      have hb8 : Below w7.heap.size w7 W8 := by rw [hW8]; exact (Below.refl _ _).alloc (Nat.le_refl _) _
      have r0 : W8.cell? ⟨w7.heap.size, 0, none⟩ = some (.slice (some ⟨g7, 0, none⟩) M c7) := by rw [hW8]; exact World.cell?_alloc_mark w7 _ _ _ 0
      have r1 : W8.cell? ⟨w7.heap.size, 1, none⟩ = some (.int .u64 S) := by rw [hW8]; exact World.cell?_alloc_mark w7 _ _ _ 1
      have r2 : W8.cell? ⟨w7.heap.size, 2, none⟩ = some (.slice p7 k d7) := by rw [hW8]; exact World.cell?_alloc_mark w7 _ _ _ 2
      have hb58 : Below W5.heap.size W5 W8 := (H6.out.2.1.trans (hB7.mono H6.out.2.1.size)).trans (hb8.mono (H6.out.2.1.trans (hB7.mono H6.out.2.1.size)).size)
      have y0 := cB hb58 x0
      have y1 := cB hb58 x1
      obtain ⟨W9, hW9⟩ : ∃ W, W = W8.alloc (.cells #[.slice (some ⟨g7, 0, none⟩) M c7, .slice p7 k d7] 32) := ⟨_, rfl⟩
      have hb9 : Below W8.heap.size W8 W9 := by rw [hW9]; exact (Below.refl _ _).alloc (Nat.le_refl _) _
      have s0 : W9.cell? ⟨W8.heap.size, 0, none⟩ = some (.slice (some ⟨g7, 0, none⟩) M c7) := by rw [hW9]; exact World.cell?_alloc_mark W8 _ _ _ 0
      have s1 : W9.cell? ⟨W8.heap.size, 1, none⟩ = some (.slice p7 k d7) := by rw [hW9]; exact World.cell?_alloc_mark W8 _ _ _ 1
      have hb59 := hb58.trans (hb9.mono hb58.size)
      have y0' := cB hb9 y0
      have y1' := cB hb9 y1
      have hbs7 : Bs w7 g7 0 (idB f xs) := by
        obtain ⟨g', c', cs, e, _, _, hbs⟩ := hbv7
        injection e with e1
        injection e1 with e1
        injection e1 with e1
        subst e1
        exact hbs
      have hw9 := H5.out.2.2.1.trans (hb59.mono H5.out.2.2.1.size)
      have hb79 := hb8.trans (hb9.mono hb8.size)
      have hab := addrBytes (idB f xs) (idB_ok f HB.out.2.1 xs) (idB_u8 f HB.out.2.1 HX.out.2) (adrs f ls) g7 0 M c7 H3.out.2.2.symm p7 k d7 H5.out.2.2.2.2.2.1 (by omega) H5.out.2.2.2.2.2.2 (fun x hx => by have := short_len9 HS.out x hx; omega) W9 (hbs7.below hb79) ((BRow.list hrow7).below hb79) (HB.out.2.2.1.below hw9)
      have H8 := Lib.hid (And.intro hab (And.intro hb59 hw9))
      go_upto_region 8 with fail
      rw [← hW8]
      obtain ⟨R, hR⟩ : ∃ R, R = w7.heap.size := ⟨_, rfl⟩
      rw [← hR] at r0 r1 r2 ⊢
      have hSS : (S != S) = false := by simp
      clear hab hbs7 hb58 hb59 hw9 hb79 hrow7 hB7 hbv7 hb8 hb9 hR hW8 x0 x1
      go_upto_region 11 with fail
      rw [← hW9]
      obtain ⟨Y, hY⟩ : ∃ Y, Y = W8.heap.size := ⟨_, rfl⟩
      rw [← hY] at s0 s1 ⊢
      clear hY hW9 y0 y1
      go_wp2_with fail
      refine H8.out.1.mono ?_
      rintro e wa ⟨va, rfl, hrowa, hBa⟩
      obtain ⟨pb, cb, rfl, _⟩ := RowP.slice hrowa
      have hwa := H8.out.2.2.trans (hBa.mono H8.out.2.2.size)
      have hin := implTold (fullOf (idB f xs, adrs f ls)) H5.out.2.1 pb (fullOf (idB f xs, adrs f ls)).length cb wa rfl (by rw [full_len, H5.out.2.2.2.2.2.1]; omega) (BRow.list hrowa) (HB.out.2.2.1.below hwa) (HB.out.2.2.2.2.1.below hwa)
      have HA := Lib.hid (And.intro hin (And.intro (H8.out.2.1.trans (hBa.mono H8.out.2.1.size)) hBa))
      obtain ⟨N2, hN2⟩ : ∃ N, N = (fullOf (idB f xs, adrs f ls)).length := ⟨_, rfl⟩
      rw [← hN2] at HA ⊢
      clear hin hBa hwa hrowa hN2
      go_wp2_with fail
      refine HA.out.1.mono ?_
      rintro e wb ⟨vc, ok, I, rfl, hrI, htI, hBb⟩
      obtain ⟨rfl, rfl⟩ := back_told9 (fun t ht => (H5.out.2.2.2.2.2.2 t ht).1) htI
      obtain ⟨pa, ca, rfl, _⟩ := RowQ.slice hrI
      obtain ⟨ga, rfl⟩ : ∃ g, pa = some ⟨g, 0, none⟩ := by
        rcases RowQ.form hrI with ⟨_, e⟩ | ⟨g, c', e, _⟩
        · simp at e
        · injection e with e; exact ⟨g, e⟩
      obtain ⟨⟨a1, a2⟩, ⟨ha0, ha1⟩, hpa⟩ := RowQ.at hrI 0 (idB f xs, adrs f ls) rfl
      have hb5b := HA.out.2.1.trans (hBb.mono HA.out.2.1.size)
      have hb9b := HA.out.2.2.trans (hBb.mono HA.out.2.2.size)
      have t0 := cB hb9b y0'
      have t1 := cB hb9b y1'
      obtain ⟨q1, q2, q3, q4, q5, hqa, hqb⟩ := id hpa.same
      injection hqa with hq1 hq2
      subst hq1 hq2
      have hsame : ∀ wx, Below wb.heap.size wb wx → Calls Tryz.prog 29 #[.agg #[.slice (some ⟨q1, q2, none⟩) (idB f xs).length q3, .slice q4 (adrs f ls).length q5], .agg #[.slice (some ⟨g3, 0, none⟩) (idB f xs).length c3, .slice p4 (adrs f ls).length c4]] wx fun e w' => e = .returned (.bool true) ∧ Below wb.heap.size wb w' := fun wx hx =>
        (addrSame wx (.slice (some ⟨q1, q2, none⟩) (idB f xs).length q3, .slice q4 (adrs f ls).length q5) (.slice (some ⟨g3, 0, none⟩) (idB f xs).length c3, .slice p4 (adrs f ls).length c4) (idB f xs, adrs f ls) (hpa.same.below hx) ⟨g3, 0, c3, p4, c4, rfl, (H5.out.2.2.2.1.below hb5b).below hx, (H5.out.2.2.2.2.1.below hb5b).below hx⟩ (by show (adrs f ls).length ≤ _; rw [H5.out.2.2.2.2.2.1]; omega)).mono fun e w' ⟨h1, h2⟩ => ⟨h1, hx.trans (h2.mono hx.size)⟩
      replace ha0 : wb.cell? ⟨ga, 0, none⟩ = some (.slice (some ⟨q1, q2, none⟩) (idB f xs).length q3) := ha0
      replace ha1 : wb.cell? ⟨ga, 1, none⟩ = some (.slice q4 (adrs f ls).length q5) := ha1
      rw [H5.out.2.2.2.2.2.1] at ha1 hsame
      rw [← H3.out.2.2] at ha0 hsame
      have H7 := Lib.hid (And.intro hsame (H5.out.2.2.1.trans (hb5b.mono H5.out.2.2.1.size)))
      rw [show [(idB f xs, adrs f ls)].length = 1 from rfl]
      clear hsame hb5b hb9b hrI htI hBb hpa hqb s0 s1 y0' y1' r0 r1 r2
      go_wp2_with fail
      go_region_held_law (fun w' => w'.cell? ⟨X, 0, none⟩ = some (.slice (some ⟨g3, 0, none⟩) M c3) ∧ w'.cell? ⟨X, 1, none⟩ = some (.slice p4 k c4) ∧ w'.cell? ⟨ga, 0, none⟩ = some (.slice (some ⟨q1, q2, none⟩) M q3) ∧ w'.cell? ⟨ga, 1, none⟩ = some (.slice q4 k q5))
        (first | exact ⟨t0, t1, ha0, ha1⟩ | exact ⟨cB hbX t0, cB hbX t1, cB hbX ha0, cB hbX ha1⟩ | exact ⟨cB hbD t0, cB hbD t1, cB hbD ha0, cB hbD ha1⟩)
        (first
          | (go_at_call 29; refine (H7.out.1 _ (by first | exact Below.refl _ _ | exact (Below.refl _ _).drew | exact below_drewN (Below.refl _ _) _)).mono ?_; rintro e wx ⟨rfl, hbX⟩)
          | (go_at_call 13; refine (HW2.out wb _ H7.out.2 hbX).mono ?_; rintro e wd ⟨rfl, hbD⟩))
      all_goals
        go_wp2_with fail
        go_ret
        exact ⟨rfl, H7.out.2.trans (hbD.mono H7.out.2.size)⟩
end Go.Proofs.YtapkmoakbfpkeaaGreatDoor
