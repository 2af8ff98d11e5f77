/- The law FnAddrInfos. Plain laws: how an ID's text begins; what a peer's addresses, each with its ID behind it, tell. newComponent at an ID's bytes. NewComponent at "p2p" and an ID's text. Join at an address and a part; Encapsulate. impl.infoOf: a peer as the package has it. AddrInfoToP2pAddrs. impl.AddrBytes: the addresses of a peer, as bytes. -/
import Derived.Test.YtapkmoakbfpkeaaGreatDoorZD
import Derived.Test.YtapkmoakbfpkeaaGreatDoorZF
import Derived.Test.YtapkmoakbfpkeaaGreatDoorE2
import Derived.Test.YtapkmoakbfpkeaaGreatDoorZC
namespace Go.Proofs.YtapkmoakbfpkeaaGreatDoor
open Go Go.RowKit Go.Proofs Go.Sort
set_option maxHeartbeats 1600000 in
set_option maxRecDepth 100000 in
theorem equalInfos (B1 B2 : Nat) (p1 p2 : Option Addr) (n c1 c2 : Nat) (I : List (List Int × List Adr)) (w : World) (hn : I.length = n) (hn1 : n ≤ 1000) (hts : ∀ x ∈ I, x.2.length ≤ 1000)
    (h1 : RowQ 32 (PlainI B1) w B1 (.slice p1 n c1) I) (h2 : RowQ 32 (PlainI B2) w B2 (.slice p2 n c2) I) :
    Calls Tryz.prog 31 #[.slice p1 n c1, .slice p2 n c2, .func (.func 29) #[] #[]] w fun e w' => e = .returned (.bool true) ∧ Below w.heap.size w w' := by
  have HB := Lib.hid (And.intro hn (And.intro h1 (And.intro h2 hts)))
  clear hn h1 h2 hts
  go_enter Tryz.func31, Tryz.ntmps31
  go_wp2_with fail
  go_loopg [17] n (fun gk iv wr => ∃ (ds rs : List (List Int × List Adr)), I = ds ++ rs ∧ gk = rs.length ∧ iv = .int .i64 (ds.length : Int) ∧ Hid (Below w.heap.size w wr))
  case atStart => exact ⟨[], I, rfl, HB.out.1.symm, rfl, Below.refl _ _⟩
  case round =>
    obtain ⟨ds, rs, hds, rfl, rfl, hJ⟩ := hrel
    cases rs with
    | nil =>
      have hlt : ds.length = n := by rw [← HB.out.1, hds, List.append_nil]
      have hl2 : decide (ds.length < n) = false := by rw [decide_eq_false_iff_not, hlt]; omega
      clear hds hlt
      go_wp2_with fail
      go_ret
      exact ⟨rfl, hJ.out⟩
    | cons r rs =>
      have hlt : ds.length < n := by rw [← HB.out.1, hds]; simp
      have hl2 : decide (ds.length < n) = true := by rw [decide_eq_true_iff]; omega
      obtain ⟨ga, rfl⟩ : ∃ g, p1 = some ⟨g, 0, none⟩ := by
        rcases RowQ.form HB.out.2.1 with ⟨_, e⟩ | ⟨g, c', e, _⟩
        · rw [hds] at e; simp at e
        · injection e with e; exact ⟨g, e⟩
      obtain ⟨gb, rfl⟩ : ∃ g, p2 = some ⟨g, 0, none⟩ := by
        rcases RowQ.form HB.out.2.2.1 with ⟨_, e⟩ | ⟨g, c', e, _⟩
        · rw [hds] at e; simp at e
        · injection e with e; exact ⟨g, e⟩
      obtain ⟨⟨a1, a2⟩, ⟨ha0, ha1⟩, hpa⟩ := RowQ.at HB.out.2.1 ds.length r (by rw [hds]; simp)
      obtain ⟨⟨b1, b2⟩, ⟨hb0, hb1⟩, hpb⟩ := RowQ.at HB.out.2.2.1 ds.length r (by rw [hds]; simp)
      obtain ⟨g1, o1, e1, q1, f1, hqa, _⟩ := id hpa.same
      obtain ⟨g2, o2, e2, q2, f2, hqb, _⟩ := id hpb.same
      injection hqa with hq1 hq2
      injection hqb with hq3 hq4
      subst hq1 hq2 hq3 hq4
      replace ha0 := cB hJ.out ha0
      replace ha1 := cB hJ.out ha1
      replace hb0 := cB hJ.out hb0
      replace hb1 := cB hJ.out hb1
      obtain ⟨K, hK⟩ : ∃ K, K = r.1.length := ⟨_, rfl⟩
      obtain ⟨N, hN⟩ : ∃ N, N = r.2.length := ⟨_, rfl⟩
      obtain ⟨W1, hW1⟩ : ∃ W, W = wr.alloc (.cells #[.slice (some ⟨g1, o1, none⟩) r.1.length e1, .slice q1 r.2.length f1] 32) := ⟨_, rfl⟩
      have hbr : Below wr.heap.size wr W1 := by rw [hW1]; exact (Below.refl _ _).alloc (Nat.le_refl _) _
      obtain ⟨W2, hW2⟩ : ∃ W, W = W1.alloc (.cells #[.slice (some ⟨g2, o2, none⟩) r.1.length e2, .slice q2 r.2.length f2] 32) := ⟨_, rfl⟩
      have hbs : Below W1.heap.size W1 W2 := by rw [hW2]; exact (Below.refl _ _).alloc (Nat.le_refl _) _
      have y0 := cB hbr hb0
      have y1 := cB hbr hb1
      have hwr2 : Below wr.heap.size wr W2 := hbr.trans (hbs.mono hbr.size)
      have hw2 : Below w.heap.size w W2 := hJ.out.trans (hwr2.mono hJ.out.size)
      have x0 : W2.cell? ⟨wr.heap.size, 0, none⟩ = some (.slice (some ⟨g1, o1, none⟩) r.1.length e1) := cB hbs (by rw [hW1]; exact World.cell?_alloc_mark wr _ _ _ 0)
      have x1 : W2.cell? ⟨wr.heap.size, 1, none⟩ = some (.slice q1 r.2.length f1) := cB hbs (by rw [hW1]; exact World.cell?_alloc_mark wr _ _ _ 1)
      have hsame := addrSame W2 _ _ r (hpa.same.below hw2) (hpb.same.below hw2) (by have := HB.out.2.2.2 r (by rw [hds]; simp); omega)
      have HE := Lib.hid (And.intro hsame (And.intro hw2 hds))
      rw [← hK] at ha0 hb0 x0 y0 hW1 hW2 HE
      rw [← hN] at ha1 hb1 x1 y1 hW1 hW2 HE
      clear hsame hds hwr2 hbs hbr hpa hpb hK hN hw2
      go_upto_region 6 with fail
      rw [← hW1]
      obtain ⟨X, hX⟩ : ∃ X, X = wr.heap.size := ⟨_, rfl⟩
      rw [← hX] at x0 x1 ⊢
      clear hX hW1
      go_upto_region 7 with fail
      rw [← hW2]
      obtain ⟨Y, hY⟩ : ∃ Y, Y = W1.heap.size := ⟨_, rfl⟩
      have z0 : W2.cell? ⟨Y, 0, none⟩ = some (.slice (some ⟨g2, o2, none⟩) K e2) := by rw [hW2, hY]; exact World.cell?_alloc_mark W1 _ _ _ 0
      have z1 : W2.cell? ⟨Y, 1, none⟩ = some (.slice q2 N f2) := by rw [hW2, hY]; exact World.cell?_alloc_mark W1 _ _ _ 1
      rw [← hY]
      clear hY hW2
      go_wp2_with (go_at_call 29; refine HE.out.1.mono ?_; rintro e w' ⟨rfl, hBy⟩)
      go_roundg rs.length
      case measure => simp
      case rel => exact ⟨ds ++ [r], rs, by rw [HE.out.2.2, List.append_assoc]; rfl, rfl, by simp, HE.out.2.1.trans (hBy.mono HE.out.2.1.size)⟩
set_option maxHeartbeats 4000000 in
set_option maxRecDepth 100000 in
theorem lawInfos (f : List Int → List Int) (hf : ShaIs f) (p : Option Addr) (c k : Nat) (ls : List LEl) (hk : ls.length = k) (_hkc : k ≤ c) (hcm : c ≤ 9223372036854775807 ∧ (p = none → c = 0)) (w : World) (hb : LLIn w p ls) (hT : Tab w) (hE : ErrV w) :
    Calls Tryz.prog 6 #[.slice p k c] w fun e w' => e = .returned (.bool true) ∧ Below w.heap.size w w' := by
  have HB := Lib.hid (And.intro hb (And.intro hf (And.intro hT (And.intro hk (And.intro hE (show k ≤ 9223372036854775807 by omega))))))
  have awake : ∀ (wx : World), Below w.heap.size w wx → Calls Tryz.prog 13 #[] wx fun e w' => e = .returned (.bool true) ∧ Below w.heap.size w w' := fun wx hx => (addrAwake f hf wx (hT.below hx)).mono fun e w' ⟨he, hB⟩ => ⟨he, hx.trans (hB.mono hx.size)⟩
  have HW := Lib.hid awake
  clear hb hf hT hk hE awake hcm
  go_enter Tryz.func6, Tryz.ntmps6
  go_wp2_with fail
  refine (zzFits3 p c k ls HB.out.2.2.2.1 w HB.out.1).mono ?_
  rintro e w1 ⟨r, rfl, hB1⟩
  have H1 := Lib.hid hB1
  clear hB1
  cases r with
  | false =>
    go_wp2_with fail
    go_ret
    exact ⟨rfl, H1.out⟩
  | true =>
    go_wp2_with fail
    refine (addrShortL p c k ls HB.out.2.2.2.1 HB.out.2.2.2.2.2 w1 (HB.out.1.below H1.out)).mono ?_
    rintro e w2 ⟨r, rfl, hB2, hr⟩
    have H2 := Lib.hid (And.intro (H1.out.trans (hB2.mono H1.out.size)) hr)
    clear hB2 hr
    cases r with
    | false =>
      go_wp2_with fail
      refine (HW.out _ H2.out.1).mono ?_
      rintro e w3 ⟨rfl, hB3⟩
      go_wp2_with fail
      go_ret
      exact ⟨rfl, hB3⟩
    | true =>
      obtain ⟨hk60, hsh⟩ := H2.out.2 rfl
      have HS := Lib.hid hsh
      clear hsh
      go_wp2_with fail
      refine (addrList f HB.out.2.1 p c k ls HB.out.2.2.2.1 (by omega) HS.out w2 (HB.out.1.below H2.out.1)).mono ?_
      rintro e w3 ⟨v, rfl, hrow, hB3⟩
      obtain ⟨p3, c3, rfl, _⟩ := RowP.slice hrow
      have hal : (adrs f ls).length = k := by unfold adrs; rw [List.length_map]; exact HB.out.2.2.2.1
      rw [hal] at hrow ⊢
      have hw3 := H2.out.1.trans (hB3.mono H2.out.1.size)
      have hok : ∀ x ∈ adrs f ls, AdrOk x := adrs_ok HB.out.2.1 HB.out.1 HS.out
      have hin := implTold (adrs f ls) hok p3 k c3 w3 hal (by omega) (BRow.list hrow) (HB.out.2.2.1.below hw3) (HB.out.2.2.2.2.1.below hw3)
      have H3 := Lib.hid (And.intro hin (And.intro hw3 hal))
      clear hin hw3 hok hal hrow hB3
      go_wp2_with fail
      refine H3.out.1.mono ?_
      rintro e w4 ⟨va, ok, I, rfl, hrI, htI, hB4⟩
      have hw4 := H3.out.2.1.trans (hB4.mono H3.out.2.1.size)
      obtain ⟨pa, ca, rfl, _⟩ := RowQ.slice hrI
      have H4 := Lib.hid (And.intro hrI (And.intro htI hw4))
      clear hrI htI hw4 hB4
      go_wp2_with fail
      refine (specInfos f HB.out.2.1 p c k ls HB.out.2.2.2.1 (by omega) HS.out w4 (HB.out.1.below H4.out.2.2)).mono ?_
      rintro e w5 ⟨pb, nb, cb, ok', J, hJn, rfl, hrJ, htJ, hB5⟩
      obtain ⟨rfl, rfl⟩ := H4.out.2.1.one htJ
      have hw5 := H4.out.2.2.trans (hB5.mono H4.out.2.2.size)
      have hrI := RowQ.below H4.out.1 hB5 (fun _ _ h => h.below hB5)
      obtain ⟨hIl, hIt⟩ := H4.out.2.1.len
      rw [H3.out.2.2] at hIl hIt
      rw [hJn] at hrI ⊢
      have heq := equalInfos w3.heap.size w4.heap.size pa pb nb ca cb J w5 hJn (by omega) (fun x hx => by have := hIt x hx; omega) hrI hrJ
      have H5 := Lib.hid (And.intro heq hw5)
      clear heq hw5 hrI hrJ htJ hB5 hIl hIt
      cases ok' <;> go_wp2_with (first
        | (go_at_call 31; refine H5.out.1.mono ?_; rintro e w6 ⟨rfl, hb6⟩)
        | (go_at_call 13; refine (HW.out _ (H5.out.2.trans (hb6.mono H5.out.2.size))).mono ?_; rintro e wd ⟨rfl, hbD⟩)
        | (go_at_call 13; refine (HW.out _ H5.out.2).mono ?_; rintro e wd ⟨rfl, hbD⟩))
      all_goals
        go_ret
        exact ⟨rfl, hbD⟩
end Go.Proofs.YtapkmoakbfpkeaaGreatDoor
namespace Go.Proofs.YtapkmoakbfpkeaaGreatDoor
open Go Go.RowKit Go.Proofs Go.Sort
theorem idText (id : List Int) (hv : ValOk 6 id) (hu : U8 id) (z : Nat) (D : List Nat) (hd : Digs id z D) :
    ∃ bq, Lib.hasPrefix (strOfNums (text58 z D)).data.toList [81, 109] = bq ∧ (bq = false → Lib.hasPrefix (strOfNums (text58 z D)).data.toList [49] = true) := by
  refine ⟨_, rfl, fun h => ?_⟩
  obtain ⟨h0, h1, h2, h3⟩ := hv
  rcases h0 with h0 | ⟨h0, h0'⟩
  · have hz : 1 ≤ z := by
      rcases Nat.eq_zero_or_pos z with e | e
      · subst e
        exact absurd h0 (hd.2.2.2.2.2.1 (by omega))
      · exact e
    obtain ⟨k, rfl⟩ : ∃ k, z = k + 1 := ⟨z - 1, by omega⟩
    rw [strOfNums_data]
    unfold text58
    rw [List.replicate_succ]
    rfl
  · obtain ⟨t, rfl⟩ : ∃ t, id = 18 :: 32 :: t := by
      cases id with
      | nil => simp at h3; try omega
      | cons a l =>
        cases l with
        | nil => simp at h3; try omega
        | cons b t =>
          refine ⟨t, ?_⟩
          simp [List.getD] at h0 h0'
          rw [h0, h0']
    have hlt : t.length = 32 := by
      simp [List.getD] at h3
      omega
    obtain ⟨rfl, T, rfl⟩ := Digs.qm hd hlt (fun x hx => hu x (by simp [hx]))
    exfalso
    revert h
    rw [strOfNums_data]
    unfold text58
    simp only [List.replicate_zero, List.nil_append, List.map_cons, Lib.hasPrefix, List.isPrefixOf]
    decide
theorem idText_len (id : List Int) (hv : ValOk 6 id) (hu : U8 id) (_hl : id.length ≤ 130) (z : Nat) (D : List Nat) (hd : Digs id z D) : 0 < (allD z D).length ∧ (allD z D).length ≤ 400 := by
  have h := Digs.len hd hu
  obtain ⟨h0, h1, h2, h3⟩ := hv
  have hz := hd.2.2.2.1
  have hD := hd.2.2.2.2.2.2
  unfold allD
  rw [List.length_append, List.length_replicate]
  omega
/-- The addresses of a peer, each with its ID behind it; the ID alone, if there are none. -/
def fullOf (x : List Int × List Adr) : List Adr := if x.2 = [] then [[(6, x.1)]] else x.2.map (· ++ [(6, x.1)])
theorem fullOf_ways (x : List Int × List Adr) (h0 : ∀ t ∈ x.2, t ≠ []) : (fullOf x).flatMap wayOf = x.2 := by
  unfold fullOf
  by_cases h : x.2 = []
  · rw [if_pos h, h]
    have := wayOf_snoc [] (6, x.1)
    simp at this
    simp [this]
  · rw [if_neg h]
    generalize x.2 = l at h0
    clear h
    induction l with
    | nil => rfl
    | cons t l ih =>
      rw [List.map_cons, List.flatMap_cons, ih (fun u hu => h0 u (by simp [hu])), wayOf_snoc, if_neg (h0 t (by simp))]
      rfl
theorem fullOf_last (x : List Int × List Adr) : ∀ hs ∈ fullOf x, lastId hs = x.1 := fun hs hh => by
  unfold fullOf at hh
  split at hh
  · rw [List.mem_singleton] at hh; rw [hh]; exact lastId_snoc [] (6, x.1)
  · obtain ⟨t, _, rfl⟩ := List.mem_map.1 hh
    exact lastId_snoc t (6, x.1)
theorem fullOf_six (x : List Int × List Adr) : ∀ hs ∈ fullOf x, ends6 hs := fun hs hh => by
  unfold fullOf at hh
  split at hh
  · rw [List.mem_singleton] at hh; rw [hh]; exact (ends6_snoc [] (6, x.1)).2 rfl
  · obtain ⟨t, _, rfl⟩ := List.mem_map.1 hh
    exact (ends6_snoc t (6, x.1)).2 rfl
theorem fullOf_ne (x : List Int × List Adr) : fullOf x ≠ [] := by
  unfold fullOf
  split
  · simp
  · rename_i h; simpa using h
theorem fullOf_of (x : List Int × List Adr) (h0 : ∀ t ∈ x.2, t ≠ []) (id : List Int) : Fof (fullOf x) id = if x.1 = id then some x.2 else none := by
  have hl := fullOf_last x
  have hw := fullOf_ways x h0
  have hn := fullOf_ne x
  unfold Fof
  by_cases h : x.1 = id
  · have h1 : (fullOf x).any (fun hs => lastId hs == id) = true := by
      obtain ⟨a, ha⟩ := List.exists_mem_of_ne_nil _ hn
      exact List.any_eq_true.2 ⟨a, ha, by rw [hl a ha, h]; simp⟩
    have h2 : (fullOf x).filter (fun hs => lastId hs == id) = fullOf x := List.filter_eq_self.2 fun a ha => by rw [hl a ha, h]; simp
    rw [if_pos h1, h2, hw, if_pos h]
  · have h1 : ¬ (fullOf x).any (fun hs => lastId hs == id) = true := fun hh => by
      obtain ⟨a, ha, hb⟩ := List.any_eq_true.1 hh
      rw [hl a ha] at hb
      exact h (by simpa using hb)
    rw [if_neg h1, if_neg h]
theorem full_of : ∀ (I : List (List Int × List Adr)), (I.map (·.1)).Nodup → (∀ x ∈ I, ∀ t ∈ x.2, t ≠ []) → ∀ id ts, (id, ts) ∈ I ↔ Fof (I.flatMap fullOf) id = some ts
  | [], _, _, id, ts => by simp [Fof_nil]
  | x :: I, hnd, h0, id, ts => by
    have ih := full_of I (List.nodup_cons.1 (by simpa using hnd)).2 (fun y hy => h0 y (by simp [hy])) id
    have hx := fullOf_of x (h0 x (by simp)) id
    rw [List.flatMap_cons, Fof_append, hx]
    have hnx : x.1 ∉ I.map (·.1) := (List.nodup_cons.1 (by simpa using hnd)).1
    by_cases h : x.1 = id
    · rw [if_pos h]
      have hno : Fof (I.flatMap fullOf) id = none := by
        cases hf : Fof (I.flatMap fullOf) id with
        | none => rfl
        | some us => exact absurd (List.mem_map.2 ⟨(id, us), (ih us).2 hf, h.symm⟩) hnx
      rw [hno]
      simp only [Option.getD_some, Option.getD_none, List.append_nil, Option.some.injEq, List.mem_cons]
      constructor
      · rintro (e | e)
        · rw [← e]
        · exact absurd (List.mem_map.2 ⟨(id, ts), e, h.symm⟩) hnx
      · intro e
        left
        rw [← h, ← e]
    · rw [if_neg h]
      have h2 : (id, ts) ∈ x :: I ↔ (id, ts) ∈ I := by
        rw [List.mem_cons]
        exact ⟨fun e => e.elim (fun e => absurd (by rw [← e]) h) (fun e => e), Or.inr⟩
      rw [h2, ih ts]
      cases Fof (I.flatMap fullOf) id <;> simp
theorem infos_nodup {I : List (List Int × List Adr)} (h : I.Pairwise infoLt) : (I.map (·.1)).Nodup :=
  List.pairwise_map.2 (h.imp fun {a b} hab e => by
    unfold infoLt at hab
    rw [e, cmpL_self] at hab
    omega)
/-- Peers that are sorted are what their addresses tell. -/
theorem full_infos {I : List (List Int × List Adr)} (hs : I.Pairwise infoLt) (h0 : ∀ x ∈ I, ∀ t ∈ x.2, t ≠ []) : IsInfos (I.flatMap fullOf) I :=
  ⟨hs, full_of I (infos_nodup hs) h0⟩
theorem full_told {I : List (List Int × List Adr)} (hs : I.Pairwise infoLt) (h0 : ∀ x ∈ I, ∀ t ∈ x.2, t ≠ []) : Told (I.flatMap fullOf) true I :=
  .inl ⟨rfl, fun a ha => by
    obtain ⟨x, _, hx⟩ := List.mem_flatMap.1 ha
    exact fullOf_six x a hx, full_infos hs h0⟩
end Go.Proofs.YtapkmoakbfpkeaaGreatDoor
namespace Go.Proofs.YtapkmoakbfpkeaaGreatDoor
open Go Go.RowKit Go.Proofs Go.Sort
theorem putOne (b o n c x : Nat) (hx : x < 128) (h1 : 1 ≤ n) (w : World) (hc : (w.cell? ⟨b, o, none⟩).isSome = true) (hf : w.frozen? ⟨b, o, none⟩ = false) :
    Calls Tryz.prog 145 #[.slice (some ⟨b, o, none⟩) n c, .int .u64 x] w fun e w' => e = .returned (.int .i64 1) ∧ w' = w.setCell ⟨b, o, none⟩ (.int .u8 x) := by
  have hL : (Lib.uvarint x).length = 1 := by rw [Lib.uvarint_small hx]; rfl
  refine (Tryz.binary_PutUvarint b o n c x (by omega) w (by rw [hL]; exact h1) fun j hj => ?_).mono ?_
  · rw [hL] at hj
    obtain rfl : j = 0 := by omega
    exact ⟨hc, hf⟩
  · rintro e w' ⟨rfl, rfl⟩
    rw [hL, Lib.uvarint_small hx, byteCells_1 _ (by omega)]
    exact ⟨rfl, by simp [World.setCells]⟩
theorem srcAt {w : World} {a : Nat} {xs : List Int} (h : Bs w a 0 xs) (j : Nat) (v : Value) (hj : (xs.map (Value.int .u8))[j]? = some v) : w.cell? ⟨a, 0 + j, none⟩ = some v := by
  obtain ⟨hj1, hj2⟩ := List.getElem?_eq_some_iff.1 hj
  rw [h j (by simpa using hj1), ← hj2]
  have : j < xs.length := by simpa using hj1
  simp [List.getD, this]
theorem srcAtO {w : World} {a o : Nat} {xs : List Int} (h : Bs w a o xs) (j : Nat) (v : Value) (hj : (xs.map (Value.int .u8))[j]? = some v) : w.cell? ⟨a, o + j, none⟩ = some v := by
  obtain ⟨hj1, hj2⟩ := List.getElem?_eq_some_iff.1 hj
  rw [h j (by simpa using hj1), ← hj2]
  have : j < xs.length := by simpa using hj1
  simp [List.getD, this]
/-- A component comes back: an ID's part. -/
def NC (id : List Int) (w : World) (e : Ending) (w' : World) : Prop :=
  ∃ r q a, e = .returned (.tuple #[.pointer (some ⟨r, 0, none⟩), .nilIface]) ∧ CompAt w' r q a p2pP (hopB 6 id) (hopS 6) ∧ (w.heap.size ≤ r ∧ w.heap.size ≤ q ∧ w.heap.size ≤ a) ∧ Below w.heap.size w w'
theorem splice_head (N : Nat) : splice (List.replicate (2 + N + 1) (Value.int .u8 0)) 0 ([165, 3].map (Value.int .u8)) = (([165, 3, 0] ++ List.replicate N 0 : List Int).map (Value.int .u8)) := by
  unfold splice
  rw [show 2 + N + 1 = 2 + (N + 1) by omega]
  simp [List.replicate_succ]
theorem splice_tail (id : List Int) (N x : Nat) (hN : id.length = N) : splice (Value.int .u8 165 :: Value.int .u8 3 :: Value.int .u8 (x : Int) :: List.replicate N (Value.int .u8 0)) 3 (id.map (Value.int .u8)) = ([165, 3, (x : Int)] ++ id : List Int).map (Value.int .u8) := by
  subst hN
  simp [splice]
  omega
set_option maxHeartbeats 4000000 in
set_option maxRecDepth 100000 in
theorem newComp (id : List Int) (hv : ValOk 6 id) (hu : U8 id) (a g o N c : Nat) (hN : id.length = N) (w : World) (hr : VRow w a [165, 3]) (hb : Bs w g o id) (hT : Tab w) :
    Calls Tryz.prog 130 #[.agg (p2pP.cells a), .slice (some ⟨g, o, none⟩) N c] w (NC id w) := by
  have hN1 : 2 ≤ N ∧ N < 102 := by obtain ⟨_, h1, h2, h3⟩ := hv; omega
  have hmk : ∀ w, (Instr.makeSlice 23 (.int .i64 ((N : Int) + 2 + 1)) (.int .i64 ((N : Int) + 2 + 1))).run Tryz.prog w = .ok (.slice (some ⟨w.heap.size, 0, none⟩) (2 + N + 1) (2 + N + 1)) (w.alloc (.cells (madeCells #[.int .u8 0] (2 + N + 1)) 5)) := fun w => by
    rw [show (N : Int) + 2 + 1 = ((2 + N + 1 : Nat) : Int) by omega]
    exact run_make_row' 23 5 (.int .u8 0) 1 Tryz.underlying23 (by kernel_rfl) rfl .i64 .i64 _ (by omega) (by omega) w
  obtain ⟨Z, hZ⟩ : ∃ Z, Z = 2 + N + 1 := ⟨_, rfl⟩
  rw [← hZ] at hmk
  have HZ := Lib.hid hZ
  clear hZ
  have HB := Lib.hid (And.intro hr (And.intro hb (And.intro hT (And.intro hN (And.intro hv hu)))))
  have hN2 : (N : Int) < 102 := by omega
  have hw2 : wrap64 ((N : Int) + 2) = (N : Int) + 2 := by unfold wrap64; omega
  have hw3 : wrap64 ((N : Int) + 2 + 1) = (N : Int) + 2 + 1 := by unfold wrap64; omega
  have hm64 : (N : Int) % 18446744073709551616 = N := by omega
  obtain ⟨TR, hTR⟩ : ∃ v, v = p2pP.tr := ⟨_, rfl⟩
  obtain ⟨NM, hNM⟩ : ∃ v, v = p2pP.name := ⟨_, rfl⟩
  have hcl : p2pP.cells a = #[.string NM, .int .i64 421, .slice (some ⟨a, 0, none⟩) 2 2, .int .i64 (-1), .bool false, TR] := by rw [hTR, hNM]; rfl
  rw [hcl]
  clear hr hb hT hN hv hu hTR hNM hcl
  go_enter Tryz.func130, Tryz.ntmps130
  go_wp2_with fail
  refine (ptr_p2p _).mono ?_
  rintro e w1 ⟨q, a', rfl, hq, hvq, haq, hqq, hb1⟩
  have d2 : w1.cell? ⟨w.heap.size, 2, none⟩ = some (.slice (some ⟨a, 0, none⟩) 2 2) := cB hb1 (World.cell?_alloc_mark w _ _ _ 2)
  have d3 : w1.cell? ⟨w.heap.size, 3, none⟩ = some (.int .i64 (-1)) := cB hb1 (World.cell?_alloc_mark w _ _ _ 3)
  have hb01 : Below w.heap.size w w1 := ((Below.refl _ _).alloc (Nat.le_refl _) _).trans (hb1.mono (by simp))
  have hnM0 : w.heap.size < w1.heap.size := by have := hb1.size; simp at this; omega
  have H1 := Lib.hid (And.intro hq (And.intro hvq (And.intro (show w.heap.size ≤ a' by simp at haq; omega) (And.intro (show w.heap.size ≤ q by simp at hqq; omega) hb01))))
  clear hq hvq haq hqq hb1 hb01
  go_wp2_with fail
  refine (uvarintSize_1 N (by omega) _).mono ?_
  rintro e w' ⟨rfl, rfl⟩
  obtain ⟨W1, hW1⟩ : ∃ W, W = w' := ⟨_, rfl⟩
  rw [← hW1] at H1 d2 d3 hnM0 ⊢
  clear hW1 w'
  go_upto_region 9 with fail
  obtain ⟨W2, hW2⟩ : ∃ W, W = W1.alloc (.cells (madeCells #[.int .u8 0] (Z)) 5) := ⟨_, rfl⟩
  have hb12 : Below W1.heap.size W1 W2 := by rw [hW2]; exact (Below.refl _ _).alloc (Nat.le_refl _) _
  have hg2 : W2.heap[W1.heap.size]? = some (.cells (List.replicate (Z) (Value.int .u8 0)).toArray 5 (0, 0)) := by rw [hW2, ← toList_madeCells_one]; exact heap_alloc_new _ _
  have e2 := cB hb12 d2
  have e3 := cB hb12 d3
  have hw2' := H1.out.2.2.2.2.trans (hb12.mono H1.out.2.2.2.2.size)
  have hsrc := (VRow.below HB.out.1 hw2' HB.out.1.lt).bs
  rw [← hW2]
  clear hW2
  obtain ⟨M, hM⟩ : ∃ M, M = W1.heap.size := ⟨_, rfl⟩
  rw [← hM] at hg2 ⊢
  have hnM : w.heap.size < M := by rw [hM]; exact hnM0
  have hmz : M < W2.heap.size := (Array.getElem?_eq_some_iff.1 hg2).1
  have hM0 : w.heap.size ≤ M := by rw [hM]; exact H1.out.2.2.2.2.size
  have hZ := HZ.out
  have z0 : (0 : Int) ≤ (Z : Int) := by omega
  have z2 : (2 : Int) ≤ (Z : Int) := by omega
  have z3 : (3 : Int) ≤ (Z : Int) := by omega
  have z4 : 2 ≤ Z := by omega
  have z5 : ¬ Z = 3 := by omega
  have z6 : 3 < Z := by omega
  clear hZ
  have H2 := Lib.hid (And.intro hw2' (And.intro hsrc hb12))
  have HM := Lib.hid hM
  clear hw2' hsrc hb12 d2 d3 hM hnM0
  go_wp2_with fail
  go_region_law (refine step_copy_splice rfl (.tmp 38) (.tmp 40) 23 23 rfl 5 Tryz.underlying23 (by kernel_rfl) (some ⟨M, 0, none⟩) (some ⟨a, 0, none⟩) (Z) (Z) 2 2 rfl rfl M 0 (List.replicate (Z) (Value.int .u8 0)) 5 (by exact hg2) ([165, 3].map (Value.int .u8)) (by show 2 = min 2 Z; omega) (fun _ => ⟨rfl, ⟨a, 0, none⟩, rfl, fun j v hj => by rw [Lib.add_plain]; exact srcAt H2.out.2.1 j v hj⟩) (by simp; exact z4) (u8one _) M W2 (by first | exact Below.refl _ _ | exact (Below.refl _ _).drew | exact (Below.refl _ _).drew.drew) (Nat.le_refl _) ?_; intro w4 hg4 hb4)
  have hg4' := hg4.out
  rw [HZ.out, splice_head] at hg4'
  have f3 := (hb4.cell (p := ⟨w.heap.size, 3, none⟩) hnM).trans e3
  have hc42 : (w4.cell? ⟨M, 2, none⟩).isSome = true := by rw [cell_of_row w4 M 2 _ _ (0, 0) hg4']; simp
  have hf42 : w4.frozen? ⟨M, 2, none⟩ = false := by simp [World.frozen?, hg4']
  have H4 := Lib.hid (And.intro hg4' (And.intro hb4 (And.intro hc42 hf42)))
  clear hg4 hg4' hb4 e2 e3 hc42 hf42
  go_wp2_with fail
  refine (putOne M 2 (Z - 2) (Z - 2) N (by omega) (by have := HZ.out; omega) w4 H4.out.2.2.1 H4.out.2.2.2).mono ?_
  rintro e w' ⟨rfl, hw'⟩
  have hg5 : w'.heap[M]? = some (.cells (([165, 3, (N : Int)] ++ List.replicate N 0 : List Int).map (Value.int .u8)).toArray 5 (0, 0)) := by
    rw [hw']
    simp only [World.setCell, Array.getElem?_modify, H4.out.1]
    simp
  have hb5 : Below M W2 w' := by rw [hw']; exact H4.out.2.1.setCell (Nat.le_refl _) _
  obtain ⟨w5, hw5⟩ : ∃ W, W = w' := ⟨_, rfl⟩
  rw [← hw5] at hg5 hb5 ⊢
  clear hw5 hw' w' f3
  have hN := HB.out.2.2.2.1
  have hbs5 : Bs w5 g o id := fun i hi => (hb5.cell (p := ⟨g, o + i, none⟩) (Nat.lt_of_lt_of_le (World.block_lt_of_cell? w _ (HB.out.2.1 i hi)) hM0)).trans (cB H2.out.1 (HB.out.2.1 i hi))
  have hne : ((Z : Int) != 3 + (N : Int)) = false := by have := HZ.out; simp; omega
  have H5 := Lib.hid (And.intro hg5 (And.intro hb5 (And.intro hbs5 hN)))
  clear hg5 hb5 hbs5 hN
  go_wp2_with (with_reducible refine wpList_copy_splice rfl _ _ 23 23 rfl 5 Tryz.underlying23 (by kernel_rfl) (some ⟨M, 3, none⟩) (some ⟨g, o, none⟩) (Z - 3) (Z - 3) N c rfl rfl M 3 (([165, 3, (N : Int)] ++ List.replicate N 0 : List Int).map (Value.int .u8)) 5 H5.out.1 (id.map (Value.int .u8)) (by have := HZ.out; rw [List.length_map, H5.out.2.2.2]; show N = min N (Z - 3); omega) (fun _ => ⟨rfl, ⟨g, o, none⟩, rfl, fun j v hj => by rw [Lib.add_plain]; exact srcAtO H5.out.2.2.1 j v hj⟩) (by have := H5.out.2.2.2; simp; omega) (u8one _) M W2 H5.out.2.1 (Nat.le_refl _) ?_)
  intro w6 hg6 hb6
  have hg6' := hg6.out
  rw [splice_tail id N N H5.out.2.2.2] at hg6'
  have hcv := convStr M 0 Z Z ([165, 3, (N : Int)] ++ id) w6 (by have := HZ.out; have := H5.out.2.2.2; simp; omega) (VRow.bs hg6')
  have H6 := Lib.hid (And.intro hg6' hb6)
  clear hg6 hg6' hb6
  go_wp2_with fail
  have hb6 := H6.out.2
  rw [HM.out] at hb6
  have hb16 : Below W1.heap.size W1 w6 := H2.out.2.2.trans hb6
  have hb06 := H1.out.2.2.2.2.trans (hb16.mono H1.out.2.2.2.2.size)
  obtain ⟨W7, hW7⟩ : ∃ W, W = w6.alloc (.cells #[.string (strOfNums (165 :: 3 :: (N : Int) :: id)), .pointer (some ⟨q, 0, none⟩), .int .i64 3] 138) := ⟨_, rfl⟩
  have hb67 : Below w6.heap.size w6 W7 := by rw [hW7]; exact (Below.refl _ _).alloc (Nat.le_refl _) _
  have hb17 := hb16.trans (hb67.mono hb16.size)
  have hb07 := hb06.trans (hb67.mono hb06.size)
  have hcomp : W7.heap[w6.heap.size]? = some (.cells #[.string (strOfNums (hopB 6 id)), .pointer (some ⟨q, 0, none⟩), .int .i64 (hopS 6)] 138 (0, 0)) := by
    rw [hW7, ← H5.out.2.2.2]
    exact heap_alloc_new _ _
  have hC : CompAt W7 w6.heap.size q a' (protOf 6) (hopB 6 id) (hopS 6) := ⟨hcomp, (hb17.block q (Array.getElem?_eq_some_iff.1 H1.out.1).1).trans H1.out.1, VRow.below H1.out.2.1 hb17 H1.out.2.1.lt⟩
  rw [← hW7]
  have hvh := validHop 6 (by omega) id HB.out.2.2.2.2.1 HB.out.2.2.2.2.2 w6.heap.size q a' W7 hC (HB.out.2.2.1.below hb07)
  have H7 := Lib.hid (And.intro hvh (And.intro hC (And.intro hb07 hb06.size)))
  clear hvh hC hb07 hb17 hb67 hb06 hb16 hb6 hcomp hW7
  obtain ⟨R, hR⟩ : ∃ R, R = w6.heap.size := ⟨_, rfl⟩
  rw [← hR] at H7 ⊢
  clear hR
  refine H7.out.1.mono ?_
  rintro e w8 ⟨rfl, hb8⟩
  have H8 := Lib.hid hb8
  clear hb8
  go_wp2_with fail
  go_ret2
  exact ⟨R, q, a', rfl, H7.out.2.1.below H8.out, ⟨H7.out.2.2.2, H1.out.2.2.2.1, H1.out.2.2.1⟩, H7.out.2.2.1.trans (H8.out.mono H7.out.2.2.1.size)⟩
end Go.Proofs.YtapkmoakbfpkeaaGreatDoor
namespace Go.Proofs.YtapkmoakbfpkeaaGreatDoor
open Go Go.RowKit Go.Proofs Go.Sort
set_option maxRecDepth 100000 in
theorem twrpS (f1 f2 v : Value) (xs : List Int) (w : World) (H : ∀ w', Below w.heap.size w w' → Calls Tryz.prog 248 #[v] w' (Dec58 xs w')) :
    Calls Tryz.prog 452 #[.agg #[.func (Fn.func 248) #[] #[], f1, f2], v] w (Dec58 xs w) := by
  have HH := Lib.hid H
  clear H
  go_enter Tryz.func452, Tryz.ntmps452
  go_wp2_with fail
  refine (HH.out _ ((Below.refl _ _).alloc (Nat.le_refl _) _)).mono ?_
  rintro e w1 ⟨g, o, c, rfl, k1, k2, k3⟩
  have HK := Lib.hid (And.intro k1 (And.intro k2 k3))
  clear k1 k2 k3
  go_wp2_with fail
  go_ret2
  have hb : Below w.heap.size w w1 := ((Below.refl _ _).alloc (Nat.le_refl _) _).trans (HK.out.2.2.mono (by simp))
  exact ⟨g, o, c, rfl, HK.out.1, ⟨by have := HK.out.2.1.1; simp at this; omega, HK.out.2.1.2⟩, hb⟩
set_option maxHeartbeats 1600000 in
set_option maxRecDepth 100000 in
theorem newCompP (id : List Int) (hv : ValOk 6 id) (hu : U8 id) (z : Nat) (D : List Nat) (hd : Digs id z D) (w : World) (hT : Tab w) :
    Calls Tryz.prog 94 #[.string ⟨#[112, 50, 112]⟩, .string (strOfNums (text58 z D))] w (NC id w) := by
  obtain ⟨bq, hq, h1⟩ := idText id hv hu z D hd
  have hl : id.length ≤ 130 := by obtain ⟨_, h1, h2, h3⟩ := hv; omega
  have hlen := idText_len id hv hu hl z D hd
  have hv0 := hv
  obtain ⟨h0, y0, y1, hny⟩ := hv
  have hst := fun w' => p2pStBX (allD z D).length z D id (id.getD 0 0) (id.getD 1 0) w' hd hu rfl hlen.1 hlen.2 h0 y0 (by omega) hny rfl rfl bq hq h1
  have hnc := newComp id hv0 hu
  have HB := Lib.hid (And.intro hst (And.intro hnc hT))
  obtain ⟨S, hS⟩ : ∃ S, S = strOfNums (text58 z D) := ⟨_, rfl⟩
  obtain ⟨N, hN⟩ : ∃ N, N = id.length := ⟨_, rfl⟩
  rw [← hS] at HB ⊢
  have HN := Lib.hid hN
  clear hst hnc hT hS hN h0 y0 y1 hny hlen hq h1 hd hv0 hu hl
  go_enter Tryz.func94, Tryz.ntmps94
  go_wp2_with fail
  refine (pwn_p2p w).mono ?_
  rintro e w1 ⟨a, rfl, hr, ha, hb1⟩
  unfold Prot.cells p2pP
  have H1 := Lib.hid (And.intro hr (And.intro ha hb1))
  clear hr ha hb1
  go_wp2_with fail
  refine (twrpS _ _ _ id _ (fun w' _ => HB.out.1 w')).mono ?_
  rintro e w3 ⟨g, o, c, rfl, k1, k2, k3⟩
  have e0 : ∀ (i : Nat) (v : Value), (p2pP.cells a)[i]? = some v → w3.cell? ⟨w1.heap.size, i, none⟩ = some v := fun i v hv => cB k3 ((World.cell?_alloc_mark w1 _ _ _ i).trans (by simpa [Prot.cells, p2pP] using hv))
  have e0' := e0 0 _ rfl
  have e1' := e0 1 _ rfl
  have e2' := e0 2 _ rfl
  have e3' := e0 3 _ rfl
  have e4' := e0 4 _ rfl
  have e5' := e0 5 _ rfl
  have hw3 : Below w.heap.size w w3 := H1.out.2.2.trans ((((Below.refl w1.heap.size w1).alloc (Nat.le_refl _) _).trans (k3.mono (by simp))).mono H1.out.2.2.size)
  have hr3 : VRow w3 a [165, 3] := VRow.below (VRow.alloc H1.out.1 _) k3 (by have := H1.out.1.lt; simp; omega)
  have H3 := Lib.hid (And.intro k1 (And.intro hr3 hw3))
  rw [← HN.out]
  clear k1 k2 k3 e0 hr3 hw3
  go_wp2_with fail
  refine (HB.out.2.1 a g o N c HN.out.symm w3 H3.out.2.1 H3.out.1 (HB.out.2.2.below H3.out.2.2)).mono ?_
  rintro e w4 ⟨r, q, a2, rfl, hc, hge, hb4⟩
  have H4 := Lib.hid (And.intro hc (And.intro hge hb4))
  clear hc hge hb4 e0' e1' e2' e3' e4' e5'
  go_wp2_with fail
  go_ret2
  have hsz := H3.out.2.2.size
  exact ⟨r, q, a2, rfl, H4.out.1, ⟨Nat.le_trans hsz H4.out.2.1.1, Nat.le_trans hsz H4.out.2.1.2.1, Nat.le_trans hsz H4.out.2.1.2.2⟩, H3.out.2.2.trans (H4.out.2.2.mono hsz)⟩
end Go.Proofs.YtapkmoakbfpkeaaGreatDoor
namespace Go.Proofs.YtapkmoakbfpkeaaGreatDoor
open Go Go.RowKit Go.Proofs Go.Sort
set_option maxRecDepth 100000 in
theorem maSelf (v : Value) (w : World) : Calls Tryz.prog 444 #[v] w fun e w' => e = .returned v ∧ w = w' := by
  go_enter Tryz.func444, Tryz.ntmps444
  go_wp2_with fail
  go_ret
  exact ⟨rfl, rfl⟩
set_option maxRecDepth 100000 in
theorem compSelf (h : Hop) (r q a : Nat) (w : World) (hc : CompAt w r q a (protOf h.1) (hopB h.1 h.2) (hopS h.1)) :
    Calls Tryz.prog 96 #[.pointer (some ⟨r, 0, none⟩)] w fun e w' => e = .returned (.slice (some ⟨w.heap.size, 0, none⟩) 1 1) ∧ w' = w.alloc (.cells (compCells h q).toArray 138) := by
  have c0 : w.cell? ⟨r, 0, none⟩ = some (.string (strOfNums (hopB h.1 h.2))) := by rw [cell_of_row w r 0 _ _ (0, 0) hc.comp]; rfl
  have c1 : w.cell? ⟨r, 1, none⟩ = some (.pointer (some ⟨q, 0, none⟩)) := by rw [cell_of_row w r 1 _ _ (0, 0) hc.comp]; rfl
  have c2 : w.cell? ⟨r, 2, none⟩ = some (.int .i64 (hopS h.1)) := by rw [cell_of_row w r 2 _ _ (0, 0) hc.comp]; rfl
  unfold compCells
  obtain ⟨S, hS⟩ : ∃ S, S = strOfNums (hopB h.1 h.2) := ⟨_, rfl⟩
  obtain ⟨st, hst⟩ : ∃ st, st = hopS h.1 := ⟨_, rfl⟩
  rw [← hS] at c0 ⊢
  rw [← hst] at c2 ⊢
  clear hc hS hst
  go_enter Tryz.func96, Tryz.ntmps96
  go_wp2_with fail
  go_ret
  exact ⟨rfl, rfl⟩
/-- append of an address's parts into room. -/
theorem wpRoomM {ops : Array Oper} {rest : List Oper} {o : Oper} {a : Act} {w : World} {Q : Exit → Act → World → Prop} (hgd : o.guard = none) (s x : Operand)
    (ho : o.op = .call { callee := .builtin .append, args := #[s, x], argTypes := #[75, 76] }) (base g n cap : Nat) (xs : List Value) (hs : a.eval s = .slice (some ⟨g, 0, none⟩) n cap)
    (hown : w.ownsRow base 138 3 (.slice (some ⟨g, 0, none⟩) n cap) n xs) (ad : Addr) (m c : Nat) (news : List Value) (hx : a.eval x = .slice (some ad) m c) (hl : news.length = m * 3)
    (hnews : ∀ j u, news[j]? = some u → w.cell? (ad.add j) = some u) (h1 : ∀ u ∈ news, u.oneCell' = true) (hroom : n + m ≤ cap)
    (h : ∀ w', w'.ownsRow base 138 3 (.slice (some ⟨g, 0, none⟩) (n + m) cap) (n + m) (xs ++ news) → w.grownBy w' (some g) → wpList Tryz.prog ops Q rest (a.put o.dst (.slice (some ⟨g, 0, none⟩) (n + m) cap)) w') : wpList Tryz.prog ops Q (o :: rest) a w := by
  obtain ⟨i0, hi, hz0, hz1, hz2⟩ := info_parts infoComp
  rcases hown.2 with ⟨h0, _⟩ | ⟨g', cap', cur, hv, hbg, hg, hnc, hcm, hcs, htake⟩
  · cases h0
  · cases hv
    have hfit : n * 3 + news.length ≤ cur.size := by rw [hl, hcs]; omega
    have hlen : (xs ++ news).length = (n + m) * 3 := by rw [List.length_append, hown.1, hl, Nat.add_mul]
    have hsrc := Src.ofSlice (P := Tryz.prog) w (size := 3) Tryz.underlying76 ad m c news hl hnews h1
    have hst := run_storeCells_at Tryz.prog g (n * 3) 138 news 0 cur w hg (by simpa using hfit) h1
    simp only [Nat.add_zero] at hst
    have hrun : (Builtin.append_ #[75, 76] o.type #[.slice (some ⟨g, 0, none⟩) n cap, .slice (some ad) m c]).run Tryz.prog w = .ok (.slice (some ⟨g, 0, none⟩) (n + m) cap) (w.setRow g (cur.toList.take (n * 3) ++ news ++ cur.toList.drop (n * 3 + news.length)).toArray) := by
      simp [Builtin.append_, run_underlying Tryz.underlying75, run_underlying Tryz.underlying76, sizeOf, typeInfo, hi, hsrc.len, hroom, hsrc.cells, Addr.add_lit, hz1, hst]
    refine wpList_plain hgd fun K hK => ?_
    unfold Oper.wp execOp
    simp only [ho, resolve, invoke, builtin, Sem.run_bind, Sem.run_pure, Result.andThen_ok, List.map_toArray, List.map_cons, List.map_nil, hs, hx, hrun]
    refine hK _ _ (h _ ⟨hlen, .inr ⟨g, cap, _, rfl, hbg, setRow_heap w g cur _ _ _ hg, hroom, hcm, ?_, ?_⟩⟩ ⟨rfl, rfl, rfl, by simp, fun k _ hk => setRow_other w g k _ (fun e => hk (by simp [e]))⟩)
    · simp only [List.size_toArray, List.length_append, List.length_take, List.length_drop, Array.length_toList]
      omega
    · rw [List.toList_toArray, htake, ← hlen]
      exact List.take_left
theorem makeMs (w : World) : (Instr.makeSlice 86 (.int .i64 2) (.int .i64 2)).run Tryz.prog w = .ok (.slice (some ⟨w.heap.size, 0, none⟩) 2 2) (w.alloc (.cells #[.slice none 0 0, .slice none 0 0] 76)) := by kernel_rfl
theorem makeCs (n : Nat) (hn : n ≤ 1001) (w : World) : (Instr.makeSlice 75 (.int .i64 0) (.int .i64 (n : Int))).run Tryz.prog w = .ok (.slice (some ⟨w.heap.size, 0, none⟩) 0 n) (w.alloc (.cells (madeCells #[.string ⟨#[]⟩, .pointer none, .int .i64 0] (n * 3)) 138)) := by
  obtain ⟨i0, hi, hz0, hz1, hz2⟩ := info_parts infoComp
  have h := run_make (P := Tryz.prog) w 75 138 i0 _ Tryz.underlying75 hi hz0 .i64 .i64 (0 : Int) (n : Int) (Int.le_refl _) (by omega) (by rw [hz2]; omega) (by omega)
  rw [hz1] at h
  exact h
theorem twoC {w : World} {r : Nat} {x y : Value} {T : TypeId} (h : w.heap[r]? = some (.cells #[x, y] T (0, 0))) : (w.cell? ⟨r, 0, none⟩ = some x ∧ w.cell? ⟨r, 1, none⟩ = some y) ∧ w.frozen? ⟨r, 0, none⟩ = false ∧ w.frozen? ⟨r, 1, none⟩ = false := by
  refine ⟨⟨?_, ?_⟩, ?_, ?_⟩ <;> simp [World.cell?, World.frozen?, h]
theorem two_set0 {w : World} {r : Nat} {x y : Value} {T : TypeId} (h : w.heap[r]? = some (.cells #[x, y] T (0, 0))) (x' : Value) : (w.setCell ⟨r, 0, none⟩ x').heap[r]? = some (.cells #[x', y] T (0, 0)) := by
  simp [World.setCell, Array.getElem?_modify, h]
set_option maxHeartbeats 4000000 in
set_option maxRecDepth 100000 in
theorem join2 (B : Nat) (hs : List Hop) (h : Hop) (gm n cm r q a P c : Nat) (hn : hs.length = n) (hn1 : n ≤ 1000) (hn0 : 0 < n) (w : World) (x0 : w.cell? ⟨P, 0, none⟩ = some (.iface 76 (.slice (some ⟨gm, 0, none⟩) n cm)))
    (x1 : w.cell? ⟨P, 1, none⟩ = some (.iface 149 (.pointer (some ⟨r, 0, none⟩)))) (hm : MA w B (.slice (some ⟨gm, 0, none⟩) n cm) hs) (hc : CompAt w r q a (protOf h.1) (hopB h.1 h.2) (hopS h.1)) (hBq : B ≤ q) (hB : B ≤ w.heap.size) :
    Calls Tryz.prog 132 #[.slice (some ⟨P, 0, none⟩) 2 c] w fun e w' => ∃ v, e = .returned v ∧ MA w' B v (hs ++ [h]) ∧ Below w.heap.size w w' := by
  have hmk := makeMs
  have hmc : ∀ w, (Instr.makeSlice 75 (.int .i64 0) (.int .i64 ((n : Int) + 1))).run Tryz.prog w = .ok (.slice (some ⟨w.heap.size, 0, none⟩) 0 (n + 1)) (w.alloc (.cells (madeCells #[.string ⟨#[]⟩, .pointer none, .int .i64 0] ((n + 1) * 3)) 138)) := makeCs (n + 1) (by omega)
  have hn10 : ((n : Int) + 1 == 0) = false := by rw [beq_eq_false_iff_ne]; omega
  have hne : ∀ (T : TypeId) (v : Value) (w : World), (binOp .eql 209 (.iface T v) .nilIface).run Tryz.prog w = .ok (.bool false) w := fun T v w => by simp [binOp]; rfl
  have HB := Lib.hid (And.intro hm (And.intro hc (And.intro hBq (And.intro hB hn))))
  clear hm hc hBq hB hn
  go_enter Tryz.func132, Tryz.ntmps132
  go_upto_region 2 with fail
  obtain ⟨W1, hW1⟩ : ∃ W, W = w.alloc (.cells #[.slice none 0 0, .slice none 0 0] 76) := ⟨_, rfl⟩
  have hb1 : Below w.heap.size w W1 := by rw [hW1]; exact (Below.refl _ _).alloc (Nat.le_refl _) _
  obtain ⟨Q, hQ⟩ : ∃ Q, Q = w.heap.size := ⟨_, rfl⟩
  have hq1 : W1.heap[Q]? = some (.cells #[.slice none 0 0, .slice none 0 0] 76 (0, 0)) := by rw [hW1, hQ]; exact heap_alloc_new _ _
  have y0 := cB hb1 x0
  have y1 := cB hb1 x1
  have hPQ : P ≠ Q := by have := World.block_lt_of_cell? w _ x0; rw [hQ]; exact Nat.ne_of_lt this
  rw [← hW1, ← hQ]
  obtain ⟨⟨q0, q1⟩, f0, f1⟩ := twoC hq1
  have H1 := Lib.hid (And.intro hb1 (And.intro hq1 hQ))
  clear hb1 hq1 hW1 hQ x0 x1
  go_wp2_with fail
  refine wp_loop_rounds 3 ?_
  rw [rounds_succ]
  go_wp2_with (go_at_call 444; refine (maSelf _ _).mono ?_; rintro e w' ⟨rfl, rfl⟩)
  obtain ⟨W2, hW2⟩ : ∃ W, W = W1.setCell ⟨Q, 0, none⟩ (.slice (some ⟨gm, 0, none⟩) n cm) := ⟨_, rfl⟩
  have hq2 : W2.heap[Q]? = some (.cells #[.slice (some ⟨gm, 0, none⟩) n cm, .slice none 0 0] 76 (0, 0)) := by rw [hW2]; exact two_set0 H1.out.2.1 _
  have hb2 : Below w.heap.size w W2 := by rw [hW2]; exact H1.out.1.setCell (by rw [H1.out.2.2]; exact Nat.le_refl _) _
  have k1 : W2.cell? ⟨P, 1, none⟩ = some (.iface 149 (.pointer (some ⟨r, 0, none⟩))) := by rw [hW2]; refine Eq.trans ?_ y1; simp [World.cell?, World.setCell, Array.getElem?_modify, Ne.symm hPQ]
  obtain ⟨W3, hW3⟩ : ∃ W, W = W2.alloc (.cells (compCells h q).toArray 138) := ⟨_, rfl⟩
  have hcs : Calls Tryz.prog 96 #[.pointer (some ⟨r, 0, none⟩)] W2 fun e w' => e = .returned (.slice (some ⟨W2.heap.size, 0, none⟩) 1 1) ∧ W3 = w' := (compSelf h r q a W2 (HB.out.2.1.below hb2)).mono fun e w' ⟨h1, h2⟩ => ⟨h1, by rw [h2, hW3]⟩
  have hb23 : Below W2.heap.size W2 W3 := by rw [hW3]; exact (Below.refl _ _).alloc (Nat.le_refl _) _
  have hR3 : W3.heap[W2.heap.size]? = some (.cells (compCells h q).toArray 138 (0, 0)) := by rw [hW3]; exact heap_alloc_new _ _
  have hQ2 : Q < W2.heap.size := (Array.getElem?_eq_some_iff.1 hq2).1
  have hq3 := (hb23.block Q hQ2).trans hq2
  obtain ⟨R, hR⟩ : ∃ R, R = W2.heap.size := ⟨_, rfl⟩
  rw [← hR] at hcs hR3 hQ2 hb23
  obtain ⟨⟨s0, s1⟩, t0, t1⟩ := twoC hq3
  have H2 := Lib.hid (And.intro hcs (And.intro hq3 (And.intro hR3 (And.intro hQ2 (And.intro hb2 (And.intro hb23 hR))))))
  rw [← hW2]
  clear hq2 hb2 hcs hb23 hR3 hq3 hR hW3 hW2 y0 y1 q0 q1 f0 f1
  rw [rounds_succ]
  go_wp2_with (go_at_call 96; refine H2.out.1.mono ?_; rintro e w' ⟨rfl, rfl⟩)
  obtain ⟨W4, hW4⟩ : ∃ W, W = W3.setCell ⟨Q, 1, none⟩ (.slice (some ⟨R, 0, none⟩) 1 1) := ⟨_, rfl⟩
  have hq4 : W4.heap[Q]? = some (.cells #[.slice (some ⟨gm, 0, none⟩) n cm, .slice (some ⟨R, 0, none⟩) 1 1] 76 (0, 0)) := by
    rw [hW4]
    have h := H2.out.2.1
    simp [World.setCell, Array.getElem?_modify, h]
  have hb03 : Below w.heap.size w W3 := H2.out.2.2.2.2.1.trans ((by have h := H2.out.2.2.2.2.2.1; rw [H2.out.2.2.2.2.2.2] at h; exact h : Below W2.heap.size W2 W3).mono H2.out.2.2.2.2.1.size)
  have hb4 : Below w.heap.size w W4 := by rw [hW4]; exact hb03.setCell (by rw [H1.out.2.2]; exact Nat.le_refl _) _
  have hR4 : W4.heap[R]? = some (.cells (compCells h q).toArray 138 (0, 0)) := by
    rw [hW4]
    refine (Below.heap_setCell _ _ _ _ ?_).trans H2.out.2.2.1
    exact Ne.symm (Nat.ne_of_lt H2.out.2.2.2.1)
  obtain ⟨⟨u0, u1⟩, _, _⟩ := twoC hq4
  have H4 := Lib.hid (And.intro hq4 (And.intro hb4 hR4))
  rw [← hW4]
  clear hW4 hq4 hb03 hb4 hR4 s0 s1 t0 t1 k1
  rw [rounds_succ]
  go_wp2_with fail
  refine wp_loop_rounds 3 ?_
  rw [rounds_succ]
  go_wp2_with fail
  rw [rounds_succ]
  go_wp2_with fail
  rw [rounds_succ]
  go_upto_region 17 with fail
  obtain ⟨W5, hW5⟩ : ∃ W, W = W4.alloc (.cells (madeCells #[.string ⟨#[]⟩, .pointer none, .int .i64 0] ((n + 1) * 3)) 138) := ⟨_, rfl⟩
  have hb45 : Below W4.heap.size W4 W5 := by rw [hW5]; exact (Below.refl _ _).alloc (Nat.le_refl _) _
  have hb5 := H4.out.2.1.trans (hb45.mono H4.out.2.1.size)
  have own5 : W5.ownsRow B 138 3 (.slice (some ⟨W4.heap.size, 0, none⟩) 0 (n + 1)) 0 [] := ⟨rfl, .inr ⟨W4.heap.size, n + 1, _, rfl, Nat.le_trans HB.out.2.2.2.1 H4.out.2.1.size, by rw [hW5]; exact heap_alloc_new _ _, Nat.zero_le _, by unfold maxLen; omega, size_madeCells _ _, by simp⟩⟩
  have hm5 := HB.out.1.below hb5
  have hR5 := (hb45.block R (Array.getElem?_eq_some_iff.1 H4.out.2.2).1).trans H4.out.2.2
  have u0' := cB hb45 u0
  have u1' := cB hb45 u1
  have hRO : R ≠ W4.heap.size := Nat.ne_of_lt (Array.getElem?_eq_some_iff.1 H4.out.2.2).1
  have hQO : Q ≠ W4.heap.size := Nat.ne_of_lt (Array.getElem?_eq_some_iff.1 H4.out.1).1
  rw [← hW5]
  obtain ⟨O, hO⟩ : ∃ O, O = W4.heap.size := ⟨_, rfl⟩
  rw [← hO] at own5 hRO hQO ⊢
  have hwO : w.heap.size ≤ W5.heap.size := hb5.size
  have hOw : w.heap.size ≤ O := by rw [hO]; exact H4.out.2.1.size
  obtain ⟨qs, ql, qo, qp⟩ := hm5
  have H5 := Lib.hid (And.intro own5 (And.intro hb5 (And.intro hR5 (And.intro ql (And.intro qo qp)))))
  clear hW5 hb45 hb5 own5 hR5 u0 u1 hO ql qo qp
  go_wp2_with fail
  refine wp_loop_rounds 3 ?_
  rw [rounds_succ]
  have hn1' : (compsOf hs qs).length = n * 3 := by rw [comps_len _ _ H5.out.2.2.2.1, HB.out.2.2.2.2]
  have hnews1 : ∀ j u, (compsOf hs qs)[j]? = some u → W5.cell? ((⟨gm, 0, none⟩ : Addr).add j) = some u := fun j u hj => by
    have hj1 := (List.getElem?_eq_some_iff.1 hj).1
    rw [Lib.add_plain, Nat.zero_add]
    have qo := H5.out.2.2.2.2.1
    rw [HB.out.2.2.2.2] at qo
    exact (qo.cellAt j (by omega)).trans hj
  have HN1 := Lib.hid (And.intro hn1' hnews1)
  clear hn1' hnews1
  go_wp2_with (at_builtin; refine wpRoomM rfl _ _ rfl B O 0 (n + 1) [] rfl H5.out.1 ⟨gm, 0, none⟩ n cm (compsOf hs qs) rfl HN1.out.1 HN1.out.2 (comps_one _ _) (by omega) ?_)
  intro W6 own6 hg6
  replace own6 : W6.ownsRow B 138 3 (.slice (some ⟨O, 0, none⟩) n (n + 1)) n (compsOf hs qs) := by simpa using own6
  try simp only [Nat.zero_add]
  have u1'' : W6.cell? ⟨Q, 1, none⟩ = some (.slice (some ⟨R, 0, none⟩) 1 1) := (World.cell?_of_block (w := W5) (a := ⟨Q, 1, none⟩) (hg6.block Q (World.block_lt_of_cell? W5 _ u1') (fun e => hQO (Option.some.inj e)))).trans u1'
  have hR6 := (hg6.block R (Array.getElem?_eq_some_iff.1 H5.out.2.2.1).1 (fun e => hRO (Option.some.inj e))).trans H5.out.2.2.1
  have H6 := Lib.hid (And.intro own6 (And.intro hg6 hR6))
  clear own6 hg6 hR6
  go_wp2_with fail
  rw [rounds_succ]
  go_wp2_with (at_builtin; refine wpRoomM rfl _ _ rfl B O n (n + 1) (compsOf hs qs) rfl H6.out.1 ⟨R, 0, none⟩ 1 1 (compCells h q) rfl rfl (fun j u hj => by rw [Lib.add_plain, Nat.zero_add, cell_of_row W6 R j _ _ (0, 0) H6.out.2.2]; simpa using hj) (fun u hu => by simp only [compCells, List.mem_cons, List.mem_nil_iff, or_false] at hu; rcases hu with rfl | rfl | rfl <;> rfl) (Nat.le_refl _) ?_)
  intro W7 own7 hg7
  have H7 := Lib.hid (And.intro own7 hg7)
  clear own7 hg7
  go_wp2_with fail
  rw [rounds_succ]
  go_wp2_with fail
  go_ret
  have hql : qs.length = hs.length := H5.out.2.2.2.1
  have h6 := H6.out.1
  have h7 := H7.out.1
  have hgr5 : W5.grownBy W6 (Value.slice (some ⟨O, 0, none⟩) 0 (n + 1)).ownBlock := H6.out.2.1
  have hgr6 : W6.grownBy W7 (Value.slice (some ⟨O, 0, none⟩) n (n + 1)).ownBlock := H7.out.2
  have hb6 := H5.out.2.1.grown hgr5 hwO (fun k hk => by have e : O = k := (by simpa [Value.ownBlock] using hk); rw [← e]; exact hOw)
  have hb7 := hb6.grown hgr6 hb6.size (fun k hk => by have e : O = k := (by simpa [Value.ownBlock] using hk); rw [← e]; exact hOw)
  refine ⟨_, rfl, ?_, hb7⟩
  have hcp := HB.out.2.1
  have hPr : ProtB w (protOf h.1) q := ⟨a, hcp.prot, hcp.vcode⟩
  have hPr6 : ProtB W6 (protOf h.1) q := (hPr.below H5.out.2.1).grown H5.out.1 hgr5
  rw [← HB.out.2.2.2.2] at h6 h7 hgr6 ⊢
  exact MA.push (w := W6) (w' := W7) hql h6 (fun x hx => ⟨(H5.out.2.2.2.2.2 x hx).1.grown H5.out.1 hgr5, (H5.out.2.2.2.2.2 x hx).2⟩) hgr6 h q hPr6 HB.out.2.2.1 h7
end Go.Proofs.YtapkmoakbfpkeaaGreatDoor
namespace Go.Proofs.YtapkmoakbfpkeaaGreatDoor
open Go Go.RowKit Go.Proofs Go.Sort
set_option maxRecDepth 100000 in
theorem encaps (B : Nat) (hs : List Hop) (h : Hop) (gm n cm r q a : Nat) (hn : hs.length = n) (hn1 : n ≤ 1000) (hn0 : 0 < n) (w : World) (hm : MA w B (.slice (some ⟨gm, 0, none⟩) n cm) hs) (hc : CompAt w r q a (protOf h.1) (hopB h.1 h.2) (hopS h.1)) (hBq : B ≤ q) (hB : B ≤ w.heap.size) :
    Calls Tryz.prog 97 #[.slice (some ⟨gm, 0, none⟩) n cm, .iface 149 (.pointer (some ⟨r, 0, none⟩))] w fun e w' => ∃ v, e = .returned v ∧ MA w' B v (hs ++ [h]) ∧ Below w.heap.size w w' := by
  have hb : Below w.heap.size w (w.alloc (.cells #[.iface 76 (.slice (some ⟨gm, 0, none⟩) n cm), .iface 149 (.pointer (some ⟨r, 0, none⟩))] 209)) := (Below.refl _ _).alloc (Nat.le_refl _) _
  have hj := join2 B hs h gm n cm r q a w.heap.size 2 hn hn1 hn0 _ (World.cell?_alloc_mark w _ _ _ 0) (World.cell?_alloc_mark w _ _ _ 1) (hm.below hb) (hc.below hb) hBq (by simp; omega)
  have HJ := Lib.hid (And.intro hj hb)
  clear hj hb hm hc hn
  go_enter Tryz.func97, Tryz.ntmps97
  go_wp2_with fail
  refine HJ.out.1.mono ?_
  rintro e w1 ⟨v, rfl, hm1, hb1⟩
  have H1 := Lib.hid (And.intro hm1 hb1)
  clear hm1 hb1
  go_wp2_with fail
  go_ret
  exact ⟨_, rfl, H1.out.1, HJ.out.2.trans (H1.out.2.mono HJ.out.2.size)⟩
theorem MRow.mono {w : World} {Bi B Bi' B' : Nat} {v : Value} {ts : List Adr} (h : MRow w Bi B v ts) (hi : Bi' ≤ Bi) (hB : B' ≤ B) : MRow w Bi' B' v ts := by
  obtain ⟨us, hl, ⟨h1, h2⟩, hP⟩ := h
  refine ⟨us, hl, ⟨h1, ?_⟩, fun i u x a b => (hP i u x a b).mono hi⟩
  rcases h2 with h2 | ⟨g, cap, cur, hv, hg, r⟩
  · exact .inl h2
  · exact .inr ⟨g, cap, cur, hv, Nat.le_trans hB hg, r⟩
theorem convToID (b o n c : Nat) (xs : List Int) (w : World) (hx : xs.length = n) (hb : Bs w b o xs) : (convert 23 85 (.slice (some ⟨b, o, none⟩) n c)).run Tryz.prog w = .ok (.string (strOfNums xs)) w :=
  run_convert_bytes_arg (P := Tryz.prog) (w := w) 23 5 Tryz.underlying23 Tryz.underlying5 b o n c xs hx (fun i hi => hb i (by omega)) 85 (by kernel_rfl)
set_option maxHeartbeats 3200000 in
set_option maxRecDepth 100000 in
theorem infoOf (id : List Int) (ts : List Adr) (g1 o1 m c1 : Nat) (hm : id.length = m) (p : Option Addr) (n c : Nat) (hn : ts.length = n) (hn1 : n ≤ 1000) (hts : ∀ hs ∈ ts, AdrOk hs) (w : World) (hid : Bs w g1 o1 id) (hin : ListIn w p ts) (hT : Tab w) :
    Calls Tryz.prog 65 #[.agg #[.slice (some ⟨g1, o1, none⟩) m c1, .slice p n c]] w fun e w' => ∃ p2 c2, e = .returned (.agg #[.string (strOfNums id), .slice p2 n c2]) ∧ MRow w' w.heap.size w.heap.size (.slice p2 n c2) ts ∧ Below w.heap.size w w' := by
  have HB := Lib.hid (And.intro hid (And.intro hn (And.intro hts (And.intro hin (And.intro hT hm)))))
  obtain ⟨S, hS⟩ : ∃ S, S = strOfNums id := ⟨_, rfl⟩
  rw [← hS]
  have HS := Lib.hid hS.symm
  clear hid hn hts hin hT hm hS
  go_enter Tryz.func65, Tryz.ntmps65
  go_upto_region 1 with fail
  obtain ⟨W2, hW2⟩ : ∃ W, W = ((w.alloc (.cells #[.slice (some ⟨g1, o1, none⟩) m c1, .slice p n c] 32)).alloc (.cells #[.string ⟨#[]⟩, .slice none 0 0] 88)) := ⟨_, rfl⟩
  have hz2 : W2.heap.size = w.heap.size + 1 + 1 := by rw [hW2]; simp
  have hb2 : Below w.heap.size w W2 := by rw [hW2]; exact ((Below.refl _ _).alloc (Nat.le_refl _) _).alloc (by simp) _
  have c00 : W2.cell? ⟨w.heap.size, 0, none⟩ = some (.slice (some ⟨g1, o1, none⟩) m c1) := by rw [hW2]; exact (cB ((Below.refl _ _).alloc (Nat.le_refl _) _) (World.cell?_alloc_mark w _ _ _ 0)).trans rfl
  have c01 : W2.cell? ⟨w.heap.size, 1, none⟩ = some (.slice p n c) := by rw [hW2]; exact (cB ((Below.refl _ _).alloc (Nat.le_refl _) _) (World.cell?_alloc_mark w _ _ _ 1)).trans rfl
  have r1 : W2.heap[w.heap.size + 1]? = some (.cells #[.string ⟨#[]⟩, .slice none 0 0] 88 (0, 0)) := by
    rw [hW2]
    have h := heap_alloc_new (w.alloc (.cells #[.slice (some ⟨g1, o1, none⟩) m c1, .slice p n c] 32)) (.cells #[.string ⟨#[]⟩, .slice none 0 0] 88)
    rw [show (w.alloc (.cells #[.slice (some ⟨g1, o1, none⟩) m c1, .slice p n c] 32)).heap.size = w.heap.size + 1 by simp] at h
    exact h
  have hcv := convToID g1 o1 m c1 id W2 HB.out.2.2.2.2.2 (HB.out.1.below hb2)
  rw [HS.out] at hcv
  rw [← hW2]
  obtain ⟨P, hP⟩ : ∃ P, P = w.heap.size + 1 + 1 := ⟨_, rfl⟩
  obtain ⟨W4, hW4⟩ : ∃ W, W = W2.alloc (.cells #[.string S, .slice none 0 0] 88) := ⟨_, rfl⟩
  have hb24 : Below W2.heap.size W2 W4 := by rw [hW4]; exact (Below.refl _ _).alloc (Nat.le_refl _) _
  have f01 := cB hb24 c01
  have f1 : W4.heap[w.heap.size + 1]? = some (.cells #[.string ⟨#[]⟩, .slice none 0 0] 88 (0, 0)) := (hb24.block _ (by omega)).trans r1
  have fP : W4.heap[P]? = some (.cells #[.string S, .slice none 0 0] 88 (0, 0)) := by rw [hW4, hP, ← hz2]; exact heap_alloc_new _ _
  have hzP : P < W4.heap.size := (Array.getElem?_eq_some_iff.1 fP).1
  have hb4 : Below w.heap.size w W4 := hb2.trans (hb24.mono hb2.size)
  have H4 := Lib.hid (And.intro f1 (And.intro fP (And.intro hb4 (And.intro hzP hP))))
  clear hb4 fP f1 hzP hb24 r1 hb2 hW2
  go_wp2_with fail
  have hP' : w.heap.size + 1 + 1 = P := H4.out.2.2.2.2.symm
  rw [← hW4, hP']
  clear hW4 hP' hP hz2 c00 c01 hcv
  go_loopg [15] n (fun gk iv wr => ∃ (ds rs : List Adr), ts = ds ++ rs ∧ gk = rs.length ∧ iv = .int .i64 (ds.length : Int) ∧ Hid (∃ p2 c2, wr.heap[P]? = some (.cells #[.string S, .slice p2 ds.length c2] 88 (0, 0)) ∧ MRow wr w.heap.size P (.slice p2 ds.length c2) ds ∧ Below P W4 wr ∧ P < wr.heap.size))
  case atStart => exact ⟨[], ts, rfl, HB.out.2.1.symm, rfl, none, 0, H4.out.2.1, RowP.nil _ _ _ _, Below.refl _ _, H4.out.2.2.2.1⟩
  case round =>
    obtain ⟨ds, rs, hds, rfl, rfl, hI⟩ := hrel
    cases rs with
    | cons r rs =>
      have hlt : ds.length < n := by rw [← HB.out.2.1, hds]; simp
      have hl2 : decide (ds.length < n) = true := by rw [decide_eq_true_iff]; omega
      obtain ⟨hr0, hrk, hrl⟩ := HB.out.2.2.1 r (by rw [hds]; simp)
      obtain ⟨g, b, o, c', rfl, hcu, hbs⟩ := HB.out.2.2.2.1 ds.length r (by rw [hds]; simp)
      obtain ⟨p2, c2, hcP, hbr, hBP, hPz⟩ := hI.out
      have hPw : w.heap.size ≤ P := by have := H4.out.2.2.2.2; omega
      have hBw : Below w.heap.size w wr := H4.out.2.2.1.trans (hBP.mono hPw)
      replace hcu := cB hBw hcu
      have hao := addrOf r hrk hrl [] (.inl hr0) (.inl rfl) b o (addrB r).length c' wr (by rw [List.append_nil]) (by rw [List.append_nil]; exact hbs.below hBw) (HB.out.2.2.2.2.1.below hBw)
      have HA := Lib.hid (And.intro hao (And.intro hds (And.intro hr0 (And.intro hcP (And.intro hbr (And.intro hBP (And.intro hPz (And.intro hPw hBw))))))))
      clear hao hds hbs hrk hrl hr0 hcP hbr hBP hPz hPw hBw
      obtain ⟨N, hN⟩ : ∃ N, N = (addrB r).length := ⟨_, rfl⟩
      rw [← hN] at HA hcu
      clear hN
      go_wp2_with fail
      refine HA.out.1.mono ?_
      rintro e w1 ⟨hB1, ⟨_, v, rfl, hM⟩ | ⟨hne, _⟩⟩
      rotate_left
      · exact absurd rfl hne
      obtain ⟨_, hds, hr0, hcP, hbr, hBP, hPz, hPw, hBw⟩ := HA.out
      obtain ⟨g1', c1', rfl, hc1⟩ := ma_form hM hr0
      obtain ⟨us, hul, huo, huP⟩ := hbr
      have hcP1 := (hB1.block P hPz).trans hcP
      obtain ⟨⟨_, d1⟩, _, z1⟩ := two_cells hcP1
      have HU := Lib.hid (And.intro hM (And.intro hul (And.intro (ownsRow_below huo hB1) (And.intro huP (And.intro hB1 (And.intro hcP1 (show P < w1.heap.size from Nat.lt_of_lt_of_le hPz hB1.size)))))))
      clear hM hul huo huP hB1 hc1 hds hr0 hcP hBP hPz hPw hBw hcP1
      obtain ⟨M, hMl⟩ : ∃ M, M = r.length := ⟨_, rfl⟩
      rw [← hMl] at HU ⊢
      clear hMl
      go_wp2_with (at_builtin; refine wpAppN 86 76 1 _ 24 Tryz.underlying86 infoMs rfl (by decide) (by decide) rfl _ _ rfl P _ ds.length us rfl HU.out.2.2.1 [.slice (some ⟨g1', 0, none⟩) M c1'] rfl (fun u hu => by simp at hu; subst hu; rfl) rfl (by omega) (Nat.le_of_lt HU.out.2.2.2.2.2.2) ?_)
      intro v' w2 ho2 hg2 _
      obtain ⟨p3, c3, rfl⟩ : ∃ p3 c3, v' = .slice p3 (ds.length + 1) c3 := by
        rcases ho2.2 with ⟨_, h0⟩ | ⟨g7, c7, _, e, _⟩
        · omega
        · exact ⟨_, c7, e⟩
      have hK2 : Kept 76 w1 w2 := Kept.row HU.out.2.2.1 hg2
      have hcP2 := hK2 _ _ _ _ HU.out.2.2.2.2.2.1 (by decide)
      obtain ⟨⟨_, d2⟩, _, z2⟩ := two_cells hcP2
      have H2 := Lib.hid (And.intro ho2 (And.intro hg2 (And.intro hK2 hcP2)))
      clear ho2 hg2 hK2 hcP2
      go_wp2_with fail
      go_roundg rs.length
      case measure => simp
      case rel =>
        obtain ⟨ho2, hg2, hK2, hcP2⟩ := H2.out
        obtain ⟨hM, hul, huo, huP, hB1, hcP1, hP1⟩ := HU.out
        obtain ⟨_, hds, hr0, hcP, hbr, hBP, hPz, hPw, hBw⟩ := HA.out
        refine ⟨ds ++ [r], rs, by rw [hds, List.append_assoc]; rfl, rfl, by simp, ?_⟩
        rw [List.length_append]
        have hK8 : Kept 88 w2 (w2.setCell ⟨P, 1, none⟩ (.slice p3 (ds.length + 1) c3)) := Kept.setCell (p := ⟨P, 1, none⟩) hcP2 _
        have hb2 : Below P wr w2 := grown_below (hB1.mono (Nat.le_of_lt hPz)) huo hg2 (Nat.le_of_lt hP1)
        have hrow := RowP.push (P := fun w' u hs => MA w' w.heap.size u hs) hul huP ho2 (fun u x hm => hK2.ma (by decide) (by decide) (by decide) (hm.below hB1)) (hK2.ma (by decide) (by decide) (by decide) (hM.mono hBw.size))
        exact ⟨p3, c3, two_set1 hcP2 _, MRow.kept hrow hK8 (by decide) (by decide) (by decide) (by decide), (hBP.trans hb2).setCell (Nat.le_refl _) _, (Array.getElem?_eq_some_iff.1 (two_set1 hcP2 (.slice p3 (ds.length + 1) c3))).1⟩
    | nil =>
      have hlt : ds.length = n := by rw [← HB.out.2.1, hds, List.append_nil]
      have hl2 : decide (ds.length < n) = false := by rw [decide_eq_false_iff_not, hlt]; omega
      have HD := Lib.hid (show ts = ds by rw [hds, List.append_nil])
      clear hds
      obtain ⟨p2, c2, hcP, hbr, hBP, hPz⟩ := hI.out
      rw [hlt] at hcP hbr
      clear hlt
      obtain ⟨⟨d0, d1⟩, z0, z1⟩ := two_cells hcP
      have hPw : w.heap.size + 1 + 1 = P := H4.out.2.2.2.2.symm
      have hr : wr.heap[w.heap.size + 1]? = some (.cells #[.string ⟨#[]⟩, .slice none 0 0] 88 (0, 0)) := (hBP.block _ (by omega)).trans H4.out.1
      obtain ⟨⟨r0, r1⟩, y0, y1⟩ := two_cells hr
      have hne : w.heap.size + 1 ≠ P := by omega
      have HP := Lib.hid (And.intro hcP (And.intro hbr (And.intro hBP (And.intro hPw hr))))
      clear hcP hbr hBP hPw hr
      go_wp2_with fail
      obtain ⟨W9, hW9⟩ : ∃ W, W = (wr.setCell ⟨w.heap.size + 1, 0, none⟩ (.string S)).setCell ⟨w.heap.size + 1, 1, none⟩ (.slice p2 n c2) := ⟨_, rfl⟩
      rw [← hW9]
      obtain ⟨hcP, hbr, hBP, hPw, hr⟩ := HP.out
      have hr9 : W9.heap[w.heap.size + 1]? = some (.cells #[.string S, .slice p2 n c2] 88 (0, 0)) := by rw [hW9]; exact two_set01 hr _ _
      have hK9 : Kept 88 wr W9 := by
        rw [hW9]
        refine Kept.trans (b := wr.setCell ⟨w.heap.size + 1, 0, none⟩ (.string S)) (Kept.setCell (p := ⟨w.heap.size + 1, 0, none⟩) hr _) ?_
        obtain ⟨cs', hcs⟩ := heap_atSet (w := wr) (b := w.heap.size + 1) (o := 0) hr (.string S)
        exact Kept.setCell (p := ⟨w.heap.size + 1, 1, none⟩) hcs _
      obtain ⟨⟨k0, k1⟩, _, _⟩ := two_cells hr9
      refine bodyPost_ret (v := .agg #[.string S, .slice p2 n c2]) (by simp [results, Tryz.results65, go_sem, k0, k1]) rfl ⟨_, _, rfl, ?_, ?_⟩
      · show MRow W9 w.heap.size w.heap.size _ ts
        rw [HD.out]
        exact MRow.kept (hbr.mono (Nat.le_refl _) (by omega)) hK9 (by decide) (by decide) (by decide) (by decide)
      · rw [hW9]
        exact ((H4.out.2.2.1.trans (hBP.mono (by omega))).setCell (by show w.heap.size ≤ w.heap.size + 1; omega) _).setCell (by show w.heap.size ≤ w.heap.size + 1; omega) _
end Go.Proofs.YtapkmoakbfpkeaaGreatDoor
namespace Go.Proofs.YtapkmoakbfpkeaaGreatDoor
open Go Go.RowKit Go.Proofs Go.Sort
theorem fullOf_cons (id : List Int) (t : Adr) (ts : List Adr) : fullOf (id, t :: ts) = (t :: ts).map (· ++ [(6, id)]) := rfl
theorem makeMr (n : Nat) (hn : n ≤ 1000) (w : World) : (Instr.makeSlice 86 (.int .i64 0) (.int .i64 (n : Int))).run Tryz.prog w = .ok (.slice (some ⟨w.heap.size, 0, none⟩) 0 n) (w.alloc (.cells (madeCells #[.slice none 0 0] n) 76)) := by
  obtain ⟨i0, hi, hz0, hz1, hz2⟩ := info_parts infoMs
  have h := run_make (P := Tryz.prog) w 86 76 i0 _ Tryz.underlying86 hi hz0 .i64 .i64 (0 : Int) (n : Int) (Int.le_refl _) (by omega) (by rw [hz2]; omega) (by omega)
  rw [hz1, Nat.mul_one] at h
  exact h
/-- A part by itself, as an address. -/
theorem MA.single {w : World} {B X q : Nat} {h : Hop} (hX : w.heap[X]? = some (.cells (compCells h q).toArray 138 (0, 0))) (hB : B ≤ X) (hq : ProtB w (protOf h.1) q) (hBq : B ≤ q) : MA w B (.slice (some ⟨X, 0, none⟩) 1 1) [h] :=
  ⟨[q], rfl, ⟨rfl, .inr ⟨X, 1, _, rfl, hB, hX, Nat.le_refl _, by unfold maxLen; omega, rfl, rfl⟩⟩, fun x hx => by
    rw [show [h].zip [q] = [(h, q)] from rfl, List.mem_singleton] at hx
    rw [hx]; exact ⟨hq, hBq⟩⟩
set_option maxHeartbeats 4000000 in
set_option maxRecDepth 100000 in
theorem toAddrs (Bi B : Nat) (id : List Int) (hv : ValOk 6 id) (hu : U8 id) (ts : List Adr) (P : Nat) (p : Option Addr) (n c : Nat) (hn : ts.length = n) (hn1 : n ≤ 1000) (hts : ∀ hs ∈ ts, AdrOk hs) (w : World)
    (hP : w.heap[P]? = some (.cells #[.string (strOfNums id), .slice p n c] 88 (0, 0))) (hr : MRow w Bi B (.slice p n c) ts) (hBi : Bi ≤ w.heap.size) (hT : Tab w) :
    Calls Tryz.prog 66 #[.pointer (some ⟨P, 0, none⟩)] w fun e w' => ∃ v, e = .returned (.tuple #[v, .nilIface]) ∧ MRow w' Bi w.heap.size v (fullOf (id, ts)) ∧ Below w.heap.size w w' := by
  have hmk := makeMr n hn1
  have hid1 : id.length ≤ 130 := by obtain ⟨_, h1, h2, h3⟩ := hv; omega
  obtain ⟨⟨c0, c1⟩, _⟩ := two_cells hP
  have hst := idString id hu hid1
  have HB := Lib.hid (And.intro hr (And.intro hn (And.intro hts (And.intro hBi (And.intro hT (And.intro hv (And.intro hu hst)))))))
  obtain ⟨S, hS⟩ : ∃ S, S = strOfNums id := ⟨_, rfl⟩
  rw [← hS] at HB c0
  clear hr hn hts hBi hT hv hu hst hP hS
  go_enter Tryz.func66, Tryz.ntmps66
  go_wp2_with fail
  refine (HB.out.2.2.2.2.2.2.2 w).mono ?_
  rintro e w1 ⟨z, D, rfl, hd, hb1⟩
  have H1 := Lib.hid (And.intro hd hb1)
  clear hd hb1
  go_wp2_with fail
  refine (newCompP id HB.out.2.2.2.2.2.1 HB.out.2.2.2.2.2.2.1 z D H1.out.1 w1 (HB.out.2.2.2.2.1.below H1.out.2)).mono ?_
  rintro e w2 ⟨r, q, a, rfl, hc, hge, hb2⟩
  have hw2 := H1.out.2.trans (hb2.mono H1.out.2.size)
  have d1 := cB hw2 c1
  have hqB : Bi ≤ q ∧ Bi ≤ w2.heap.size := by have := HB.out.2.2.2.1; have := H1.out.2.size; have := hw2.size; have := hge.2.1; omega
  have H2 := Lib.hid (And.intro hc (And.intro hw2 hqB))
  clear hc hge hb2 hw2 c0 c1 hqB
  by_cases hn0 : n = 0
  · subst hn0
    have hts : ts = [] := List.eq_nil_of_length_eq_zero HB.out.2.1
    go_wp2_with fail
    refine (compSelf (6, id) r q a w2 H2.out.1).mono ?_
    rintro e w3 ⟨rfl, hw3⟩
    have hb3 : Below w2.heap.size w2 w3 := by rw [hw3]; exact (Below.refl _ _).alloc (Nat.le_refl _) _
    have hX : w3.heap[w2.heap.size]? = some (.cells (compCells (6, id) q).toArray 138 (0, 0)) := by rw [hw3]; exact heap_alloc_new _ _
    have H3 := Lib.hid (And.intro hb3 hX)
    obtain ⟨X, hXe⟩ : ∃ X, X = w2.heap.size := ⟨_, rfl⟩
    rw [← hXe] at H3 ⊢
    have HXe := Lib.hid hXe
    clear hb3 hX hw3 hXe
    go_wp2_with fail
    go_ret2
    have hXe := HXe.out
    have hb34 : Below w3.heap.size w3 (w3.alloc (.cells #[.slice (some ⟨X, 0, none⟩) 1 1] 76)) := (Below.refl _ _).alloc (Nat.le_refl _) _
    have hb23 := H3.out.1
    rw [hXe] at hb23
    have hb24 := hb23.trans (hb34.mono hb23.size)
    have hb04 := H2.out.2.1.trans (hb24.mono H2.out.2.1.size)
    have hwX : w.heap.size ≤ w3.heap.size := (H2.out.2.1.trans (hb23.mono H2.out.2.1.size)).size
    have hBX : Bi ≤ X := by rw [hXe]; exact H2.out.2.2.2
    have hPr : ProtB w2 (protOf (6, id).1) q := ⟨a, H2.out.1.prot, H2.out.1.vcode⟩
    refine ⟨_, rfl, ?_, hb04⟩
    rw [hts]
    refine ⟨[.slice (some ⟨X, 0, none⟩) 1 1], rfl, ⟨rfl, .inr ⟨w3.heap.size, 1, _, rfl, hwX, heap_alloc_new _ _, Nat.le_refl _, by unfold maxLen; omega, rfl, rfl⟩⟩, fun i u x h1 h2 => ?_⟩
    match i, h1, h2 with
    | 0, h1, h2 =>
      obtain rfl := Option.some.inj h1
      obtain rfl := Option.some.inj h2
      exact MA.single ((hb34.block X (Array.getElem?_eq_some_iff.1 H3.out.2).1).trans H3.out.2) hBX (hPr.below hb24) H2.out.2.2.1
  have hn00 : ((n : Int) == 0) = false := by rw [beq_eq_false_iff_ne]; omega
  go_upto_region 7 with fail
  obtain ⟨W3, hW3⟩ : ∃ W, W = w2.alloc (.cells (madeCells #[.slice none 0 0] n) 76) := ⟨_, rfl⟩
  have hb23 : Below w2.heap.size w2 W3 := by rw [hW3]; exact (Below.refl _ _).alloc (Nat.le_refl _) _
  have hw3 := H2.out.2.1.trans (hb23.mono H2.out.2.1.size)
  have own3 : W3.ownsRow w2.heap.size 76 1 (.slice (some ⟨w2.heap.size, 0, none⟩) 0 n) 0 [] := ⟨rfl, .inr ⟨w2.heap.size, n, _, rfl, Nat.le_refl _, by rw [hW3]; exact heap_alloc_new _ _, Nat.zero_le _, by unfold maxLen; omega, by rw [Nat.mul_one]; exact size_madeCells _ _, by simp⟩⟩
  have e1 := cB hb23 d1
  have hrow3 : MRow W3 Bi w2.heap.size (.slice (some ⟨w2.heap.size, 0, none⟩) 0 n) [] := ⟨[], rfl, own3, fun i u x h => by simp at h⟩
  rw [← hW3]
  obtain ⟨X, hX⟩ : ∃ X, X = w2.heap.size := ⟨_, rfl⟩
  rw [← hX] at hrow3 ⊢
  have H3 := Lib.hid (And.intro hrow3 (And.intro hb23 hX))
  clear own3 hrow3 hw3 hb23 hW3 hX d1
  go_wp2_with fail
  go_loopg [6, 41] n (fun gk sv iv wr => ∃ (ds rs : List Adr), ts = ds ++ rs ∧ gk = rs.length ∧ iv = .int .i64 (ds.length : Int) ∧ Hid (MRow wr Bi X sv (ds.map (· ++ [(6, id)])) ∧ Below w2.heap.size w2 wr))
  case atStart => exact ⟨[], ts, rfl, HB.out.2.1.symm, rfl, H3.out.1, H3.out.2.1⟩
  case round =>
    obtain ⟨ds, rs, hds, rfl, rfl, hI⟩ := hrel
    cases rs with
    | cons t rs =>
      have hlt : ds.length < n := by rw [← HB.out.2.1, hds]; simp
      have hl2 : decide (ds.length < n) = true := by rw [decide_eq_true_iff]; omega
      obtain ⟨ht0, htk, htl⟩ := HB.out.2.2.1 t (by rw [hds]; simp)
      obtain ⟨g, rfl⟩ : ∃ g, p = some ⟨g, 0, none⟩ := by
        rcases RowP.form HB.out.1 with ⟨_, e⟩ | ⟨g, c', e, _⟩
        · rw [hds] at e; simp at e
        · injection e with e; exact ⟨g, e⟩
      obtain ⟨u, hcu, hmu⟩ := RowP.at HB.out.1 ds.length t (by rw [hds]; simp)
      obtain ⟨g1, c1, rfl, hc1⟩ := ma_form hmu ht0
      have hw3 := H2.out.2.1
      have hwr := hw3.trans (hI.out.2.mono hw3.size)
      replace hcu := cB hwr hcu
      replace hmu : MA w Bi _ _ := hmu
      have hen := encaps Bi t (6, id) g1 t.length c1 r q a rfl htl (List.length_pos_iff.2 ht0) wr (hmu.below hwr) (H2.out.1.below hI.out.2) H2.out.2.2.1 (Nat.le_trans HB.out.2.2.2.1 hwr.size)
      obtain ⟨us, hul, huo, huP⟩ := hI.out.1
      have HU := Lib.hid (And.intro hen (And.intro hds (And.intro hul (And.intro huo (And.intro huP hwr)))))
      clear hen hds hul huo huP hmu hc1 ht0 htk htl hw3 hwr
      obtain ⟨M, hM⟩ : ∃ M, M = t.length := ⟨_, rfl⟩
      rw [← hM] at HU hcu
      clear hM
      go_wp2_with fail
      refine HU.out.1.mono ?_
      rintro e w4 ⟨v, rfl, hm4, hb4⟩
      obtain ⟨g4, c4, rfl, _⟩ := ma_form hm4 (by simp)
      have H4 := Lib.hid (And.intro hm4 (And.intro hb4 (And.intro (ownsRow_below HU.out.2.2.2.1 hb4) (HU.out.2.2.2.2.2.trans (hb4.mono HU.out.2.2.2.2.2.size)))))
      clear hm4 hb4
      obtain ⟨K, hK⟩ : ∃ K, K = (t ++ [(6, id)]).length := ⟨_, rfl⟩
      rw [← hK] at H4 ⊢
      clear hK
      go_wp2_with (at_builtin; refine wpAppN 86 76 1 _ 24 Tryz.underlying86 infoMs rfl (by decide) (by decide) rfl _ _ rfl X _ (ds.map (· ++ [(6, id)])).length us rfl H4.out.2.2.1 [.slice (some ⟨g4, 0, none⟩) K c4] rfl (fun u hu => by simp at hu; subst hu; rfl) rfl (by rw [List.length_map]; omega) (by rw [H3.out.2.2]; exact (hI.out.2.trans (H4.out.2.1.mono hI.out.2.size)).size) ?_)
      intro v' w5 ho5 hg5 _
      have H5 := Lib.hid (And.intro ho5 hg5)
      clear ho5 hg5
      go_wp2_with fail
      go_roundg rs.length
      case measure => simp
      case rel =>
        obtain ⟨ho5, hg5⟩ := H5.out
        obtain ⟨hm4, hb4, hu4, hw4⟩ := H4.out
        obtain ⟨_, hds, hul, huo, huP, hwr⟩ := HU.out
        have hK5 : Kept 76 w4 w5 := Kept.row hu4 hg5
        refine ⟨ds ++ [t], rs, by rw [hds, List.append_assoc]; rfl, rfl, by simp, ?_, ?_⟩
        · rw [List.map_append]
          have ho5' : w5.ownsRow X 76 1 v' ((ds.map (· ++ [(6, id)])).length + 1) (us ++ [.slice (some ⟨g4, 0, none⟩) K c4]) := by rw [List.length_map]; exact ho5
          exact RowP.push hul huP ho5' (fun u x hm => hK5.ma (by decide) (by decide) (by decide) (hm.below hb4)) (hK5.ma (by decide) (by decide) (by decide) hm4)
        · have hX := H3.out.2.2
          have h24 := hI.out.2.trans (hb4.mono hI.out.2.size)
          exact grown_below h24 (by rw [hX] at hu4; exact hu4) hg5 h24.size
    | nil =>
      have hlt : ds.length = n := by rw [← HB.out.2.1, hds, List.append_nil]
      have hl2 : decide (ds.length < n) = false := by rw [decide_eq_false_iff_not, hlt]; omega
      have HD := Lib.hid (show ts = ds by rw [hds, List.append_nil])
      clear hds hlt
      go_wp2_with fail
      go_ret2
      refine ⟨_, rfl, ?_, H2.out.2.1.trans (hI.out.2.mono H2.out.2.1.size)⟩
      have h := hI.out.1.mono (Nat.le_refl _) (show w.heap.size ≤ X by rw [H3.out.2.2]; exact H2.out.2.1.size)
      rw [← HD.out] at h
      unfold fullOf
      have hne : ¬ (id, ts).2 = [] := fun e => hn0 (by rw [← HB.out.2.1, show ts = [] from e]; rfl)
      rw [if_neg hne]
      exact h
end Go.Proofs.YtapkmoakbfpkeaaGreatDoor
namespace Go.Proofs.YtapkmoakbfpkeaaGreatDoor
open Go Go.RowKit Go.Proofs Go.Sort
theorem full_adr (id : List Int) (hv : ValOk 6 id) (hu : U8 id) (ts : List Adr) (hts : ∀ hs ∈ ts, AdrOk hs) (hl : ∀ hs ∈ ts, hs.length ≤ 900) : ∀ hs ∈ fullOf (id, ts), AdrOk hs := fun hs hh => by
  have h6 : HopOk (6, id) := ⟨by show 6 < 8; omega, hv, hu⟩
  unfold fullOf at hh
  split at hh
  · rw [List.mem_singleton] at hh
    subst hh
    exact ⟨by simp, fun x hx => by rw [List.mem_singleton] at hx; rw [hx]; exact h6, by simp⟩
  · obtain ⟨t, ht, rfl⟩ := List.mem_map.1 hh
    obtain ⟨h1, h2, h3⟩ := hts t ht
    refine ⟨by simp, fun x hx => ?_, by have := hl t ht; simp; omega⟩
    rcases List.mem_append.1 hx with hx | hx
    · exact h2 x hx
    · rw [List.mem_singleton] at hx; rw [hx]; exact h6
theorem full_len (x : List Int × List Adr) : (fullOf x).length = max 1 x.2.length := by
  unfold fullOf
  by_cases h : x.2 = []
  · rw [if_pos h, h]; rfl
  · rw [if_neg h, List.length_map]
    have := List.length_pos_iff.2 h
    omega
set_option maxHeartbeats 4000000 in
set_option maxRecDepth 100000 in
theorem addrBytes (id : List Int) (hv : ValOk 6 id) (hu : U8 id) (ts : List Adr) (g1 o1 m c1 : Nat) (hm : id.length = m) (p : Option Addr) (n c : Nat) (hn : ts.length = n) (hn1 : n ≤ 1000) (hts : ∀ hs ∈ ts, AdrOk hs) (htl : ∀ hs ∈ ts, hs.length ≤ 900) (w : World) (hid : Bs w g1 o1 id) (hin : ListIn w p ts) (hT : Tab w) :
    Calls Tryz.prog 36 #[.agg #[.slice (some ⟨g1, o1, none⟩) m c1, .slice p n c]] w fun e w' => ∃ v, e = .returned (.tuple #[v, .bool true]) ∧ BRow w' w.heap.size v (fullOf (id, ts)) ∧ Below w.heap.size w w' := by
  have hb1 : Below w.heap.size w (w.alloc (.cells #[.slice (some ⟨g1, o1, none⟩) m c1, .slice p n c] 32)) := (Below.refl _ _).alloc (Nat.le_refl _) _
  have hio := infoOf id ts g1 o1 m c1 hm p n c hn hn1 hts _ (hid.below hb1) (hin.below hb1) (hT.below hb1)
  have hok := full_adr id hv hu ts hts htl
  have hfl : (fullOf (id, ts)).length ≤ 1001 := by rw [full_len]; show max 1 ts.length ≤ 1001; omega
  have HB := Lib.hid (And.intro hio (And.intro hn (And.intro hts (And.intro hT (And.intro hv (And.intro hu (And.intro hb1 (And.intro hok hfl))))))))
  obtain ⟨S, hS⟩ : ∃ S, S = strOfNums id := ⟨_, rfl⟩
  obtain ⟨L, hL⟩ : ∃ L, L = fullOf (id, ts) := ⟨_, rfl⟩
  have HS := Lib.hid (And.intro hS hL)
  rw [← hL]
  clear hn hts hid hin hT hv hu hio hb1 hS hm htl hL hok hfl
  go_enter Tryz.func36, Tryz.ntmps36
  go_wp2_with fail
  refine HB.out.1.mono ?_
  rintro e w1 ⟨p2, c2, rfl, hr, hB1⟩
  rw [← HS.out.1]
  have hw1 := HB.out.2.2.2.2.2.2.1.trans (hB1.mono (by simp))
  have H1 := Lib.hid (And.intro hr hw1)
  clear hr hw1 hB1
  go_wp2_with fail
  obtain ⟨W2, hW2⟩ : ∃ W, W = w1.alloc (.cells #[.string S, .slice p2 n c2] 88) := ⟨_, rfl⟩
  have hb12 : Below w1.heap.size w1 W2 := by rw [hW2]; exact (Below.refl _ _).alloc (Nat.le_refl _) _
  have hP2 : W2.heap[w1.heap.size]? = some (.cells #[.string (strOfNums id), .slice p2 n c2] 88 (0, 0)) := by rw [hW2, ← HS.out.1]; exact heap_alloc_new _ _
  have hw2 := H1.out.2.trans (hb12.mono H1.out.2.size)
  have hr2 : MRow W2 w.heap.size w.heap.size (.slice p2 n c2) ts := (MRow.below H1.out.1 hb12).mono (by simp) (by simp)
  have hta := toAddrs w.heap.size w.heap.size id HB.out.2.2.2.2.1 HB.out.2.2.2.2.2.1 ts w1.heap.size p2 n c2 HB.out.2.1 hn1 HB.out.2.2.1 W2 hP2 hr2 hw2.size (HB.out.2.2.2.1.below hw2)
  rw [← HS.out.2] at hta
  have H2 := Lib.hid (And.intro hta hw2)
  rw [← hW2]
  clear hW2 hb12 hP2 hw2 hr2 hta
  refine H2.out.1.mono ?_
  rintro e w3 ⟨v3, rfl, hr3, hb3⟩
  obtain ⟨p3, c3, rfl, _⟩ := RowP.slice hr3
  have hw3 := H2.out.2.trans (hb3.mono H2.out.2.size)
  obtain ⟨N, hN⟩ : ∃ N, N = L.length := ⟨_, rfl⟩
  rw [← hN] at hr3 ⊢
  have hok := HB.out.2.2.2.2.2.2.2.1
  have hfl := HB.out.2.2.2.2.2.2.2.2
  rw [← HS.out.2] at hok hfl
  have hN1 : N ≤ 1001 := by rw [hN]; exact hfl
  have H3 := Lib.hid (And.intro hr3 (And.intro hw3 (And.intro hok hN)))
  clear hr3 hb3 hw3 hN hok hfl
  go_wp2_with fail
  go_loopg [7, 20] N (fun gk sv iv wr => ∃ (ds rs : List Adr), L = ds ++ rs ∧ gk = rs.length ∧ iv = .int .i64 (ds.length : Int) ∧ Hid (BRow wr w3.heap.size sv ds ∧ Below w3.heap.size w3 wr))
  case atStart => exact ⟨[], L, rfl, H3.out.2.2.2, rfl, RowP.nil _ _ _ _, Below.refl _ _⟩
  case round =>
    obtain ⟨ds, rs, hds, rfl, rfl, hI⟩ := hrel
    cases rs with
    | cons r rs =>
      have hlt : ds.length < N := by rw [H3.out.2.2.2, hds]; simp
      have hl2 : decide (ds.length < N) = true := by rw [decide_eq_true_iff]; omega
      obtain ⟨hr0, hrk, hrl⟩ := H3.out.2.2.1 r (by rw [hds]; simp)
      obtain ⟨g, rfl⟩ : ∃ g, p3 = some ⟨g, 0, none⟩ := by
        rcases RowP.form H3.out.1 with ⟨_, e⟩ | ⟨g, c', e, _⟩
        · rw [hds] at e; simp at e
        · injection e with e; exact ⟨g, e⟩
      obtain ⟨u, hcu, hmu⟩ := RowP.at H3.out.1 ds.length r (by rw [hds]; simp)
      obtain ⟨g4, c4, rfl, hc4⟩ := ma_form hmu hr0
      replace hcu := cB hI.out.2 hcu
      replace hmu : MA w3 w.heap.size _ _ := hmu
      have hLN : (addrB r).length ≤ 123000 := by have := addrB_le r hrk; omega
      have hL0 : addrB r ≠ [] := fun e => by have := addrB_pos r hrk hr0; rw [e] at this; simp at this
      have hmb := maBytes w.heap.size g4 r.length c4 wr r rfl (hmu.below hI.out.2) hrk hrl
      obtain ⟨us, hul, huo, huP⟩ := hI.out.1
      have HD := Lib.hid (And.intro hds (And.intro hmb (And.intro hul (And.intro huo (And.intro huP hL0)))))
      clear hds hmb hul huo huP hL0 hmu hr0 hrk hrl hc4
      obtain ⟨M, hM⟩ : ∃ M, M = r.length := ⟨_, rfl⟩
      rw [← hM] at hcu HD
      clear hM
      go_wp2_with fail
      refine HD.out.2.1.mono ?_
      rintro e w5 ⟨g5, c5, rfl, _, _, _, hbs5, hB5⟩
      have H5 := Lib.hid (And.intro hbs5 hB5)
      clear hbs5 hB5
      go_wp2_with fail
      refine (cloneBV g5 c5 (addrB r) HD.out.2.2.2.2.2 (by omega) w5 H5.out.1).mono ?_
      rintro e w6 ⟨g6, c6, rfl, hbv6, hB6⟩
      have hb6 := H5.out.2.trans (hB6.mono H5.out.2.size)
      have hw6 := hI.out.2.trans (hb6.mono hI.out.2.size)
      have hrw := hI.out.2
      have H6 := Lib.hid (And.intro (hbv6.mono (Nat.le_trans hrw.size H5.out.2.size)) (And.intro hb6 (And.intro (ownsRow_below HD.out.2.2.2.1 hb6) hw6)))
      clear hbv6 hB6 hb6 hw6 hrw
      obtain ⟨K, hK⟩ : ∃ K, K = (addrB r).length := ⟨_, rfl⟩
      rw [← hK] at H6 ⊢
      clear hK
      go_wp2_with (at_builtin; refine wpAppN 30 23 1 _ 24 Tryz.underlying30 infoBs rfl (by decide) (by decide) rfl _ _ rfl w3.heap.size _ ds.length us rfl H6.out.2.2.1 [.slice (some ⟨g6, 0, none⟩) K c6] rfl (fun u hu => by simp at hu; subst hu; rfl) rfl (by omega) H6.out.2.2.2.size ?_)
      intro v' w7 ho7 hg7 _
      have H7 := Lib.hid (And.intro ho7 hg7)
      clear ho7 hg7
      go_wp2_with fail
      go_roundg rs.length
      case measure => simp
      case rel =>
        obtain ⟨ho7, hg7⟩ := H7.out
        obtain ⟨hbv6, hb6, hu6, hw6⟩ := H6.out
        obtain ⟨hds, _, hul, huo, huP, _⟩ := HD.out
        have hK7 : Kept 23 w6 w7 := Kept.row hu6 hg7
        refine ⟨ds ++ [r], rs, by rw [hds, List.append_assoc]; rfl, rfl, by simp, ?_, ?_⟩
        · exact RowP.push hul huP ho7 (fun u x hm => hK7.bv (by decide) (hm.below hb6)) (hK7.bv (by decide) hbv6)
        · exact grown_below hw6 hu6 hg7 hw6.size
    | nil =>
      have hlt : ds.length = N := by rw [H3.out.2.2.2, hds, List.append_nil]
      have hl2 : decide (ds.length < N) = false := by rw [decide_eq_false_iff_not, hlt]; omega
      have HD := Lib.hid (show L = ds by rw [hds, List.append_nil])
      clear hds hlt
      go_wp2_with fail
      go_ret2
      refine ⟨_, rfl, ?_, H3.out.2.1.trans (hI.out.2.mono H3.out.2.1.size)⟩
      rw [HD.out]
      exact hI.out.1.mono H3.out.2.1.size
end Go.Proofs.YtapkmoakbfpkeaaGreatDoor
