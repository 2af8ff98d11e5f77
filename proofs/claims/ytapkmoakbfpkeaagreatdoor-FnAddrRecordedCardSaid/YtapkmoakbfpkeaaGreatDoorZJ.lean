/- A peer record, read: the walk. impl.RecordBytes. -/
import Derived.Test.YtapkmoakbfpkeaaGreatDoorZI
namespace Go.Proofs.YtapkmoakbfpkeaaGreatDoor
open Go Go.RowKit Go.Proofs Go.Sort
/-- Bytes of a message, in a block of bytes. -/
def U8B (w : World) (g o : Nat) (xs : List Int) : Prop := (∃ cs fr, w.heap[g]? = some (Obj.cells cs 5 fr)) ∧ Bs w g o xs
theorem U8B.below {w w' : World} {g o : Nat} {xs : List Int} (h : U8B w g o xs) (hb : Below w.heap.size w w') : U8B w' g o xs := by
  obtain ⟨⟨cs, fr, hg⟩, hbs⟩ := h
  exact ⟨⟨cs, fr, (hb.block g (Array.getElem?_eq_some_iff.1 hg).1).trans hg⟩, hbs.below hb⟩
theorem U8B.kept {T : TypeId} {w w' : World} {g o : Nat} {xs : List Int} (h : U8B w g o xs) (hk : Kept T w w') (h3 : 5 ≠ T) : U8B w' g o xs := by
  obtain ⟨⟨cs, fr, hg⟩, hbs⟩ := h
  have hg' := hk _ _ _ _ hg h3
  exact ⟨⟨cs, fr, hg'⟩, same_bs (hg'.trans hg.symm) hbs⟩
theorem AIa.kept {T : TypeId} {w w' : World} {u : Value} {a : List Int} (h : AIa w u a) (hk : Kept T w w') (h1 : 127 ≠ T) (h3 : 5 ≠ T) : AIa w' u a := by
  obtain ⟨r, v, e, hr, hb⟩ := h
  exact ⟨r, v, e, hk _ _ _ _ hr h1, hk.bv h3 hb⟩
theorem PtrRow.kept {T : TypeId} {w w' : World} {B : Nat} {v : Value} {al : List (List Int)} (h : PtrRow w B v al) (hk : Kept T w w') (h0 : 125 ≠ T) (h1 : 127 ≠ T) (h3 : 5 ≠ T) : PtrRow w' B v al :=
  RowP.moved h (fun _ ho => hk.own h0 ho) fun _ _ hm => hm.kept hk h1 h3
theorem three_set0 {w : World} {r : Nat} {a b c : Value} {T : TypeId} (h : w.heap[r]? = some (.cells #[a, b, c] T (0, 0))) (x : Value) : (w.setCell ⟨r, 0, none⟩ x).heap[r]? = some (.cells #[x, b, c] T (0, 0)) := by
  simp [World.setCell, Array.getElem?_modify, h]
theorem three_set1 {w : World} {r : Nat} {a b c : Value} {T : TypeId} (h : w.heap[r]? = some (.cells #[a, b, c] T (0, 0))) (x : Value) : (w.setCell ⟨r, 1, none⟩ x).heap[r]? = some (.cells #[a, x, c] T (0, 0)) := by
  simp [World.setCell, Array.getElem?_modify, h]
theorem three_set2 {w : World} {r : Nat} {a b c : Value} {T : TypeId} (h : w.heap[r]? = some (.cells #[a, b, c] T (0, 0))) (x : Value) : (w.setCell ⟨r, 2, none⟩ x).heap[r]? = some (.cells #[a, b, x] T (0, 0)) := by
  simp [World.setCell, Array.getElem?_modify, h]
/-- What a record has been told: its peer, number, addresses. -/
structure Rec where
  P : List Int
  S : Int
  al : List (List Int)
def Rec.step (s : Rec) : Fld → Rec
  | .peer xs => ⟨xs, s.S, s.al⟩
  | .seq X => ⟨s.P, X, s.al⟩
  | .addr a => ⟨s.P, s.S, s.al ++ [a]⟩
def recOf (F : List Fld) : Rec := F.foldl Rec.step ⟨[], 0, []⟩
theorem recOf_snoc (F : List Fld) (f : Fld) : recOf (F ++ [f]) = (recOf F).step f := by unfold recOf; rw [List.foldl_append]; rfl
theorem step_len : ∀ (F : List Fld) (s : Rec), (F.foldl Rec.step s).al.length ≤ s.al.length + F.length
  | [], s => Nat.le_refl _
  | f :: F, s => by
    have ih := step_len F (s.step f)
    have h1 : (s.step f).al.length ≤ s.al.length + 1 := by cases f <;> simp [Rec.step]
    rw [List.foldl_cons, List.length_cons]
    omega
theorem rec_len (F : List Fld) : (recOf F).al.length ≤ F.length := by
  have h := step_len F ⟨[], 0, []⟩
  simpa [recOf] using h
/-- A record lies in block X. -/
structure RSt (w : World) (X : Nat) (s : Rec) (vp va : Value) : Prop where
  at_ : w.heap[X]? = some (.cells #[vp, .int .u64 s.S, va] 124 (0, 0))
  peer : (s.P = [] ∧ vp = .slice none 0 0) ∨ BV w 0 vp s.P
  row : PtrRow w X va s.al
theorem BV.orBelow {w w' : World} {v : Value} {xs : List Int} (h : (xs = [] ∧ v = .slice none 0 0) ∨ BV w 0 v xs) (hb : Below w.heap.size w w') : (xs = [] ∧ v = .slice none 0 0) ∨ BV w' 0 v xs := h.elim .inl fun h => .inr (h.below hb)
theorem BV.orKept {T : TypeId} {w w' : World} {v : Value} {xs : List Int} (h : (xs = [] ∧ v = .slice none 0 0) ∨ BV w 0 v xs) (hk : Kept T w w') (h3 : 5 ≠ T) : (xs = [] ∧ v = .slice none 0 0) ∨ BV w' 0 v xs := h.elim .inl fun h => .inr (hk.bv h3 h)
def FldIn : Fld → Prop
  | .peer xs => xs ≠ [] ∧ xs.length ≤ 5000
  | .seq X => 0 ≤ X ∧ X < 18446744073709551616
  | .addr a => a ≠ [] ∧ a.length ≤ 5000
theorem infoPp : (Tryz.prog.info? 125).map (fun i => (i.zero, i.size, i.bytes)) = some (some (.pointer none), 1, 8) := by kernel_rfl
theorem BV.slice {w : World} {B : Nat} {v : Value} {xs : List Int} (h : BV w B v xs) : ∃ g c, v = .slice (some ⟨g, 0, none⟩) xs.length c := by
  obtain ⟨g, c, cs, e, _⟩ := h
  exact ⟨g, c, e⟩
set_option maxHeartbeats 16000000 in
set_option maxRecDepth 100000 in
theorem unmarshal (F : List Fld) (hF : ∀ f ∈ F, FldIn f) (hFl : F.length ≤ 200) (X g o N c : Nat) (hN : (encF F).length = N) (_hN0 : 0 < N) (hNc : N ≤ c) (hcm : N ≤ 9000000) (w : World)
    (hX : w.heap[X]? = some (.cells #[.slice none 0 0, .int .u64 0, .slice none 0 0] 124 (0, 0))) (hb : U8B w g o (encF F)) :
    Calls Tryz.prog 70 #[.pointer (some ⟨X, 0, none⟩), .slice (some ⟨g, o, none⟩) N c] w fun e w' => e = .returned .nilIface ∧ (∃ vp va, RSt w' X (recOf F) vp va) ∧ Below X w w' := by
  obtain ⟨⟨x0, x1, x2⟩, f0, f1, f2⟩ := three_cells hX
  have HB := Lib.hid (And.intro hX (And.intro hb (And.intro hF hN)))
  clear hX hb hF hN
  go_enter Tryz.func70, Tryz.ntmps70
  go_wp2_with fail
  go_upto_region 2 with fail

  obtain ⟨W1, hW1⟩ : ∃ W, W = ((w.setCell ⟨X, 0, none⟩ (.slice none 0 0)).setCell ⟨X, 1, none⟩ (.int .u64 0)).setCell ⟨X, 2, none⟩ (.slice none 0 0) := ⟨_, rfl⟩
  have hX0 := HB.out.1
  have hXa : (w.setCell ⟨X, 0, none⟩ (.slice none 0 0)).heap[X]? = some (.cells #[.slice none 0 0, .int .u64 0, .slice none 0 0] 124 (0, 0)) := by simp [World.setCell, Array.getElem?_modify, hX0]
  have hXb : ((w.setCell ⟨X, 0, none⟩ (.slice none 0 0)).setCell ⟨X, 1, none⟩ (.int .u64 0)).heap[X]? = some (.cells #[.slice none 0 0, .int .u64 0, .slice none 0 0] 124 (0, 0)) := by simp [World.setCell, Array.getElem?_modify, hX0]
  have hX1 : W1.heap[X]? = some (.cells #[.slice none 0 0, .int .u64 0, .slice none 0 0] 124 (0, 0)) := by rw [hW1]; simp [World.setCell, Array.getElem?_modify, hX0]
  have hK1 : Kept 124 w W1 := by
    rw [hW1]
    exact (Kept.setCell (p := ⟨X, 0, none⟩) hX0 _).trans ((Kept.setCell (p := ⟨X, 1, none⟩) hXa _).trans (Kept.setCell (p := ⟨X, 2, none⟩) hXb _))
  have hB1 : Below X w W1 := by
    rw [hW1]
    exact (((Below.refl X w).setCell (Nat.le_refl _) _).setCell (Nat.le_refl _) _).setCell (Nat.le_refl _) _
  have H1 := Lib.hid (And.intro hX1 (And.intro (HB.out.2.1.kept hK1 (by decide)) hB1))
  rw [← hW1]
  clear hW1 hX0 hXa hXb hX1 hK1 hB1 x0 x1 x2 f0 f1 f2
  go_loopg [1] F.length (fun gk bv wr => ∃ (ds rs : List Fld) (p : Addr) (n' c' : Nat), F = ds ++ rs ∧ gk = rs.length ∧ bv = .slice (some p) n' c' ∧ n' = (encF rs).length ∧ n' ≤ c' ∧ n' ≤ 9000000 ∧ (0 < n' → p = ⟨g, o + (encF ds).length, none⟩) ∧ Hid ((∃ vp va, RSt wr X (recOf ds) vp va) ∧ U8B wr g o (encF F) ∧ Below X w wr))
  case atStart => exact ⟨[], F, ⟨g, o, none⟩, N, c, rfl, rfl, rfl, HB.out.2.2.2.symm, hNc, hcm, fun _ => by simp [encF], ⟨_, _, H1.out.1, .inl ⟨rfl, rfl⟩, RowP.nil _ _ _ _⟩, H1.out.2.1, H1.out.2.2⟩
  case round =>
    obtain ⟨ds, rs, p, n', c', hds, rfl, rfl, hn', hnc', hcm', hp, hI⟩ := hrel
    cases rs with
    | nil =>
      obtain rfl : n' = 0 := by simpa [encF] using hn'
      have HD := Lib.hid (show F = ds by rw [hds, List.append_nil])
      clear hn' hp hds
      go_wp2_with fail
      go_ret
      refine ⟨rfl, ?_, hI.out.2.2⟩
      rw [HD.out]
      exact hI.out.1
    | cons f rs =>
      rw [encF_cons, List.length_append] at hn'
      have hf := HB.out.2.2.1 f (by rw [hds]; simp)
      have hbs : Bs wr g (o + (encF ds).length) (f.enc ++ encF rs) := by
        have h := hI.out.2.1.2
        rw [hds, encF_app, encF_cons] at h
        exact h.right
      obtain ⟨O, hO⟩ : ∃ O, O = o + (encF ds).length := ⟨_, rfl⟩
      rw [← hO] at hbs hp
      obtain ⟨R, hR⟩ : ∃ R, R = (encF rs).length := ⟨_, rfl⟩
      rw [← hR] at hn'
      obtain ⟨⟨vp, va, hst⟩, hU, hBw⟩ := hI.out
      obtain ⟨⟨x0, x1, x2⟩, f0, f1, f2⟩ := three_cells hst.at_
      have hXl : X < wr.heap.size := (Array.getElem?_eq_some_iff.1 hst.at_).1
      cases f with
      | peer xs =>
        obtain ⟨hx0, hxl⟩ := hf
        have hxp := List.length_pos_iff.2 hx0
        have hul := uv_len (xs.length : Int)
        have hel : (Fld.peer xs).enc.length = 1 + ((uv (xs.length : Int)).length + xs.length) := by show (10 :: (uv (xs.length : Int) ++ xs)).length = _; rw [List.length_cons, List.length_append]; omega
        rw [hel] at hn'
        obtain rfl := hp (by omega)
        have hbs1 : Bs wr g O (10 :: (uv (xs.length : Int) ++ (xs ++ encF rs))) := by
          have h := hbs
          rw [show (Fld.peer xs).enc ++ encF rs = 10 :: (uv (xs.length : Int) ++ (xs ++ encF rs)) by simp [Fld.enc]] at h
          exact h
        have hbs2 : Bs wr g (O + 1) (uv (xs.length : Int) ++ (xs ++ encF rs)) := Bs.right (xs := [10]) hbs1
        have hct := consTag 1 2 10 (.inl ⟨rfl, rfl, rfl⟩) (uv (xs.length : Int) ++ (xs ++ encF rs)) g O n' c' wr (by omega) hbs1
        have hcb := consBytes xs (encF rs) xs.length g (O + 1) (n' - 1) (c' - 1) wr rfl hxp (by omega) (by omega) (by omega) (by omega) hbs2
        have hbv := hbs2.right.left
        obtain ⟨m, hm⟩ : ∃ m, m = xs.length := ⟨_, rfl⟩
        rw [← hm] at hn' hcb hbv hul hxp hxl hel
        obtain ⟨k, hk⟩ : ∃ k, k = (uv (m : Int)).length := ⟨_, rfl⟩
        rw [← hk] at hn' hcb hbv hul hel
        have HD := Lib.hid (And.intro hds (show (encF rs).length = R from hR.symm))
        have HC := Lib.hid (And.intro hct (And.intro hcb (And.intro hbv (And.intro hm (And.intro hst (And.intro hU (And.intro hBw (And.intro hO hXl))))))))
        have HE := Lib.hid (And.intro hel hn')
        have c1 : (1 : Int) ≤ (n' : Int) := by omega
        have c2 : ¬ 1 = c' := by omega
        have c3 : 1 < c' := by omega
        have c0 : decide (0 < (n' : Int)) = true := by rw [decide_eq_true_iff]; omega
        have c4 : decide (((k : Int) + m) < 0) = false := by rw [decide_eq_false_iff_not]; omega
        have c5 : (0 : Int) ≤ (k : Int) + m := by omega
        have c6 : (k : Int) + m ≤ ((n' - 1 : Nat) : Int) := by omega
        have c7 : (k : Int) + m ≤ (c' : Int) - 1 := by omega
        have hm9 : m ≤ 900000 := by omega
        clear hds hct hcb hbv hbs hbs1 hbs2 hst hU hBw hk hm hel hR hO hx0 hp hn'
        go_wp2_with fail
        refine HC.out.1.mono ?_
        rintro e w' ⟨rfl, rfl⟩
        go_wp2_with fail
        refine HC.out.2.1.mono ?_
        rintro e w' ⟨rfl, rfl⟩
        go_wp2_with (at_builtin; refine wpAppAt rfl _ _ rfl wr.heap.size _ 0 [] rfl (own_empty8 wr) ⟨g, O + 1 + k, none⟩ m (c' - 1 - k) xs rfl HC.out.2.2.2.1.symm (fun i hi => by rw [Lib.add_plain]; exact cB ((Below.refl wr.heap.size wr).alloc (Nat.le_refl _) _) (HC.out.2.2.1 i (by rw [← HC.out.2.2.2.1]; exact hi))) (by omega) (by simp) ?_)
        intro v1 w1 ho1 hg1 hf1
        obtain ⟨hds, hRe⟩ := HD.out
        obtain ⟨_, _, _, hm, hst, hU, hBw, hO, hXl⟩ := HC.out
        have hr1 : w1.heap[X]? = some (.cells #[vp, .int .u64 (recOf ds).S, va] 124 (0, 0)) := (hg1.block X (by simp; omega) (fun e => by have h1 : X = wr.heap.size := (by simpa [Value.ownBlock] using e); omega)).trans ((Below.heap_alloc wr _ X hXl).trans hst.at_)
        have hb01 : Below wr.heap.size wr w1 := ((Below.refl wr.heap.size wr).alloc (Nat.le_refl _) _).grown hg1 (by simp) (fun k hk => by have h1 : wr.heap.size = k := (by simpa [Value.ownBlock] using hk); omega)
        replace ho1 : w1.ownsRow wr.heap.size 5 1 v1 xs.length (xs.map (Value.int .u8)) := by rw [← hm]; simpa using ho1
        have hbv1 : BV w1 wr.heap.size v1 xs := BV.own ho1 (fun e => by rw [e] at hm; simp at hm; omega)
        obtain ⟨⟨s0, _⟩, sf, _⟩ := three_cells hr1
        obtain ⟨g1, c1', e1⟩ := hbv1.slice
        subst e1
        rw [← hm] at hbv1 ⊢
        have H2 := Lib.hid (And.intro hr1 (And.intro hb01 hbv1))
        clear hr1 hb01 hbv1 ho1 hg1 hf1 hds hRe hm hst hU hBw hO hXl x0 x1 x2 f0 f1 f2
        go_wp2_with fail
        all_goals
          go_roundg rs.length
          case measure => simp
          case rel =>
            obtain ⟨hds, hRe⟩ := HD.out
            obtain ⟨_, _, _, hm, hst, hU, hBw, hO, hXl⟩ := HC.out
            obtain ⟨hel, hn'⟩ := HE.out
            obtain ⟨hr1, hb01, hbv1⟩ := H2.out
            have hlen : (encF (ds ++ [Fld.peer xs])).length = (encF ds).length + (Fld.peer xs).enc.length := by rw [encF_app, List.length_append]; simp [encF]
            have hK : Kept 124 w1 (w1.setCell ⟨X, 0, none⟩ (.slice (some ⟨g1, 0, none⟩) m c1')) := Kept.setCell (p := ⟨X, 0, none⟩) hr1 _
            refine ⟨ds ++ [Fld.peer xs], rs, _, _, _, by rw [hds, List.append_assoc]; rfl, rfl, rfl, by omega, by omega, by omega, fun hpos => (by first | omega | (rw [hlen, hel]; congr 1; omega)), ?_⟩
            rw [recOf_snoc]
            refine ⟨⟨_, _, ⟨three_set0 hr1 _, .inr ((hK.bv (by decide) hbv1).mono (Nat.zero_le _)), (hst.row.below hb01).kept hK (by decide) (by decide) (by decide)⟩⟩, (hU.below hb01).kept hK (by decide), (hBw.trans (hb01.mono (Nat.le_of_lt hXl))).setCell (Nat.le_refl _) _⟩
      | seq Z =>
        obtain ⟨hz0, hz1⟩ := hf
        have hul := uv_len Z
        have hel : (Fld.seq Z).enc.length = 1 + (uv Z).length := by show (16 :: uv Z).length = _; rw [List.length_cons]; omega
        rw [hel] at hn'
        obtain rfl := hp (by omega)
        have hbs1 : Bs wr g O (16 :: (uv Z ++ encF rs)) := by
          have h := hbs
          rw [show (Fld.seq Z).enc ++ encF rs = 16 :: (uv Z ++ encF rs) by simp [Fld.enc]] at h
          exact h
        have hbs2 : Bs wr g (O + 1) (uv Z ++ encF rs) := Bs.right (xs := [16]) hbs1
        have hct := consTag 2 0 16 (.inr (.inl ⟨rfl, rfl, rfl⟩)) (uv Z ++ encF rs) g O n' c' wr (by omega) hbs1
        have hcb := consV Z hz0 hz1 (encF rs) g (O + 1) (n' - 1) (c' - 1) wr (by omega) hbs2
        obtain ⟨k, hk⟩ : ∃ k, k = (uv Z).length := ⟨_, rfl⟩
        rw [← hk] at hn' hcb hul hel
        have HD := Lib.hid (And.intro hds (show (encF rs).length = R from hR.symm))
        have HC := Lib.hid (And.intro hct (And.intro hcb (And.intro hst (And.intro hU (And.intro hBw (And.intro hO hXl))))))
        have HE := Lib.hid (And.intro hel hn')
        have c1 : (1 : Int) ≤ (n' : Int) := by omega
        have c2 : ¬ 1 = c' := by omega
        have c3 : 1 < c' := by omega
        have c0 : decide (0 < (n' : Int)) = true := by rw [decide_eq_true_iff]; omega
        have c4 : decide ((k : Int) < 0) = false := by rw [decide_eq_false_iff_not]; omega
        have c5 : (0 : Int) ≤ (k : Int) := by omega
        have c6 : (k : Int) ≤ ((n' - 1 : Nat) : Int) := by omega
        clear hds hct hcb hbs hbs1 hbs2 hst hU hBw hk hel hR hO hp hn' hz0 hz1
        go_wp2_with fail
        refine HC.out.1.mono ?_
        rintro e w' ⟨rfl, rfl⟩
        go_wp2_with fail
        refine HC.out.2.1.mono ?_
        rintro e w' ⟨rfl, rfl⟩
        go_wp2_with fail
        all_goals
          go_roundg rs.length
          case measure => simp
          case rel =>
            obtain ⟨hds, hRe⟩ := HD.out
            obtain ⟨_, _, hst, hU, hBw, hO, hXl⟩ := HC.out
            obtain ⟨hel, hn'⟩ := HE.out
            have hlen : (encF (ds ++ [Fld.seq Z])).length = (encF ds).length + (Fld.seq Z).enc.length := by rw [encF_app, List.length_append]; simp [encF]
            have hK : Kept 124 wr (wr.setCell ⟨X, 1, none⟩ (.int .u64 Z)) := Kept.setCell (p := ⟨X, 1, none⟩) hst.at_ _
            refine ⟨ds ++ [Fld.seq Z], rs, _, _, _, by rw [hds, List.append_assoc]; rfl, rfl, rfl, by omega, by omega, by omega, fun hpos => (by first | omega | (rw [hlen, hel]; congr 1; omega)), ?_⟩
            rw [recOf_snoc]
            exact ⟨⟨_, _, ⟨three_set1 hst.at_ _, BV.orKept hst.peer hK (by decide), hst.row.kept hK (by decide) (by decide) (by decide)⟩⟩, hU.kept hK (by decide), hBw.setCell (Nat.le_refl _) _⟩
      | addr a =>
        obtain ⟨hx0, hxl⟩ := hf
        have hml := mB_len a
        have hul := uv_len ((mB a).length : Int)
        have hel : (Fld.addr a).enc.length = 1 + ((uv ((mB a).length : Int)).length + (mB a).length) := by show (26 :: (uv ((mB a).length : Int) ++ mB a)).length = _; rw [List.length_cons, List.length_append]; omega
        rw [hel] at hn'
        obtain rfl := hp (by omega)
        have hbs1 : Bs wr g O (26 :: (uv ((mB a).length : Int) ++ (mB a ++ encF rs))) := by
          have h := hbs
          rw [show (Fld.addr a).enc ++ encF rs = 26 :: (uv ((mB a).length : Int) ++ (mB a ++ encF rs)) by simp [Fld.enc]] at h
          exact h
        have hbs2 : Bs wr g (O + 1) (uv ((mB a).length : Int) ++ (mB a ++ encF rs)) := Bs.right (xs := [26]) hbs1
        have hct := consTag 3 2 26 (.inr (.inr ⟨rfl, rfl, rfl⟩)) (uv ((mB a).length : Int) ++ (mB a ++ encF rs)) g O n' c' wr (by omega) hbs1
        have hcb := consBytes (mB a) (encF rs) (mB a).length g (O + 1) (n' - 1) (c' - 1) wr rfl (by omega) (by omega) (by omega) (by omega) (by omega) hbs2
        have hbv := hbs2.right.left
        obtain ⟨m, hm⟩ : ∃ m, m = (mB a).length := ⟨_, rfl⟩
        rw [← hm] at hn' hcb hbv hul hml hel
        obtain ⟨k, hk⟩ : ∃ k, k = (uv (m : Int)).length := ⟨_, rfl⟩
        rw [← hk] at hn' hcb hbv hul hel
        have hb2 : Below wr.heap.size wr (wr.alloc (.cells #[.slice none 0 0] 127)) := (Below.refl _ _).alloc (Nat.le_refl _) _
        have hua := unmAddr a hx0 hxl wr.heap.size g (O + 1 + k) m (c' - 1 - k) hm.symm (by omega) (by omega) _ (heap_alloc_new wr _) (hbv.below hb2)
        obtain ⟨pa, ca, rfl, _⟩ := RowP.slice hst.row
        have HD := Lib.hid (And.intro hds (show (encF rs).length = R from hR.symm))
        have HC := Lib.hid (And.intro hct (And.intro hcb (And.intro hua (And.intro hm (And.intro hst (And.intro hU (And.intro hBw (And.intro hO (And.intro hXl hb2)))))))))
        have HE := Lib.hid (And.intro hel hn')
        have c1 : (1 : Int) ≤ (n' : Int) := by omega
        have c2 : ¬ 1 = c' := by omega
        have c3 : 1 < c' := by omega
        have c0 : decide (0 < (n' : Int)) = true := by rw [decide_eq_true_iff]; omega
        have c4 : decide (((k : Int) + m) < 0) = false := by rw [decide_eq_false_iff_not]; omega
        have c5 : (0 : Int) ≤ (k : Int) + m := by omega
        have c6 : (k : Int) + m ≤ ((n' - 1 : Nat) : Int) := by omega
        obtain ⟨q, hq⟩ : ∃ q, q = (recOf ds).al.length := ⟨_, rfl⟩
        have HQ := Lib.hid hq
        have hq9 : q ≤ 900000 := by have h1 := rec_len ds; have h2 := congrArg List.length hds; rw [List.length_append] at h2; omega
        rw [← hq] at x2
        clear hds hct hcb hbv hbs hbs1 hbs2 hst hU hBw hk hm hel hR hO hx0 hp hn' hua hb2 hq
        go_wp2_with fail
        refine HC.out.1.mono ?_
        rintro e w' ⟨rfl, rfl⟩
        go_wp2_with fail
        refine HC.out.2.1.mono ?_
        rintro e w' ⟨rfl, rfl⟩
        go_wp2_with fail
        refine HC.out.2.2.1.mono ?_
        rintro e w3 ⟨rfl, ⟨v3, hr3, hbv3⟩, hB3⟩
        obtain ⟨_, _, _, hm, hst, hU, hBw, hO, hXl, hb2⟩ := HC.out
        have hb03 : Below wr.heap.size wr w3 := hb2.trans hB3
        have y2 := cB hb03 x2
        obtain ⟨us, hul', huo, huP⟩ := hst.row
        have huo3 := ownsRow_below huo hb03
        rw [← HQ.out] at huo3
        have hX3 := (hb03.block X hXl).trans hst.at_
        have H3 := Lib.hid (And.intro hr3 (And.intro hbv3 (And.intro hb03 (And.intro hul' (And.intro huo3 (And.intro huP hX3))))))
        clear hr3 hbv3 hb03 hul' huo huo3 huP hX3 hm hst hU hBw hO hb2 hB3 x0 x1 x2 f0 f1 f2
        go_wp2_with (at_builtin; refine wpAppN 122 125 1 _ 8 Tryz.underlying122 infoPp rfl (by decide) (by decide) rfl _ _ rfl X _ q us rfl H3.out.2.2.2.2.1 [.pointer (some ⟨wr.heap.size, 0, none⟩)] rfl (fun u hu => by simp at hu; subst hu; rfl) rfl (by omega) (Nat.le_trans (Nat.le_of_lt hXl) H3.out.2.2.1.size) ?_)
        intro v4 w4 ho4 hg4 _
        obtain ⟨p4, c4', rfl⟩ : ∃ p c, v4 = .slice p (q + 1) c := by
          rcases ho4.2 with ⟨_, h0⟩ | ⟨g7, c7, _, e, _⟩
          · omega
          · exact ⟨_, c7, e⟩
        have hK4 : Kept 125 w3 w4 := Kept.row H3.out.2.2.2.2.1 hg4
        have hX4 := hK4 _ _ _ _ H3.out.2.2.2.2.2.2 (by decide)
        obtain ⟨⟨_, _, s2⟩, _, _, sf2⟩ := three_cells hX4
        have H4 := Lib.hid (And.intro ho4 (And.intro hg4 (And.intro hK4 hX4)))
        clear ho4 hg4 hK4 hX4 y2
        go_wp2_with fail
        all_goals
          go_roundg rs.length
          case measure => simp
          case rel =>
            obtain ⟨hds, hRe⟩ := HD.out
            obtain ⟨_, _, _, hm, hst, hU, hBw, hO, hXl, hb2⟩ := HC.out
            obtain ⟨hel, hn'⟩ := HE.out
            obtain ⟨hr3, hbv3, hb03, hul', huo3, huP, hX3⟩ := H3.out
            obtain ⟨ho4, hg4, hK4, hX4⟩ := H4.out
            have hlen : (encF (ds ++ [Fld.addr a])).length = (encF ds).length + (Fld.addr a).enc.length := by rw [encF_app, List.length_append]; simp [encF]
            have hK : Kept 124 w4 (w4.setCell ⟨X, 2, none⟩ (.slice p4 (q + 1) c4')) := Kept.setCell (p := ⟨X, 2, none⟩) hX4 _
            have hrow : PtrRow w4 X (.slice p4 (q + 1) c4') ((recOf ds).al ++ [a]) := RowP.push hul' (fun i u x h1 h2 => (huP i u x h1 h2).below hb03) (by rw [← HQ.out]; exact ho4) (fun u x h => h.kept hK4 (by decide) (by decide)) ⟨wr.heap.size, v3, rfl, hK4 _ _ _ _ hr3 (by decide), hK4.bv (by decide) hbv3⟩
            have hb34 : Below X w w4 := grown_below (hBw.trans (hb03.mono (Nat.le_of_lt hXl))) huo3 hg4 (Nat.le_trans (Nat.le_of_lt hXl) hb03.size)
            refine ⟨ds ++ [Fld.addr a], rs, _, _, _, by rw [hds, List.append_assoc]; rfl, rfl, rfl, by omega, by omega, by omega, fun hpos => (by first | omega | (rw [hlen, hel]; congr 1; omega)), ?_⟩
            rw [recOf_snoc]
            exact ⟨⟨_, _, ⟨three_set2 hX4 _, BV.orKept (BV.orKept (BV.orBelow hst.peer hb03) hK4 (by decide)) hK (by decide), hrow.kept hK (by decide) (by decide) (by decide)⟩⟩, ((hU.below hb03).kept hK4 (by decide)).kept hK (by decide), hb34.setCell (Nat.le_refl _) _⟩
end Go.Proofs.YtapkmoakbfpkeaaGreatDoor
namespace Go.Proofs.YtapkmoakbfpkeaaGreatDoor
open Go Go.RowKit Go.Proofs Go.Sort
/-- append of one one-cell element onto a row of the call's own, at a step of a region that draws its order. -/
theorem stepApp1 (S T : TypeId) (z : Value) (byt : Nat) (hS : Tryz.prog.underlying S = some (.slice T)) (hinf : (Tryz.prog.info? T).map (fun i => (i.zero, i.size, i.bytes)) = some (some z, 1, byt)) (hzs : z.cells.size = 1) (hby : byt ≤ 100)
    {ops : Array Oper} {o : Oper} {a : Act} {w : World} {K : Act → World → Prop} {Q : Exit → Act → World → Prop} {E : Prop} (hgd : o.guard = none) (d : Nat) (hd : o.dst = some d) (s x : Operand)
    (ho : o.op = .call { callee := .builtin .append, args := #[s, x], argTypes := #[S, S] }) (base : Nat) (v : Value) (n : Nat) (us : List Value) (hs : a.eval s = v) (hown : w.ownsRow base T 1 v n us)
    (g c : Nat) (u : Value) (hu : u.oneCell' = true) (hx : a.eval x = .slice (some ⟨g, 0, none⟩) 1 c) (hb : w.cell? ⟨g, 0, none⟩ = some u) (hN : n ≤ 1000000) (hbase : base ≤ w.heap.size)
    (h : ∀ v' w', w'.ownsRow base T 1 v' (n + 1) (us ++ [u]) → w.grownBy w' v.ownBlock → K (a.put (some d) v') w') : if Region.wanted o (yielded ops a.tmps) = true then Oper.wp Tryz.prog o a w K Q else E := by
  have hw : Region.wanted o (yielded ops a.tmps) = true := by simp [Region.wanted, hgd]
  rw [if_pos hw]
  obtain ⟨i0, hi, hz0, hz1, hz2⟩ := info_parts hinf
  refine wp_append_own w s x S ho base T i0 z 1 byt hS hi hz0 hz1 hz2 hzs (by decide) v n us hs hown ⟨g, 0, none⟩ 1 c [u] hx rfl (fun j u' hj => ?_) (fun u' hu' => by simp at hu'; subst hu'; exact hu) (by unfold maxLen; omega) (Nat.le_trans (Nat.mul_le_mul_left _ hby) (by omega)) hbase (fun v' w' q1 q2 _ => by rw [hd]; exact h v' w' q1 q2)
  match j, hj with
  | 0, hj =>
    rw [Lib.add_plain, Nat.zero_add, hb]
    exact hj
theorem cloneAt (gb ob cb : Nat) (xs : List Int) (h0 : xs ≠ []) (hm : xs.length ≤ 1000000) (w : World) (hb : Bs w gb ob xs) : Calls Tryz.prog 21 #[.slice (some ⟨gb, ob, none⟩) xs.length cb] w fun e w' => ∃ g c, e = .returned (.slice (some ⟨g, 0, none⟩) xs.length c) ∧ BV w' w.heap.size (.slice (some ⟨g, 0, none⟩) xs.length c) xs ∧ Below w.heap.size w w' := by
  refine (Tryz.bytes_Clone_at ⟨gb, ob, none⟩ xs.length cb xs w rfl (by omega) (fun i hi => by rw [Lib.add_plain]; exact hb i hi)).mono ?_
  rintro e w' ⟨v, rfl, hown, _, hB⟩
  have hbv := BV.own hown h0
  obtain ⟨g, c, cs, rfl, hr⟩ := id hbv
  exact ⟨g, c, rfl, hbv, hB⟩
set_option maxHeartbeats 8000000 in
set_option maxRecDepth 100000 in
theorem recordBytes (id : List Int) (S : Int) (hid0 : id ≠ []) (hidl : id.length ≤ 1000) (hS0 : 0 ≤ S) (hS1 : S < 18446744073709551616) (ts : List Adr) (g1 m c1 : Nat) (hm : id.length = m) (p : Option Addr) (n c : Nat) (hn : ts.length = n) (hn1 : n ≤ 100) (hts : ∀ hs ∈ ts, AdrOk hs) (htl : ∀ hs ∈ ts, hs.length ≤ 40) (w : World) (hid : Bs w g1 0 id) (hin : ListIn w p ts) :
    Calls Tryz.prog 39 #[.agg #[.slice (some ⟨g1, 0, none⟩) m c1, .int .u64 S, .slice p n c]] w fun e w' => ∃ v, e = .returned (.tuple #[v, .bool true]) ∧ BRw w w' v (encF (recF id S (ts.map addrB))) := by
  obtain ⟨W1, hW1⟩ : ∃ W, W = w.alloc (.cells #[.slice (some ⟨g1, 0, none⟩) m c1, .int .u64 S, .slice p n c] 70) := ⟨_, rfl⟩
  have hb1 : Below w.heap.size w W1 := by rw [hW1]; exact (Below.refl _ _).alloc (Nat.le_refl _) _
  have hX1 : W1.heap[w.heap.size]? = some (.cells #[.slice (some ⟨g1, 0, none⟩) m c1, .int .u64 S, .slice p n c] 70 (0, 0)) := by rw [hW1]; exact heap_alloc_new _ _
  obtain ⟨⟨x0, x1, x2⟩, _⟩ := three_cells hX1
  have hid1 := hid.below hb1
  have hcl : ∀ wz, Below W1.heap.size W1 wz → Calls Tryz.prog 21 #[.slice (some ⟨g1, 0, none⟩) m c1] wz fun e w' => ∃ g c, e = .returned (.slice (some ⟨g, 0, none⟩) m c) ∧ BV w' 0 (.slice (some ⟨g, 0, none⟩) m c) id ∧ Below W1.heap.size W1 w' := fun wz hz => by
    have h := cloneBV g1 c1 id hid0 (by omega) wz (hid1.below hz)
    rw [hm] at h
    exact h.mono fun e w' ⟨g, c, h1, h2, h3⟩ => ⟨g, c, h1, h2.mono (Nat.zero_le _), hz.trans (h3.mono hz.size)⟩
  have HCL := Lib.hid hcl
  clear hcl
  have HB := Lib.hid (And.intro hb1 (And.intro hid1 (And.intro hn (And.intro hts (And.intro htl (And.intro (hin.below hb1) (And.intro hm hX1)))))))
  clear hb1 hX1 hid hid1 hn hts htl hin hm
  go_enter Tryz.func39, Tryz.ntmps39
  go_upto_region 1 with fail
  rw [← hW1]
  obtain ⟨Y, hY⟩ : ∃ Y, Y = w.heap.size := ⟨_, rfl⟩
  rw [← hY] at x0 x1 x2 ⊢
  have HY := Lib.hid hY
  clear hW1 hY
  go_cut [4] (fun t4 wx => ∃ P, t4 = .pointer (some ⟨P, 0, none⟩) ∧ Hid ((∃ gp cp, wx.heap[P]? = some (.cells #[.slice (some ⟨gp, 0, none⟩) m cp, .int .u64 S, .slice none 0 0] 124 (0, 0)) ∧ BV wx 0 (.slice (some ⟨gp, 0, none⟩) m cp) id) ∧ Below W1.heap.size W1 wx ∧ W1.heap.size ≤ P))
  case first =>
    go_region_law (try go_simp; go_at_call 21; (first | refine (HCL.out W1.drew (Below.refl _ _).drew).mono ?_ | refine (HCL.out W1 (Below.refl _ _)).mono ?_); rintro e w6 ⟨g6, c6, rfl, hbv6, hB6⟩; have y1 := cB hB6 x1)
    all_goals
      go_wp2_with fail
      go_meet
      case rel =>
        have hb2 : Below w6.heap.size w6 (w6.alloc (.cells #[.slice (some ⟨g6, 0, none⟩) m c6, .int .u64 S, .slice none 0 0] 124)) := (Below.refl _ _).alloc (Nat.le_refl _) _
        refine ⟨_, rfl, ⟨g6, c6, heap_alloc_new w6 _, hbv6.below (w' := w6.alloc (.cells #[.slice (some ⟨g6, 0, none⟩) m c6, .int .u64 S, .slice none 0 0] 124)) hb2⟩, ?_, hB6.size⟩
        first | exact hB6.trans (hb2.mono hB6.size) | exact (hB6.trans (hb2.mono hB6.size)).drew
  case rest =>
    obtain ⟨P, rfl, hI⟩ := hcut
    obtain ⟨⟨gp, cp, hP0, hbv0⟩, hBW, hWP⟩ := hI.out
    have y2 := cB hBW x2
    have HI := Lib.hid (And.intro hP0 (And.intro hbv0 (And.intro hBW hWP)))
    clear hP0 hbv0 hBW hWP hI x0 x1 x2
    go_wp2_with fail
    go_loopg [19] n (fun gk iv wr => ∃ (ds rs : List Adr), ts = ds ++ rs ∧ gk = rs.length ∧ iv = .int .i64 (ds.length : Int) ∧ Hid ((∃ p2 c2, wr.heap[P]? = some (.cells #[.slice (some ⟨gp, 0, none⟩) m cp, .int .u64 S, .slice p2 ds.length c2] 124 (0, 0)) ∧ PtrRow wr P (.slice p2 ds.length c2) (ds.map addrB)) ∧ BV wr 0 (.slice (some ⟨gp, 0, none⟩) m cp) id ∧ Below P wc wr))
    case atStart => exact ⟨[], ts, rfl, HB.out.2.2.1.symm, rfl, ⟨none, 0, HI.out.1, RowP.nil _ _ _ _⟩, HI.out.2.1, Below.refl _ _⟩
    case round =>
      obtain ⟨ds, rs, hds, rfl, rfl, hI⟩ := hrel
      obtain ⟨⟨p2, c2, hcP, hrow⟩, hbp, hBP⟩ := hI.out
      have hWP := HI.out.2.2.2
      have hBw : Below W1.heap.size W1 wr := HI.out.2.2.1.trans (hBP.mono (Nat.le_trans (Nat.le_refl _) hWP))
      have hPz : P < wr.heap.size := (Array.getElem?_eq_some_iff.1 hcP).1
      obtain ⟨⟨_, _, d2⟩, _, _, z2⟩ := three_cells hcP
      cases rs with
      | cons r rs =>
        have hlt : ds.length < n := by rw [← HB.out.2.2.1, hds]; simp
        have hl2 : decide (ds.length < n) = true := by rw [decide_eq_true_iff]; omega
        obtain ⟨hr0, hrk, hrl⟩ := HB.out.2.2.2.1 r (by rw [hds]; simp)
        obtain ⟨g, b, o, c', rfl, hcu, hbs⟩ := HB.out.2.2.2.2.2.1 ds.length r (by rw [hds]; simp)
        replace hcu := cB hBw hcu
        have hL0 : addrB r ≠ [] := fun e => by have := addrB_pos r hrk hr0; rw [e] at this; simp at this
        have hLN : (addrB r).length ≤ 123000 := by have := addrB_le r hrk; omega
        have hcl : ∀ wz, Below wr.heap.size wr wz → Calls Tryz.prog 21 #[.slice (some ⟨b, o, none⟩) (addrB r).length c'] wz fun e w' => ∃ g c, e = .returned (.slice (some ⟨g, 0, none⟩) (addrB r).length c) ∧ BV w' 0 (.slice (some ⟨g, 0, none⟩) (addrB r).length c) (addrB r) ∧ Below wr.heap.size wr w' := fun wz hz => by
          exact (cloneAt b o c' (addrB r) hL0 (by omega) wz ((hbs.below hBw).below hz)).mono fun e w' ⟨g, c, h1, h2, h3⟩ => ⟨g, c, h1, h2.mono (Nat.zero_le _), hz.trans (h3.mono hz.size)⟩
        obtain ⟨us, hul, huo, huP⟩ := hrow
        rw [List.length_map] at huo
        have HD := Lib.hid (And.intro hds (And.intro hcl (And.intro hcP (And.intro hul (And.intro huo (And.intro huP (And.intro hbp hBP)))))))
        have HZ := Lib.hid hPz
        clear hds hcl hbs hrk hr0 hrl hcP hul huo huP hbp hBP hBw hL0
        obtain ⟨K, hK⟩ : ∃ K, K = (addrB r).length := ⟨_, rfl⟩
        rw [← hK] at HD hcu
        clear hK
        go_upto_region 5 with fail
        go_region_law (first
          | (go_simp; go_at_call 21; (first | refine (HD.out.2.1 wr.drew (Below.refl _ _).drew).mono ?_ | refine (HD.out.2.1 wr (Below.refl _ _)).mono ?_); rintro e w6 ⟨g6, c6, rfl, hbv6, hB6⟩; have d6 := cB hB6 d2; have d6a : (w6.alloc (.cells #[.slice (some ⟨g6, 0, none⟩) K c6] 127)).cell? ⟨P, 2, none⟩ = some (.slice p2 ds.length c2) := cB ((Below.refl _ _).alloc (Nat.le_refl _) _) d6; have d6b : ((w6.alloc (.cells #[.slice (some ⟨g6, 0, none⟩) K c6] 127)).alloc (.cells #[.pointer (some ⟨w6.heap.size, 0, none⟩)] 125)).cell? ⟨P, 2, none⟩ = some (.slice p2 ds.length c2) := cB ((Below.refl _ _).alloc (Nat.le_refl _) _) d6a)
          | (have hP6 := hB6.size
             have hpz := HZ.out
             have hcell : ((w6.alloc (.cells #[.slice (some ⟨g6, 0, none⟩) K c6] 127)).alloc (.cells #[.pointer (some ⟨w6.heap.size, 0, none⟩)] 125)).cell? ⟨w6.heap.size + 1, 0, none⟩ = some (.pointer (some ⟨w6.heap.size, 0, none⟩)) := by
               have h := World.cell?_alloc_mark (w6.alloc (.cells #[.slice (some ⟨g6, 0, none⟩) K c6] 127)) #[.pointer (some ⟨w6.heap.size, 0, none⟩)] 125 (0, 0) 0
               rw [World.size_alloc] at h
               exact h
             have hbase : P ≤ ((w6.alloc (.cells #[.slice (some ⟨g6, 0, none⟩) K c6] 127)).alloc (.cells #[.pointer (some ⟨w6.heap.size, 0, none⟩)] 125)).heap.size := by rw [World.size_alloc, World.size_alloc]; omega
             have hown6 : ((w6.alloc (.cells #[.slice (some ⟨g6, 0, none⟩) K c6] 127)).alloc (.cells #[.pointer (some ⟨w6.heap.size, 0, none⟩)] 125)).ownsRow P 125 1 (.slice p2 ds.length c2) ds.length us := ((ownsRow_below HD.out.2.2.2.2.1 hB6).alloc _).alloc _
             refine stepApp1 122 125 (.pointer none) 8 Tryz.underlying122 infoPp rfl (by decide) rfl 33 rfl _ _ rfl P _ ds.length us rfl hown6 (w6.heap.size + 1) 1 (.pointer (some ⟨w6.heap.size, 0, none⟩)) rfl rfl hcell (by omega) hbase ?_
             intro v7 w7 hown7 hgrow7
             obtain ⟨p7, c7, rfl⟩ : ∃ p7 c7, v7 = .slice p7 (ds.length + 1) c7 := by
               rcases hown7.2 with ⟨_, h0⟩ | ⟨g7, c7, _, e, _⟩
               · exact absurd h0 (by omega)
               · exact ⟨_, c7, e⟩
             have hK7 : Kept 125 w6 w7 := (Kept.below (((Below.refl _ _).alloc (Nat.le_refl _) _).alloc (by simp) _)).trans (Kept.row hown6 hgrow7)
             have hP7 := hK7 _ _ _ _ ((hB6.block P hpz).trans HD.out.2.2.1) (by decide)
             obtain ⟨⟨_, _, d7⟩, _, _, z7⟩ := three_cells hP7))
        all_goals
          go_wp2_with fail
          go_roundg rs.length
          case measure => simp
          case rel =>
            obtain ⟨hds, _, hcP, hul, huo, huP, hbp, hBP⟩ := HD.out
            have hpz := HZ.out
            have hK8 : Kept 124 w7 (w7.setCell ⟨P, 2, none⟩ (.slice p7 (ds.length + 1) c7)) := Kept.setCell (p := ⟨P, 2, none⟩) hP7 _
            have hb7 : Below P wr w7 := grown_below (((hB6.mono (Nat.le_of_lt hpz)).alloc (by have := hB6.size; omega) _).alloc (by have := hB6.size; simp; omega) _) hown6 hgrow7 hbase
            have hbox : ((w6.alloc (.cells #[.slice (some ⟨g6, 0, none⟩) K c6] 127)).alloc (.cells #[.pointer (some ⟨w6.heap.size, 0, none⟩)] 125)).heap[w6.heap.size]? = some (.cells #[.slice (some ⟨g6, 0, none⟩) K c6] 127 (0, 0)) := (Below.heap_alloc _ _ _ (by simp)).trans (heap_alloc_new w6 _)
            have hrow7 : PtrRow w7 P (.slice p7 (ds.length + 1) c7) (ds.map addrB ++ [addrB r]) := RowP.push (by exact hul) huP (by rw [List.length_map]; exact hown7) (fun u x h => (h.below hB6).kept hK7 (by decide) (by decide)) ⟨w6.heap.size, _, rfl, (Kept.row hown6 hgrow7) _ _ _ _ hbox (by decide), hK7.bv (by decide) hbv6⟩
            refine ⟨ds ++ [r], rs, by rw [hds, List.append_assoc]; rfl, rfl, by simp, ?_⟩
            rw [List.length_append, List.map_append]
            exact ⟨⟨p7, c7, three_set2 hP7 _, hrow7.kept hK8 (by decide) (by decide) (by decide)⟩, hK8.bv (by decide) (hK7.bv (by decide) (hbp.below hB6)), (hBP.trans hb7).setCell (Nat.le_refl _) _⟩
      | nil =>
        have hlt : ds.length = n := by rw [← HB.out.2.2.1, hds, List.append_nil]
        have hl2 : decide (ds.length < n) = false := by rw [decide_eq_false_iff_not, hlt]; omega
        obtain rfl : ts = ds := by rw [hds, List.append_nil]
        rw [hlt] at hcP hrow
        have hma := marshal id S (ts.map addrB) P (.slice (some ⟨gp, 0, none⟩) m cp) p2 n c2 hid0 hidl hS0 hS1 (by rw [List.length_map]; exact hlt) hn1 (fun a ha => by
          obtain ⟨t, ht, rfl⟩ := List.mem_map.1 ha
          obtain ⟨h0, hk, _⟩ := HB.out.2.2.2.1 t ht
          have h1 := HB.out.2.2.2.2.1 t ht
          have h2 := addrB_le t hk
          exact ⟨fun e => by have := addrB_pos t hk h0; rw [e] at this; simp at this, by omega⟩) wr hcP hbp (by
          obtain ⟨us, q1, q2, q3⟩ := hrow
          exact ⟨us, q1, ⟨q2.1, by rcases q2.2 with h | ⟨g, cap, cur, hv, hg, rr⟩; exact .inl h; exact .inr ⟨g, cap, cur, hv, Nat.zero_le _, rr⟩⟩, q3⟩)
        have hw1 := HB.out.1
        have hwr : Below w.heap.size w wr := hw1.trans (hBw.mono hw1.size)
        have HM := Lib.hid (And.intro hma hwr)
        clear hds hlt hma hwr hw1 hcP hrow hbp hBP hBw hWP d2 z2
        go_wp2_with fail
        refine HM.out.1.mono ?_
        rintro e w9 ⟨v9, rfl, hr9⟩
        have H9 := Lib.hid hr9
        clear hr9
        go_wp2_with fail
        go_quiet (fail)
        go_wp2_with fail
        go_ret2
        have hr := H9.out
        have hwr := HM.out.2
        refine ⟨_, rfl, ⟨⟨hr.own.1, ?_⟩, (by have h := hwr.trans (hr.bel.mono hwr.size); exact ⟨h.os, h.tape, h.output, h.size, h.block⟩)⟩⟩
        rcases hr.own.2 with h | ⟨g, cap, cur, hv, hg, rr⟩
        · exact .inl h
        · exact .inr ⟨g, cap, cur, hv, Nat.le_trans hwr.size hg, rr⟩
end Go.Proofs.YtapkmoakbfpkeaaGreatDoor
