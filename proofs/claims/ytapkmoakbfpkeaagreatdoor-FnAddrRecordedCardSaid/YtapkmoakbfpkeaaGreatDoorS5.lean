/- ShaSum: the walk. -/
import Derived.Test.YtapkmoakbfpkeaaGreatDoorD3
import Derived.Test.YtapkmoakbfpkeaaGreatDoorS4
namespace Go.Proofs.YtapkmoakbfpkeaaGreatDoor
open Go Go.RowKit Go.Proofs Go.Sort
theorem own_shape {w : World} {B n : Nat} {v : Value} {ys : List Value} (h : w.ownsRow B 5 1 v n ys) (hn : 0 < n) : ∃ g c, v = .slice (some ⟨g, 0, none⟩) n c ∧ B ≤ g ∧ n ≤ c := by
  rcases h.2 with ⟨_, h1⟩ | ⟨g, cap, cur, rfl, h1, _, h2, _⟩
  · omega
  · exact ⟨g, cap, rfl, h1, h2⟩
theorem own_empty (W0 : World) : (W0.alloc (.cells #[] 5)).ownsRow W0.heap.size 5 1 (.slice (some ⟨W0.heap.size, 0, none⟩) 0 0) 0 (([] : List Int).map (Value.int .u8)) :=
  ⟨rfl, .inr ⟨W0.heap.size, 0, #[], rfl, Nat.le_refl _, heap_alloc_new _ _, Nat.le_refl _, by unfold maxLen; omega, rfl, rfl⟩⟩
def zeros32 : Array Value := Array.replicate 32 (.int .u8 0)
def padZ (m : Nat) : Nat := (311 - m) % 64
/-- The world of ShaSum: its own bytes. -/
def SO (W0 : World) (g c n : Nat) (ys : List Int) (wr : World) : Prop := wr.ownsRow W0.heap.size 5 1 (.slice (some ⟨g, 0, none⟩) n c) n (ys.map (Value.int .u8)) ∧ Below W0.heap.size W0 wr
theorem SO.alloc {W0 wr : World} {g c n : Nat} {ys : List Int} (h : SO W0 g c n ys wr) (o : Obj) : SO W0 g c n ys (wr.alloc o) := ⟨h.1.alloc _, h.2.alloc h.2.size _⟩
theorem SO.len {W0 wr : World} {g c n : Nat} {ys : List Int} (h : SO W0 g c n ys wr) : ys.length = n := by have := h.1.1; simpa using this
theorem SO.app {W0 wr w' : World} {g c n N : Nat} {ys zs : List Int} {v' : Value} (h : SO W0 g c n ys wr) (hown : w'.ownsRow W0.heap.size 5 1 v' N (zs.map (Value.int .u8))) (hgrow : wr.grownBy w' (Value.slice (some ⟨g, 0, none⟩) n c).ownBlock) (hN : 0 < N) :
    ∃ g' c', v' = .slice (some ⟨g', 0, none⟩) N c' ∧ SO W0 g' c' N zs w' := by
  obtain ⟨g', c', rfl, _, _⟩ := own_shape hown hN
  exact ⟨g', c', rfl, hown, grown_below h.2 h.1 hgrow h.2.size⟩
theorem padZ_is (m : Nat) (h : m ≤ 200) : padZ m < 64 ∧ (m + 1 + padZ m) % 64 = 56 ∧ ∀ k, k < padZ m → (m + 1 + k) % 64 ≠ 56 := by
  unfold padZ
  refine ⟨by omega, by omega, fun k hk => by omega⟩
theorem SO.data {W0 wr : World} {g c n : Nat} {ys : List Int} (h : SO W0 g c n ys wr) (hn : 0 < n) : (∀ i, i < n → wr.cell? ⟨g, i, none⟩ = some (.int .u8 (ys.getD i 0))) ∧ n ≤ c ∧ g < wr.heap.size ∧ W0.heap.size ≤ g ∧ c ≤ maxLen := by
  have hl := h.len
  rcases h.1.2 with ⟨_, h1⟩ | ⟨g', cap, cur, hv, h1, hg, h2, h3, _, h5⟩
  · omega
  · injection hv with hv1 hv2 hv3
    injection hv1 with hv1
    injection hv1 with hv1
    subst hv1 hv3
    refine ⟨fun i hi => ?_, h2, (Array.getElem?_eq_some_iff.1 hg).1, h1, h3⟩
    have h7 : (cur.toList.take (n * 1))[i]? = cur.toList[i]? := List.getElem?_take_of_lt (by omega)
    rw [h5] at h7
    have h8 : (ys.map (Value.int .u8))[i]? = some (.int .u8 (ys.getD i 0)) := by
      have : i < ys.length := by omega
      simp [List.getD, this]
    have h6 : cur[i]? = some (.int .u8 (ys.getD i 0)) := by rw [← Array.getElem?_toList, ← h7, h8]
    simp [World.cell?, hg, h6]
theorem SO.of_block {W0 wr w' : World} {g c n : Nat} {ys : List Int} (h : SO W0 g c n ys wr) (hn : 0 < n) (hb : w'.heap[g]? = wr.heap[g]?) (hB : Below W0.heap.size W0 w') : SO W0 g c n ys w' := by
  refine ⟨⟨h.1.1, ?_⟩, hB⟩
  rcases h.1.2 with ⟨_, h1⟩ | ⟨g', cap, cur, hv, h1, hg, h2⟩
  · omega
  · injection hv with hv1 hv2 hv3
    injection hv1 with hv1
    injection hv1 with hv1
    subst hv1 hv3
    exact .inr ⟨g, c, cur, rfl, h1, by rw [hb]; exact hg, h2⟩
theorem SO.drewN {W0 wr : World} {g c n : Nat} {ys : List Int} (h : SO W0 g c n ys wr) (q : Nat) : SO W0 g c n ys (wr.drewN q) := ⟨h.1, below_drewN h.2 q⟩
/-- The words that ShaSum begins with. -/
def hash0 : Nat → Int := fun j => ([1779033703, 3144134277, 1013904242, 2773480762, 1359893119, 2600822924, 528734635, 1541459225] : List Int).getD j 0
/-- The words behind t blocks. -/
def hashV (D : List Int) : Nat → Nat → Int
  | 0 => hash0
  | t + 1 => blkV ((D.drop (64 * t)).take 64) (hashV D t)
/-- The bytes of the words. -/
def outB (V : Nat → Int) (i : Nat) : Int := V (i / 4) / 2 ^ (24 - 8 * (i % 4)) % 256
/-- The world of ShaSum's third loop. -/
def SH (W0 : World) (g c n : Nat) (ys : List Int) (hb : Nat) (V : Nat → Int) (wr : World) : Prop := SO W0 g c n ys wr ∧ wr.rowIs hb 134 8 (fun j => .int .u32 (V j)) ∧ hb ≠ g ∧ W0.heap.size ≤ hb
/-- The world of ShaSum's last loop. -/
def SR (W0 : World) (hb : Nat) (V : Nat → Int) (ob : Nat) (f : Nat → Int) (wr : World) : Prop := wr.rowIs hb 134 8 (fun j => .int .u32 (V j)) ∧ wr.rowIs ob 90 32 (fun j => .int .u8 (f j)) ∧ hb ≠ ob ∧ W0.heap.size ≤ ob ∧ Below W0.heap.size W0 wr
theorem SR.congr {W0 wr : World} {hb ob : Nat} {V f f' : Nat → Int} (h : SR W0 hb V ob f wr) (e : ∀ j, j < 32 → f j = f' j) : SR W0 hb V ob f' wr := ⟨h.1, h.2.1.congr (fun j hj => by rw [e j hj]), h.2.2⟩
theorem SR.set {W0 wr : World} {hb ob : Nat} {V f : Nat → Int} (h : SR W0 hb V ob f wr) (i : Nat) (x : Int) : SR W0 hb V ob (fun j => if j = i then x else f j) (wr.setCell ⟨ob, i, none⟩ (.int .u8 x)) :=
  ⟨h.1.setOther (by show _ ≠ ob; exact h.2.2.1) _, (h.2.1.set i _).congr (fun j _ => by
    show (if j = i then _ else _) = Value.int .u8 (if j = i then x else f j)
    by_cases e : j = i
    · rw [if_pos e, if_pos e]
    · rw [if_neg e, if_neg e]), h.2.2.1, h.2.2.2.1, h.2.2.2.2.setCell (by show _ ≤ ob; exact h.2.2.2.1) _⟩
theorem SR.start {W0 : World} {g c n : Nat} {D : List Int} {hb : Nat} {V : Nat → Int} (W3 : World) (h : SH W0 g c n D hb V W3) : SR W0 hb V W3.heap.size (fun _ => 0) (W3.alloc (.cells #[.int .u8 0, .int .u8 0, .int .u8 0, .int .u8 0, .int .u8 0, .int .u8 0, .int .u8 0, .int .u8 0, .int .u8 0, .int .u8 0, .int .u8 0, .int .u8 0, .int .u8 0, .int .u8 0, .int .u8 0, .int .u8 0, .int .u8 0, .int .u8 0, .int .u8 0, .int .u8 0, .int .u8 0, .int .u8 0, .int .u8 0, .int .u8 0, .int .u8 0, .int .u8 0, .int .u8 0, .int .u8 0, .int .u8 0, .int .u8 0, .int .u8 0, .int .u8 0] 90)) := by
  have hlt := h.2.1.lt
  refine ⟨h.2.1.alloc _, ?_, by omega, h.1.2.size, h.1.2.alloc h.1.2.size _⟩
  refine World.rowIs_alloc W3 zeros32 90 (fun _ => .int .u8 0) (fun j hj => ?_)
  rw [zeros32, Array.getElem?_replicate, if_pos (by simpa [zeros32] using hj)]
/-- The bytes of the length. -/
def lenB (m : Nat) : Nat → List Int
  | 0 => []
  | t + 1 => lenB m t ++ [(m : Int) * 8 / 2 ^ (8 * (7 - (t : Int))).toNat % 256]
def shaD (xs : List Int) : List Int := xs ++ [128] ++ List.replicate (padZ xs.length) 0 ++ lenB xs.length 8
/-- What ShaSum gives. -/
def shaF (xs : List Int) : List Int := (List.range 32).map (outB (hashV (shaD xs) ((shaD xs).length / 64)))
theorem row_list {C : Array Value} {f : Nat → Int} (hn : C.size = 32) (hc : ∀ i, i < 32 → C[i]? = some (.int .u8 (f i))) : C = (((List.range 32).map f).map (Value.int .u8)).toArray := by
  apply Array.ext_getElem?
  intro i
  by_cases hi : i < 32
  · rw [hc i hi]
    simp [hi]
  · rw [Array.getElem?_eq_none (by omega), Array.getElem?_eq_none (by simp; omega)]
set_option maxRecDepth 100000 in
set_option maxHeartbeats 1000000 in
theorem shaSum (b o m c : Nat) (xs : List Int) (w : World) (hx : xs.length = m) (hb : Bs w b o xs) (hm : 42 < m) (hm2 : m ≤ 200) : Calls Tryz.prog 46 #[.slice (some ⟨b, o, none⟩) m c] w fun e w' => e = .returned (.agg ((shaF xs).map (Value.int .u8)).toArray) ∧ Below w.heap.size w w' := by
  have HX := Lib.hid (And.intro hx hb)
  clear hb hx
  go_enter Tryz.func46, Tryz.ntmps46
  go_upto_region 1 with fail
  obtain ⟨W0, hW0⟩ : ∃ W, W = w.alloc (.cells #[.int .u8 0, .int .u8 0, .int .u8 0, .int .u8 0, .int .u8 0, .int .u8 0, .int .u8 0, .int .u8 0, .int .u8 0, .int .u8 0, .int .u8 0, .int .u8 0, .int .u8 0, .int .u8 0, .int .u8 0, .int .u8 0, .int .u8 0, .int .u8 0, .int .u8 0, .int .u8 0, .int .u8 0, .int .u8 0, .int .u8 0, .int .u8 0, .int .u8 0, .int .u8 0, .int .u8 0, .int .u8 0, .int .u8 0, .int .u8 0, .int .u8 0, .int .u8 0] 90) := ⟨_, rfl⟩
  rw [← hW0]
  have HW := Lib.hid (And.intro (show W0 = w.alloc (.cells zeros32 90) from hW0) (show W0.heap.size = w.heap.size + 1 by rw [hW0, World.size_alloc]))
  clear hW0
  have hs0 : w.heap.size < W0.heap.size := by rw [HW.out.2]; omega
  go_wp2_with (at_builtin; refine wpApp rfl _ _ rfl W0.heap.size _ 0 [] rfl (own_empty W0) ⟨b, o, none⟩ m c xs rfl HX.out.1 (fun i hi => by rw [Lib.add_plain, World.cell?_alloc_some _ _ _ (by rw [HW.out.1, World.cell?_alloc_some _ _ _ (by rw [HX.out.2 i (by rw [HX.out.1]; exact hi)]; rfl), HX.out.2 i (by rw [HX.out.1]; exact hi)]; rfl), HW.out.1, World.cell?_alloc_some _ _ _ (by rw [HX.out.2 i (by rw [HX.out.1]; exact hi)]; rfl), HX.out.2 i (by rw [HX.out.1]; exact hi)]) (by omega) (by simp) ?_)
  intro v1 w1 hown hgrow _
  obtain ⟨g1, c1, rfl, hSO⟩ := SO.app ⟨own_empty W0, (Below.refl _ _).alloc (Nat.le_refl _) _⟩ hown hgrow (by omega)
  have H1 := Lib.hid hSO
  clear hown hgrow hSO
  go_wp2_with (at_builtin; refine wpApp rfl _ _ rfl W0.heap.size _ m xs rfl (H1.out.1.alloc _) ⟨w1.heap.size, 0, none⟩ 1 1 [128] rfl rfl (one_new _ _ _) (by omega) (by have := H1.out.2.size; simp; omega) ?_)
  intro v2 w2 hown hgrow _
  obtain ⟨g2, c2, rfl, hSO⟩ := (H1.out.alloc _).app (N := m + 1) (zs := xs ++ [128]) (by simpa using hown) hgrow (by omega)
  have H2 := Lib.hid hSO
  clear hown hgrow hSO
  obtain ⟨Z, hZ⟩ : ∃ Z, Z = padZ m := ⟨_, rfl⟩
  have hpz := padZ_is m hm2
  rw [← hZ] at hpz
  have HZ := Lib.hid (And.intro hZ hpz)
  have hZ64 := hpz.1
  clear hZ hpz
  go_wp2_with fail
  go_loopg [3] Z (fun gk v wr => ∃ (k L g cc : Nat), gk = Z - k ∧ k ≤ Z ∧ L = m + 1 + k ∧ v = .slice (some ⟨g, 0, none⟩) L cc ∧ Hid (SO W0 g cc L (xs ++ [128] ++ List.replicate k 0) wr))
  case atStart => exact ⟨0, m + 1, g2, c2, rfl, by omega, rfl, rfl, by rw [List.replicate_zero, List.append_nil]; exact H2.out⟩
  case round =>
    obtain ⟨k, L, g, cc, rfl, hk, hL, rfl, hI⟩ := hrel
    by_cases hkz : k = Z
    · have ht : ((L : Int) % 64 != 56) = false := by rw [bne_eq_false_iff_eq]; have := HZ.out.2.2.1; omega
      subst hkz
      have hL2 : 1 ≤ L ∧ L ≤ 300 := by omega
      obtain ⟨W1, hW1⟩ : ∃ W, W = wr := ⟨_, rfl⟩
      rw [← hW1] at hI ⊢
      obtain ⟨P, hP⟩ : ∃ P, P = xs ++ [128] ++ List.replicate k 0 := ⟨_, rfl⟩
      rw [← hP] at hI
      have HP := Lib.hid (And.intro hI.out (And.intro hL hP))
      clear hI hL hP hW1 wr
      go_wp2_with fail
      go_loopg [3, 5] 8 (fun gk v iv wr => ∃ (t : Nat) (J : Int) (N g cc : Nat), gk = 8 - t ∧ t ≤ 8 ∧ N = L + t ∧ J = 7 - t ∧ iv = .int .i64 J ∧ v = .slice (some ⟨g, 0, none⟩) N cc ∧ Hid (SO W0 g cc N (P ++ lenB m t) wr))
      case atStart => exact ⟨0, 7, L, g, cc, rfl, by omega, rfl, rfl, rfl, rfl, by rw [lenB, List.append_nil]; exact HP.out.1⟩
      case round =>
        obtain ⟨t, J, N, g, cc, rfl, ht8, hN, hJ, rfl, rfl, hI⟩ := hrel
        by_cases h8 : t = 8
        · subst h8
          have hJ0 : J = -1 := by omega
          subst hJ0
          obtain ⟨W2, hW2⟩ : ∃ W, W = wr := ⟨_, rfl⟩
          rw [← hW2] at hI ⊢
          obtain ⟨D, hD⟩ : ∃ D, D = P ++ lenB m 8 := ⟨_, rfl⟩
          rw [← hD] at hI
          obtain ⟨T, hT⟩ : ∃ T, N = 64 * T := ⟨N / 64, by have h1 := HP.out.2.1; have h2 := HZ.out.2.2.1; omega⟩
          have hT8 : T ≤ 8 := by omega
          have hNp : 0 < N := by omega
          have HD := Lib.hid (And.intro hI.out (And.intro hD hT))
          clear hI hD hT hN hW2 wr
          go_wp2_with fail
          go_loopg [7] T (fun gk iv wr => ∃ (t I : Nat), gk = T - t ∧ t ≤ T ∧ I = 64 * t ∧ iv = .int .i64 (I : Int) ∧ Hid (SH W0 g cc N D W2.heap.size (hashV D t) wr))
          case atStart =>
            refine ⟨0, 0, rfl, by omega, rfl, rfl, HD.out.1.alloc _, ?_, ?_, HD.out.1.2.size⟩
            · exact World.rowIs_alloc W2 (arr8 hash0) 134 (fun j => .int .u32 (hash0 j)) (fun j hj => arr8_at hash0 j hj)
            · have := (HD.out.1.data hNp).2.2.1
              omega
          case round =>
            obtain ⟨t, I, rfl, htT, hIt, rfl, hI⟩ := hrel
            by_cases hT : t = T
            · have hIN : I = N := by have := HD.out.2.2; omega
              subst hT hIN
              obtain ⟨W3, hW3⟩ : ∃ W, W = wr := ⟨_, rfl⟩
              rw [← hW3] at hI ⊢
              obtain ⟨V, hV⟩ : ∃ V, V = hashV D t := ⟨_, rfl⟩
              rw [← hV] at hI
              have H3 := Lib.hid (And.intro hI.out hV)
              clear hI hV hIt hW3 wr
              go_wp2_with fail
              go_loopg [9] 32 (fun gk iv wr => ∃ (i : Nat), gk = 32 - i ∧ i ≤ 32 ∧ iv = .int .i64 (i : Int) ∧ Hid (SR W0 W2.heap.size V W3.heap.size (fun j => if j < i then outB V j else 0) wr))
              case atStart => exact ⟨0, rfl, by omega, rfl, (SR.start W3 H3.out.1).congr fun j _ => by rw [if_neg (by omega)]⟩
              case round =>
                obtain ⟨i, rfl, hi, rfl, hI⟩ := hrel
                by_cases h32 : i = 32
                · subst h32
                  obtain ⟨C, hC, hCn, hCc⟩ := hI.out.2.1
                  have HC := Lib.hid (And.intro hC (And.intro hCn (And.intro hCc hI.out.2.2)))
                  clear hI hC hCn hCc
                  have hCL := row_list HC.out.2.1 HC.out.2.2.1
                  have hinf : (Tryz.prog.info? 90).map (·.size) = some C.size := by rw [HC.out.2.1]; kernel_rfl
                  have hone : C.all (·.oneCell') = true := by rw [hCL, Array.all_eq_true']; intro u hu; exact u8one _ u (List.mem_toArray.1 hu)
                  have hold : wr.heap[w.heap.size]? = some (.cells zeros32 90 (0, 0)) := by rw [HC.out.2.2.2.2.2.block _ hs0, HW.out.1]; exact heap_alloc_last w _
                  have HO := Lib.hid (And.intro hCL (And.intro hinf (And.intro hone hold)))
                  clear hCL hinf hone hold
                  go_wp2_with (first
                    | (refine wpList_load_row rfl 90 (.tmp 8) rfl W3.heap.size rfl 90 C (0, 0) _ HC.out.1 Tryz.underlying90 rfl HO.out.2.1 ?_)
                    | (refine wpList_store_rowTo rfl 90 (.tmp 2) (.tmp 69) rfl rfl w.heap.size C rfl rfl 90 zeros32 HO.out.2.2.2 HO.out.2.1 (by rw [HC.out.2.1]; rfl) HO.out.2.2.1 ?_))
                  refine bodyPost_ret (v := .agg C) (results_cell_row Tryz.results46 _ _ w.heap.size 90 C (0, 0) _ rfl (setRow_heap wr _ _ _ _ _ HO.out.2.2.2) Tryz.underlying90 rfl HO.out.2.1) rfl ⟨?_, ?_⟩
                  · rw [HO.out.1, H3.out.2]
                    have h1 : D = shaD xs := by rw [HD.out.2.1, HP.out.2.2, HZ.out.1, ← HX.out.1]; rfl
                    have h2 : D.length / 64 = t := by rw [HD.out.1.len, HD.out.2.2]; omega
                    unfold shaF
                    rw [← h1, h2]
                    have h3 : (List.range 32).map (fun j => if j < 32 then outB (hashV D t) j else 0) = (List.range 32).map (outB (hashV D t)) := List.map_congr_left fun j hj => by rw [if_pos (List.mem_range.1 hj)]
                    rw [h3]
                  · have hW0b : Below w.heap.size w W0 := by rw [HW.out.1]; exact (Below.refl _ _).alloc (Nat.le_refl _) _
                    exact below_setRow (hW0b.trans (HC.out.2.2.2.2.2.mono (by omega))) (Nat.le_refl _) C
                · have hl2 : decide (i < 32) = true := by rw [decide_eq_true_iff]; omega
                  have hl3 : decide ((i : Int) < 32) = true := by rw [decide_eq_true_iff]; omega
                  have c0 : wr.cell? ⟨W2.heap.size, i / 4, none⟩ = some (.int .u32 (V (i / 4))) := hI.out.1.cell (by omega)
                  have d0 : wr.cell? ⟨W3.heap.size, i, none⟩ = some (.int .u8 (if i < i then outB V i else 0)) := hI.out.2.1.cell (by omega)
                  rw [if_neg (by omega)] at d0
                  have d1 : wr.frozen? ⟨W3.heap.size, i, none⟩ = false := hI.out.2.1.frozen i
                  go_wp2_with fail
                  go_roundg (31 - i)
                  case measure => omega
                  case rel =>
                    refine ⟨i + 1, by omega, by omega, by simp, (hI.out.set i _).congr fun j hj => ?_⟩
                    show (if j = i then _ else if j < i then outB V j else 0) = if j < i + 1 then outB V j else 0
                    by_cases hji : j = i
                    · subst hji
                      rw [if_pos rfl, if_pos (by omega)]
                      rfl
                    · rw [if_neg hji]
                      by_cases h : j < i
                      · rw [if_pos h, if_pos (by omega)]
                      · rw [if_neg h, if_neg (by omega)]
            · have hIN : I + 64 ≤ N := by have := HD.out.2.2; omega
              have hN0 : 0 < N := by omega
              obtain ⟨hcell, hNc, hgs, hg0, hmx⟩ := hI.out.1.data hN0
              have hbnd : (I : Int) + 64 ≤ cc := by omega
              have hI5 : I ≤ 500 := by omega
              have mw : IntKind.i64.wrap ((I : Int) + 64) = (I : Int) + 64 := IntWalk.i64_in _ (by omega)
              have hlt : (I : Int) < N := by omega
              have hle0 : (0 : Int) ≤ (I : Int) + 64 := by omega
              have hle1 : (I : Int) ≤ (I : Int) + 64 := by omega
              have hcc : ((I : Int) == (cc : Int)) = false := by rw [beq_eq_false_iff_ne]; omega
              have hcc2 : ¬ (cc = I) := by omega
              obtain ⟨V, hV⟩ : ∃ V, V = hashV D t := ⟨_, rfl⟩
              rw [← hV] at hI
              have HV := Lib.hid (And.intro hV (And.intro hIt hcell))
              clear hV hIt hcell
              have f0 : wr.cell? ⟨W2.heap.size, 0, none⟩ = some (.int .u32 (V 0)) := hI.out.2.1.cell (i := 0) (by omega)
              have f1 : wr.cell? ⟨W2.heap.size, 1, none⟩ = some (.int .u32 (V 1)) := hI.out.2.1.cell (i := 1) (by omega)
              have f2 : wr.cell? ⟨W2.heap.size, 2, none⟩ = some (.int .u32 (V 2)) := hI.out.2.1.cell (i := 2) (by omega)
              have f3 : wr.cell? ⟨W2.heap.size, 3, none⟩ = some (.int .u32 (V 3)) := hI.out.2.1.cell (i := 3) (by omega)
              have f4 : wr.cell? ⟨W2.heap.size, 4, none⟩ = some (.int .u32 (V 4)) := hI.out.2.1.cell (i := 4) (by omega)
              have f5 : wr.cell? ⟨W2.heap.size, 5, none⟩ = some (.int .u32 (V 5)) := hI.out.2.1.cell (i := 5) (by omega)
              have f6 : wr.cell? ⟨W2.heap.size, 6, none⟩ = some (.int .u32 (V 6)) := hI.out.2.1.cell (i := 6) (by omega)
              have f7 : wr.cell? ⟨W2.heap.size, 7, none⟩ = some (.int .u32 (V 7)) := hI.out.2.1.cell (i := 7) (by omega)
              go_wp2_with fail
              refine wp_region_quiet_tail 6 (by kernel_rfl) (by kernel_rfl) ?_
              simp only [List.take_succ_cons, List.take_zero, List.drop_succ_cons, List.drop_zero]
              repeat (go_big_quiet_step (fail))
              refine wpQuiet_nil ?_
              intro _ hw'
              obtain ⟨nq, hw''⟩ := hw'
              subst hw''
              go_wp2_with fail
              obtain ⟨B, hB⟩ : ∃ B, B = (D.drop I).take 64 := ⟨_, rfl⟩
              refine (shaBlock V g I (cc - I) B (wr.drewN nq) (fun i hi => by
                have h := HV.out.2.2 (I + i) (by omega)
                have e : B.getD i 0 = D.getD (I + i) 0 := by
                  rw [hB]
                  simp only [List.getD, List.getElem?_take_of_lt hi, List.getElem?_drop]
                rw [e]
                exact h)).mono ?_
              rintro e w4 ⟨rfl, hB4⟩
              have hrow : w4.rowIs W2.heap.size 134 8 (fun j => .int .u32 (V j)) := hI.out.2.1.of_block (hB4.block _ hI.out.2.1.lt)
              have hSO4 : SO W0 g cc N D w4 := hI.out.1.of_block hN0 (hB4.block _ hgs) ((below_drewN hI.out.1.2 nq).trans (hB4.mono hI.out.1.2.size))
              have p0 : w4.cell? ⟨W2.heap.size, 0, none⟩ = some (.int .u32 (V 0)) := hrow.cell (i := 0) (by omega)
              have p1 : w4.cell? ⟨W2.heap.size, 1, none⟩ = some (.int .u32 (V 1)) := hrow.cell (i := 1) (by omega)
              have p2 : w4.cell? ⟨W2.heap.size, 2, none⟩ = some (.int .u32 (V 2)) := hrow.cell (i := 2) (by omega)
              have p3 : w4.cell? ⟨W2.heap.size, 3, none⟩ = some (.int .u32 (V 3)) := hrow.cell (i := 3) (by omega)
              have p4 : w4.cell? ⟨W2.heap.size, 4, none⟩ = some (.int .u32 (V 4)) := hrow.cell (i := 4) (by omega)
              have p5 : w4.cell? ⟨W2.heap.size, 5, none⟩ = some (.int .u32 (V 5)) := hrow.cell (i := 5) (by omega)
              have p6 : w4.cell? ⟨W2.heap.size, 6, none⟩ = some (.int .u32 (V 6)) := hrow.cell (i := 6) (by omega)
              have p7 : w4.cell? ⟨W2.heap.size, 7, none⟩ = some (.int .u32 (V 7)) := hrow.cell (i := 7) (by omega)
              have z0 : w4.frozen? ⟨W2.heap.size, 0, none⟩ = false := hrow.frozen 0
              have z1 : w4.frozen? ⟨W2.heap.size, 1, none⟩ = false := hrow.frozen 1
              have z2 : w4.frozen? ⟨W2.heap.size, 2, none⟩ = false := hrow.frozen 2
              have z3 : w4.frozen? ⟨W2.heap.size, 3, none⟩ = false := hrow.frozen 3
              have z4 : w4.frozen? ⟨W2.heap.size, 4, none⟩ = false := hrow.frozen 4
              have z5 : w4.frozen? ⟨W2.heap.size, 5, none⟩ = false := hrow.frozen 5
              have z6 : w4.frozen? ⟨W2.heap.size, 6, none⟩ = false := hrow.frozen 6
              have z7 : w4.frozen? ⟨W2.heap.size, 7, none⟩ = false := hrow.frozen 7
              obtain ⟨G, hG⟩ : ∃ G, G = blkV B V := ⟨_, rfl⟩
              rw [← hG]
              have H4 := Lib.hid (And.intro hrow (And.intro hSO4 (And.intro hG hB)))
              clear hrow hSO4 hG hB hB4 f0 f1 f2 f3 f4 f5 f6 f7
              simp only [arr8]
              go_wp2_with fail
              clear p0 p1 p2 p3 p4 p5 p6 p7 z0 z1 z2 z3 z4 z5 z6 z7 mw hbnd hlt hle0 hle1 hcc hcc2
              go_roundg (T - t - 1)
              case measure => omega
              case rel =>
                refine ⟨t + 1, I + 64, by omega, by omega, by have := HV.out.2.1; omega, by simp, ?_, ?_, hI.out.2.2⟩
                · refine H4.out.2.1.of_block hN0 ?_ ?_
                  · have hne := hI.out.2.2.1
                    iterate 8 refine (Below.heap_setCell _ _ _ _ (by show g ≠ W2.heap.size; omega)).trans ?_
                    rfl
                  · have hge := hI.out.2.2.2
                    exact ((((((((H4.out.2.1.2.setCell hge _).setCell hge _).setCell hge _).setCell hge _).setCell hge _).setCell hge _).setCell hge _).setCell hge _)
                · refine (stored8 (g := G) H4.out.1).congr fun j _ => ?_
                  rw [H4.out.2.2.1, H4.out.2.2.2, hashV, ← HV.out.1, HV.out.2.1]
        · have hJ0 : 0 ≤ J ∧ J ≤ 7 := by omega
          have hN2 : N ≤ 400 := by omega
          have HN := Lib.hid (And.intro hN hJ)
          clear hN hJ
          go_wp2_with (at_builtin; refine wpApp rfl _ _ rfl W0.heap.size _ N (P ++ lenB m t) rfl (hI.out.1.alloc _) ⟨wr.heap.size, 0, none⟩ 1 1 [(m : Int) * 8 / 2 ^ (8 * J).toNat % 256] rfl rfl (one_new _ _ _) (by omega) (by have := hI.out.2.size; simp; omega) ?_)
          intro v3 w3 hown hgrow _
          obtain ⟨g3, c3, rfl, hSO⟩ := (hI.out.alloc _).app (N := N + 1) (zs := P ++ lenB m t ++ [(m : Int) * 8 / 2 ^ (8 * J).toNat % 256]) (by simpa using hown) hgrow (by omega)
          have H3 := Lib.hid hSO
          clear hown hgrow hSO
          go_wp2_with fail
          go_roundg (8 - t - 1)
          case measure => omega
          case rel => exact ⟨t + 1, J - 1, N + 1, g3, c3, by omega, by omega, by have := HN.out.1; omega, by have := HN.out.2; omega, rfl, rfl, by rw [lenB, ← List.append_assoc, ← HN.out.2]; exact H3.out⟩
    · have ht : ((L : Int) % 64 != 56) = true := by rw [bne_iff_ne]; have := HZ.out.2.2.2 k (by omega); omega
      have hL2 : L ≤ 400 := by omega
      have HL := Lib.hid hL
      clear hL
      go_wp2_with (at_builtin; refine wpApp rfl _ _ rfl W0.heap.size _ L (xs ++ [128] ++ List.replicate k 0) rfl (hI.out.1.alloc _) ⟨wr.heap.size, 0, none⟩ 1 1 [0] rfl rfl (one_new _ _ _) (by omega) (by have := hI.out.2.size; simp; omega) ?_)
      intro v3 w3 hown hgrow _
      obtain ⟨g3, c3, rfl, hSO⟩ := (hI.out.alloc _).app (N := L + 1) (zs := xs ++ [128] ++ List.replicate k 0 ++ [0]) (by simpa using hown) hgrow (by omega)
      have H3 := Lib.hid hSO
      clear hown hgrow hSO
      go_wp2_with fail
      go_roundg (Z - k - 1)
      case measure => omega
      case rel => exact ⟨k + 1, L + 1, g3, c3, by omega, by omega, by have := HL.out; omega, rfl, by rw [List.replicate_succ', ← List.append_assoc]; exact H3.out⟩
theorem shaIs : ShaIs shaF := by
  refine ⟨fun xs => ⟨by simp [shaF], fun x hx => ?_⟩, fun p m c xs w hok _ h0 h1 => ?_⟩
  · obtain ⟨i, _, rfl⟩ := List.mem_map.1 hx
    unfold outB
    exact ⟨Int.emod_nonneg _ (by decide), Int.emod_lt_of_pos _ (by decide)⟩
  · obtain ⟨b, o, rfl, hc⟩ := hok.2.1 (by show 0 < m; omega)
    exact shaSum b o m c xs w hok.1 (fun i hi => hc i (show i < m from (show xs.length = m from hok.1) ▸ hi)) h0 h1
end Go.Proofs.YtapkmoakbfpkeaaGreatDoor
