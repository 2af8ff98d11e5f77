/- SplitAddr, Multiaddr.Bytes, impl.AddrSplit. -/
import Derived.Test.YtapkmoakbfpkeaaGreatDoorE2
import Derived.Lib.AppendStr
namespace Go.Proofs.YtapkmoakbfpkeaaGreatDoor
open Go Go.RowKit Go.Proofs Go.Sort

theorem codeField (s0 s2 s3 s4 s5 : Value) (x : Int) (w : World) : (Instr.field 144 (.agg #[s0, .int .i64 x, s2, s3, s4, s5]) 1).run Tryz.prog w = .ok (.int .i64 x) w := by
  unfold Instr.field
  simp [run_underlying Tryz.underlying144, asAgg]
  unfold part
  go_simp
theorem splitLast (B g n c : Nat) (w : World) (hn1 : n ≤ 1000) (hc : n ≤ c) (hBw : B ≤ w.heap.size) (init : List Hop) (hi : init.length + 1 = n) (h : Hop) (hm : MA w B (.slice (some ⟨g, 0, none⟩) n c) (init ++ [h])) :
    Calls Tryz.prog 80 #[.slice (some ⟨g, 0, none⟩) n c] w (SL B init h w) := by
  by_cases h2 : 2 ≤ n
  · exact splitLast2 B g n c w h2 hn1 hc hBw init hi h hm
  · obtain rfl : init = [] := List.eq_nil_of_length_eq_zero (by omega)
    obtain rfl : n = 1 := by simpa using hi.symm
    exact splitLast1 B g c h w hm

set_option maxRecDepth 100000 in
theorem splitAddr6 (B g n c : Nat) (w : World) (hn1 : n ≤ 1000) (hc : n ≤ c) (hBw : B ≤ w.heap.size) (init : List Hop) (hi : init.length + 1 = n) (h : Hop) (hm : MA w B (.slice (some ⟨g, 0, none⟩) n c) (init ++ [h]))
    (hk : HopOk h) (h6 : h.1 = 6) : Calls Tryz.prog 56 #[.slice (some ⟨g, 0, none⟩) n c] w fun e w' => ∃ tv, e = .returned (.tuple #[tv, .string (strOfNums h.2)]) ∧ MA w' B tv init ∧ (init = [] → tv = .slice none 0 0) ∧ Below w.heap.size w w' := by
  have hnn := fun w => maNotNil ⟨g, 0, none⟩ n c w
  have hsl := splitLast B g n c w hn1 hc hBw init hi h hm
  have HSL := Lib.hid (And.intro hsl hk)
  clear hsl hm hi hBw
  go_enter Tryz.func56, Tryz.ntmps56
  go_wp2_with fail
  refine HSL.out.1.mono ?_
  rintro e w1 ⟨tv, r, q, rfl, hma, hnil, hp, hB⟩
  have HP := Lib.hid (And.intro hma (And.intro hnil (And.intro hp hB)))
  clear hma hnil hp hB
  go_wp2_with fail
  refine (compProtocol r q h (by omega) _ HP.out.2.2.1).mono ?_
  rintro e w2 ⟨a, rfl, hB2⟩
  rw [h6]
  obtain ⟨s0, s2, s3, s4, s5, hcell⟩ : ∃ s0 s2 s3 s4 s5, (protOf 6).cells a = #[s0, .int .i64 421, s2, s3, s4, s5] := ⟨_, _, _, _, _, rfl⟩
  rw [hcell]
  have HP2 := Lib.hid (And.intro (HP.out.1.below hB2) (And.intro (HP.out.2.2.1.below hB2) (HP.out.2.2.2.trans (hB2.mono HP.out.2.2.2.size))))
  have hcf := codeField s0 s2 s3 s4 s5 421
  clear hB2 hcell
  go_wp2_with fail
  refine (compRaw r q h HSL.out.2 _ HP2.out.2.1).mono ?_
  rintro e w3 ⟨g3, c3, rfl, hg3, hc3, hcm3, hbs, hB3⟩
  have hconv := Lib.BytesIn.convert (P := Tryz.prog) (w := w3) (p := some ⟨g3, 0, none⟩) (n := h.2.length) (xs := h.2) (fun _ => ⟨g3, 0, rfl, hbs⟩) rfl c3 23 5 85 Tryz.underlying23 (by kernel_rfl) (by kernel_rfl)
  have HP3 := Lib.hid (And.intro (HP2.out.1.below hB3) (HP2.out.2.2.trans (hB3.mono HP2.out.2.2.size)))
  clear hB3 hbs hg3 hc3 hcm3 hcf
  go_wp2_with fail
  go_ret2
  exact ⟨_, rfl, HP3.out.1, HP.out.2.1, HP3.out.2⟩

theorem strCells_of (xs : List Int) (hu : U8 xs) : Lib.strCells (strOfNums xs) = xs.map (Value.int .u8) := by
  unfold Lib.strCells strOfNums
  simp only [List.map_map]
  refine List.map_congr_left fun x hx => ?_
  have h := hu x hx
  simp
  omega
/-- append of a string into room that is there, in a block of whatever type. -/
theorem wpRoomStr {ops : Array Oper} {rest : List Oper} {o : Oper} {a : Act} {w : World} {Q : Exit → Act → World → Prop} (hgd : o.guard = none) (s x : Operand)
    (ho : o.op = .call { callee := .builtin .append, args := #[s, x], argTypes := #[23, 9] }) (g n c : Nat) (t0 : TypeId) (cur : List Value) (hg : w.heap[g]? = some (.cells cur.toArray t0 (0, 0))) (hs : a.eval s = .slice (some ⟨g, 0, none⟩) n c)
    (S : ByteArray) (hx : a.eval x = .string S) (hroom : n + S.size ≤ c) (hfit : n + S.size ≤ cur.length)
    (h : ∀ w', w'.heap[g]? = some (.cells (cur.take n ++ Lib.strCells S ++ cur.drop (n + S.size)).toArray t0 (0, 0)) → (∀ B w0, Below B w0 w → B ≤ g → Below B w0 w') → wpList Tryz.prog ops Q rest (a.put o.dst (.slice (some ⟨g, 0, none⟩) (n + S.size) c)) w') : wpList Tryz.prog ops Q (o :: rest) a w := by
  obtain ⟨i0, hi, hz0, hz1, hz2⟩ := info_parts info5
  have hf := Lib.run_firstCells_string (P := Tryz.prog) w 1 S
  have hst := run_storeCells_at Tryz.prog g n t0 (Lib.strCells S) 0 cur.toArray w hg (by simpa [Lib.strCells_length] using hfit) (Lib.strCells_oneCell S)
  simp only [Nat.add_zero, Lib.strCells_length] at hst
  have hrun : (Builtin.append_ #[23, 9] o.type #[.slice (some ⟨g, 0, none⟩) n c, .string S]).run Tryz.prog w = .ok (.slice (some ⟨g, 0, none⟩) (n + S.size) c) (w.setRow g (cur.take n ++ Lib.strCells S ++ cur.drop (n + S.size)).toArray) := by
    simp [Builtin.append_, run_underlying Tryz.underlying23, run_underlying Tryz.underlying9, sizeOf, typeInfo, hi, hz1, Builtin.lenOf, hroom, hf, Addr.add_lit, hst]
  refine wpList_plain hgd fun K hK => ?_
  unfold Oper.wp execOp
  simp only [ho, resolve, invoke, builtin, Sem.run_bind, Sem.run_pure, Result.andThen_ok, List.map_toArray, List.map_cons, List.map_nil, hs, hx, hrun]
  exact hK _ _ (h _ (setRow_heap _ _ _ _ _ _ hg) (fun B w0 hb hB => below_setRow hb hB _))
/-- Cells of the i-th part. -/
theorem ma_cells {B g n c : Nat} {w : World} {hs : List Hop} (hm : MA w B (.slice (some ⟨g, 0, none⟩) n c) hs) (hn : hs.length = n) (ds : List Hop) (h : Hop) (rs : List Hop) (hd : hs = ds ++ h :: rs) :
    ∃ q, w.cell? ⟨g, ds.length * 3, none⟩ = some (.string (strOfNums (hopB h.1 h.2))) ∧ w.cell? ⟨g, ds.length * 3 + 1, none⟩ = some (.pointer (some ⟨q, 0, none⟩)) ∧ w.cell? ⟨g, ds.length * 3 + 2, none⟩ = some (.int .i64 (hopS h.1)) := by
  obtain ⟨qs, hl, ho, hp⟩ := hm
  subst hd
  have hl2 : qs.length = ds.length + (rs.length + 1) := by simpa using hl
  obtain ⟨qa, qb, rfl, hqa⟩ : ∃ qa qb, qs = qa ++ qb ∧ qa.length = ds.length := ⟨qs.take ds.length, qs.drop ds.length, (List.take_append_drop _ _).symm, by rw [List.length_take]; omega⟩
  cases qb with
  | nil => simp at hl2; omega
  | cons q qb =>
    have e : compsOf (ds ++ h :: rs) (qa ++ q :: qb) = compsOf ds qa ++ (compCells h q ++ compsOf rs qb) := by
      unfold compsOf
      rw [List.zip_append hqa.symm, List.flatMap_append, List.zip_cons_cons, List.flatMap_cons]
    have hc := comps_len ds qa hqa
    have hn2 : ds.length < n := by rw [← hn]; simp
    rw [hn, e] at ho
    refine ⟨q, ?_, ?_, ?_⟩
    · rw [ho.cellAt _ (by omega), List.getElem?_append_right (by omega), hc, Nat.sub_self]; rfl
    · rw [ho.cellAt _ (by omega), List.getElem?_append_right (by omega), hc, Nat.add_sub_cancel_left]; rfl
    · rw [ho.cellAt _ (by omega), List.getElem?_append_right (by omega), hc, Nat.add_sub_cancel_left]; rfl

set_option maxHeartbeats 800000 in
set_option maxRecDepth 100000 in
theorem maBytes (B g n c : Nat) (w : World) (hs : List Hop) (hn : hs.length = n) (hm : MA w B (.slice (some ⟨g, 0, none⟩) n c) hs) (hh : ∀ h ∈ hs, HopOk h) (hl : n ≤ 1000) :
    Calls Tryz.prog 57 #[.slice (some ⟨g, 0, none⟩) n c] w (RawB (addrB hs) w) := by
  have HB := Lib.hid (And.intro hm (And.intro hn hh))
  have hN : (addrB hs).length ≤ 123000 := by have := addrB_le hs hh; omega
  clear hm hn hh
  go_enter Tryz.func57, Tryz.ntmps57
  go_wp2_with fail
  go_loopg [3, 12] n (fun gk sv iv wr => ∃ (ds rs : List Hop), hs = ds ++ rs ∧ gk = rs.length ∧ sv = .int .i64 ((addrB ds).length : Int) ∧ iv = .int .i64 (ds.length : Int) ∧ Hid (Below w.heap.size w wr))
  case atStart => exact ⟨[], hs, rfl, HB.out.2.1.symm, rfl, rfl, Below.refl _ _⟩
  case round =>
    obtain ⟨ds, rs, hds, rfl, rfl, rfl, hI⟩ := hrel
    cases rs with
    | nil =>
      have HD := Lib.hid hds
      have hlt : ds.length = n := by rw [← HB.out.2.1, hds, List.append_nil]
      have hl2 : decide (ds.length < n) = false := by rw [decide_eq_false_iff_not, hlt]; omega
      have hde : ds = hs := by rw [hds, List.append_nil]
      obtain ⟨N, hNd⟩ : ∃ N, N = (addrB ds).length := ⟨_, rfl⟩
      have hNN : N ≤ 123000 := by rw [hNd, hde]; exact hN
      rw [← hNd]
      have HND : Hid (N = (addrB hs).length) := by rw [← hde]; exact hNd
      clear hds hlt hde hN hNd
      by_cases h128 : N < 128
      · have ht : decide (N < 128) = true := by rw [decide_eq_true_iff]; exact h128
        have ht2 : decide ((N : Int) < 128) = true := by rw [decide_eq_true_iff]; omega
        go_wp2_with fail
        obtain ⟨W0, hW0⟩ : ∃ W, W = wr := ⟨_, rfl⟩
        rw [← hW0] at hI ⊢
        clear hW0 wr
        go_loopg [6, 29] n (fun gk sv iv wx => ∃ (es rs : List Hop) (L : List Value), hs = es ++ rs ∧ gk = rs.length ∧ sv = .slice (some ⟨W0.heap.size, 0, none⟩) (addrB es).length 128 ∧ iv = .int .i64 (es.length : Int) ∧
          Hid (wx.heap[W0.heap.size]? = some (.cells ((addrB es).map (Value.int .u8) ++ L).toArray 152 (0, 0)) ∧ (addrB es).length + L.length = 128 ∧ Below w.heap.size w wx))
        case atStart => exact ⟨[], hs, List.replicate 128 (.int .u8 0), rfl, HB.out.2.1.symm, rfl, rfl, heap_alloc_new _ _, by simp [addrB], hI.out.alloc hI.out.size _⟩
        case round =>
          obtain ⟨es, rs, L, hes, rfl, rfl, rfl, hJ⟩ := hrel
          cases rs with
          | nil =>
            have HE := Lib.hid hes
            have hlt : es.length = n := by rw [← HB.out.2.1, hes, List.append_nil]
            have hl3 : decide (es.length < n) = false := by rw [decide_eq_false_iff_not, hlt]; omega
            clear hes hlt
            go_wp2_with fail
            go_ret
            have hde : hs = es := by rw [HE.out, List.append_nil]
            rw [hde]
            refine ⟨_, _, rfl, hI.out.size, by have := hJ.out.2.1; omega, by omega, fun i hi => ?_, hJ.out.2.2⟩
            rw [Nat.zero_add, cell_of_row _ _ i _ _ (0, 0) hJ.out.1]
            simp [List.getElem?_append_left, List.getD, hi]
          | cons r rs =>
            have hlt : es.length < n := by rw [← HB.out.2.1, hes]; simp
            have hl3 : decide (es.length < n) = true := by rw [decide_eq_true_iff]; omega
            obtain ⟨q, hc0, hc1, hc2⟩ := ma_cells HB.out.1 HB.out.2.1 es r rs hes
            replace hc0 := cB hJ.out.2.2 hc0
            replace hc1 := cB hJ.out.2.2 hc1
            replace hc2 := cB hJ.out.2.2 hc2
            have hu := (HB.out.2.2 r (by rw [hes]; simp)).2.2
            obtain ⟨S, hS⟩ : ∃ S, S = strOfNums (hopB r.1 r.2) := ⟨_, rfl⟩
            have hsz : S.size = (hopB r.1 r.2).length := by rw [hS, strOfNums_size]
            rw [← hS] at hc0
            obtain ⟨st, hst⟩ : ∃ st, st = hopS r.1 := ⟨_, rfl⟩
            rw [← hst] at hc2
            have hb1 : (addrB es).length + (hopB r.1 r.2).length ≤ N := by
              rw [HND.out, hes, addrB_append, addrB_cons, List.length_append, List.length_append]
              omega
            have HD2 := Lib.hid (And.intro hes (And.intro hS hsz))
            have hb2 : (addrB es).length + S.size ≤ N := by rw [hsz]; exact hb1
            clear hes hS hst hu hsz hb1
            go_wp2_with (at_builtin; refine wpRoomStr rfl _ _ rfl W0.heap.size _ 128 152 ((addrB es).map (Value.int .u8) ++ L) ((Below.heap_alloc _ _ _ (by have := hI.out.size; exact (Array.getElem?_eq_some_iff.1 hJ.out.1).1)).trans hJ.out.1) rfl S rfl (by omega) (by have := hJ.out.2.1; rw [List.length_append, List.length_map]; omega) ?_)
            intro w' hg' hb'
            have HG := Lib.hid (And.intro hg' (hb' w.heap.size w (hJ.out.2.2.alloc hJ.out.2.2.size _) hI.out.size))
            clear hg' hb'
            go_wp2_with fail
            go_roundg rs.length
            case measure => simp
            case rel =>
              have hS := HD2.out.2.1
              have hsz := HD2.out.2.2
              have hLl := hJ.out.2.1
              have hu := (HB.out.2.2 r (by rw [HD2.out.1]; simp))
              have hub : U8 (hopB r.1 r.2) := hopU8 r.1 hu.1 r.2 hu.2.1 hu.2.2
              refine ⟨es ++ [r], rs, L.drop (hopB r.1 r.2).length, by rw [HD2.out.1, List.append_assoc]; rfl, rfl, by rw [addrB_append, List.length_append, hsz]; simp [addrB], by simp, ?_⟩
              refine ⟨?_, ?_, HG.out.2⟩
              · refine HG.out.1.trans ?_
                have e2 : List.drop ((addrB es).length + S.size) ((addrB es).map (Value.int .u8) ++ L) = L.drop (hopB r.1 r.2).length := by
                  rw [List.drop_append, List.length_map, hsz, Nat.add_sub_cancel_left, List.drop_of_length_le (by simp), List.nil_append]
                have e3 : Lib.strCells S = (hopB r.1 r.2).map (Value.int .u8) := by rw [hS]; exact strCells_of _ hub
                rw [e2, e3, addrB_append, List.map_append]
                simp [addrB]
              · rw [addrB_append, List.length_append, List.length_drop]
                have h1 : (addrB [r]).length = (hopB r.1 r.2).length := by simp [addrB]
                omega
      · have ht : decide (N < 128) = false := by rw [decide_eq_false_iff_not]; exact h128
        have ht2 : decide ((N : Int) < 128) = false := by rw [decide_eq_false_iff_not]; omega
        have hmk : ∀ w, (Instr.makeSlice 23 (.int .i64 0) (.int .i64 (N : Int))).run Tryz.prog w = .ok (.slice (some ⟨w.heap.size, 0, none⟩) 0 N) (w.alloc (.cells (madeCells #[.int .u8 0] N) 5)) := fun w => by
          obtain ⟨i0, hi, hz0, hz1, hz2⟩ := info_parts info5
          have h := run_make (P := Tryz.prog) w 23 5 i0 _ Tryz.underlying23 hi hz0 .i64 .i64 0 (N : Int) (by omega) (by omega) (by rw [hz2]; omega) (by omega)
          rw [hz1, show ((N : Int).toNat * 1) = N by simp] at h
          exact h
        go_wp2_with fail
        obtain ⟨W0, hW0⟩ : ∃ W, W = wr := ⟨_, rfl⟩
        rw [← hW0] at hI ⊢
        clear hW0 wr
        go_loopg [6, 29] n (fun gk sv iv wx => ∃ (es rs : List Hop) (L : List Value), hs = es ++ rs ∧ gk = rs.length ∧ sv = .slice (some ⟨W0.heap.size, 0, none⟩) (addrB es).length N ∧ iv = .int .i64 (es.length : Int) ∧
          Hid (wx.heap[W0.heap.size]? = some (.cells ((addrB es).map (Value.int .u8) ++ L).toArray 5 (0, 0)) ∧ (addrB es).length + L.length = N ∧ Below w.heap.size w wx))
        case atStart => exact ⟨[], hs, List.replicate N (.int .u8 0), rfl, HB.out.2.1.symm, rfl, rfl, by show _ = some (Obj.cells ([] ++ List.replicate N (Value.int .u8 0)).toArray _ (0, 0)); rw [List.nil_append, ← toList_madeCells_one]; exact heap_alloc_new _ _, by simp [addrB], hI.out.alloc hI.out.size _⟩
        case round =>
          obtain ⟨es, rs, L, hes, rfl, rfl, rfl, hJ⟩ := hrel
          cases rs with
          | nil =>
            have HE := Lib.hid hes
            have hlt : es.length = n := by rw [← HB.out.2.1, hes, List.append_nil]
            have hl3 : decide (es.length < n) = false := by rw [decide_eq_false_iff_not, hlt]; omega
            clear hes hlt
            go_wp2_with fail
            go_ret
            have hde : hs = es := by rw [HE.out, List.append_nil]
            rw [hde]
            refine ⟨_, _, rfl, hI.out.size, by have := hJ.out.2.1; omega, by omega, fun i hi => ?_, hJ.out.2.2⟩
            rw [Nat.zero_add, cell_of_row _ _ i _ _ (0, 0) hJ.out.1]
            simp [List.getElem?_append_left, List.getD, hi]
          | cons r rs =>
            have hlt : es.length < n := by rw [← HB.out.2.1, hes]; simp
            have hl3 : decide (es.length < n) = true := by rw [decide_eq_true_iff]; omega
            obtain ⟨q, hc0, hc1, hc2⟩ := ma_cells HB.out.1 HB.out.2.1 es r rs hes
            replace hc0 := cB hJ.out.2.2 hc0
            replace hc1 := cB hJ.out.2.2 hc1
            replace hc2 := cB hJ.out.2.2 hc2
            have hu := (HB.out.2.2 r (by rw [hes]; simp)).2.2
            obtain ⟨S, hS⟩ : ∃ S, S = strOfNums (hopB r.1 r.2) := ⟨_, rfl⟩
            have hsz : S.size = (hopB r.1 r.2).length := by rw [hS, strOfNums_size]
            rw [← hS] at hc0
            obtain ⟨st, hst⟩ : ∃ st, st = hopS r.1 := ⟨_, rfl⟩
            rw [← hst] at hc2
            have hb1 : (addrB es).length + (hopB r.1 r.2).length ≤ N := by
              rw [HND.out, hes, addrB_append, addrB_cons, List.length_append, List.length_append]
              omega
            have HD2 := Lib.hid (And.intro hes (And.intro hS hsz))
            have hb2 : (addrB es).length + S.size ≤ N := by rw [hsz]; exact hb1
            clear hes hS hst hu hsz hb1
            go_wp2_with (at_builtin; refine wpRoomStr rfl _ _ rfl W0.heap.size _ N 5 ((addrB es).map (Value.int .u8) ++ L) ((Below.heap_alloc _ _ _ (by have := hI.out.size; exact (Array.getElem?_eq_some_iff.1 hJ.out.1).1)).trans hJ.out.1) rfl S rfl (by omega) (by have := hJ.out.2.1; rw [List.length_append, List.length_map]; omega) ?_)
            intro w' hg' hb'
            have HG := Lib.hid (And.intro hg' (hb' w.heap.size w (hJ.out.2.2.alloc hJ.out.2.2.size _) hI.out.size))
            clear hg' hb'
            go_wp2_with fail
            go_roundg rs.length
            case measure => simp
            case rel =>
              have hS := HD2.out.2.1
              have hsz := HD2.out.2.2
              have hLl := hJ.out.2.1
              have hu := (HB.out.2.2 r (by rw [HD2.out.1]; simp))
              have hub : U8 (hopB r.1 r.2) := hopU8 r.1 hu.1 r.2 hu.2.1 hu.2.2
              refine ⟨es ++ [r], rs, L.drop (hopB r.1 r.2).length, by rw [HD2.out.1, List.append_assoc]; rfl, rfl, by rw [addrB_append, List.length_append, hsz]; simp [addrB], by simp, ?_⟩
              refine ⟨?_, ?_, HG.out.2⟩
              · refine HG.out.1.trans ?_
                have e2 : List.drop ((addrB es).length + S.size) ((addrB es).map (Value.int .u8) ++ L) = L.drop (hopB r.1 r.2).length := by
                  rw [List.drop_append, List.length_map, hsz, Nat.add_sub_cancel_left, List.drop_of_length_le (by simp), List.nil_append]
                have e3 : Lib.strCells S = (hopB r.1 r.2).map (Value.int .u8) := by rw [hS]; exact strCells_of _ hub
                rw [e2, e3, addrB_append, List.map_append]
                simp [addrB]
              · rw [addrB_append, List.length_append, List.length_drop]
                have h1 : (addrB [r]).length = (hopB r.1 r.2).length := by simp [addrB]
                omega
    | cons r rs =>
      have hlt : ds.length < n := by rw [← HB.out.2.1, hds]; simp
      have hl2 : decide (ds.length < n) = true := by rw [decide_eq_true_iff]; omega
      obtain ⟨q, hc0, hc1, hc2⟩ := ma_cells HB.out.1 HB.out.2.1 ds r rs hds
      replace hc0 := cB hI.out hc0
      replace hc1 := cB hI.out hc1
      replace hc2 := cB hI.out hc2
      obtain ⟨S, hS⟩ : ∃ S, S = strOfNums (hopB r.1 r.2) := ⟨_, rfl⟩
      have hsz : S.size = (hopB r.1 r.2).length := by rw [hS, strOfNums_size]
      rw [← hS] at hc0
      obtain ⟨st, hst⟩ : ∃ st, st = hopS r.1 := ⟨_, rfl⟩
      rw [← hst] at hc2
      have hb1 : (addrB ds).length + (hopB r.1 r.2).length ≤ 123000 := by
        have h := hN
        rw [hds, addrB_append, addrB_cons, List.length_append, List.length_append] at h
        omega
      have HD := Lib.hid hds
      clear hds hS hst
      go_wp2_with fail
      go_goals
      go_roundg rs.length
      case measure => simp
      case rel => exact ⟨ds ++ [r], rs, by rw [HD.out, List.append_assoc]; rfl, rfl, by rw [addrB_append, List.length_append]; simp [addrB], by simp, hI.out.alloc hI.out.size _⟩

theorem ma_form {w : World} {B : Nat} {v : Value} {hs : List Hop} (h : MA w B v hs) (hn : hs ≠ []) : ∃ g c, v = .slice (some ⟨g, 0, none⟩) hs.length c ∧ hs.length ≤ c := by
  obtain ⟨qs, h1, h2, h3⟩ := h
  have hl : 0 < hs.length := List.length_pos_iff.2 hn
  rcases h2.2 with ⟨_, h0⟩ | ⟨g, cap, cur, hv, _, _, hc, _⟩
  · omega
  · exact ⟨g, cap, hv, hc⟩
theorem maNeqNil (a : Addr) (n c : Nat) (w : World) : (binOp .neq 76 (.slice (some a) n c) (.slice none 0 0)).run Tryz.prog w = .ok (.bool true) w := by
  have h := run_equal_slice_nil (P := Tryz.prog) w 76 _ (some a) n c Tryz.underlying76
  simp [binOp, h]

theorem convID (w : World) (xs : List Int) (hu : U8 xs) (hl : xs.length ≤ 1000000) : ∃ c W, (convert 85 23 (.string (strOfNums xs))).run Tryz.prog w = .ok (.slice (some ⟨w.heap.size, 0, none⟩) xs.length c) W ∧
    Bs W w.heap.size 0 xs ∧ xs.length ≤ c ∧ c ≤ 9223372036854775807 ∧ Below w.heap.size w W := by
  have h := run_bytes_of_string (P := Tryz.prog) w 85 23 5 (strOfNums xs) (by kernel_rfl) Tryz.underlying23 Tryz.underlying5
  rw [strOfNums_size] at h
  refine ⟨_, _, h, ?_, ?_, ?_, ?_⟩
  · intro i hi
    have hi2 : i < (strOfNums xs).data.size := by simpa [strOfNums] using hi
    rw [Nat.zero_add]
    refine (World.cell?_alloc_mark w.drew _ _ _ i).trans ?_
    rw [bytesRow_at _ _ _ hi2, strOf_byte xs hu]
  · exact grownCap_ge _ _ _ _
  · exact grownCap_le_maxLen _ _ _ _ (by unfold maxLen; omega)
  · exact ((Below.refl _ _).drew).alloc (Nat.le_refl _) _

/-- .. as functions of the world. -/
theorem convIDF (xs : List Int) (hu : U8 xs) (hl : xs.length ≤ 1000000) : ∃ (cF : World → Nat) (WF : World → World), (∀ w, (convert 85 23 (.string (strOfNums xs))).run Tryz.prog w = .ok (.slice (some ⟨w.heap.size, 0, none⟩) xs.length (cF w)) (WF w)) ∧
    ∀ w, Bs (WF w) w.heap.size 0 xs ∧ xs.length ≤ cF w ∧ cF w ≤ 9223372036854775807 ∧ Below w.heap.size w (WF w) :=
  ⟨fun w => (convID w xs hu hl).choose, fun w => (convID w xs hu hl).choose_spec.choose, fun w => (convID w xs hu hl).choose_spec.choose_spec.1, fun w => (convID w xs hu hl).choose_spec.choose_spec.2⟩
set_option maxRecDepth 100000 in
theorem implSplit6 (init : List Hop) (h : Hop) (hi : init ≠ []) (hh : ∀ x ∈ init ++ [h], HopOk x) (h6 : h.1 = 6) (hl : (init ++ [h]).length ≤ 1000) (b o N c : Nat) (w : World) (hN : (addrB (init ++ [h])).length = N) (hb : Bs w b o (addrB (init ++ [h]))) (hT : Tab w) :
    Calls Tryz.prog 28 #[.slice (some ⟨b, o, none⟩) N c] w fun e w' => ∃ g1 c1 g2 c2, e = .returned (.tuple #[.slice (some ⟨g1, 0, none⟩) (addrB init).length c1, .slice (some ⟨g2, 0, none⟩) h.2.length c2, .bool true]) ∧ Bs w' g1 0 (addrB init) ∧ Bs w' g2 0 h.2 ∧ Below w.heap.size w w' := by
  have hao := addrOf (init ++ [h]) hh hl [] (.inl (by simp)) (.inl rfl) b o N c w (by rw [List.append_nil]; exact hN) (by rw [List.append_nil]; exact hb) hT
  have hil : init.length ≤ 1000 := by simp at hl; omega
  have hLi : (addrB init).length ≤ 123000 := by have := addrB_le init (fun x hx => hh x (by simp [hx])); omega
  have HA := Lib.hid (And.intro hao (And.intro hh hi))
  clear hao hb hT hN hh
  go_enter Tryz.func28, Tryz.ntmps28
  go_wp2_with fail
  refine HA.out.1.mono ?_
  rintro e w1 ⟨hB, ⟨_, v, rfl, hM⟩ | ⟨hne, _⟩⟩
  rotate_left
  · exact absurd rfl hne
  obtain ⟨g, cap, rfl, hcap⟩ := ma_form hM (by simp)
  have hk : HopOk h := HA.out.2.1 h (by simp)
  have hsa := splitAddr6 w.heap.size g _ cap w1 hl hcap hB.size init (by simp) h hM hk h6
  have HS := Lib.hid (And.intro hsa (And.intro hB hk))
  clear hsa hM hB hk
  obtain ⟨M, hM⟩ : ∃ M, M = (init ++ [h]).length := ⟨_, rfl⟩
  rw [← hM] at HS ⊢
  clear hM hcap hl
  go_wp2_with fail
  refine HS.out.1.mono ?_
  rintro e w2 ⟨tv, rfl, hM2, _, hB2⟩
  obtain ⟨g2, cap2, rfl, hcap2⟩ := ma_form hM2 HA.out.2.2
  have hmb := maBytes w.heap.size g2 _ cap2 w2 init rfl hM2 (fun x hx => HA.out.2.1 x (by simp [hx])) hil
  have HM2 := Lib.hid (And.intro hmb (HS.out.2.1.trans (hB2.mono HS.out.2.1.size)))
  clear hmb hM2 hB2
  have hnq := fun w => maNeqNil ⟨g2, 0, none⟩ init.length cap2 w
  go_wp2_with fail
  refine HM2.out.1.mono ?_
  rintro e w3 ⟨g3, c3, rfl, _, _, _, hbs, hB3⟩
  have hB3' := HM2.out.2.trans (hB3.mono HM2.out.2.size)
  have hcl := Tryz.bytes_Clone_at ⟨g3, 0, none⟩ (addrB init).length c3 (addrB init) w3 rfl (by omega) (fun i hi => by rw [Lib.add_plain]; exact hbs i hi)
  have HC := Lib.hid (And.intro hcl hB3')
  clear hbs hB3 hB3' hcl
  go_wp2_with fail
  refine HC.out.1.mono ?_
  rintro e w4 ⟨v', rfl, hown, hvn, hB4⟩
  obtain ⟨g4, c4, rfl, hbs4⟩ : ∃ g4 c4, v' = .slice (some ⟨g4, 0, none⟩) (addrB init).length c4 ∧ Bs w4 g4 0 (addrB init) := by
    have hown2 := hown
    rcases hown.2 with ⟨h0, _⟩ | ⟨g4, c4, cur, rfl, _⟩
    · exact absurd h0 hvn
    · exact ⟨g4, c4, rfl, ownsBytes hown2 rfl⟩
  obtain ⟨cF, WF, hcv, hW⟩ := convIDF h.2 HS.out.2.2.2.2 (by have := hop_len h.1 h.2; have := hopB_le h HS.out.2.2; omega)
  have HW := Lib.hid (And.intro hW (And.intro hbs4 (HC.out.2.trans (hB4.mono HC.out.2.size))))
  clear hown hvn hB4 hbs4 hW
  go_wp2_with fail
  go_ret3
  have hb := (HW.out.1 w4).2.2.2
  exact ⟨g4, c4, w4.heap.size, cF w4, rfl, HW.out.2.1.below hb, (HW.out.1 w4).1, HW.out.2.2.trans (hb.mono HW.out.2.2.size)⟩
end Go.Proofs.YtapkmoakbfpkeaaGreatDoor
