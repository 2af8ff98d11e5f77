/- ForEach, IDFromP2PAddr. -/
import Derived.Test.YtkfiacolgkocfaaGreatDoorG1
namespace Go.Proofs.YtkfiacolgkocfaaGreatDoor
open Go Go.RowKit Go.Proofs Go.Sort
theorem ma_cells2 {B g n c : Nat} {w : World} {hs : List Hop} (hm : MA w B (.slice (some ⟨g, 0, none⟩) n c) hs) (hn : hs.length = n) (ds : List Hop) (h : Hop) (rs : List Hop) (hd : hs = ds ++ h :: rs) :
    ∃ q, w.cell? ⟨g, ds.length * 3, none⟩ = some (.string (strOfNums (hopB h.1 h.2))) ∧ w.cell? ⟨g, ds.length * 3 + 1, none⟩ = some (.pointer (some ⟨q, 0, none⟩)) ∧ w.cell? ⟨g, ds.length * 3 + 2, none⟩ = some (.int .i64 (hopS h.1)) ∧ ProtB w (protOf h.1) q := by
  obtain ⟨qs, hl, ho, hp⟩ := hm
  subst hd
  have hl2 : qs.length = ds.length + (rs.length + 1) := by simpa using hl
  obtain ⟨qa, qb, rfl, hqa⟩ : ∃ qa qb, qs = qa ++ qb ∧ qa.length = ds.length := ⟨qs.take ds.length, qs.drop ds.length, (List.take_append_drop _ _).symm, by rw [List.length_take]; omega⟩
  cases qb with
  | nil => simp at hl2; omega
  | cons q qb =>
    have e : compsOf (ds ++ h :: rs) (qa ++ q :: qb) = compsOf ds qa ++ (compCells h q ++ compsOf rs qb) := by
      unfold compsOf
      rw [List.zip_append hqa.symm, List.flatMap_append, List.zip_cons_cons, List.flatMap_cons]
    have hc := comps_len ds qa hqa
    have hn2 : ds.length < n := by rw [← hn]; simp
    rw [hn, e] at ho
    refine ⟨q, ?_, ?_, ?_, ?_⟩
    · rw [ho.cellAt _ (by omega), List.getElem?_append_right (by omega), hc, Nat.sub_self]; rfl
    · rw [ho.cellAt _ (by omega), List.getElem?_append_right (by omega), hc, Nat.add_sub_cancel_left]; rfl
    · rw [ho.cellAt _ (by omega), List.getElem?_append_right (by omega), hc, Nat.add_sub_cancel_left]; rfl
    · refine (hp (h, q) ?_).1
      rw [List.zip_append hqa.symm, List.zip_cons_cons]
      simp
/-- The variable r holds one part. -/
def CompIs (r : Nat) (s : ByteArray) (q : Value) (x : Int) (w : World) : Prop := w.heap[r]? = some (.cells #[.string s, q, .int .i64 x] 87 (0, 0))
theorem CompIs.cells {r : Nat} {s : ByteArray} {q : Value} {x : Int} {w : World} (h : CompIs r s q x w) : (w.cell? ⟨r, 0, none⟩ = some (.string s) ∧ w.cell? ⟨r, 1, none⟩ = some q ∧ w.cell? ⟨r, 2, none⟩ = some (.int .i64 x)) ∧ w.frozen? ⟨r, 0, none⟩ = false ∧ w.frozen? ⟨r, 1, none⟩ = false ∧ w.frozen? ⟨r, 2, none⟩ = false ∧ r < w.heap.size := by
  have h' : w.heap[r]? = some (.cells #[.string s, q, .int .i64 x] 87 (0, 0)) := h
  refine ⟨⟨?_, ?_, ?_⟩, ?_, ?_, ?_, (Array.getElem?_eq_some_iff.1 h').1⟩ <;> simp [World.cell?, World.frozen?, h']
theorem CompIs.alloc {r : Nat} {s : ByteArray} {q : Value} {x : Int} {w : World} (h : CompIs r s q x w) (o : Obj) : CompIs r s q x (w.alloc o) := (Below.heap_alloc _ _ _ (Array.getElem?_eq_some_iff.1 (show w.heap[r]? = some _ from h)).1).trans h
theorem CompIs.store {r : Nat} {s : ByteArray} {q : Value} {x : Int} {w : World} (h : CompIs r s q x w) (s' : ByteArray) (q' : Value) (x' : Int) : CompIs r s' q' x' (((w.setCell ⟨r, 0, none⟩ (.string s')).setCell ⟨r, 1, none⟩ q').setCell ⟨r, 2, none⟩ (.int .i64 x')) := by
  have h' : w.heap[r]? = some (.cells #[.string s, q, .int .i64 x] 87 (0, 0)) := h
  unfold CompIs
  simp [World.setCell, Array.getElem?_modify, h']
set_option maxRecDepth 100000 in
theorem idCb (r : Nat) (s0 : ByteArray) (q0 : Value) (x0 : Int) (s : ByteArray) (q : Option Addr) (x : Int) (w : World) (hr : CompIs r s0 q0 x0 w) :
    Calls Tryz.prog 42 #[.agg #[.string s, .pointer q, .int .i64 x], .pointer (some ⟨r, 0, none⟩)] w fun e w' => e = .returned (.bool true) ∧ CompIs r s (.pointer q) x w' ∧ Below r w w' := by
  have HR := Lib.hid hr
  obtain ⟨⟨c0, c1, c2⟩, z0, z1, z2, hlt⟩ := hr.cells
  have hne : w.heap.size ≠ r := by omega
  clear hr
  go_enter Tryz.func42, Tryz.ntmps42
  go_wp2_with fail
  go_ret
  have hch := ((((Below.refl r w).setCell (p := ⟨r, 0, none⟩) (Nat.le_refl _) (.string s)).setCell (p := ⟨r, 1, none⟩) (Nat.le_refl _) (.pointer q)).setCell (p := ⟨r, 2, none⟩) (Nat.le_refl _) (.int .i64 x))
  exact ⟨rfl, (HR.out.store _ _ _).alloc _, hch.alloc (Nat.le_trans (Nat.le_of_lt hlt) hch.size) _⟩
/-- What ForEach has laid into the variable behind the parts ds. -/
def LastIs (w0 : World) (ds : List Hop) (wr : World) : Prop := ∃ (s : ByteArray) (q : Option Addr) (x : Int), CompIs w0.heap.size s (.pointer q) x wr ∧
  ∀ init h, ds = init ++ [h] → ∃ q', s = strOfNums (hopB h.1 h.2) ∧ q = some ⟨q', 0, none⟩ ∧ x = hopS h.1 ∧ ProtB w0 (protOf h.1) q'
set_option maxRecDepth 100000 in
theorem forEach (B g n c : Nat) (w0 : World) (hs : List Hop) (hn : hs.length = n) (hl : n ≤ 1000) (hm : MA w0 B (.slice (some ⟨g, 0, none⟩) n c) hs) (w : World) (hB : Below w0.heap.size w0 w) (hL : LastIs w0 [] w) :
    Calls Tryz.prog 41 #[.slice (some ⟨g, 0, none⟩) n c, .func (Fn.func 42) #[] #[.pointer (some ⟨w0.heap.size, 0, none⟩)]] w fun e w' => e = .returned (.tuple #[]) ∧ LastIs w0 hs w' ∧ Below w0.heap.size w0 w' := by
  have HB := Lib.hid (And.intro hm (And.intro hn (And.intro hB hL)))
  clear hm hn hB hL
  go_enter Tryz.func41, Tryz.ntmps41
  go_wp2_with fail
  go_loopg [8] n (fun gk iv wr => ∃ (ds rs : List Hop), hs = ds ++ rs ∧ gk = rs.length ∧ iv = .int .i64 (ds.length : Int) ∧ Hid (LastIs w0 ds wr ∧ Below w0.heap.size w0 wr))
  case atStart => exact ⟨[], hs, rfl, HB.out.2.1.symm, rfl, HB.out.2.2.2, HB.out.2.2.1⟩
  case round =>
    obtain ⟨ds, rs, hds, rfl, rfl, hI⟩ := hrel
    cases rs with
    | nil =>
      have hlt : ds.length = n := by rw [← HB.out.2.1, hds, List.append_nil]
      have hl2 : decide (ds.length < n) = false := by rw [decide_eq_false_iff_not, hlt]; omega
      have HD := Lib.hid (show ds = hs by rw [hds, List.append_nil])
      clear hds hlt
      go_wp2_with fail
      go_end0
      exact ⟨rfl, by rw [← HD.out]; exact hI.out.1, hI.out.2⟩
    | cons r rs =>
      have hlt : ds.length < n := by rw [← HB.out.2.1, hds]; simp
      have hl2 : decide (ds.length < n) = true := by rw [decide_eq_true_iff]; omega
      obtain ⟨q, hc0, hc1, hc2, hp⟩ := ma_cells2 HB.out.1 HB.out.2.1 ds r rs hds
      replace hc0 := cB hI.out.2 hc0
      replace hc1 := cB hI.out.2 hc1
      replace hc2 := cB hI.out.2 hc2
      have HD := Lib.hid (And.intro hds hp)
      clear hds hp
      obtain ⟨S, hS⟩ : ∃ S, S = strOfNums (hopB r.1 r.2) := ⟨_, rfl⟩
      rw [← hS] at hc0
      obtain ⟨X, hX⟩ : ∃ X : Int, X = hopS r.1 := ⟨_, rfl⟩
      rw [← hX] at hc2
      have HS := Lib.hid (And.intro hS hX)
      clear hS hX
      obtain ⟨s0, q0, x0, hci, _⟩ := hI.out.1
      have HC := Lib.hid hci
      clear hci
      go_wp2_with fail
      refine (idCb _ s0 (.pointer q0) x0 S (some ⟨q, 0, none⟩) X _ (HC.out.alloc _)).mono ?_
      rintro e w1 ⟨rfl, hci1, hB1⟩
      have H1 := Lib.hid (And.intro hci1 ((hI.out.2.alloc hI.out.2.size _).trans hB1))
      clear hci1 hB1 hc0 hc1 hc2
      go_wp2_with fail
      go_roundg rs.length
      case measure => simp
      case rel =>
        refine ⟨ds ++ [r], rs, by rw [HD.out.1, List.append_assoc]; rfl, rfl, by simp, ⟨S, some ⟨q, 0, none⟩, X, H1.out.1, fun init h hi => ?_⟩, H1.out.2⟩
        obtain ⟨_, h2⟩ := List.append_inj' hi rfl
        obtain rfl : r = h := by simpa using h2
        exact ⟨q, HS.out.1, rfl, HS.out.2, HD.out.2⟩
/-- The package's error for what is no address of a peer. -/
def ErrV (w : World) : Prop := ∃ (T : TypeId) (a : Addr), w.cell? ⟨0, 0, none⟩ = some (.iface T (.pointer (some a)))
theorem ErrV.below {w w' : World} (h : ErrV w) (hb : Below w.heap.size w w') : ErrV w' := by
  obtain ⟨T, a, hc⟩ := h
  exact ⟨T, a, cB hb hc⟩
theorem code6 (k : Nat) (a : Nat) : ∃ s0 s2 s3 s4 s5, (protOf k).cells a = #[s0, .int .i64 (protOf k).code, s2, s3, s4, s5] := ⟨_, _, _, _, _, rfl⟩
theorem codeNot6 (k : Nat) (hk : k < 8) (h6 : k ≠ 6) : (protOf k).code ≠ 421 := by
  have h : k = 0 ∨ k = 1 ∨ k = 2 ∨ k = 3 ∨ k = 4 ∨ k = 5 ∨ k = 7 := by omega
  rcases h with rfl | rfl | rfl | rfl | rfl | rfl | rfl <;> decide
theorem last_part {w0 w : World} {init : List Hop} {h : Hop} (hL : LastIs w0 (init ++ [h]) w) (hB : Below w0.heap.size w0 w) : ∃ q, PartAt w w0.heap.size h q := by
  obtain ⟨s, q, x, hc, hp⟩ := hL
  obtain ⟨q', rfl, rfl, rfl, hq⟩ := hp init h rfl
  exact ⟨q', hc.cells.1, hq.below hB⟩
set_option maxRecDepth 100000 in
theorem idFrom6 (B g n c : Nat) (w : World) (hn1 : n ≤ 1000) (init : List Hop) (h : Hop) (hi : (init ++ [h]).length = n) (hm : MA w B (.slice (some ⟨g, 0, none⟩) n c) (init ++ [h])) (hk : HopOk h) (h6 : h.1 = 6) :
    Calls Tryz.prog 29 #[.slice (some ⟨g, 0, none⟩) n c] w fun e w' => e = .returned (.tuple #[.string (strOfNums h.2), .nilIface]) ∧ Below w.heap.size w w' := by
  have hnn := fun w => maNotNil ⟨g, 0, none⟩ n c w
  have hB0 : Below w.heap.size w (w.alloc (.cells #[.string ⟨#[]⟩, .pointer none, .int .i64 0] 87)) := (Below.refl _ _).alloc (Nat.le_refl _) _
  have hfe := forEach B g n c w (init ++ [h]) hi hn1 hm _ hB0 ⟨⟨#[]⟩, none, 0, heap_alloc_new _ _, fun i x hx => by simp at hx⟩
  have HF := Lib.hid (And.intro hfe hk)
  clear hfe hm hi hB0 hk
  go_enter Tryz.func29, Tryz.ntmps29
  go_wp2_with fail
  refine HF.out.1.mono ?_
  rintro e w1 ⟨rfl, hL, hB⟩
  obtain ⟨q, hp⟩ := last_part hL hB
  have HP := Lib.hid (And.intro hp hB)
  clear hL hB hp
  go_wp2_with fail
  refine (compProtocol w.heap.size q h (by omega) _ HP.out.1).mono ?_
  rintro e w2 ⟨a, rfl, hB2⟩
  rw [h6]
  obtain ⟨s0, s2, s3, s4, s5, hcell⟩ : ∃ s0 s2 s3 s4 s5, (protOf 6).cells a = #[s0, .int .i64 421, s2, s3, s4, s5] := ⟨_, _, _, _, _, rfl⟩
  rw [hcell]
  have HP2 := Lib.hid (And.intro (HP.out.1.below hB2) (HP.out.2.trans (hB2.mono HP.out.2.size)))
  have hcf := codeField s0 s2 s3 s4 s5 421
  clear hB2 hcell
  go_wp2_with fail
  refine (compRaw w.heap.size q h HF.out.2 _ HP2.out.1).mono ?_
  rintro e w3 ⟨g3, c3, rfl, hg3, hc3, hcm3, hbs, hB3⟩
  have hconv := Lib.BytesIn.convert (P := Tryz.prog) (w := w3) (p := some ⟨g3, 0, none⟩) (n := h.2.length) (xs := h.2) (fun _ => ⟨g3, 0, rfl, hbs⟩) rfl c3 26 5 59 Tryz.underlying26 (by kernel_rfl) (by kernel_rfl)
  have HP3 := Lib.hid (HP2.out.2.trans (hB3.mono HP2.out.2.size))
  clear hB3 hbs hg3 hc3 hcm3 hcf
  go_wp2_with fail
  go_ret2
  exact ⟨rfl, HP3.out⟩
set_option maxRecDepth 100000 in
theorem idFromN (B g n c : Nat) (w : World) (hn1 : n ≤ 1000) (init : List Hop) (h : Hop) (hi : (init ++ [h]).length = n) (hm : MA w B (.slice (some ⟨g, 0, none⟩) n c) (init ++ [h])) (hk : h.1 < 8) (h6 : h.1 ≠ 6) (hE : ErrV w) :
    Calls Tryz.prog 29 #[.slice (some ⟨g, 0, none⟩) n c] w fun e w' => (∃ T a, e = .returned (.tuple #[.string ⟨#[]⟩, .iface T (.pointer (some a))])) ∧ Below w.heap.size w w' := by
  have hnn := fun w => maNotNil ⟨g, 0, none⟩ n c w
  have hB0 : Below w.heap.size w (w.alloc (.cells #[.string ⟨#[]⟩, .pointer none, .int .i64 0] 87)) := (Below.refl _ _).alloc (Nat.le_refl _) _
  have hfe := forEach B g n c w (init ++ [h]) hi hn1 hm _ hB0 ⟨⟨#[]⟩, none, 0, heap_alloc_new _ _, fun i x hx => by simp at hx⟩
  have HF := Lib.hid (And.intro hfe (And.intro hk hE))
  have hc6 : ((protOf h.1).code != 421) = true := by rw [bne_iff_ne]; exact codeNot6 h.1 hk h6
  clear hfe hm hi hB0 hk hE h6
  go_enter Tryz.func29, Tryz.ntmps29
  go_wp2_with fail
  refine HF.out.1.mono ?_
  rintro e w1 ⟨rfl, hL, hB⟩
  obtain ⟨q, hp⟩ := last_part hL hB
  have HP := Lib.hid (And.intro hp hB)
  clear hL hB hp
  go_wp2_with fail
  refine (compProtocol w.heap.size q h HF.out.2.1 _ HP.out.1).mono ?_
  rintro e w2 ⟨a, rfl, hB2⟩
  obtain ⟨s0, s2, s3, s4, s5, hcell⟩ := code6 h.1 a
  rw [hcell]
  obtain ⟨C, hC⟩ : ∃ C, C = (protOf h.1).code := ⟨_, rfl⟩
  rw [← hC] at hc6 ⊢
  have hB3 := HP.out.2.trans (hB2.mono HP.out.2.size)
  obtain ⟨T, ea, hce⟩ := HF.out.2.2.below hB3
  have HB3 := Lib.hid hB3
  have hcf := codeField s0 s2 s3 s4 s5 C
  clear hB2 hcell hC hB3
  go_wp2_with fail
  go_quiet (fail)
  go_wp2_with fail
  go_ret2
  exact ⟨⟨T, ea, rfl⟩, below_drewN HB3.out _⟩
end Go.Proofs.YtkfiacolgkocfaaGreatDoor
