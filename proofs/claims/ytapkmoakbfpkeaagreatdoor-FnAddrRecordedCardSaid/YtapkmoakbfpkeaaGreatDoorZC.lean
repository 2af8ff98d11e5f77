/- The reference's AddrSplit. ForEach, IDFromP2PAddr. impl.AddrPeer. The law FnAddrPeer. A list of parts, cloned and grown. The law FnAddrJoined. AddrInfoFromP2pAddr. impl.plainInfo. impl.AddrInfoOf. Bytes in their order; what addresses tell of peers, as a plain law. What stays while rows grow; rows of slices. A map of peers' addresses; AddrInfosFromP2pAddrs. AddrInfosFromP2pAddrs. impl.plainInfo, whatever the number of addresses. The order of peers: the closure of impl.AddrInfos, and the sort by it. impl.AddrInfos. impl.AddrSplit of an ID alone, and of an address without an ID; AddrInfoOf likewise. slices.EqualFunc at lists of bytes, spec.AddrSame. -/
import Derived.Test.YtapkmoakbfpkeaaGreatDoorE5
import Derived.Test.YtapkmoakbfpkeaaGreatDoorC1
import Derived.Shelf.SlSortCmp.NoneTotal
import Derived.Test.YtapkmoakbfpkeaaGreatDoorC7
import Derived.Maps.RangeWalk
import Derived.Maps.AppendAt
import Derived.Test.YtapkmoakbfpkeaaGreatDoorShelf2
namespace Go.Proofs.YtapkmoakbfpkeaaGreatDoor
open Go Go.RowKit Go.Proofs Go.Sort
/-- 'two byte slices come back, each of the call's own memory'. -/
def TwoBytes (xs ys : List Int) (w : World) (e : Ending) (w' : World) : Prop :=
  ∃ v1 v2, e = .returned (.tuple #[v1, v2]) ∧ w'.ownsRow w.heap.size 5 1 v1 xs.length (xs.map (Value.int .u8)) ∧ w'.ownsRow w.heap.size 5 1 v2 ys.length (ys.map (Value.int .u8)) ∧ Below w.heap.size w w'
theorem HAt.left {w : World} {b o : Nat} {l l' : List HIn} (h : HAt w b o (l ++ l')) : HAt w b o l := fun i x hx => h i x (by
  have hi : i < l.length := (List.getElem?_eq_some_iff.1 hx).1
  rw [List.getElem?_append_left hi]
  exact hx)
set_option maxRecDepth 100000 in
theorem specSplit6 (f : List Int → List Int) (hf : ShaIs f) (init : List HIn) (K : Int) (p : Option Addr) (m cs : Nat) (xs : List Int) (n : Nat) (hn : init.length = n) (hn1 : n ≤ 99) (h6 : K % 8 = 6) (b o c : Nat) (hc : n + 1 ≤ c) (w : World) (hb : HAt w b o (init ++ [⟨K, ⟨p, m, cs, xs⟩⟩])) :
    Calls Tryz.prog 81 #[.slice (some ⟨b, o, none⟩) (n + 1) c] w (TwoBytes (addrB (init.map (hopOf f))) (idB f xs) w) := by
  have HB := Lib.hid (And.intro hb (And.intro hf hn))
  obtain ⟨hc0, hc1, hok⟩ := hb n ⟨K, ⟨p, m, cs, xs⟩⟩ (by rw [← hn]; simp)
  replace hc0 : w.cell? ⟨b, o + n * 2, none⟩ = some (.int .u8 K) := hc0
  replace hc1 : w.cell? ⟨b, o + n * 2 + 1, none⟩ = some (.slice p m cs) := hc1
  have HO := Lib.hid hok
  have hK0 : 0 ≤ K := hok.1.1
  have hl1 : decide ((n : Int) < 0) = false := by rw [decide_eq_false_iff_not]; omega
  have h61 : (K % 8 != 6) = false := by rw [bne_eq_false_iff_eq]; exact h6
  have hcc : (n : Int) ≤ c := by omega
  clear hb hf hok h6 hn
  go_enter Tryz.func81, Tryz.ntmps81
  go_wp2_with fail
  have hAt : HAt w b o init := HB.out.1.left
  have HA := Lib.hid hAt
  clear hAt
  go_region_held (fun w' => w'.cell? ⟨b, o + n * 2 + 1, none⟩ = some (.slice p m cs))
    (first | exact hc1 | exact cB hBs.out.2 hc1 | exact cB hB2.out.2 (cB hBs.out.2 hc1))
    (first
      | (go_at_call 16; refine (addrOfB f HB.out.2.1 init n HB.out.2.2 (by omega) b o c _ (HA.out.below ((Below.refl _ _).drew))).mono ?_; rintro e w1 ⟨v1, rfl, hown, hB⟩; have hBs := Lib.hid (And.intro hown (show Below w.heap.size w w1 from ((Below.refl _ w).drew).trans hB)); clear hown hB)
      | (go_at_call 18; refine (addrID f HB.out.2.1 p m cs xs _ (HO.out.2.1.below hBs.out.2) HO.out.2.2.1 (by have := HO.out.2.2.2; simp at this; omega)).mono ?_; rintro e w2 ⟨v2, rfl, hown, hB⟩; have hB2 := Lib.hid (And.intro hown hB); clear hown hB))
  all_goals
    go_wp2_with fail
    go_ret2
    exact ⟨v1, v2, rfl, ownsRow_below hBs.out.1 hB2.out.2, hB2.out.1.mono hBs.out.2.size, hBs.out.2.trans (hB2.out.2.mono hBs.out.2.size)⟩
/-- 'the bytes, and nothing'. -/
def BytesNil (xs : List Int) (w : World) (e : Ending) (w' : World) : Prop :=
  ∃ v1, e = .returned (.tuple #[v1, .slice none 0 0]) ∧ w'.ownsRow w.heap.size 5 1 v1 xs.length (xs.map (Value.int .u8)) ∧ Below w.heap.size w w'
set_option maxRecDepth 100000 in
theorem specSplitN (f : List Int → List Int) (hf : ShaIs f) (init : List HIn) (K : Int) (s : Sl) (n : Nat) (hn : init.length = n) (hn1 : n ≤ 99) (h6 : K % 8 ≠ 6) (b o c : Nat) (w : World) (hb : HAt w b o (init ++ [⟨K, s⟩])) :
    Calls Tryz.prog 81 #[.slice (some ⟨b, o, none⟩) (n + 1) c] w (BytesNil (addrB ((init ++ [(⟨K, s⟩ : HIn)]).map (hopOf f))) w) := by
  have HB := Lib.hid (And.intro hb (And.intro hf hn))
  obtain ⟨hc0, hc1, hok⟩ := hb n ⟨K, s⟩ (by rw [← hn]; simp)
  replace hc0 : w.cell? ⟨b, o + n * 2, none⟩ = some (.int .u8 K) := hc0
  have hK0 : 0 ≤ K := hok.1.1
  have hl1 : decide ((n : Int) < 0) = false := by rw [decide_eq_false_iff_not]; omega
  have h61 : (K % 8 != 6) = true := by rw [bne_iff_ne]; exact h6
  clear hb hf hok h6 hn hc1
  go_enter Tryz.func81, Tryz.ntmps81
  go_wp2_with fail
  refine (addrOfB f HB.out.2.1 (init ++ [(⟨K, s⟩ : HIn)]) (n + 1) (by rw [List.length_append, HB.out.2.2]; rfl) (by omega) b o c _ HB.out.1).mono ?_
  rintro e w1 ⟨v1, rfl, hown, hB⟩
  have hBs := Lib.hid (And.intro hown hB)
  clear hown hB
  go_wp2_with fail
  go_ret2
  exact ⟨v1, rfl, hBs.out.1, hBs.out.2⟩
end Go.Proofs.YtapkmoakbfpkeaaGreatDoor
namespace Go.Proofs.YtapkmoakbfpkeaaGreatDoor
open Go Go.RowKit Go.Proofs Go.Sort
theorem ma_cells2 {B g n c : Nat} {w : World} {hs : List Hop} (hm : MA w B (.slice (some ⟨g, 0, none⟩) n c) hs) (hn : hs.length = n) (ds : List Hop) (h : Hop) (rs : List Hop) (hd : hs = ds ++ h :: rs) :
    ∃ q, w.cell? ⟨g, ds.length * 3, none⟩ = some (.string (strOfNums (hopB h.1 h.2))) ∧ w.cell? ⟨g, ds.length * 3 + 1, none⟩ = some (.pointer (some ⟨q, 0, none⟩)) ∧ w.cell? ⟨g, ds.length * 3 + 2, none⟩ = some (.int .i64 (hopS h.1)) ∧ ProtB w (protOf h.1) q := by
  obtain ⟨qs, hl, ho, hp⟩ := hm
  subst hd
  have hl2 : qs.length = ds.length + (rs.length + 1) := by simpa using hl
  obtain ⟨qa, qb, rfl, hqa⟩ : ∃ qa qb, qs = qa ++ qb ∧ qa.length = ds.length := ⟨qs.take ds.length, qs.drop ds.length, (List.take_append_drop _ _).symm, by rw [List.length_take]; omega⟩
  cases qb with
  | nil => simp at hl2; omega
  | cons q qb =>
    have e : compsOf (ds ++ h :: rs) (qa ++ q :: qb) = compsOf ds qa ++ (compCells h q ++ compsOf rs qb) := by
      unfold compsOf
      rw [List.zip_append hqa.symm, List.flatMap_append, List.zip_cons_cons, List.flatMap_cons]
    have hc := comps_len ds qa hqa
    have hn2 : ds.length < n := by rw [← hn]; simp
    rw [hn, e] at ho
    refine ⟨q, ?_, ?_, ?_, ?_⟩
    · rw [ho.cellAt _ (by omega), List.getElem?_append_right (by omega), hc, Nat.sub_self]; rfl
    · rw [ho.cellAt _ (by omega), List.getElem?_append_right (by omega), hc, Nat.add_sub_cancel_left]; rfl
    · rw [ho.cellAt _ (by omega), List.getElem?_append_right (by omega), hc, Nat.add_sub_cancel_left]; rfl
    · refine (hp (h, q) ?_).1
      rw [List.zip_append hqa.symm, List.zip_cons_cons]
      simp
/-- The variable r holds one part. -/
def CompIs (r : Nat) (s : ByteArray) (q : Value) (x : Int) (w : World) : Prop := w.heap[r]? = some (.cells #[.string s, q, .int .i64 x] 138 (0, 0))
theorem CompIs.cells {r : Nat} {s : ByteArray} {q : Value} {x : Int} {w : World} (h : CompIs r s q x w) : (w.cell? ⟨r, 0, none⟩ = some (.string s) ∧ w.cell? ⟨r, 1, none⟩ = some q ∧ w.cell? ⟨r, 2, none⟩ = some (.int .i64 x)) ∧ w.frozen? ⟨r, 0, none⟩ = false ∧ w.frozen? ⟨r, 1, none⟩ = false ∧ w.frozen? ⟨r, 2, none⟩ = false ∧ r < w.heap.size := by
  have h' : w.heap[r]? = some (.cells #[.string s, q, .int .i64 x] 138 (0, 0)) := h
  refine ⟨⟨?_, ?_, ?_⟩, ?_, ?_, ?_, (Array.getElem?_eq_some_iff.1 h').1⟩ <;> simp [World.cell?, World.frozen?, h']
theorem CompIs.alloc {r : Nat} {s : ByteArray} {q : Value} {x : Int} {w : World} (h : CompIs r s q x w) (o : Obj) : CompIs r s q x (w.alloc o) := (Below.heap_alloc _ _ _ (Array.getElem?_eq_some_iff.1 (show w.heap[r]? = some _ from h)).1).trans h
theorem CompIs.store {r : Nat} {s : ByteArray} {q : Value} {x : Int} {w : World} (h : CompIs r s q x w) (s' : ByteArray) (q' : Value) (x' : Int) : CompIs r s' q' x' (((w.setCell ⟨r, 0, none⟩ (.string s')).setCell ⟨r, 1, none⟩ q').setCell ⟨r, 2, none⟩ (.int .i64 x')) := by
  have h' : w.heap[r]? = some (.cells #[.string s, q, .int .i64 x] 138 (0, 0)) := h
  unfold CompIs
  simp [World.setCell, Array.getElem?_modify, h']
set_option maxRecDepth 100000 in
theorem idCb (r : Nat) (s0 : ByteArray) (q0 : Value) (x0 : Int) (s : ByteArray) (q : Option Addr) (x : Int) (w : World) (hr : CompIs r s0 q0 x0 w) :
    Calls Tryz.prog 75 #[.agg #[.string s, .pointer q, .int .i64 x], .pointer (some ⟨r, 0, none⟩)] w fun e w' => e = .returned (.bool true) ∧ CompIs r s (.pointer q) x w' ∧ Below r w w' := by
  have HR := Lib.hid hr
  obtain ⟨⟨c0, c1, c2⟩, z0, z1, z2, hlt⟩ := hr.cells
  have hne : w.heap.size ≠ r := by omega
  clear hr
  go_enter Tryz.func75, Tryz.ntmps75
  go_wp2_with fail
  go_ret
  have hch := ((((Below.refl r w).setCell (p := ⟨r, 0, none⟩) (Nat.le_refl _) (.string s)).setCell (p := ⟨r, 1, none⟩) (Nat.le_refl _) (.pointer q)).setCell (p := ⟨r, 2, none⟩) (Nat.le_refl _) (.int .i64 x))
  exact ⟨rfl, (HR.out.store _ _ _).alloc _, hch.alloc (Nat.le_trans (Nat.le_of_lt hlt) hch.size) _⟩
/-- What ForEach has laid into the variable behind the parts ds. -/
def LastIs (w0 : World) (ds : List Hop) (wr : World) : Prop := ∃ (s : ByteArray) (q : Option Addr) (x : Int), CompIs w0.heap.size s (.pointer q) x wr ∧
  ∀ init h, ds = init ++ [h] → ∃ q', s = strOfNums (hopB h.1 h.2) ∧ q = some ⟨q', 0, none⟩ ∧ x = hopS h.1 ∧ ProtB w0 (protOf h.1) q'
set_option maxRecDepth 100000 in
theorem forEach (B g n c : Nat) (w0 : World) (hs : List Hop) (hn : hs.length = n) (hl : n ≤ 1000) (hm : MA w0 B (.slice (some ⟨g, 0, none⟩) n c) hs) (w : World) (hB : Below w0.heap.size w0 w) (hL : LastIs w0 [] w) :
    Calls Tryz.prog 74 #[.slice (some ⟨g, 0, none⟩) n c, .func (Fn.func 75) #[] #[.pointer (some ⟨w0.heap.size, 0, none⟩)]] w fun e w' => e = .returned (.tuple #[]) ∧ LastIs w0 hs w' ∧ Below w0.heap.size w0 w' := by
  have HB := Lib.hid (And.intro hm (And.intro hn (And.intro hB hL)))
  clear hm hn hB hL
  go_enter Tryz.func74, Tryz.ntmps74
  go_wp2_with fail
  go_loopg [8] n (fun gk iv wr => ∃ (ds rs : List Hop), hs = ds ++ rs ∧ gk = rs.length ∧ iv = .int .i64 (ds.length : Int) ∧ Hid (LastIs w0 ds wr ∧ Below w0.heap.size w0 wr))
  case atStart => exact ⟨[], hs, rfl, HB.out.2.1.symm, rfl, HB.out.2.2.2, HB.out.2.2.1⟩
  case round =>
    obtain ⟨ds, rs, hds, rfl, rfl, hI⟩ := hrel
    cases rs with
    | nil =>
      have hlt : ds.length = n := by rw [← HB.out.2.1, hds, List.append_nil]
      have hl2 : decide (ds.length < n) = false := by rw [decide_eq_false_iff_not, hlt]; omega
      have HD := Lib.hid (show ds = hs by rw [hds, List.append_nil])
      clear hds hlt
      go_wp2_with fail
      go_end0
      exact ⟨rfl, by rw [← HD.out]; exact hI.out.1, hI.out.2⟩
    | cons r rs =>
      have hlt : ds.length < n := by rw [← HB.out.2.1, hds]; simp
      have hl2 : decide (ds.length < n) = true := by rw [decide_eq_true_iff]; omega
      obtain ⟨q, hc0, hc1, hc2, hp⟩ := ma_cells2 HB.out.1 HB.out.2.1 ds r rs hds
      replace hc0 := cB hI.out.2 hc0
      replace hc1 := cB hI.out.2 hc1
      replace hc2 := cB hI.out.2 hc2
      have HD := Lib.hid (And.intro hds hp)
      clear hds hp
      obtain ⟨S, hS⟩ : ∃ S, S = strOfNums (hopB r.1 r.2) := ⟨_, rfl⟩
      rw [← hS] at hc0
      obtain ⟨X, hX⟩ : ∃ X : Int, X = hopS r.1 := ⟨_, rfl⟩
      rw [← hX] at hc2
      have HS := Lib.hid (And.intro hS hX)
      clear hS hX
      obtain ⟨s0, q0, x0, hci, _⟩ := hI.out.1
      have HC := Lib.hid hci
      clear hci
      go_wp2_with fail
      refine (idCb _ s0 (.pointer q0) x0 S (some ⟨q, 0, none⟩) X _ (HC.out.alloc _)).mono ?_
      rintro e w1 ⟨rfl, hci1, hB1⟩
      have H1 := Lib.hid (And.intro hci1 ((hI.out.2.alloc hI.out.2.size _).trans hB1))
      clear hci1 hB1 hc0 hc1 hc2
      go_wp2_with fail
      go_roundg rs.length
      case measure => simp
      case rel =>
        refine ⟨ds ++ [r], rs, by rw [HD.out.1, List.append_assoc]; rfl, rfl, by simp, ⟨S, some ⟨q, 0, none⟩, X, H1.out.1, fun init h hi => ?_⟩, H1.out.2⟩
        obtain ⟨_, h2⟩ := List.append_inj' hi rfl
        obtain rfl : r = h := by simpa using h2
        exact ⟨q, HS.out.1, rfl, HS.out.2, HD.out.2⟩
/-- The package's error for what is no address of a peer. -/
def ErrV (w : World) : Prop := ∃ (T : TypeId) (a : Addr), w.cell? ⟨0, 0, none⟩ = some (.iface T (.pointer (some a)))
theorem ErrV.below {w w' : World} (h : ErrV w) (hb : Below w.heap.size w w') : ErrV w' := by
  obtain ⟨T, a, hc⟩ := h
  exact ⟨T, a, cB hb hc⟩
theorem code6 (k : Nat) (a : Nat) : ∃ s0 s2 s3 s4 s5, (protOf k).cells a = #[s0, .int .i64 (protOf k).code, s2, s3, s4, s5] := ⟨_, _, _, _, _, rfl⟩
theorem codeNot6 (k : Nat) (hk : k < 8) (h6 : k ≠ 6) : (protOf k).code ≠ 421 := by
  have h : k = 0 ∨ k = 1 ∨ k = 2 ∨ k = 3 ∨ k = 4 ∨ k = 5 ∨ k = 7 := by omega
  rcases h with rfl | rfl | rfl | rfl | rfl | rfl | rfl <;> decide
theorem last_part {w0 w : World} {init : List Hop} {h : Hop} (hL : LastIs w0 (init ++ [h]) w) (hB : Below w0.heap.size w0 w) : ∃ q, PartAt w w0.heap.size h q := by
  obtain ⟨s, q, x, hc, hp⟩ := hL
  obtain ⟨q', rfl, rfl, rfl, hq⟩ := hp init h rfl
  exact ⟨q', hc.cells.1, hq.below hB⟩
set_option maxRecDepth 100000 in
theorem idFrom6 (B g n c : Nat) (w : World) (hn1 : n ≤ 1000) (init : List Hop) (h : Hop) (hi : (init ++ [h]).length = n) (hm : MA w B (.slice (some ⟨g, 0, none⟩) n c) (init ++ [h])) (hk : HopOk h) (h6 : h.1 = 6) :
    Calls Tryz.prog 47 #[.slice (some ⟨g, 0, none⟩) n c] w fun e w' => e = .returned (.tuple #[.string (strOfNums h.2), .nilIface]) ∧ Below w.heap.size w w' := by
  have hnn := fun w => maNotNil ⟨g, 0, none⟩ n c w
  have hB0 : Below w.heap.size w (w.alloc (.cells #[.string ⟨#[]⟩, .pointer none, .int .i64 0] 138)) := (Below.refl _ _).alloc (Nat.le_refl _) _
  have hfe := forEach B g n c w (init ++ [h]) hi hn1 hm _ hB0 ⟨⟨#[]⟩, none, 0, heap_alloc_new _ _, fun i x hx => by simp at hx⟩
  have HF := Lib.hid (And.intro hfe hk)
  clear hfe hm hi hB0 hk
  go_enter Tryz.func47, Tryz.ntmps47
  go_wp2_with fail
  refine HF.out.1.mono ?_
  rintro e w1 ⟨rfl, hL, hB⟩
  obtain ⟨q, hp⟩ := last_part hL hB
  have HP := Lib.hid (And.intro hp hB)
  clear hL hB hp
  go_wp2_with fail
  refine (compProtocol w.heap.size q h (by omega) _ HP.out.1).mono ?_
  rintro e w2 ⟨a, rfl, hB2⟩
  rw [h6]
  obtain ⟨s0, s2, s3, s4, s5, hcell⟩ : ∃ s0 s2 s3 s4 s5, (protOf 6).cells a = #[s0, .int .i64 421, s2, s3, s4, s5] := ⟨_, _, _, _, _, rfl⟩
  rw [hcell]
  have HP2 := Lib.hid (And.intro (HP.out.1.below hB2) (HP.out.2.trans (hB2.mono HP.out.2.size)))
  have hcf := codeField s0 s2 s3 s4 s5 421
  clear hB2 hcell
  go_wp2_with fail
  refine (compRaw w.heap.size q h HF.out.2 _ HP2.out.1).mono ?_
  rintro e w3 ⟨g3, c3, rfl, hg3, hc3, hcm3, hbs, hB3⟩
  have hconv := Lib.BytesIn.convert (P := Tryz.prog) (w := w3) (p := some ⟨g3, 0, none⟩) (n := h.2.length) (xs := h.2) (fun _ => ⟨g3, 0, rfl, hbs⟩) rfl c3 23 5 85 Tryz.underlying23 (by kernel_rfl) (by kernel_rfl)
  have HP3 := Lib.hid (HP2.out.2.trans (hB3.mono HP2.out.2.size))
  clear hB3 hbs hg3 hc3 hcm3 hcf
  go_wp2_with fail
  go_ret2
  exact ⟨rfl, HP3.out⟩
set_option maxRecDepth 100000 in
theorem idFromN (B g n c : Nat) (w : World) (hn1 : n ≤ 1000) (init : List Hop) (h : Hop) (hi : (init ++ [h]).length = n) (hm : MA w B (.slice (some ⟨g, 0, none⟩) n c) (init ++ [h])) (hk : h.1 < 8) (h6 : h.1 ≠ 6) (hE : ErrV w) :
    Calls Tryz.prog 47 #[.slice (some ⟨g, 0, none⟩) n c] w fun e w' => (∃ T a, e = .returned (.tuple #[.string ⟨#[]⟩, .iface T (.pointer (some a))])) ∧ Below w.heap.size w w' := by
  have hnn := fun w => maNotNil ⟨g, 0, none⟩ n c w
  have hB0 : Below w.heap.size w (w.alloc (.cells #[.string ⟨#[]⟩, .pointer none, .int .i64 0] 138)) := (Below.refl _ _).alloc (Nat.le_refl _) _
  have hfe := forEach B g n c w (init ++ [h]) hi hn1 hm _ hB0 ⟨⟨#[]⟩, none, 0, heap_alloc_new _ _, fun i x hx => by simp at hx⟩
  have HF := Lib.hid (And.intro hfe (And.intro hk hE))
  have hc6 : ((protOf h.1).code != 421) = true := by rw [bne_iff_ne]; exact codeNot6 h.1 hk h6
  clear hfe hm hi hB0 hk hE h6
  go_enter Tryz.func47, Tryz.ntmps47
  go_wp2_with fail
  refine HF.out.1.mono ?_
  rintro e w1 ⟨rfl, hL, hB⟩
  obtain ⟨q, hp⟩ := last_part hL hB
  have HP := Lib.hid (And.intro hp hB)
  clear hL hB hp
  go_wp2_with fail
  refine (compProtocol w.heap.size q h HF.out.2.1 _ HP.out.1).mono ?_
  rintro e w2 ⟨a, rfl, hB2⟩
  obtain ⟨s0, s2, s3, s4, s5, hcell⟩ := code6 h.1 a
  rw [hcell]
  obtain ⟨C, hC⟩ : ∃ C, C = (protOf h.1).code := ⟨_, rfl⟩
  rw [← hC] at hc6 ⊢
  have hB3 := HP.out.2.trans (hB2.mono HP.out.2.size)
  obtain ⟨T, ea, hce⟩ := HF.out.2.2.below hB3
  have HB3 := Lib.hid hB3
  have hcf := codeField s0 s2 s3 s4 s5 C
  clear hB2 hcell hC hB3
  go_wp2_with fail
  go_quiet (fail)
  go_wp2_with fail
  go_ret2
  exact ⟨⟨T, ea, rfl⟩, below_drewN HB3.out _⟩
end Go.Proofs.YtapkmoakbfpkeaaGreatDoor
namespace Go.Proofs.YtapkmoakbfpkeaaGreatDoor
open Go Go.RowKit Go.Proofs Go.Sort
set_option maxRecDepth 100000 in
theorem implPeer6 (init : List Hop) (h : Hop) (hh : ∀ x ∈ init ++ [h], HopOk x) (h6 : h.1 = 6) (hl : (init ++ [h]).length ≤ 1000) (b o N c : Nat) (w : World) (hN : (addrB (init ++ [h])).length = N) (hb : Bs w b o (addrB (init ++ [h]))) (hT : Tab w) :
    Calls Tryz.prog 19 #[.slice (some ⟨b, o, none⟩) N c] w fun e w' => ∃ g2 c2, e = .returned (.tuple #[.slice (some ⟨g2, 0, none⟩) h.2.length c2, .bool true]) ∧ Bs w' g2 0 h.2 ∧ Below w.heap.size w w' := by
  have hao := addrOf (init ++ [h]) hh hl [] (.inl (by simp)) (.inl rfl) b o N c w (by rw [List.append_nil]; exact hN) (by rw [List.append_nil]; exact hb) hT
  have HA := Lib.hid (And.intro hao hh)
  clear hao hb hT hN hh
  go_enter Tryz.func19, Tryz.ntmps19
  go_wp2_with fail
  refine HA.out.1.mono ?_
  rintro e w1 ⟨hB, ⟨_, v, rfl, hM⟩ | ⟨hne, _⟩⟩
  rotate_left
  · exact absurd rfl hne
  obtain ⟨g, cap, rfl, hcap⟩ := ma_form hM (by simp)
  have hk : HopOk h := HA.out.2 h (by simp)
  have hsa := idFrom6 w.heap.size g _ cap w1 hl init h rfl hM hk h6
  have HS := Lib.hid (And.intro hsa (And.intro hB hk))
  clear hsa hM hB hk
  obtain ⟨M, hM⟩ : ∃ M, M = (init ++ [h]).length := ⟨_, rfl⟩
  rw [← hM] at HS ⊢
  clear hM hcap hl
  go_wp2_with fail
  refine HS.out.1.mono ?_
  rintro e w2 ⟨rfl, hB2⟩
  obtain ⟨cF, WF, hcv, hW⟩ := convIDF h.2 HS.out.2.2.2.2 (by have := hop_len h.1 h.2; have := hopB_le h HS.out.2.2; omega)
  have HW := Lib.hid (And.intro hW (HS.out.2.1.trans (hB2.mono HS.out.2.1.size)))
  clear hB2 hW
  go_wp2_with fail
  go_ret2
  have hb := (HW.out.1 w2).2.2.2
  exact ⟨w2.heap.size, cF w2, rfl, (HW.out.1 w2).1, HW.out.2.trans (hb.mono HW.out.2.size)⟩
set_option maxRecDepth 100000 in
theorem implPeerN (init : List Hop) (h : Hop) (hh : ∀ x ∈ init ++ [h], HopOk x) (h6 : h.1 ≠ 6) (hl : (init ++ [h]).length ≤ 1000) (b o N c : Nat) (w : World) (hN : (addrB (init ++ [h])).length = N) (hb : Bs w b o (addrB (init ++ [h]))) (hT : Tab w) (hE : ErrV w) :
    Calls Tryz.prog 19 #[.slice (some ⟨b, o, none⟩) N c] w fun e w' => e = .returned (.tuple #[.slice none 0 0, .bool false]) ∧ Below w.heap.size w w' := by
  have hao := addrOf (init ++ [h]) hh hl [] (.inl (by simp)) (.inl rfl) b o N c w (by rw [List.append_nil]; exact hN) (by rw [List.append_nil]; exact hb) hT
  have HA := Lib.hid (And.intro hao (And.intro hh hE))
  clear hao hb hT hN hh hE
  go_enter Tryz.func19, Tryz.ntmps19
  go_wp2_with fail
  refine HA.out.1.mono ?_
  rintro e w1 ⟨hB, ⟨_, v, rfl, hM⟩ | ⟨hne, _⟩⟩
  rotate_left
  · exact absurd rfl hne
  obtain ⟨g, cap, rfl, hcap⟩ := ma_form hM (by simp)
  have hk : HopOk h := HA.out.2.1 h (by simp)
  have hsa := idFromN w.heap.size g _ cap w1 hl init h rfl hM hk.1 h6 (HA.out.2.2.below hB)
  have HS := Lib.hid (And.intro hsa hB)
  clear hsa hM hB hk
  obtain ⟨M, hM⟩ : ∃ M, M = (init ++ [h]).length := ⟨_, rfl⟩
  rw [← hM] at HS ⊢
  clear hM hcap hl
  go_wp2_with fail
  refine HS.out.1.mono ?_
  rintro e w2 ⟨⟨T, a, rfl⟩, hB2⟩
  have HW := Lib.hid (HS.out.2.trans (hB2.mono HS.out.2.size))
  clear hB2
  go_wp2_with fail
  go_ret2
  exact ⟨rfl, HW.out⟩
end Go.Proofs.YtapkmoakbfpkeaaGreatDoor
namespace Go.Proofs.YtapkmoakbfpkeaaGreatDoor
open Go Go.RowKit Go.Proofs Go.Sort
theorem bNeqNil (a : Addr) (n c : Nat) (w : World) : (binOp .neq 23 (.slice (some a) n c) (.slice none 0 0)).run Tryz.prog w = .ok (.bool true) w := by
  have h := run_equal_slice_nil (P := Tryz.prog) w 23 _ (some a) n c Tryz.underlying23
  simp [binOp, h]
theorem bNilNil (w : World) : (binOp .neq 23 (.slice none 0 0) (.slice none 0 0)).run Tryz.prog w = .ok (.bool false) w := by
  have h := run_equal_slice_nil (P := Tryz.prog) w 23 _ none 0 0 Tryz.underlying23
  simp [binOp, h]
theorem hopOf_six {f : List Int → List Int} {h : HIn} (h6 : h.K % 8 = 6) : hopOf f h = (6, idB f h.s.xs) := by
  obtain ⟨K, s⟩ := h
  exact hopOf6 f K s h6
theorem hopOf_not6 {f : List Int → List Int} {h : HIn} (_h0 : 0 ≤ h.K) (h6 : h.K % 8 ≠ 6) : (hopOf f h).1 ≠ 6 := by
  unfold hopOf
  show (h.K % 8).toNat ≠ 6
  omega
end Go.Proofs.YtapkmoakbfpkeaaGreatDoor
namespace Go.Proofs.YtapkmoakbfpkeaaGreatDoor
open Go Go.RowKit Go.Proofs Go.Sort
def hopCells (l : List HIn) : List Value := l.flatMap fun h => [.int .u8 h.K, h.s.v]
theorem hopCells_len : ∀ l : List HIn, (hopCells l).length = l.length * 2
  | [] => rfl
  | h :: t => by
    have := hopCells_len t
    unfold hopCells at this ⊢
    rw [List.flatMap_cons, List.length_append, this]
    simp
    omega
theorem hopCells_app (l l' : List HIn) : hopCells (l ++ l') = hopCells l ++ hopCells l' := List.flatMap_append
theorem hopCells_at : ∀ (l : List HIn) (i : Nat) (h : HIn), l[i]? = some h → (hopCells l)[i * 2]? = some (.int .u8 h.K) ∧ (hopCells l)[i * 2 + 1]? = some h.s.v
  | [], i, h, hi => by simp at hi
  | x :: t, 0, h, hi => by
    obtain rfl : x = h := Option.some.inj hi
    exact ⟨rfl, rfl⟩
  | x :: t, i + 1, h, hi => by
    have ih := hopCells_at t i h (by simpa using hi)
    have e : hopCells (x :: t) = .int .u8 x.K :: x.s.v :: hopCells t := rfl
    rw [e]
    refine ⟨?_, ?_⟩
    · rw [show (i + 1) * 2 = i * 2 + 1 + 1 by omega, List.getElem?_cons_succ, List.getElem?_cons_succ]; exact ih.1
    · rw [show (i + 1) * 2 + 1 = i * 2 + 1 + 1 + 1 by omega, List.getElem?_cons_succ, List.getElem?_cons_succ]; exact ih.2
theorem hopCells_one (l : List HIn) : ∀ u ∈ hopCells l, u.oneCell' = true := fun u hu => by
  obtain ⟨h, _, hu⟩ := List.mem_flatMap.1 hu
  simp at hu
  rcases hu with rfl | rfl <;> rfl
theorem HAt.cells {w : World} {b o : Nat} {l : List HIn} (h : HAt w b o l) (j : Nat) (u : Value) (hj : (hopCells l)[j]? = some u) : w.cell? ⟨b, o + j, none⟩ = some u := by
  have hlt : j < l.length * 2 := by rw [← hopCells_len]; exact (List.getElem?_eq_some_iff.1 hj).1
  obtain ⟨i, hi⟩ : ∃ i, i = j / 2 := ⟨_, rfl⟩
  have hil : i < l.length := by omega
  have hg : l[i]? = some l[i] := List.getElem?_eq_getElem hil
  obtain ⟨c0, c1, _⟩ := h i _ hg
  obtain ⟨q0, q1⟩ := hopCells_at l i _ hg
  rcases (by omega : j = i * 2 ∨ j = i * 2 + 1) with e | e
  · rw [e] at hj ⊢
    rw [c0, ← hj, q0]
  · rw [e] at hj ⊢
    rw [show o + (i * 2 + 1) = o + i * 2 + 1 by omega, c1, ← hj, q1]
theorem own_HAt {w : World} {B n : Nat} {v : Value} {l : List HIn} (h : w.ownsRow B 29 2 v n (hopCells l)) (hl : l.length = n) (hn : 0 < n) (hok : ∀ x ∈ l, HIn.Ok x w) : ∃ g c, v = .slice (some ⟨g, 0, none⟩) n c ∧ n ≤ c ∧ B ≤ g ∧ HAt w g 0 l := by
  have h0 := h
  rcases h.2 with ⟨_, h1⟩ | ⟨g, cap, cur, rfl, hB, _, hc, _⟩
  · omega
  · refine ⟨g, cap, rfl, hc, hB, fun i x hi => ?_⟩
    have hil : i < n := by rw [← hl]; exact (List.getElem?_eq_some_iff.1 hi).1
    obtain ⟨q0, q1⟩ := hopCells_at l i x hi
    refine ⟨?_, ?_, hok x (List.mem_of_getElem? hi)⟩
    · rw [Nat.zero_add, h0.cellAt _ (by omega)]; exact q0
    · rw [Nat.zero_add, h0.cellAt _ (by omega)]; exact q1
theorem infoHop : (Tryz.prog.info? 29).map (fun i => (i.zero, i.size, i.bytes)) = some (some (.agg #[.int .u8 0, .slice none 0 0]), 2, 32) := by kernel_rfl
theorem hNotNil (a : Addr) (n c : Nat) (w : World) : (binOp .eql 22 (.slice (some a) n c) (.slice none 0 0)).run Tryz.prog w = .ok (.bool false) w := by
  have h := run_equal_slice_nil (P := Tryz.prog) w 22 _ (some a) n c Tryz.underlying22
  simp [binOp, h]
theorem own_emptyH (w : World) : (w.alloc (.cells #[] 29)).ownsRow w.heap.size 29 2 (.slice (some ⟨w.heap.size, 0, none⟩) 0 0) 0 (hopCells []) :=
  ⟨rfl, .inr ⟨w.heap.size, 0, #[], rfl, Nat.le_refl _, heap_alloc_new _ _, Nat.le_refl _, by unfold maxLen; omega, rfl, rfl⟩⟩
/-- append of parts onto a row of the call's own. -/
theorem wpAppH {ops : Array Oper} {rest : List Oper} {o : Oper} {a : Act} {w : World} {Q : Exit → Act → World → Prop} (hgd : o.guard = none) (s x : Operand)
    (ho : o.op = .call { callee := .builtin .append, args := #[s, x], argTypes := #[22, 22] }) (base : Nat) (v : Value) (n : Nat) (l : List HIn) (hs : a.eval s = v) (hown : w.ownsRow base 29 2 v n (hopCells l))
    (ad : Addr) (m c : Nat) (l' : List HIn) (hx : a.eval x = .slice (some ad) m c) (hl : l'.length = m) (hb : ∀ j u, (hopCells l')[j]? = some u → w.cell? (ad.add j) = some u) (hN : n + m ≤ 1000000) (hbase : base ≤ w.heap.size)
    (h : ∀ v' w', w'.ownsRow base 29 2 v' (n + m) (hopCells (l ++ l')) → w.grownBy w' v.ownBlock → wpList Tryz.prog ops Q rest (a.put o.dst v') w') : wpList Tryz.prog ops Q (o :: rest) a w := by
  obtain ⟨i0, hi, hz0, hz1, hz2⟩ := info_parts infoHop
  exact wpList_append_own w hgd s x 22 ho base 29 i0 _ 2 32 Tryz.underlying22 hi hz0 hz1 hz2 rfl (by decide) v n _ hs hown ad m c (hopCells l') hx (by rw [hopCells_len, hl]) hb (hopCells_one _) (by unfold maxLen; omega) (by omega) hbase (fun v' w' h1 h2 _ => h v' w' (by rw [hopCells_app]; exact h1) h2)
/-- .. at a step of a region that draws its order. -/
theorem stepAppH {ops : Array Oper} {o : Oper} {a : Act} {w : World} {K : Act → World → Prop} {Q : Exit → Act → World → Prop} {E : Prop} (hgd : o.guard = none) (d : Nat) (hd : o.dst = some d) (s x : Operand)
    (ho : o.op = .call { callee := .builtin .append, args := #[s, x], argTypes := #[22, 22] }) (base : Nat) (v : Value) (n : Nat) (l : List HIn) (hs : a.eval s = v) (hown : w.ownsRow base 29 2 v n (hopCells l))
    (ad : Addr) (m c : Nat) (l' : List HIn) (hx : a.eval x = .slice (some ad) m c) (hl : l'.length = m) (hb : ∀ j u, (hopCells l')[j]? = some u → w.cell? (ad.add j) = some u) (hN : n + m ≤ 1000000) (hbase : base ≤ w.heap.size)
    (h : ∀ v' w', w'.ownsRow base 29 2 v' (n + m) (hopCells (l ++ l')) → w.grownBy w' v.ownBlock → K (a.put (some d) v') w') : if Region.wanted o (yielded ops a.tmps) = true then Oper.wp Tryz.prog o a w K Q else E := by
  have hw : Region.wanted o (yielded ops a.tmps) = true := by simp [Region.wanted, hgd]
  rw [if_pos hw]
  obtain ⟨i0, hi, hz0, hz1, hz2⟩ := info_parts infoHop
  exact wp_append_own w s x 22 ho base 29 i0 _ 2 32 Tryz.underlying22 hi hz0 hz1 hz2 rfl (by decide) v n _ hs hown ad m c (hopCells l') hx (by rw [hopCells_len, hl]) hb (hopCells_one _) (by unfold maxLen; omega) (by omega) hbase (fun v' w' q1 q2 _ => by rw [hd]; exact h v' w' (by rw [hopCells_app]; exact q1) q2)
/-- 'a list of these parts comes back, in memory of the call's own'. -/
def NewHops (l : List HIn) (w : World) (e : Ending) (w' : World) : Prop :=
  ∃ v, e = .returned v ∧ w'.ownsRow w.heap.size 29 2 v l.length (hopCells l) ∧ Below w.heap.size w w'
set_option maxRecDepth 100000 in
theorem cloneHops (l : List HIn) (k : Nat) (hk : l.length = k) (hk1 : k ≤ 100) (b o c : Nat) (w : World) (hb : HAt w b o l) : Calls Tryz.prog 14 #[.slice (some ⟨b, o, none⟩) k c] w (NewHops l w) := by
  have HB := Lib.hid (And.intro hb hk)
  have hnn := fun w => hNotNil ⟨b, o, none⟩ k c w
  clear hb hk
  go_enter Tryz.func14, Tryz.ntmps14
  go_wp2_with (at_builtin; refine wpAppH rfl _ _ rfl w.heap.size _ 0 [] rfl (own_emptyH w) ⟨b, o, none⟩ k c l rfl HB.out.2 (fun j u hj => by rw [Lib.add_plain]; exact cB ((Below.refl _ _).alloc (Nat.le_refl _) _) (HB.out.1.cells j u hj)) (by omega) (by simp) ?_)
  intro v' w' hown hgrow
  have hBB : Below w.heap.size w w' := grown_below ((Below.refl _ _).alloc (Nat.le_refl _) _) (own_emptyH w) hgrow (by simp)
  have HO := Lib.hid (And.intro hown hBB)
  clear hown hgrow hBB
  go_wp2_with fail
  go_ret
  refine ⟨_, rfl, ?_, HO.out.2⟩
  rw [HB.out.2]
  simpa using HO.out.1
end Go.Proofs.YtapkmoakbfpkeaaGreatDoor
namespace Go.Proofs.YtapkmoakbfpkeaaGreatDoor
open Go Go.RowKit Go.Proofs Go.Sort
theorem hop_new (w : World) (K : Int) (p1 : Option Addr) (m1 c1 : Nat) (xs : List Int) (j : Nat) (u : Value) (hj : (hopCells [⟨K, ⟨p1, m1, c1, xs⟩⟩])[j]? = some u) :
    (w.alloc (.cells #[.int .u8 K, .slice p1 m1 c1] 29)).cell? ((⟨w.heap.size, 0, none⟩ : Addr).add j) = some u := by
  rw [Lib.add_plain, Nat.zero_add]
  refine (World.cell?_alloc_mark w _ _ _ j).trans ?_
  match j, hj with
  | 0, hj => exact hj
  | 1, hj => exact hj
theorem HIn.Ok.belowAll {l : List HIn} {w w' : World} (h : ∀ x ∈ l, HIn.Ok x w) (hb : Below w.heap.size w w') : ∀ x ∈ l, HIn.Ok x w' := fun x hx => (h x hx).below hb
theorem HAt.ok {w : World} {b o : Nat} {l : List HIn} (h : HAt w b o l) : ∀ x ∈ l, HIn.Ok x w := fun x hx => by
  obtain ⟨i, hi⟩ := List.getElem?_of_mem hx
  exact (h i x hi).2.2
end Go.Proofs.YtapkmoakbfpkeaaGreatDoor
namespace Go.Proofs.YtapkmoakbfpkeaaGreatDoor
open Go Go.RowKit Go.Proofs Go.Sort
/-- An info with one address, at p. -/
def InfoAt (w : World) (p : Nat) (s : ByteArray) (tv : Value) : Prop := w.cell? ⟨p, 0, none⟩ = some (.string s) ∧ ∃ q, w.cell? ⟨p, 1, none⟩ = some (.slice (some ⟨q, 0, none⟩) 1 1) ∧ w.cell? ⟨q, 0, none⟩ = some tv
theorem strOf_ne (xs : List Int) (h0 : xs ≠ []) : (strOfNums xs).toList.isEmpty = false := by
  rw [ByteArray.toList_eq]
  unfold strOfNums
  cases xs with
  | nil => exact absurd rfl h0
  | cons x t => rfl
set_option maxRecDepth 100000 in
theorem infoFrom6 (B g n c : Nat) (w : World) (hn1 : n ≤ 1000) (hc : n ≤ c) (hBw : B ≤ w.heap.size) (init : List Hop) (hi : init.length + 1 = n) (h0 : init ≠ []) (h : Hop) (hm : MA w B (.slice (some ⟨g, 0, none⟩) n c) (init ++ [h]))
    (hk : HopOk h) (h6 : h.1 = 6) (hd : h.2 ≠ []) : Calls Tryz.prog 43 #[.slice (some ⟨g, 0, none⟩) n c] w fun e w' => ∃ p g2 c2, e = .returned (.tuple #[.pointer (some ⟨p, 0, none⟩), .nilIface]) ∧ InfoAt w' p (strOfNums h.2) (.slice (some ⟨g2, 0, none⟩) init.length c2) ∧ MA w' B (.slice (some ⟨g2, 0, none⟩) init.length c2) init ∧ Below w.heap.size w w' := by
  have hsl := splitAddr6 B g n c w hn1 hc hBw init hi h hm hk h6
  have hse := strOf_ne h.2 hd
  obtain ⟨S, hS⟩ : ∃ S, S = strOfNums h.2 := ⟨_, rfl⟩
  rw [← hS] at hsl hse ⊢
  have HSL := Lib.hid (And.intro hsl h0)
  clear hsl hm hi hBw hS h0
  go_enter Tryz.func43, Tryz.ntmps43
  go_wp2_with fail
  refine HSL.out.1.mono ?_
  rintro e w1 ⟨tv, rfl, hma, _, hB⟩
  obtain ⟨g2, c2, rfl, _⟩ := ma_form hma HSL.out.2
  have HP := Lib.hid (And.intro hma hB)
  have hnq := fun w => maNeqNil ⟨g2, 0, none⟩ init.length c2 w
  clear hma hB
  go_wp2_with fail
  go_ret2
  have hb0 : Below w1.heap.size w1 ((w1.alloc (.cells #[.string S, .slice (some ⟨w1.heap.size + 1, 0, none⟩) 1 1] 88)).alloc (.cells #[.slice (some ⟨g2, 0, none⟩) init.length c2] 76)) := ((Below.refl _ _).alloc (Nat.le_refl _) _).alloc (by simp) _
  refine ⟨w1.heap.size, g2, c2, rfl, ⟨?_, w1.heap.size + 1, ?_, ?_⟩, HP.out.1.below hb0, HP.out.2.trans (hb0.mono HP.out.2.size)⟩
  · exact (cB ((Below.refl _ _).alloc (Nat.le_refl _) _) (World.cell?_alloc_mark w1 _ _ _ 0)).trans rfl
  · exact (cB ((Below.refl _ _).alloc (Nat.le_refl _) _) (World.cell?_alloc_mark w1 _ _ _ 1)).trans rfl
  · have h := World.cell?_alloc_mark (w1.alloc (.cells #[.string S, .slice (some ⟨w1.heap.size + 1, 0, none⟩) 1 1] 88)) #[.slice (some ⟨g2, 0, none⟩) init.length c2] 76 (0, 0) 0
    rw [show (w1.alloc (.cells #[.string S, .slice (some ⟨w1.heap.size + 1, 0, none⟩) 1 1] 88)).heap.size = w1.heap.size + 1 by simp] at h
    exact h
end Go.Proofs.YtapkmoakbfpkeaaGreatDoor
namespace Go.Proofs.YtapkmoakbfpkeaaGreatDoor
open Go Go.RowKit Go.Proofs Go.Sort
/-- An info as data, with one address. -/
def PlainV (w : World) (B : Nat) (v : Value) (id : List Int) (bs : List Int) : Prop := ∃ g1 c1 q g2 c2 cq, v = .agg #[.slice (some ⟨g1, 0, none⟩) id.length c1, .slice (some ⟨q, 0, none⟩) 1 cq] ∧ (B ≤ g1 ∧ B ≤ q ∧ B ≤ g2 ∧ bs.length ≤ c2 ∧ c2 ≤ 9223372036854775807) ∧ Bs w g1 0 id ∧ w.cell? ⟨q, 0, none⟩ = some (.slice (some ⟨g2, 0, none⟩) bs.length c2) ∧ Bs w g2 0 bs
theorem infoSl : (Tryz.prog.info? 23).map (fun i => (i.zero, i.size, i.bytes)) = some (some (.slice none 0 0), 1, 24) := by kernel_rfl
/-- append of one slice of bytes onto a row of the call's own, at a step of a region that draws its order. -/
theorem stepAppB {ops : Array Oper} {o : Oper} {a : Act} {w : World} {K : Act → World → Prop} {Q : Exit → Act → World → Prop} {E : Prop} (hgd : o.guard = none) (d : Nat) (hd : o.dst = some d) (s x : Operand)
    (ho : o.op = .call { callee := .builtin .append, args := #[s, x], argTypes := #[30, 30] }) (base : Nat) (v : Value) (n : Nat) (us : List Value) (hs : a.eval s = v) (hown : w.ownsRow base 23 1 v n us)
    (g c : Nat) (u : Value) (hu : u.oneCell' = true) (hx : a.eval x = .slice (some ⟨g, 0, none⟩) 1 c) (hb : w.cell? ⟨g, 0, none⟩ = some u) (hN : n ≤ 1000000) (hbase : base ≤ w.heap.size)
    (h : ∀ v' w', w'.ownsRow base 23 1 v' (n + 1) (us ++ [u]) → w.grownBy w' v.ownBlock → K (a.put (some d) v') w') : if Region.wanted o (yielded ops a.tmps) = true then Oper.wp Tryz.prog o a w K Q else E := by
  have hw : Region.wanted o (yielded ops a.tmps) = true := by simp [Region.wanted, hgd]
  rw [if_pos hw]
  obtain ⟨i0, hi, hz0, hz1, hz2⟩ := info_parts infoSl
  refine wp_append_own w s x 30 ho base 23 i0 _ 1 24 Tryz.underlying30 hi hz0 hz1 hz2 rfl (by decide) v n us hs hown ⟨g, 0, none⟩ 1 c [u] hx rfl (fun j u' hj => ?_) (fun u' hu' => by simp at hu'; subst hu'; exact hu) (by unfold maxLen; omega) (by omega) hbase (fun v' w' q1 q2 _ => by rw [hd]; exact h v' w' q1 q2)
  match j, hj with
  | 0, hj =>
    rw [Lib.add_plain, Nat.zero_add, hb]
    exact hj
theorem cloned_form {w : World} {B : Nat} {v : Value} {xs : List Int} (hown : w.ownsRow B 5 1 v xs.length (xs.map (Value.int .u8))) (hvn : v ≠ .slice none 0 0) : ∃ g c, v = .slice (some ⟨g, 0, none⟩) xs.length c ∧ Bs w g 0 xs ∧ B ≤ g ∧ xs.length ≤ c ∧ c ≤ 9223372036854775807 := by
  have hown2 := hown
  rcases hown.2 with ⟨h0, _⟩ | ⟨g4, c4, cur, rfl, hB, _, hc, hm, _⟩
  · exact absurd h0 hvn
  · exact ⟨g4, c4, rfl, ownsBytes hown2 rfl, hB, hc, Nat.le_trans hm (by decide)⟩
theorem own_one {w : World} {B : Nat} {T : TypeId} {v u : Value} (hown : w.ownsRow B T 1 v 1 [u]) : ∃ g c, v = .slice (some ⟨g, 0, none⟩) 1 c ∧ w.cell? ⟨g, 0, none⟩ = some u ∧ B ≤ g := by
  have h0 := hown
  rcases hown.2 with ⟨_, h1⟩ | ⟨g, cap, cur, rfl, hB, _⟩
  · omega
  · exact ⟨g, cap, rfl, (h0.cellAt 0 (by omega)).trans rfl, hB⟩
theorem two_set01 {w : World} {r : Nat} {x y : Value} {T : TypeId} (h : w.heap[r]? = some (.cells #[x, y] T (0, 0))) (x' y' : Value) : ((w.setCell ⟨r, 0, none⟩ x').setCell ⟨r, 1, none⟩ y').heap[r]? = some (.cells #[x', y'] T (0, 0)) := by
  simp [World.setCell, Array.getElem?_modify, h]
theorem cell_set {w : World} {g r i j : Nat} (h : g ≠ r) (v : Value) : (w.setCell ⟨r, i, none⟩ v).cell? ⟨g, j, none⟩ = w.cell? ⟨g, j, none⟩ := by
  simp [World.cell?, World.setCell, Array.getElem?_modify, Ne.symm h]
theorem bs_set {w : World} {g r i : Nat} {xs : List Int} (h : g ≠ r) (v : Value) (hb : Bs w g 0 xs) : Bs (w.setCell ⟨r, i, none⟩ v) g 0 xs := fun j hj => (cell_set h v).trans (hb j hj)
theorem two_cells {w : World} {r : Nat} {x y : Value} {T : TypeId} (h : w.heap[r]? = some (.cells #[x, y] T (0, 0))) : (w.cell? ⟨r, 0, none⟩ = some x ∧ w.cell? ⟨r, 1, none⟩ = some y) ∧ w.frozen? ⟨r, 0, none⟩ = false ∧ w.frozen? ⟨r, 1, none⟩ = false := by
  refine ⟨⟨?_, ?_⟩, ?_, ?_⟩ <;> simp [World.cell?, World.frozen?, h]
theorem two_set1 {w : World} {r : Nat} {x y : Value} {T : TypeId} (h : w.heap[r]? = some (.cells #[x, y] T (0, 0))) (y' : Value) : (w.setCell ⟨r, 1, none⟩ y').heap[r]? = some (.cells #[x, y'] T (0, 0)) := by
  simp [World.setCell, Array.getElem?_modify, h]
set_option maxHeartbeats 1600000 in
set_option maxRecDepth 100000 in
theorem plainInfo1 (B g n c q : Nat) (w : World) (hn1 : n ≤ 1000) (hs : List Hop) (hn : hs.length = n) (hh : ∀ x ∈ hs, HopOk x) (hm : MA w B (.slice (some ⟨g, 0, none⟩) n c) hs) (hq : w.cell? ⟨q, 0, none⟩ = some (.slice (some ⟨g, 0, none⟩) n c)) (id : List Int) (hid : U8 id) (hidl : id.length ≤ 1000) :
    Calls Tryz.prog 44 #[.agg #[.string (strOfNums id), .slice (some ⟨q, 0, none⟩) 1 1]] w fun e w' => ∃ v, e = .returned v ∧ PlainV w' w.heap.size v id (addrB hs) ∧ Below w.heap.size w w' := by
  obtain ⟨cF, WF, hcv, hW⟩ := convIDF id hid (by omega)
  have HB := Lib.hid (And.intro hm (And.intro hn (And.intro hh hW)))
  obtain ⟨S, hS⟩ : ∃ S, S = strOfNums id := ⟨_, rfl⟩
  rw [← hS] at hcv ⊢
  clear hm hn hh hW hS hid
  go_enter Tryz.func44, Tryz.ntmps44
  go_upto_region 2 with fail
  have hi2 := HB.out.2.2.2 ((w.alloc (.cells #[.string S, .slice (some ⟨q, 0, none⟩) 1 1] 88)).alloc (.cells #[.slice none 0 0, .slice none 0 0] 32))
  obtain ⟨W2, hW2⟩ : ∃ W, W = ((w.alloc (.cells #[.string S, .slice (some ⟨q, 0, none⟩) 1 1] 88)).alloc (.cells #[.slice none 0 0, .slice none 0 0] 32)) := ⟨_, rfl⟩
  rw [← hW2] at hi2 ⊢
  have hz2 : W2.heap.size = w.heap.size + 1 + 1 := by rw [hW2]; simp
  have hb2 : Below w.heap.size w W2 := by rw [hW2]; exact ((Below.refl _ _).alloc (Nat.le_refl _) _).alloc (by simp) _
  have c01 : W2.cell? ⟨w.heap.size, 1, none⟩ = some (.slice (some ⟨q, 0, none⟩) 1 1) := by rw [hW2]; exact (cB ((Below.refl _ _).alloc (Nat.le_refl _) _) (World.cell?_alloc_mark w _ _ _ 1)).trans rfl
  have c1 : W2.heap[w.heap.size + 1]? = some (.cells #[.slice none 0 0, .slice none 0 0] 32 (0, 0)) := by
    rw [hW2]
    have h := heap_alloc_new (w.alloc (.cells #[.string S, .slice (some ⟨q, 0, none⟩) 1 1] 88)) (.cells #[.slice none 0 0, .slice none 0 0] 32)
    rw [show (w.alloc (.cells #[.string S, .slice (some ⟨q, 0, none⟩) 1 1] 88)).heap.size = w.heap.size + 1 by simp] at h
    exact h
  obtain ⟨CF, hCF⟩ : ∃ C, C = cF W2 := ⟨_, rfl⟩
  obtain ⟨W3, hW3⟩ : ∃ W, W = WF W2 := ⟨_, rfl⟩
  rw [← hCF, ← hW3] at hi2 ⊢
  have hz3 : W2.heap.size ≤ W3.heap.size := hi2.2.2.2.size
  have hb3 : Below w.heap.size w W3 := hb2.trans (hi2.2.2.2.mono hb2.size)
  have e01 := cB hi2.2.2.2 c01
  have e1 : W3.heap[w.heap.size + 1]? = some (.cells #[.slice none 0 0, .slice none 0 0] 32 (0, 0)) := (hi2.2.2.2.block _ (by omega)).trans c1
  obtain ⟨P, hP⟩ : ∃ P, P = W3.heap.size := ⟨_, rfl⟩
  obtain ⟨W4, hW4⟩ : ∃ W, W = W3.alloc (.cells #[.slice (some ⟨w.heap.size + 1 + 1, 0, none⟩) id.length CF, .slice none 0 0] 32) := ⟨_, rfl⟩
  have hb34 : Below W3.heap.size W3 W4 := by rw [hW4]; exact (Below.refl _ _).alloc (Nat.le_refl _) _
  have f01 := cB hb34 e01
  have f1 : W4.heap[w.heap.size + 1]? = some (.cells #[.slice none 0 0, .slice none 0 0] 32 (0, 0)) := (hb34.block _ (by omega)).trans e1
  have fP : W4.heap[P]? = some (.cells #[.slice (some ⟨w.heap.size + 1 + 1, 0, none⟩) id.length CF, .slice none 0 0] 32 (0, 0)) := by rw [hW4, hP]; exact heap_alloc_new _ _
  have hzP : P < W4.heap.size := (Array.getElem?_eq_some_iff.1 fP).1
  have hb4 : Below w.heap.size w W4 := hb3.trans (hb34.mono hb3.size)
  have hid4 : Bs W4 (w.heap.size + 1 + 1) 0 id := by rw [← hz2]; exact hi2.1.below hb34
  rw [← hP, ← hW4]
  have H4 := Lib.hid (And.intro f1 (And.intro fP (And.intro hb4 (And.intro hid4 (And.intro hzP (And.intro (show w.heap.size + 1 + 1 ≤ P by omega) (show ∀ j, j < id.length → w.heap.size + 1 + 1 < P from fun j hj => by have h := World.block_lt_of_cell? W3 _ (hi2.1 j hj); rw [hP, ← hz2]; exact h)))))))
  clear hi2 hW2 hb2 c01 c1 hCF hW3 hz3 hb3 e01 e1 hW4 hb34 f1 fP hzP hb4 hid4 hP hz2 hcv
  go_wp2_with fail
  go_loopg [13] 1 (fun gk iv wr => (gk = 1 ∧ iv = .int .i64 0 ∧ wr = W4) ∨ (gk = 0 ∧ iv = .int .i64 1 ∧ Hid (∃ q' cq g2 c2, P < q' ∧ P < g2 ∧ ((addrB hs).length ≤ c2 ∧ c2 ≤ 9223372036854775807) ∧ wr.heap[P]? = some (.cells #[.slice (some ⟨w.heap.size + 1 + 1, 0, none⟩) id.length CF, .slice (some ⟨q', 0, none⟩) 1 cq] 32 (0, 0)) ∧ wr.cell? ⟨q', 0, none⟩ = some (.slice (some ⟨g2, 0, none⟩) (addrB hs).length c2) ∧ Bs wr g2 0 (addrB hs) ∧ Below P W4 wr)))
  case atStart => exact .inl ⟨rfl, rfl, rfl⟩
  case round =>
    rcases hrel with ⟨rfl, rfl, rfl⟩ | ⟨rfl, rfl, hI⟩
    · have hq4 := cB H4.out.2.2.1 hq
      obtain ⟨⟨_, d1⟩, _, z1⟩ := two_cells H4.out.2.1
      go_upto_region 5 with fail
      have hLN : (addrB hs).length ≤ 123000 := by have := addrB_le hs HB.out.2.2.1; have := HB.out.2.1; omega
      go_region_law (first
        | (go_simp; go_at_call 57; refine (maBytes B g n c _ hs HB.out.2.1 (HB.out.1.below ((H4.out.2.2.1.mono (Nat.le_refl _)).drew)) HB.out.2.2.1 hn1).mono ?_; rintro e w5 ⟨g5, c5, rfl, _, _, _, hbs5, hB5⟩; have hb5 : Below wr.heap.size wr w5 := ((Below.refl wr.heap.size wr).drew).trans hB5; have d5 := cB hb5 d1; have e5 : w5.heap.size ≠ P := by have := hb5.size; have := H4.out.2.2.2.2.1; omega)
        | (go_simp; go_at_call 21; refine (Tryz.bytes_Clone_at ⟨g5, 0, none⟩ (addrB hs).length c5 (addrB hs) _ rfl (by omega) (fun i hi => by rw [Lib.add_plain]; exact hbs5 i hi)).mono ?_; rintro e w6 ⟨v6, rfl, hown6, hvn6, hB6⟩; have hb6 : Below wr.heap.size wr w6 := hb5.trans (hB6.mono hb5.size); have d6 := cB hb6 d1; obtain ⟨g6, c6, rfl, hbs6, hg6, hc6⟩ : ∃ g6 c6, v6 = .slice (some ⟨g6, 0, none⟩) (addrB hs).length c6 ∧ Bs w6 g6 0 (addrB hs) ∧ w5.heap.size ≤ g6 ∧ (addrB hs).length ≤ c6 ∧ c6 ≤ 9223372036854775807 := cloned_form hown6 hvn6; have d6a : (w6.alloc (.cells #[.slice (some ⟨g6, 0, none⟩) (addrB hs).length c6] 23)).cell? ⟨P, 1, none⟩ = some (.slice none 0 0) := cB ((Below.refl _ _).alloc (Nat.le_refl _) _) d6; have e6 : w6.heap.size ≠ P := by have := hb6.size; have := H4.out.2.2.2.2.1; omega)
        | (refine stepAppB rfl 23 rfl _ _ rfl wr.heap.size _ 0 [] rfl ⟨rfl, .inl ⟨rfl, rfl⟩⟩ w6.heap.size 1 (.slice (some ⟨g6, 0, none⟩) (addrB hs).length c6) rfl rfl (World.cell?_alloc_mark w6 _ _ _ 0) (by omega) (by have := hb6.size; simp; omega) ?_; intro v7 w7 hown7 hgrow7; have hb7 : Below wr.heap.size wr w7 := grown_below (hb6.alloc hb6.size _) (size := 1) (e := 23) (n := 0) (xs := []) ⟨rfl, .inl ⟨rfl, rfl⟩⟩ hgrow7 (by have := hb6.size; simp; omega); obtain ⟨g7, c7, rfl, hc7, hg7⟩ := own_one hown7; have hP7 := (hb7.block P H4.out.2.2.2.2.1).trans H4.out.2.1; obtain ⟨⟨_, d7⟩, _, z7⟩ := two_cells hP7; have hb67 : Below w6.heap.size w6 w7 := grown_below (B := w6.heap.size) ((Below.refl _ _).alloc (Nat.le_refl _) _) (size := 1) (e := 23) (n := 0) (xs := []) ⟨rfl, .inl ⟨rfl, rfl⟩⟩ hgrow7 (by simp); have hbs7 := hbs6.below hb67))
      all_goals
        go_wp2_with fail
        go_roundg 0
        case measure => decide
        case rel =>
          have hPz := H4.out.2.2.2.2.1
          exact .inr ⟨rfl, rfl, g7, c7, g6, c6, by omega, by have := hb5.size; omega, hc6, two_set1 hP7 _, (cell_set (by omega) _).trans hc7, bs_set (by have := hb5.size; omega) _ hbs7, (hb7.mono (Nat.le_of_lt hPz)).setCell (Nat.le_refl _) _⟩
    · obtain ⟨q', cq, g2, c2, hqP, hgP, hcc, fP, hc', hbs, hB⟩ := hI.out
      obtain ⟨⟨d0, d1⟩, z0, z1⟩ := two_cells fP
      have hr : wr.heap[w.heap.size + 1]? = some (.cells #[.slice none 0 0, .slice none 0 0] 32 (0, 0)) := (hB.block _ (by have := H4.out.2.2.2.2.2.1; omega)).trans H4.out.1
      obtain ⟨⟨r0, r1⟩, y0, y1⟩ := two_cells hr
      have hne : w.heap.size + 1 ≠ P := by have := H4.out.2.2.2.2.2.1; omega
      go_wp2_with fail
      obtain ⟨W9, hW9⟩ : ∃ W, W = (wr.setCell ⟨w.heap.size + 1, 0, none⟩ (.slice (some ⟨w.heap.size + 1 + 1, 0, none⟩) id.length CF)).setCell ⟨w.heap.size + 1, 1, none⟩ (.slice (some ⟨q', 0, none⟩) 1 cq) := ⟨_, rfl⟩
      rw [← hW9]
      have hr9 : W9.heap[w.heap.size + 1]? = some (.cells #[.slice (some ⟨w.heap.size + 1 + 1, 0, none⟩) id.length CF, .slice (some ⟨q', 0, none⟩) 1 cq] 32 (0, 0)) := by rw [hW9]; exact two_set01 hr _ _
      obtain ⟨⟨k0, k1⟩, _, _⟩ := two_cells hr9
      refine bodyPost_ret (v := .agg #[.slice (some ⟨w.heap.size + 1 + 1, 0, none⟩) id.length CF, .slice (some ⟨q', 0, none⟩) 1 cq]) (by simp [results, Tryz.results44, go_sem, k0, k1]) rfl ⟨_, rfl, ⟨_, _, q', g2, c2, _, rfl, (by have := H4.out.2.2.2.2.2.1; omega), ?_, ?_, ?_⟩, ?_⟩
      all_goals have hPn := H4.out.2.2.2.2.2.1
      · rw [hW9]
        exact bs_set (by omega) _ (bs_set (by omega) _ (fun j hj => (hB.cell (H4.out.2.2.2.2.2.2 j hj)).trans (H4.out.2.2.2.1 j hj)))
      · rw [hW9]
        exact (cell_set (by omega) _).trans ((cell_set (by omega) _).trans hc')
      · rw [hW9]
        exact bs_set (by omega) _ (bs_set (by omega) _ hbs)
      · rw [hW9]
        exact ((H4.out.2.2.1.trans (hB.mono (by omega))).setCell (by show w.heap.size ≤ w.heap.size + 1; omega) _).setCell (by show w.heap.size ≤ w.heap.size + 1; omega) _
end Go.Proofs.YtapkmoakbfpkeaaGreatDoor
namespace Go.Proofs.YtapkmoakbfpkeaaGreatDoor
open Go Go.RowKit Go.Proofs Go.Sort
set_option maxRecDepth 100000 in
theorem implInfo6 (init : List Hop) (h : Hop) (hi : init ≠ []) (hh : ∀ x ∈ init ++ [h], HopOk x) (h6 : h.1 = 6) (hd : h.2 ≠ []) (hl : (init ++ [h]).length ≤ 1000) (b o N c : Nat) (w : World) (hN : (addrB (init ++ [h])).length = N) (hb : Bs w b o (addrB (init ++ [h]))) (hT : Tab w) :
    Calls Tryz.prog 15 #[.slice (some ⟨b, o, none⟩) N c] w fun e w' => ∃ v, e = .returned (.tuple #[v, .bool true]) ∧ PlainV w' w.heap.size v h.2 (addrB init) ∧ Below w.heap.size w w' := by
  have hB0 : Below w.heap.size w (w.alloc (.cells #[.slice none 0 0, .slice none 0 0] 32)) := (Below.refl _ _).alloc (Nat.le_refl _) _
  have hao := addrOf (init ++ [h]) hh hl [] (.inl (by simp)) (.inl rfl) b o N c _ (by rw [List.append_nil]; exact hN) (by rw [List.append_nil]; exact hb.below hB0) (hT.below hB0)
  have hr0 : (w.alloc (.cells #[.slice none 0 0, .slice none 0 0] 32)).heap[w.heap.size]? = some (.cells #[.slice none 0 0, .slice none 0 0] 32 (0, 0)) := heap_alloc_new _ _
  have hil : init.length ≤ 1000 := by simp at hl; omega
  have HA := Lib.hid (And.intro hao (And.intro hh (And.intro hi (And.intro hB0 hr0))))
  clear hao hb hT hN hh hi hB0 hr0
  go_enter Tryz.func15, Tryz.ntmps15
  go_wp2_with fail
  obtain ⟨W0, hW0⟩ : ∃ W, W = w.alloc (.cells #[.slice none 0 0, .slice none 0 0] 32) := ⟨_, rfl⟩
  have hz0 : W0.heap.size = w.heap.size + 1 := by rw [hW0]; simp
  rw [← hW0] at HA ⊢
  refine HA.out.1.mono ?_
  rintro e w1 ⟨hB, ⟨_, v, rfl, hM⟩ | ⟨hne, _⟩⟩
  rotate_left
  · exact absurd rfl hne
  obtain ⟨g, cap, rfl, hcap⟩ := ma_form hM (by simp)
  have hk : HopOk h := HA.out.2.1 h (by simp)
  have hsa := infoFrom6 W0.heap.size g _ cap w1 hl hcap hB.size init (by simp) HA.out.2.2.1 h hM hk h6 hd
  have HS := Lib.hid (And.intro hsa (And.intro hB hk))
  clear hsa hM hB hk
  obtain ⟨M, hM⟩ : ∃ M, M = (init ++ [h]).length := ⟨_, rfl⟩
  rw [← hM] at HS ⊢
  clear hM hcap hl
  go_wp2_with fail
  refine HS.out.1.mono ?_
  rintro e w2 ⟨p, g2, c2, rfl, ⟨hp0, q, hp1, hq⟩, hM2, hB2⟩
  have hpl := plainInfo1 W0.heap.size g2 _ c2 q w2 hil init rfl (fun x hx => HA.out.2.1 x (by simp [hx])) hM2 hq h.2 HS.out.2.2.2.2 (by have := hop_len h.1 h.2; have := hopB_le h HS.out.2.2; omega)
  have HM2 := Lib.hid (And.intro hpl (HS.out.2.1.trans (hB2.mono HS.out.2.1.size)))
  clear hpl hM2 hB2 hq
  obtain ⟨S, hS⟩ : ∃ S, S = strOfNums h.2 := ⟨_, rfl⟩
  rw [← hS] at HM2 hp0
  clear hS
  go_wp2_with fail
  refine HM2.out.1.mono ?_
  rintro e w3 ⟨v, rfl, hv, hB3⟩
  have hB3' := HM2.out.2.trans (hB3.mono HM2.out.2.size)
  have hr3 := (hB3'.block w.heap.size (by omega)).trans HA.out.2.2.2.2
  have hz2 := HM2.out.2.size
  obtain ⟨g1, c1, q1, g3, c3, cq, rfl, hvB, hv1, hv2, hv3⟩ := hv
  obtain ⟨⟨r0, r1⟩, y0, y1⟩ := two_cells hr3
  have HV := Lib.hid (And.intro hv1 (And.intro hv2 (And.intro hv3 (And.intro hB3' (And.intro hr3 (And.intro hvB hz2))))))
  clear hv1 hv2 hv3 hB3 hB3' hr3 hvB hz2
  go_wp2_with fail
  obtain ⟨hv1, hv2, hv3, hB3, hr3, ⟨hg1, hq1, hg3⟩, hz2⟩ := HV.out
  obtain ⟨W9, hW9⟩ : ∃ W, W = (w3.setCell ⟨w.heap.size, 0, none⟩ (.slice (some ⟨g1, 0, none⟩) h.2.length c1)).setCell ⟨w.heap.size, 1, none⟩ (.slice (some ⟨q1, 0, none⟩) 1 cq) := ⟨_, rfl⟩
  rw [← hW9]
  have hr9 : W9.heap[w.heap.size]? = some (.cells #[.slice (some ⟨g1, 0, none⟩) h.2.length c1, .slice (some ⟨q1, 0, none⟩) 1 cq] 32 (0, 0)) := by rw [hW9]; exact two_set01 hr3 _ _
  obtain ⟨⟨k0, k1⟩, _, _⟩ := two_cells hr9
  refine bodyPost_ret (v := .tuple #[.agg #[.slice (some ⟨g1, 0, none⟩) h.2.length c1, .slice (some ⟨q1, 0, none⟩) 1 cq], .bool true]) (by simp [results, Tryz.results15, go_sem, k0, k1]) rfl ⟨_, rfl, ⟨_, _, q1, g3, c3, _, rfl, (by omega), ?_, ?_, ?_⟩, ?_⟩
  · rw [hW9]
    exact bs_set (by omega) _ (bs_set (by omega) _ hv1)
  · rw [hW9]
    exact (cell_set (by omega) _).trans ((cell_set (by omega) _).trans hv2)
  · rw [hW9]
    exact bs_set (by omega) _ (bs_set (by omega) _ hv3)
  · rw [hW9]
    exact ((HA.out.2.2.2.1.trans (hB3.mono (by omega))).setCell (Nat.le_refl _) _).setCell (Nat.le_refl _) _
end Go.Proofs.YtapkmoakbfpkeaaGreatDoor
namespace Go.Proofs.YtapkmoakbfpkeaaGreatDoor
open Go Go.RowKit Go.Proofs Go.Sort
/-- Bytes in their order, as bytes.Compare has it. -/
def cmpL : List Int → List Int → Int
  | [], [] => 0
  | [], _ :: _ => -1
  | _ :: _, [] => 1
  | a :: s1, b :: bs => if a < b then -1 else if b < a then 1 else cmpL s1 bs
theorem u8_lt {a b : Int} (ha : 0 ≤ a ∧ a < 256) (hb : 0 ≤ b ∧ b < 256) : (UInt8.ofNat a.toNat < UInt8.ofNat b.toNat) ↔ a < b := by
  rw [UInt8.lt_iff_toNat_lt, UInt8.toNat_ofNat', UInt8.toNat_ofNat']
  omega
theorem cmpL_bytes : ∀ (xs ys : List Int), U8 xs → U8 ys → Lib.compareBytes (strOfNums xs).data.toList (strOfNums ys).data.toList = cmpL xs ys
  | [], [], _, _ => rfl
  | [], _ :: _, _, _ => rfl
  | _ :: _, [], _, _ => rfl
  | a :: s1, b :: bs, ha, hb => by
    have h := cmpL_bytes s1 bs (fun x hx => ha x (by simp [hx])) (fun x hx => hb x (by simp [hx]))
    rw [strOfNums_data, strOfNums_data] at h ⊢
    have h1 := u8_lt (ha a (by simp)) (hb b (by simp))
    have h2 := u8_lt (hb b (by simp)) (ha a (by simp))
    simp only [List.map_cons, Lib.compareBytes, h1, h2, cmpL, h]
theorem cmpL_self : ∀ a : List Int, cmpL a a = 0
  | [] => rfl
  | a :: s1 => by simp [cmpL, cmpL_self s1]
theorem cmpL_swap : ∀ a b : List Int, cmpL b a = - cmpL a b
  | [], [] => rfl
  | [], _ :: _ => rfl
  | _ :: _, [] => rfl
  | a :: s1, b :: bs => by
    have h := cmpL_swap s1 bs
    simp only [cmpL]
    by_cases h1 : a < b
    · have h2 : ¬ b < a := by omega
      simp [h1, h2]
    · by_cases h2 : b < a
      · simp [h1, h2]
      · simp [h1, h2, h]
theorem cmpL_zero : ∀ a b : List Int, cmpL a b = 0 → a = b
  | [], [], _ => rfl
  | [], _ :: _, h => by simp [cmpL] at h
  | _ :: _, [], h => by simp [cmpL] at h
  | a :: s1, b :: bs, h => by
    simp only [cmpL] at h
    by_cases h1 : a < b
    · simp [h1] at h
    · by_cases h2 : b < a
      · simp [h1, h2] at h
      · simp only [h1, h2, if_false] at h
        rw [cmpL_zero s1 bs h, show a = b by omega]
theorem cmpL_trans : ∀ a b c : List Int, cmpL a b < 0 → cmpL b c < 0 → cmpL a c < 0
  | [], [], _, h, _ => by simp [cmpL] at h
  | [], _ :: _, [], _, h => by simp [cmpL] at h
  | [], _ :: _, _ :: _, _, _ => by simp [cmpL]
  | _ :: _, [], _, h, _ => by simp [cmpL] at h
  | _ :: _, _ :: _, [], _, h => by simp [cmpL] at h
  | a :: s1, b :: bs, c :: cs, h, h' => by
    have ih := cmpL_trans s1 bs cs
    simp only [cmpL] at h h' ⊢
    by_cases h1 : a < b
    · by_cases h2 : b < c
      · have : a < c := by omega
        simp [this]
      · by_cases h3 : c < b
        · simp [h2, h3] at h'
        · have : a < c := by omega
          simp [this]
    · by_cases h4 : b < a
      · simp [h1, h4] at h
      · simp only [h1, h4, if_false] at h
        have e : a = b := by omega
        subst e
        by_cases h2 : a < c
        · simp [h2]
        · by_cases h3 : c < a
          · simp [h2, h3] at h'
          · simp only [h2, h3, if_false] at h' ⊢
            exact ih h h'
theorem cmpL_swo {α : Type} [Inhabited α] (k : α → List Int) : SWO (ltOf fun x y : α => cmpL (k x) (k y)) where
  irrefl x := by simp [ltOf, cmpL_self]
  trans x y z h1 h2 := by
    simp only [ltOf, decide_eq_true_eq] at *
    exact cmpL_trans _ _ _ h1 h2
  ntrans x y z h1 h2 := by
    simp only [ltOf, decide_eq_false_iff_not] at *
    have s1 := cmpL_swap (k x) (k y)
    have s2 := cmpL_swap (k y) (k z)
    have s3 := cmpL_swap (k x) (k z)
    by_cases e1 : cmpL (k x) (k y) = 0
    · rw [cmpL_zero _ _ e1]; omega
    · by_cases e2 : cmpL (k y) (k z) = 0
      · rw [← cmpL_zero _ _ e2]; omega
      · have := cmpL_trans (k z) (k y) (k x) (by omega) (by omega)
        omega
/-- Two lists in a strict order with the same members are one. -/
theorem sorted_eq {β : Type} {lt : β → β → Prop} (irr : ∀ x, ¬ lt x x) (asym : ∀ x y, lt x y → ¬ lt y x) : ∀ {l1 l2 : List β}, l1.Pairwise lt → l2.Pairwise lt → (∀ x, x ∈ l1 ↔ x ∈ l2) → l1 = l2
  | [], [], _, _, _ => rfl
  | [], b :: r, _, _, h => by have := (h b).2 (by simp); simp at this
  | a :: r, [], _, _, h => by have := (h a).1 (by simp); simp at this
  | a :: r, b :: s, h1, h2, h => by
    obtain ⟨h1a, h1r⟩ := List.pairwise_cons.1 h1
    obtain ⟨h2a, h2r⟩ := List.pairwise_cons.1 h2
    have e : a = b := by
      rcases List.mem_cons.1 ((h a).1 (by simp)) with e | e
      · exact e
      · rcases List.mem_cons.1 ((h b).2 (by simp)) with e' | e'
        · exact e'.symm
        · exact absurd (h2a _ e) (asym _ _ (h1a _ e'))
    subst e
    rw [sorted_eq irr asym h1r h2r fun x => ?_]
    constructor
    · intro hx
      rcases List.mem_cons.1 ((h x).1 (by simp [hx])) with e | e
      · subst e; exact absurd (h1a _ hx) (irr _)
      · exact e
    · intro hx
      rcases List.mem_cons.1 ((h x).2 (by simp [hx])) with e | e
      · subst e; exact absurd (h2a _ hx) (irr _)
      · exact e
/-- An address: its parts, a kind and a value each. -/
abbrev Adr := List (Nat × List Int)
def lastId (hs : Adr) : List Int := (hs.getLast?.map (·.2)).getD []
def wayOf (hs : Adr) : List Adr := if hs.dropLast = [] then [] else [hs.dropLast]
theorem lastId_snoc (init : Adr) (h : Nat × List Int) : lastId (init ++ [h]) = h.2 := by simp [lastId]
theorem wayOf_snoc (init : Adr) (h : Nat × List Int) : wayOf (init ++ [h]) = if init = [] then [] else [init] := by simp [wayOf]
/-- What addresses tell of the peer id: none if no address is its own, else the transports in their order. -/
def Fof (L : List Adr) (id : List Int) : Option (List Adr) := if L.any (fun hs => lastId hs == id) then some ((L.filter fun hs => lastId hs == id).flatMap wayOf) else none
theorem Fof_nil (id : List Int) : Fof [] id = none := rfl
theorem Fof_snoc (L : List Adr) (hs : Adr) (id : List Int) : Fof (L ++ [hs]) id = if lastId hs = id then some ((Fof L id).getD [] ++ wayOf hs) else Fof L id := by
  unfold Fof
  rw [List.any_append, List.filter_append, List.flatMap_append]
  by_cases h : lastId hs = id
  · rw [if_pos h]
    simp only [List.any_cons, List.any_nil, h, beq_self_eq_true, Bool.or_false, Bool.or_true, if_true, List.filter_cons, List.filter_nil]
    by_cases ha : L.any (fun hs => lastId hs == id) = true
    · simp [ha]
    · rw [if_neg ha]
      have : L.filter (fun hs => lastId hs == id) = [] := by
        rw [List.filter_eq_nil_iff]
        intro x hx hx'
        exact ha (List.any_eq_true.2 ⟨x, hx, hx'⟩)
      simp [this]
  · have hb : (lastId hs == id) = false := by simp [h]
    simp [h, hb]
def infoLt (a b : List Int × List Adr) : Prop := cmpL a.1 b.1 < 0
/-- The peers, each once, by their IDs, with their addresses in order. -/
def IsInfos (L : List Adr) (I : List (List Int × List Adr)) : Prop := I.Pairwise infoLt ∧ ∀ id ts, (id, ts) ∈ I ↔ Fof L id = some ts
theorem infos_eq {L : List Adr} {I J : List (List Int × List Adr)} (h : IsInfos L I) (k : IsInfos L J) : I = J :=
  sorted_eq (lt := infoLt) (fun x => by simp [infoLt, cmpL_self]) (fun x y hxy hyx => by unfold infoLt at *; have := cmpL_swap x.1 y.1; omega) h.1 k.1 fun x => by
    obtain ⟨id, ts⟩ := x
    rw [h.2, k.2]
theorem Fof_append (L M : List Adr) (id : List Int) : Fof (L ++ M) id = match Fof L id, Fof M id with
    | none, none => none
    | a, b => some (a.getD [] ++ b.getD []) := by
  have hn : ∀ K : List Adr, ¬ K.any (fun hs => lastId hs == id) = true → K.filter (fun hs => lastId hs == id) = [] := fun K hK => by
    rw [List.filter_eq_nil_iff]
    intro x hx hx'
    exact hK (List.any_eq_true.2 ⟨x, hx, hx'⟩)
  unfold Fof
  rw [List.any_append, List.filter_append, List.flatMap_append]
  by_cases h1 : L.any (fun hs => lastId hs == id) = true <;> by_cases h2 : M.any (fun hs => lastId hs == id) = true
  · simp [h1, h2]
  · simp [h1, h2, hn M h2]
  · simp [h1, h2, hn L h1]
  · simp [h1, h2]
/-- Told twice. -/
theorem infos_twice {L : List Adr} {I : List (List Int × List Adr)} (h : IsInfos L I) : IsInfos (L ++ L) (I.map fun x => (x.1, x.2 ++ x.2)) := by
  refine ⟨List.pairwise_map.2 (h.1.imp fun hab => hab), fun id ts => ?_⟩
  rw [List.mem_map, Fof_append]
  constructor
  · rintro ⟨⟨i, t⟩, hx, he⟩
    simp only [Prod.mk.injEq] at he
    obtain ⟨rfl, rfl⟩ := he
    rw [(h.2 _ _).1 hx]
    rfl
  · intro hf
    cases hL : Fof L id with
    | none => rw [hL] at hf; simp at hf
    | some t =>
      rw [hL] at hf
      simp at hf
      exact ⟨(id, t), (h.2 _ _).2 hL, by rw [← hf]⟩
theorem infos_one (hs : Adr) : IsInfos [hs] [(lastId hs, wayOf hs)] := by
  refine ⟨List.pairwise_singleton _ _, fun id ts => ?_⟩
  have e : Fof [hs] id = if lastId hs = id then some (wayOf hs) else none := by
    have := Fof_snoc [] hs id
    simpa [Fof_nil] using this
  rw [e, List.mem_singleton, Prod.mk.injEq]
  by_cases h : lastId hs = id
  · simp [h, eq_comm]
  · simp [h, Ne.symm h]
theorem Fof_len (L : List Adr) (id : List Int) : ((Fof L id).getD []).length ≤ L.length := by
  unfold Fof
  split
  · simp only [Option.getD_some]
    have h1 : ∀ K : List Adr, (K.flatMap wayOf).length ≤ K.length := fun K => by
      induction K with
      | nil => exact Nat.le_refl _
      | cons a K ih =>
        have : (wayOf a).length ≤ 1 := by unfold wayOf; split <;> simp
        simp only [List.flatMap_cons, List.length_append, List.length_cons]
        omega
    exact Nat.le_trans (h1 _) (List.length_filter_le _ _)
  · simp
end Go.Proofs.YtapkmoakbfpkeaaGreatDoor
namespace Go.Proofs.YtapkmoakbfpkeaaGreatDoor
open Go Go.RowKit Go.Proofs Go.Sort
/-- Blocks of cells of another type than T stay. -/
def Kept (T : TypeId) (w w' : World) : Prop := ∀ (i : Nat) (cs : Array Value) (t : TypeId) (fr : Nat × Nat), w.heap[i]? = some (Obj.cells cs t fr) → t ≠ T → w'.heap[i]? = some (Obj.cells cs t fr)
theorem Kept.refl (T : TypeId) (w : World) : Kept T w w := fun _ _ _ _ h _ => h
theorem Kept.trans {T : TypeId} {a b c : World} (h : Kept T a b) (k : Kept T b c) : Kept T a c := fun i cs t fr hi ht => k i cs t fr (h i cs t fr hi ht) ht
theorem Kept.below {T : TypeId} {w w' : World} (h : Below w.heap.size w w') : Kept T w w' := fun i _ _ _ hi _ => (h.block i (Array.getElem?_eq_some_iff.1 hi).1).trans hi
theorem Kept.row {T : TypeId} {w w' : World} {B size n : Nat} {v : Value} {xs : List Value} (ho : w.ownsRow B T size v n xs) (hg : w.grownBy w' v.ownBlock) : Kept T w w' := by
  intro i cs t fr hi ht
  refine (hg.block i (Array.getElem?_eq_some_iff.1 hi).1 fun e => ?_).trans hi
  rcases ho.2 with ⟨hv, _⟩ | ⟨g, cap, cur, hv, _, hh, _⟩
  · rw [hv] at e; simp [Value.ownBlock] at e
  · rw [hv] at e
    obtain rfl : i = g := by simpa [Value.ownBlock] using e
    have e2 := Option.some.inj (hh.symm.trans hi)
    injection e2 with _ e3
    exact ht e3.symm
theorem Kept.map {T : TypeId} {w w' : World} {b : Nat} {es : Array MapEntry} {clock : Nat} (hb : w.heap[b]? = some (.map es clock)) (hg : w.grownBy w' (some b)) : Kept T w w' := by
  intro i cs t fr hi ht
  refine (hg.block i (Array.getElem?_eq_some_iff.1 hi).1 fun e => ?_).trans hi
  obtain rfl : i = b := Option.some.inj e
  rw [hb] at hi
  cases hi
theorem Kept.setCell {T : TypeId} {w : World} {p : Addr} {cs : Array Value} (hp : w.heap[p.block]? = some (Obj.cells cs T (0, 0))) (x : Value) : Kept T w (w.setCell p x) := fun i cs' t fr hi ht => by
  refine (Below.heap_setCell _ _ _ _ fun e => ?_).trans hi
  subst e
  have e2 := Option.some.inj (hi.symm.trans hp)
  injection e2 with _ e3
  exact ht e3
theorem Kept.own {T e : TypeId} {w w' : World} {B size n : Nat} {v : Value} {xs : List Value} (hk : Kept T w w') (ht : e ≠ T) (h : w.ownsRow B e size v n xs) : w'.ownsRow B e size v n xs := by
  refine ⟨h.1, ?_⟩
  rcases h.2 with h | ⟨g, cap, cur, hv, hB, hh, r⟩
  · exact .inl h
  · exact .inr ⟨g, cap, cur, hv, hB, hk g cur e _ hh ht, r⟩
theorem Kept.ma {T : TypeId} {w w' : World} {B : Nat} {v : Value} {hs : List Hop} (hk : Kept T w w') (h1 : 138 ≠ T) (h2 : 144 ≠ T) (h3 : 5 ≠ T) (h : MA w B v hs) : MA w' B v hs := by
  obtain ⟨qs, hq, ho, hr⟩ := h
  exact ⟨qs, hq, hk.own h1 ho, fun y hy => by
    obtain ⟨⟨a, e1, e2⟩, hB⟩ := hr y hy
    exact ⟨⟨a, hk _ _ _ _ e1 h2, hk _ _ _ _ e2 h3⟩, hB⟩⟩
/-- Bytes of the call's own. -/
def BV (w : World) (B : Nat) (v : Value) (xs : List Int) : Prop := ∃ g c cs, v = .slice (some ⟨g, 0, none⟩) xs.length c ∧ (B ≤ g ∧ xs.length ≤ c ∧ c ≤ 9223372036854775807) ∧ (∃ fr, w.heap[g]? = some (Obj.cells cs 5 fr)) ∧ Bs w g 0 xs
theorem Kept.bv {T : TypeId} {w w' : World} {B : Nat} {v : Value} {xs : List Int} (hk : Kept T w w') (h3 : 5 ≠ T) (h : BV w B v xs) : BV w' B v xs := by
  obtain ⟨g, c, cs, hv, hB, ⟨fr, hg⟩, hb⟩ := h
  have hg' := hk _ _ _ _ hg h3
  exact ⟨g, c, cs, hv, hB, ⟨fr, hg'⟩, fun i hi => (World.cell?_of_block (w := w) (a := ⟨g, 0 + i, none⟩) (hg'.trans hg.symm)).trans (hb i hi)⟩
theorem BV.below {w w' : World} {B : Nat} {v : Value} {xs : List Int} (h : BV w B v xs) (hb : Below w.heap.size w w') : BV w' B v xs := (Kept.below (T := 5 + 1) hb).bv (by decide) h
theorem BV.mono {w : World} {B B' : Nat} {v : Value} {xs : List Int} (h : BV w B v xs) (hB : B' ≤ B) : BV w B' v xs := by
  obtain ⟨g, c, cs, hv, ⟨h1, h2⟩, r⟩ := h
  exact ⟨g, c, cs, hv, ⟨Nat.le_trans hB h1, h2⟩, r⟩
theorem BV.own {w : World} {B : Nat} {v : Value} {xs : List Int} (hown : w.ownsRow B 5 1 v xs.length (xs.map (Value.int .u8))) (hx : xs ≠ []) : BV w B v xs := by
  have hown2 := hown
  have hl : 0 < xs.length := List.length_pos_iff.2 hx
  rcases hown.2 with ⟨_, h0⟩ | ⟨g4, c4, cur, rfl, hB, hh, hc, hm, _⟩
  · omega
  · exact ⟨g4, c4, cur, rfl, ⟨hB, hc, Nat.le_trans hm (by decide)⟩, ⟨_, hh⟩, ownsBytes hown2 rfl⟩
theorem BV.one {w : World} {B : Nat} {v : Value} {xs : List Int} (h : BV w B v xs) : v.oneCell' = true := by
  obtain ⟨g, c, cs, rfl, _⟩ := h
  rfl
theorem MA.one {w : World} {B : Nat} {v : Value} {hs : List Hop} (h : MA w B v hs) : v.oneCell' = true := by
  obtain ⟨_, _, ho, _⟩ := h
  rcases ho.2 with ⟨rfl, _⟩ | ⟨g, cap, cur, rfl, _⟩ <;> rfl
/-- A row of the call's own, each of whose cells is as P says. -/
def RowP {α : Type} (T : TypeId) (P : World → Value → α → Prop) (w : World) (B : Nat) (v : Value) (xs : List α) : Prop := ∃ us : List Value, us.length = xs.length ∧ w.ownsRow B T 1 v xs.length us ∧ ∀ (i : Nat) u x, us[i]? = some u → xs[i]? = some x → P w u x
theorem RowP.nil {α : Type} (T : TypeId) (P : World → Value → α → Prop) (w : World) (B : Nat) : RowP T P w B (.slice none 0 0) [] := ⟨[], rfl, World.ownsRow_nil _ _ _ _, fun i u x h => by simp at h⟩
theorem RowP.moved {α : Type} {T : TypeId} {P : World → Value → α → Prop} {w w' : World} {B : Nat} {v : Value} {xs : List α} (h : RowP T P w B v xs) (ho : ∀ us, w.ownsRow B T 1 v xs.length us → w'.ownsRow B T 1 v xs.length us) (hk : ∀ u x, P w u x → P w' u x) : RowP T P w' B v xs := by
  obtain ⟨us, hl, hown, hP⟩ := h
  exact ⟨us, hl, ho us hown, fun i u x h1 h2 => hk _ _ (hP i u x h1 h2)⟩
theorem RowP.below {α : Type} {T : TypeId} {P : World → Value → α → Prop} {w w' : World} {B : Nat} {v : Value} {xs : List α} (h : RowP T P w B v xs) (hb : Below w.heap.size w w') (hk : ∀ u x, P w u x → P w' u x) : RowP T P w' B v xs := h.moved (fun _ ho => ownsRow_below ho hb) hk
theorem RowP.push {α : Type} {T : TypeId} {P : World → Value → α → Prop} {w w' : World} {B : Nat} {v' : Value} {xs : List α} {us : List Value} {u : Value} {x : α} (hl : us.length = xs.length) (hP : ∀ (i : Nat) u x, us[i]? = some u → xs[i]? = some x → P w u x) (hown : w'.ownsRow B T 1 v' (xs.length + 1) (us ++ [u])) (hk : ∀ u x, P w u x → P w' u x) (hx : P w' u x) : RowP T P w' B v' (xs ++ [x]) := by
  refine ⟨us ++ [u], by simp [hl], by simpa using hown, fun i u' x' h1 h2 => ?_⟩
  by_cases hi : i < us.length
  · rw [List.getElem?_append_left hi] at h1
    rw [List.getElem?_append_left (by omega)] at h2
    exact hk _ _ (hP i u' x' h1 h2)
  · rw [List.getElem?_append_right (by omega)] at h1 h2
    rw [← hl] at h2
    cases hj : i - us.length with
    | zero =>
      rw [hj] at h1 h2
      simp at h1 h2
      subst h1 h2
      exact hx
    | succ j => rw [hj] at h1; simp at h1
theorem RowP.at {α : Type} {T : TypeId} {P : World → Value → α → Prop} {w : World} {B g c n : Nat} {xs : List α} (h : RowP T P w B (.slice (some ⟨g, 0, none⟩) n c) xs) (i : Nat) (x : α) (hx : xs[i]? = some x) : ∃ u, w.cell? ⟨g, i, none⟩ = some u ∧ P w u x := by
  obtain ⟨us, hl, hown, hP⟩ := h
  have hi : i < xs.length := (List.getElem?_eq_some_iff.1 hx).1
  have hu : us[i]? = some us[i] := List.getElem?_eq_getElem (by omega)
  have hn : n = xs.length := by
    rcases hown.2 with ⟨h0, _⟩ | ⟨_, _, _, hv, _⟩
    · cases h0
    · injection hv
  subst hn
  exact ⟨us[i], (hown.cellAt i (by omega)).trans hu, hP i _ x hu hx⟩
theorem RowP.form {α : Type} {T : TypeId} {P : World → Value → α → Prop} {w : World} {B : Nat} {v : Value} {xs : List α} (h : RowP T P w B v xs) : (v = .slice none 0 0 ∧ xs = []) ∨ ∃ g c, v = .slice (some ⟨g, 0, none⟩) xs.length c ∧ xs.length ≤ c ∧ B ≤ g := by
  obtain ⟨us, hl, hown, hP⟩ := h
  rcases hown.2 with ⟨h0, h1⟩ | ⟨g, c, _, hv, hB, _, hc, _⟩
  · exact .inl ⟨h0, List.eq_nil_of_length_eq_zero h1⟩
  · exact .inr ⟨g, c, hv, hc, hB⟩
theorem RowP.slice {α : Type} {T : TypeId} {P : World → Value → α → Prop} {w : World} {B : Nat} {v : Value} {xs : List α} (h : RowP T P w B v xs) : ∃ p c, v = .slice p xs.length c ∧ xs.length ≤ c := by
  rcases h.form with ⟨rfl, rfl⟩ | ⟨g, c, hv, hc, _⟩
  · exact ⟨none, 0, rfl, Nat.le_refl _⟩
  · exact ⟨_, c, hv, hc⟩
/-- A row of pairs of cells. -/
def pairCells (us : List (Value × Value)) : List Value := us.flatMap fun p => [p.1, p.2]
theorem pairCells_len : ∀ us : List (Value × Value), (pairCells us).length = us.length * 2
  | [] => rfl
  | u :: us => by
    have := pairCells_len us
    simp only [pairCells, List.flatMap_cons, List.length_append, List.length_cons, List.length_nil] at *
    omega
theorem pairCells_app (us vs : List (Value × Value)) : pairCells (us ++ vs) = pairCells us ++ pairCells vs := List.flatMap_append
theorem pairCells_at : ∀ (us : List (Value × Value)) (i : Nat) (p : Value × Value), us[i]? = some p → (pairCells us)[i * 2]? = some p.1 ∧ (pairCells us)[i * 2 + 1]? = some p.2
  | [], i, p, h => by simp at h
  | u :: us, 0, p, h => by simp at h; subst h; exact ⟨rfl, rfl⟩
  | u :: us, i + 1, p, h => by
    have h' : us[i]? = some p := by simpa using h
    have := pairCells_at us i p h'
    have e : pairCells (u :: us) = u.1 :: u.2 :: pairCells us := rfl
    rw [e, show (i + 1) * 2 = i * 2 + 1 + 1 by omega]
    simpa using this
def RowQ {α : Type} (T : TypeId) (P : World → Value × Value → α → Prop) (w : World) (B : Nat) (v : Value) (xs : List α) : Prop := ∃ us : List (Value × Value), us.length = xs.length ∧ w.ownsRow B T 2 v xs.length (pairCells us) ∧ ∀ (i : Nat) u x, us[i]? = some u → xs[i]? = some x → P w u x
theorem RowQ.nil {α : Type} (T : TypeId) (P : World → Value × Value → α → Prop) (w : World) (B : Nat) : RowQ T P w B (.slice none 0 0) [] := ⟨[], rfl, World.ownsRow_nil _ _ _ _, fun i u x h => by simp at h⟩
theorem RowQ.moved {α : Type} {T : TypeId} {P : World → Value × Value → α → Prop} {w w' : World} {B : Nat} {v : Value} {xs : List α} (h : RowQ T P w B v xs) (ho : ∀ us, w.ownsRow B T 2 v xs.length us → w'.ownsRow B T 2 v xs.length us) (hk : ∀ u x, P w u x → P w' u x) : RowQ T P w' B v xs := by
  obtain ⟨us, hl, hown, hP⟩ := h
  exact ⟨us, hl, ho _ hown, fun i u x h1 h2 => hk _ _ (hP i u x h1 h2)⟩
theorem RowQ.below {α : Type} {T : TypeId} {P : World → Value × Value → α → Prop} {w w' : World} {B : Nat} {v : Value} {xs : List α} (h : RowQ T P w B v xs) (hb : Below w.heap.size w w') (hk : ∀ u x, P w u x → P w' u x) : RowQ T P w' B v xs := h.moved (fun _ ho => ownsRow_below ho hb) hk
theorem RowQ.push {α : Type} {T : TypeId} {P : World → Value × Value → α → Prop} {w w' : World} {B : Nat} {v' : Value} {xs : List α} {us : List (Value × Value)} {u : Value × Value} {x : α} (hl : us.length = xs.length) (hP : ∀ (i : Nat) u x, us[i]? = some u → xs[i]? = some x → P w u x) (hown : w'.ownsRow B T 2 v' (xs.length + 1) (pairCells us ++ [u.1, u.2])) (hk : ∀ u x, P w u x → P w' u x) (hx : P w' u x) : RowQ T P w' B v' (xs ++ [x]) := by
  refine ⟨us ++ [u], by simp [hl], by have e : pairCells [u] = [u.1, u.2] := rfl; rw [pairCells_app, e]; simpa using hown, fun i u' x' h1 h2 => ?_⟩
  by_cases hi : i < us.length
  · rw [List.getElem?_append_left hi] at h1
    rw [List.getElem?_append_left (by omega)] at h2
    exact hk _ _ (hP i u' x' h1 h2)
  · rw [List.getElem?_append_right (by omega)] at h1 h2
    rw [← hl] at h2
    cases hj : i - us.length with
    | zero =>
      rw [hj] at h1 h2
      simp at h1 h2
      subst h1 h2
      exact hx
    | succ j => rw [hj] at h1; simp at h1
theorem RowQ.at {α : Type} {T : TypeId} {P : World → Value × Value → α → Prop} {w : World} {B g c n : Nat} {xs : List α} (h : RowQ T P w B (.slice (some ⟨g, 0, none⟩) n c) xs) (i : Nat) (x : α) (hx : xs[i]? = some x) : ∃ u : Value × Value, (w.cell? ⟨g, i * 2, none⟩ = some u.1 ∧ w.cell? ⟨g, i * 2 + 1, none⟩ = some u.2) ∧ P w u x := by
  obtain ⟨us, hl, hown, hP⟩ := h
  have hi : i < xs.length := (List.getElem?_eq_some_iff.1 hx).1
  have hu : us[i]? = some us[i] := List.getElem?_eq_getElem (by omega)
  have hn : n = xs.length := by
    rcases hown.2 with ⟨h0, _⟩ | ⟨_, _, _, hv, _⟩
    · cases h0
    · injection hv
  subst hn
  obtain ⟨h1, h2⟩ := pairCells_at us i _ hu
  exact ⟨us[i], ⟨(hown.cellAt (i * 2) (by omega)).trans h1, (hown.cellAt (i * 2 + 1) (by omega)).trans h2⟩, hP i _ x hu hx⟩
theorem RowQ.form {α : Type} {T : TypeId} {P : World → Value × Value → α → Prop} {w : World} {B : Nat} {v : Value} {xs : List α} (h : RowQ T P w B v xs) : (v = .slice none 0 0 ∧ xs = []) ∨ ∃ g c, v = .slice (some ⟨g, 0, none⟩) xs.length c ∧ xs.length ≤ c ∧ B ≤ g := by
  obtain ⟨us, hl, hown, hP⟩ := h
  rcases hown.2 with ⟨h0, h1⟩ | ⟨g, c, _, hv, hB, _, hc, _⟩
  · exact .inl ⟨h0, List.eq_nil_of_length_eq_zero h1⟩
  · exact .inr ⟨g, c, hv, hc, hB⟩
theorem RowQ.slice {α : Type} {T : TypeId} {P : World → Value × Value → α → Prop} {w : World} {B : Nat} {v : Value} {xs : List α} (h : RowQ T P w B v xs) : ∃ p c, v = .slice p xs.length c ∧ xs.length ≤ c := by
  rcases h.form with ⟨rfl, rfl⟩ | ⟨g, c, hv, hc, _⟩
  · exact ⟨none, 0, rfl, Nat.le_refl _⟩
  · exact ⟨_, c, hv, hc⟩
/-- append of one element onto a row of the call's own, whatever the type. -/
theorem wpAppN (S T : TypeId) (size : Nat) (z : Value) (byt : Nat) (hS : Tryz.prog.underlying S = some (.slice T)) (hinf : (Tryz.prog.info? T).map (fun i => (i.zero, i.size, i.bytes)) = some (some z, size, byt)) (hzs : z.cells.size = size) (hsz : 0 < size) (hby : byt ≤ 100)
    {ops : Array Oper} {rest : List Oper} {o : Oper} {a : Act} {w0 : World} {Q : Exit → Act → World → Prop} (hgd : o.guard = none) (s x : Operand)
    (ho : o.op = .call { callee := .builtin .append, args := #[s, x], argTypes := #[S, S] }) (base : Nat) (v : Value) (n : Nat) (us : List Value) (hs : a.eval s = v) (hown : w0.ownsRow base T size v n us)
    (news : List Value) (hn : news.length = size) (h1 : ∀ u ∈ news, u.oneCell' = true) (hx : a.eval x = .slice (some ⟨w0.heap.size, 0, none⟩) 1 1) (hN : n ≤ 1000000) (hbase : base ≤ w0.heap.size)
    (h : ∀ v' w', w'.ownsRow base T size v' (n + 1) (us ++ news) → w0.grownBy w' v.ownBlock → (v'.ownBlock = v.ownBlock ∨ v'.ownBlock = some (w0.heap.size + 1)) → wpList Tryz.prog ops Q rest (a.put o.dst v') w') : wpList Tryz.prog ops Q (o :: rest) a (w0.alloc (.cells news.toArray T)) := by
  obtain ⟨i0, hi, hz0, hz1, hz2⟩ := info_parts hinf
  refine wpList_append_own_at _ hgd s x S ho base T i0 z size byt hS hi hz0 hz1 hz2 hzs hsz v n us hs (hown.alloc _) ⟨w0.heap.size, 0, none⟩ 1 1 news hx (by rw [hn]; omega) (fun j u hj => ?_) h1 (by unfold maxLen; omega) (Nat.le_trans (Nat.mul_le_mul_left _ hby) (by omega)) (by simp; omega) (fun v' w' q1 q2 _ q4 => h v' w' q1 ((World.grownBy_alloc w0 _ _).trans q2) (by simpa using q4))
  rw [Lib.add_plain, Nat.zero_add]
  refine (World.cell?_alloc_mark w0 _ _ _ j).trans ?_
  simpa using hj
end Go.Proofs.YtapkmoakbfpkeaaGreatDoor
namespace Go.Proofs.YtapkmoakbfpkeaaGreatDoor
open Go Go.RowKit Go.Proofs Go.Sort
set_option maxRecDepth 100000 in
theorem splitAddrN (B g n c : Nat) (w : World) (hn1 : n ≤ 1000) (hc : n ≤ c) (hBw : B ≤ w.heap.size) (init : List Hop) (hi : init.length + 1 = n) (h : Hop) (hm : MA w B (.slice (some ⟨g, 0, none⟩) n c) (init ++ [h]))
    (hk : h.1 < 8) (h6 : h.1 ≠ 6) : Calls Tryz.prog 56 #[.slice (some ⟨g, 0, none⟩) n c] w fun e w' => e = .returned (.tuple #[.slice (some ⟨g, 0, none⟩) n c, .string ⟨#[]⟩]) ∧ Below w.heap.size w w' := by
  have hnn := fun w => maNotNil ⟨g, 0, none⟩ n c w
  have hsl := splitLast B g n c w hn1 hc hBw init hi h hm
  have HSL := Lib.hid (And.intro hsl hk)
  have hc6 : ((protOf h.1).code != 421) = true := by rw [bne_iff_ne]; exact codeNot6 h.1 hk h6
  clear hsl hm hi hBw h6
  go_enter Tryz.func56, Tryz.ntmps56
  go_wp2_with fail
  refine HSL.out.1.mono ?_
  rintro e w1 ⟨tv, r, q, rfl, hma, hnil, hp, hB⟩
  have HP := Lib.hid (And.intro hp hB)
  clear hma hnil hp hB
  go_wp2_with fail
  refine (compProtocol r q h HSL.out.2 _ HP.out.1).mono ?_
  rintro e w2 ⟨a, rfl, hB2⟩
  obtain ⟨s0, s2, s3, s4, s5, hcell⟩ := code6 h.1 a
  rw [hcell]
  obtain ⟨C, hC⟩ : ∃ C, C = (protOf h.1).code := ⟨_, rfl⟩
  rw [← hC] at hc6 ⊢
  have HB3 := Lib.hid (HP.out.2.trans (hB2.mono HP.out.2.size))
  have hcf := codeField s0 s2 s3 s4 s5 C
  clear hB2 hcell hC
  go_wp2_with fail
  go_ret2
  exact ⟨rfl, HB3.out⟩
/-- An ID as a map's key. -/
def kL (id : List Int) : Lit := .string (strOfNums id).data.toList
theorem kL_inj {a b : List Int} (ha : U8 a) (hb : U8 b) (h : kL a = kL b) : a = b := by
  have h1 : (strOfNums a).data.toList = (strOfNums b).data.toList := by injection h
  have h2 := cmpL_bytes a b ha hb
  rw [h1, cmpL_bytes b b hb hb, cmpL_self] at h2
  exact cmpL_zero a b h2.symm
def heldE : Value → Option (DataW Value × List MemPlace)
  | .slice p n c => some (.held (.slice p n c), [])
  | _ => none
theorem heldE_inv {v : Value} {y : DataW Value × List MemPlace} (h : heldE v = some y) : ∃ p n c, v = .slice p n c ∧ y = (.held v, []) := by
  cases v <;> simp [heldE] at h
  exact ⟨_, _, _, rfl, h.symm⟩
theorem heldE_mk {v : Value} {d : DataW Value} {ps : List MemPlace} (h : heldE v = some (d, ps)) : d = .held v := by
  obtain ⟨p, n, c, rfl, e⟩ := heldE_inv h
  exact congrArg Prod.fst e
theorem idKeyed : Maps.Keyed Tryz.prog 85 := Maps.string_keyed Tryz.underlying85
theorem keyId (id : List Int) (hl : id.length ≤ 1000) : keyOf Tryz.prog 85 (.string (strOfNums id)) = some (kL id) := WideMaps.keyOf_string_mk Tryz.underlying85 (by rw [strOfNums_size]; unfold maxLen; omega)
/-- A row of addresses. -/
def MRow (w : World) (Bi B : Nat) (v : Value) (ts : List Adr) : Prop := RowP 76 (fun w u hs => MA w Bi u hs) w B v ts
theorem MRow.below {w w' : World} {Bi B : Nat} {v : Value} {ts : List Adr} (h : MRow w Bi B v ts) (hb : Below w.heap.size w w') : MRow w' Bi B v ts := RowP.below h hb fun _ _ hm => hm.below hb
theorem MRow.lt {w : World} {Bi B : Nat} {v : Value} {ts : List Adr} (h : MRow w Bi B v ts) {g : Nat} (hg : v.ownBlock = some g) : B ≤ g ∧ g < w.heap.size ∧ ∃ cs, w.heap[g]? = some (Obj.cells cs 76 (0, 0)) := by
  obtain ⟨us, _, ho, _⟩ := h
  rcases ho.2 with ⟨rfl, _⟩ | ⟨g', cap, cur, rfl, hB, hh, _⟩
  · simp [Value.ownBlock] at hg
  · obtain rfl : g' = g := by simpa [Value.ownBlock] using hg
    exact ⟨hB, (Array.getElem?_eq_some_iff.1 hh).1, _, hh⟩
/-- The row stays while others grow and the map is written. -/
theorem MRow.moved {w w' : World} {Bi B : Nat} {v : Value} {ts : List Adr} (h : MRow w Bi B v ts) (hk : Kept 76 w w') (hb : ∀ g, v.ownBlock = some g → w'.heap[g]? = w.heap[g]?) : MRow w' Bi B v ts := by
  refine RowP.moved h (fun us ho => ⟨ho.1, ?_⟩) fun u x hm => hk.ma (by decide) (by decide) (by decide) hm
  rcases ho.2 with h | ⟨g, cap, cur, rfl, hB, hh, r⟩
  · exact .inl h
  · exact .inr ⟨g, cap, cur, rfl, hB, (hb g rfl).trans hh, r⟩
/-- The map b of w holds what the addresses L tell. -/
structure Grp (w : World) (Bi B b n : Nat) (L : List Adr) (D : DataW Value) (V : List Int → Value) : Prop where
  own : w.ownsMap Tryz.prog 85 heldE b n D
  keys : ∀ kl, Maps.has D kl = true → ∃ id, Fof L id ≠ none ∧ kl = kL id
  at_ : ∀ id ts, Fof L id = some ts → Maps.has D (kL id) = true ∧ (∀ z, D.atKey (kL id) z = .held (V id)) ∧ MRow w Bi B (V id) ts
  apart : ∀ id id', Fof L id ≠ none → Fof L id' ≠ none → id ≠ id' → (V id).ownBlock = none ∨ (V id).ownBlock ≠ (V id').ownBlock
  u8 : ∀ id, Fof L id ≠ none → U8 id
theorem below_grown {w w' : World} (h : Below w.heap.size w w') (row : Option Nat) : w.grownBy w' row := ⟨h.os, h.tape, h.output, h.size, fun k hk _ => h.block k hk⟩
theorem Grp.below {w w' : World} {Bi B b n : Nat} {L : List Adr} {D : DataW Value} {V : List Int → Value} (h : Grp w Bi B b n L D V) (hb : Below w.heap.size w w') : Grp w' Bi B b n L D V :=
  ⟨h.own.kept (below_grown hb none) (by simp), h.keys, fun id ts hf => ⟨(h.at_ id ts hf).1, (h.at_ id ts hf).2.1, (h.at_ id ts hf).2.2.below hb⟩, h.apart, h.u8⟩
theorem Grp.made (w : World) (Bi B : Nat) : Grp (w.alloc (.map #[] 0)) Bi B w.heap.size 0 [] (.map []) (fun _ => .slice none 0 0) :=
  ⟨World.ownsMap_made _ _ _ _, fun kl h => (by cases h), fun id ts h => (by cases h), fun id id' h => absurd rfl h, fun id h => absurd rfl h⟩
theorem Grp.hasnt {w : World} {Bi B b n : Nat} {L : List Adr} {D : DataW Value} {V : List Int → Value} (h : Grp w Bi B b n L D V) {id : List Int} (hid : U8 id) (hf : Fof L id = none) : Maps.has D (kL id) = false := by
  cases hh : Maps.has D (kL id) with
  | false => rfl
  | true =>
    obtain ⟨id', h1, h2⟩ := h.keys _ hh
    rw [kL_inj hid (h.u8 id' h1) h2] at hf
    exact absurd hf h1
/-- One address more, at a peer that is there, with no transport: nothing turns. -/
theorem Grp.same {w : World} {Bi B b n : Nat} {L : List Adr} {D : DataW Value} {V : List Int → Value} (h : Grp w Bi B b n L D V) {hs : Adr} (hw : wayOf hs = []) (hf : Fof L (lastId hs) ≠ none) : Grp w Bi B b (n + 1) (L ++ [hs]) D V := by
  have e : ∀ id, Fof (L ++ [hs]) id = Fof L id := fun id => by
    rw [Fof_snoc]
    by_cases hi : lastId hs = id
    · rw [if_pos hi, hw, List.append_nil]
      subst hi
      obtain ⟨ts, ht⟩ := Option.ne_none_iff_exists'.1 hf
      rw [ht]
      rfl
    · rw [if_neg hi]
  have e' : Fof (L ++ [hs]) = Fof L := funext e
  exact ⟨h.own.mono (Nat.le_succ _), by rw [e']; exact h.keys, by rw [e']; exact h.at_, by rw [e']; exact h.apart, by rw [e']; exact h.u8⟩
/-- .. with the value v' laid at its peer. -/
theorem Grp.store {w w1 w2 : World} {Bi B b n : Nat} {L : List Adr} {D : DataW Value} {V : List Int → Value} (h : Grp w Bi B b n L D V) {hs : Adr} (hid : U8 (lastId hs)) (v' : Value) (ob : Option Nat)
    (hob : ob = none ∨ (Fof L (lastId hs) ≠ none ∧ ob = (V (lastId hs)).ownBlock)) (hg : w.grownBy w1 ob) (hk : Kept 76 w w1) (hm : w1.grownBy w2 (some b))
    (ho2 : w2.ownsMap Tryz.prog 85 heldE b (n + 1) (D.put (kL (lastId hs)) (.held v'))) (hrow : MRow w1 Bi B v' ((Fof L (lastId hs)).getD [] ++ wayOf hs))
    (hloc : v'.ownBlock = none ∨ v'.ownBlock = ob ∨ ∃ j, v'.ownBlock = some j ∧ w.heap.size ≤ j) :
    Grp w2 Bi B b (n + 1) (L ++ [hs]) (D.put (kL (lastId hs)) (.held v')) (fun i => if i = lastId hs then v' else V i) := by
  obtain ⟨es, clock, hb, _⟩ := h.own
  have hbl := (Array.getElem?_eq_some_iff.1 hb).1
  have hb1 : w1.heap[b]? = some (.map es clock) := by
    refine (hg.block b hbl fun e => ?_).trans hb
    rcases hob with rfl | ⟨hf, rfl⟩
    · cases e
    · obtain ⟨ts, ht⟩ := Option.ne_none_iff_exists'.1 hf
      obtain ⟨_, _, cs, hc⟩ := (h.at_ _ ts ht).2.2.lt e.symm
      rw [hb] at hc
      cases hc
  have hk2 : Kept 76 w1 w2 := Kept.map hb1 hm
  have hne : ∀ {w' : World} {v : Value} {ts : List Adr}, MRow w' Bi B v ts → ∀ (hb' : w'.heap[b]? = some (.map es clock)) g, v.ownBlock = some g → some g ≠ some b := fun hr hb' g hg e => by
    obtain ⟨_, _, cs, hc⟩ := hr.lt hg
    rw [Option.some.inj e, hb'] at hc
    cases hc
  have hkey : WideAt.IsKeyLit (kL (lastId hs)) := by unfold kL; simp [WideAt.IsKeyLit]
  have hmap := h.own.isMap
  have hfn : ∀ id, Fof (L ++ [hs]) id ≠ none ↔ (id = lastId hs ∨ Fof L id ≠ none) := fun id => by
    rw [Fof_snoc]
    by_cases e : lastId hs = id
    · rw [if_pos e]; simp [e]
    · rw [if_neg e]; simp [Ne.symm e]
  have hu8 : ∀ id, Fof (L ++ [hs]) id ≠ none → U8 id := fun id hf => by
    rcases (hfn id).1 hf with rfl | hf
    · exact hid
    · exact h.u8 id hf
  have hlt : ∀ id, Fof L id ≠ none → ∀ g, (V id).ownBlock = some g → g < w.heap.size := fun id hf g hg => by
    obtain ⟨ts, ht⟩ := Option.ne_none_iff_exists'.1 hf
    exact ((h.at_ _ ts ht).2.2.lt hg).2.1
  refine ⟨ho2, fun kl hh => ?_, fun id ts hf => ?_, fun i i' hi hi' hne' => ?_, hu8⟩
  · by_cases e : kl = kL (lastId hs)
    · exact ⟨lastId hs, (hfn _).2 (.inl rfl), e⟩
    · rw [Maps.has_put_other e] at hh
      obtain ⟨id, h1, h2⟩ := h.keys kl hh
      exact ⟨id, (hfn _).2 (.inr h1), h2⟩
  · by_cases e : id = lastId hs
    · subst e
      rw [Fof_snoc, if_pos rfl] at hf
      have e2 := Option.some.inj hf
      subst e2
      simp only [if_pos]
      exact ⟨Maps.has_put_same hmap hkey _, fun z => Maps.atKey_put_same hmap hkey _ z, hrow.moved hk2 fun g hg' => hm.block g (hrow.lt hg').2.1 (hne hrow hb1 g hg')⟩
    · have hfL : Fof L id = some ts := by rwa [Fof_snoc, if_neg (Ne.symm e)] at hf
      have hkn : kL id ≠ kL (lastId hs) := fun e' => e (kL_inj (hu8 id (by rw [hf]; simp)) hid e')
      obtain ⟨h1, h2, h3⟩ := h.at_ id ts hfL
      simp only [if_neg e]
      have h4 : MRow w1 Bi B (V id) ts := h3.moved hk fun g hg' => hg.block g (h3.lt hg').2.1 fun e' => by
        rcases hob with rfl | ⟨hf', rfl⟩
        · cases e'
        · rcases h.apart id (lastId hs) (by rw [hfL]; simp) hf' e with h0 | h0
          · rw [h0] at hg'; cases hg'
          · exact h0 (hg'.trans e')
      exact ⟨by rw [Maps.has_put_other hkn]; exact h1, fun z => by rw [Maps.atKey_put_other hkn]; exact h2 z, h4.moved hk2 fun g hg' => hm.block g (h4.lt hg').2.1 (hne h4 hb1 g hg')⟩
  · have hvs : ∀ i, i ≠ lastId hs → Fof L i ≠ none → (V i).ownBlock = none ∨ (V i).ownBlock ≠ v'.ownBlock := fun i hi hf => by
      cases hv : (V i).ownBlock with
      | none => exact .inl rfl
      | some g =>
        refine .inr fun e => ?_
        rcases hloc with h0 | h0 | ⟨j, h0, hj⟩
        · rw [h0] at e; cases e
        · rcases hob with rfl | ⟨hf', rfl⟩
          · rw [h0] at e; cases e
          · rcases h.apart i (lastId hs) hf hf' hi with h1 | h1
            · rw [h1] at hv; cases hv
            · exact h1 (hv.trans (e.trans h0))
        · rw [h0] at e
          have := hlt i hf g hv
          have := Option.some.inj e
          omega
    by_cases e : i = lastId hs
    · have e' : i' ≠ lastId hs := fun e2 => hne' (e.trans e2.symm)
      have hf' : Fof L i' ≠ none := by rcases (hfn i').1 hi' with h0 | h0; exact absurd h0 e'; exact h0
      simp only [if_pos e, if_neg e']
      rcases hvs i' e' hf' with h0 | h0
      · cases hv : v'.ownBlock with
        | none => exact .inl rfl
        | some g => exact .inr (by rw [h0]; simp)
      · exact .inr (Ne.symm h0)
    · have hf : Fof L i ≠ none := by rcases (hfn i).1 hi with h0 | h0; exact absurd h0 e; exact h0
      by_cases e' : i' = lastId hs
      · simp only [if_neg e, if_pos e']
        exact hvs i e hf
      · have hf' : Fof L i' ≠ none := by rcases (hfn i').1 hi' with h0 | h0; exact absurd h0 e'; exact h0
        simp only [if_neg e, if_neg e']
        exact h.apart i i' hf hf' hne'
theorem Grp.ne {w : World} {Bi B b n : Nat} {L : List Adr} {D : DataW Value} {V : List Int → Value} (h : Grp w Bi B b n L D V) {v : Value} {g : Nat} {cs : Array Value} {t : TypeId} (hg : v.ownBlock = some g) (hc : w.heap[g]? = some (Obj.cells cs t (0, 0))) : some b ≠ v.ownBlock := fun e => by
  obtain ⟨es, clock, hb, _⟩ := h.own
  rw [hg] at e
  rw [Option.some.inj e, hc] at hb
  cases hb
theorem Grp.neRow {w : World} {Bi B b n m size : Nat} {T : TypeId} {L : List Adr} {D : DataW Value} {V : List Int → Value} (h : Grp w Bi B b n L D V) {v : Value} {us : List Value} (ho : w.ownsRow B T size v m us) : some b ≠ v.ownBlock := by
  rcases ho.2 with ⟨rfl, _⟩ | ⟨g, cap, cur, rfl, _, hh, _⟩
  · simp [Value.ownBlock]
  · exact h.ne rfl hh
/-- 'v, ok := m[k]'. -/
theorem Grp.look {w : World} {Bi B b n : Nat} {L : List Adr} {D : DataW Value} {V : List Int → Value} (h : Grp w Bi B b n L D V) {id : List Int} {v : Value} {ps : List MemPlace} (hid : U8 id) (hv : heldE v = some (D.atKey (kL id) (.held (.slice none 0 0)), ps)) :
    (Fof L id = none ∧ v = .slice none 0 0) ∨ (Fof L id ≠ none ∧ v = V id) := by
  have hd := heldE_mk hv
  cases hf : Fof L id with
  | none =>
    rw [Maps.atKey_of_not_has (h.hasnt hid hf)] at hd
    injection hd with hd
    exact .inl ⟨rfl, hd.symm⟩
  | some ts =>
    rw [(h.at_ id ts hf).2.1] at hd
    injection hd with hd
    exact .inr ⟨by simp, hd.symm⟩
theorem Grp.row {w : World} {Bi B b n : Nat} {L : List Adr} {D : DataW Value} {V : List Int → Value} (h : Grp w Bi B b n L D V) {id : List Int} {v : Value} (hv : (Fof L id = none ∧ v = .slice none 0 0) ∨ (Fof L id ≠ none ∧ v = V id)) :
    MRow w Bi B v ((Fof L id).getD []) := by
  rcases hv with ⟨hf, rfl⟩ | ⟨hf, rfl⟩
  · rw [hf]; exact RowP.nil _ _ _ _
  · obtain ⟨ts, ht⟩ := Option.ne_none_iff_exists'.1 hf
    rw [ht]
    exact (h.at_ id ts ht).2.2
end Go.Proofs.YtapkmoakbfpkeaaGreatDoor
namespace Go.Proofs.YtapkmoakbfpkeaaGreatDoor
open Go Go.RowKit Go.Proofs Go.Sort
theorem Kept.other {T : TypeId} {w w' : World} {r : Nat} {o : Obj} (hr : w.heap[r]? = some o) (ho : ∀ cs t fr, o ≠ Obj.cells cs t fr) (hg : w.grownBy w' (some r)) : Kept T w w' := by
  intro i cs t fr hi ht
  refine (hg.block i (Array.getElem?_eq_some_iff.1 hi).1 fun e => ?_).trans hi
  obtain rfl : i = r := Option.some.inj e
  exact absurd (Option.some.inj (hr.symm.trans hi)) (ho cs t fr)
theorem MRow.kept {T : TypeId} {w w' : World} {Bi B : Nat} {v : Value} {ts : List Adr} (h : MRow w Bi B v ts) (hk : Kept T w w') (h1 : 138 ≠ T) (h2 : 144 ≠ T) (h3 : 5 ≠ T) (h4 : 76 ≠ T) : MRow w' Bi B v ts :=
  RowP.moved h (fun _ ho => hk.own h4 ho) fun _ _ hm => hk.ma h1 h2 h3 hm
theorem Grp.kept {T : TypeId} {w w' : World} {Bi B b n : Nat} {L : List Adr} {D : DataW Value} {V : List Int → Value} {row : Option Nat} (h : Grp w Bi B b n L D V) (hg : w.grownBy w' row) (hb : some b ≠ row) (hk : Kept T w w') (h1 : 138 ≠ T) (h2 : 144 ≠ T) (h3 : 5 ≠ T) (h4 : 76 ≠ T) : Grp w' Bi B b n L D V :=
  ⟨h.own.kept hg hb, h.keys, fun id ts hf => ⟨(h.at_ id ts hf).1, (h.at_ id ts hf).2.1, (h.at_ id ts hf).2.2.kept hk h1 h2 h3 h4⟩, h.apart, h.u8⟩
/-- The last part is an ID. -/
def ends6 (hs : Adr) : Prop := hs.getLast?.map (·.1) = some 6
theorem ends6_snoc (init : Adr) (h : Hop) : ends6 (init ++ [h]) ↔ h.1 = 6 := by simp [ends6]
def pinfoP (Bi B : Nat) (w : World) (u : Value × Value) (x : List Int × List Adr) : Prop := u.1 = .string (strOfNums x.1) ∧ MRow w Bi B u.2 x.2
/-- What AddrInfosFromP2pAddrs hands back. -/
def IFrom (Bi : Nat) (L : List Adr) (w : World) (e : Ending) (w' : World) : Prop :=
  Below w.heap.size w w' ∧ ((∃ rv R, e = .returned (.tuple #[rv, .nilIface]) ∧ (∀ hs ∈ L, ends6 hs) ∧ (R.map (·.1)).Nodup ∧ (∀ id ts, (id, ts) ∈ R ↔ Fof L id = some ts) ∧ RowQ 88 (pinfoP Bi w.heap.size) w' w.heap.size rv R) ∨
    ((∃ hs ∈ L, ¬ ends6 hs) ∧ ∃ T a, e = .returned (.tuple #[.slice none 0 0, .iface T (.pointer (some a))])))
theorem infoMs : (Tryz.prog.info? 76).map (fun i => (i.zero, i.size, i.bytes)) = some (some (.slice none 0 0), 1, 24) := by kernel_rfl
theorem infoPi : (Tryz.prog.info? 88).map (fun i => (i.zero, i.size, i.bytes)) = some (some (.agg #[.string ⟨#[]⟩, .slice none 0 0]), 2, 40) := by kernel_rfl
theorem zeroMs (w : World) : (zeroValue 86).run Tryz.prog w = .ok (.slice none 0 0) w := by kernel_rfl
theorem keyStr {key : Value} {kl : Lit} (h : keyOf Tryz.prog 85 key = some kl) : ∃ x : ByteArray, key = .string x ∧ kl = .string x.data.toList := by
  cases key <;> simp [keyOf, Tryz.underlying85, mapKey] at h
  exact ⟨_, rfl, h.2.symm⟩
theorem maNil (w : World) : (binOp .eql 76 (.slice none 0 0) (.slice none 0 0)).run Tryz.prog w = .ok (.bool true) w := by
  have h := run_equal_slice_nil (P := Tryz.prog) w 76 _ none 0 0 Tryz.underlying76
  simp [binOp, h]
theorem own_held {w : World} {B size n : Nat} {T : TypeId} {v : Value} {xs : List Value} (h : w.ownsRow B T size v n xs) : heldE v = some (.held v, []) := by
  rcases h.2 with ⟨rfl, _⟩ | ⟨g, c, cur, rfl, _⟩ <;> rfl
/-- 'm[k]', whatever the elements. -/
theorem wpLook {H : Type} {P : Program} (w : World) {ops : Array Oper} {rest : List Oper} {o : Oper} {a : Act} {Q : Exit → Act → World → Prop}
    (hg : o.guard = none) (m x : Operand) (t : TypeId) (hop : o.op = Op.lookup t m x false)
    (k e : TypeId) (K : Maps.Keyed P k) (ht : P.underlying t = some (.map k e)) (R : Value → Option (DataW H × List MemPlace)) {z : Value} (hz : (zeroValue e).run P w = .ok z w) (zd : DataW H) (zp : List MemPlace) (hzd : R z = some (zd, zp)) (b n : Nat) (D : DataW H)
    (hm : a.eval m = .map (some b)) (hown : w.ownsMap P k R b n D) (key : Value) (kl : Lit) (hx : a.eval x = key) (hkey : keyOf P k key = some kl)
    (hK : ∀ v ps, R v = some (D.atKey kl zd, ps) → wpList P ops Q rest (a.put o.dst v) w) :
    wpList P ops Q (o :: rest) a w := by
  refine wpList_plain hg fun K' hK' => ?_
  obtain ⟨v, ps, hrun, hv⟩ := hown.lookup K ht hz hzd hkey
  unfold Oper.wp
  simp [execOp, hop, hm, hx, hrun, Result.andThen]
  exact hK' _ _ (hK v ps hv)
theorem id6_ne {h : Hop} (hk : HopOk h) (h6 : h.1 = 6) : h.2 ≠ [] ∧ h.2.length ≤ 1000 := by
  obtain ⟨k, vs⟩ := h
  obtain ⟨_, hv, _⟩ := hk
  obtain rfl : k = 6 := h6
  have hv' : (vs.getD 0 0 = 0 ∨ (vs.getD 0 0 = 18 ∧ vs.getD 1 0 = 32)) ∧ 0 ≤ vs.getD 1 0 ∧ vs.getD 1 0 < 100 ∧ (vs.length : Int) = vs.getD 1 0 + 2 := hv
  exact ⟨fun e => by have := hv'.2.2.2; have := hv'.2.1; rw [show vs = [] from e] at *; simp at *, by show vs.length ≤ 1000; have := hv'.2.2; omega⟩
set_option maxHeartbeats 4000000 in
set_option maxRecDepth 100000 in
theorem infosFrom (Bi : Nat) (L : List Adr) (p : Option Addr) (n c : Nat) (w : World) (hn : L.length = n) (hn1 : n ≤ 1000) (hBi : Bi ≤ w.heap.size) (hh : ∀ hs ∈ L, hs ≠ [] ∧ (∀ x ∈ hs, HopOk x) ∧ hs.length ≤ 1000) (hin : MRow w Bi Bi (.slice p n c) L) (hE : ErrV w) :
    Calls Tryz.prog 50 #[.slice p n c] w (IFrom Bi L w) := by
  have HB := Lib.hid (And.intro hn (And.intro hBi (And.intro hh (And.intro hin hE))))
  clear hn hBi hh hin hE
  have hmm := @run_makeMap Tryz.prog
  go_enter Tryz.func50, Tryz.ntmps50
  go_wp2_with fail
  clear hmm
  go_loopg [17] n (fun gk iv wr => ∃ (ds rs : List Adr), L = ds ++ rs ∧ gk = rs.length ∧ iv = .int .i64 (ds.length : Int) ∧ Hid ((∀ hs ∈ ds, ends6 hs) ∧ (∃ D V, Grp wr Bi w.heap.size w.heap.size ds.length ds D V) ∧ Below w.heap.size w wr))
  case atStart => exact ⟨[], L, rfl, HB.out.1.symm, rfl, fun _ h => (by cases h), ⟨_, _, Grp.made w Bi w.heap.size⟩, (Below.refl _ _).alloc (Nat.le_refl _) _⟩
  case round =>
    obtain ⟨ds, rs, hds, rfl, rfl, hI⟩ := hrel
    have hdl : ds.length ≤ 1000 := by have := HB.out.1; rw [hds, List.length_append] at this; omega
    cases rs with
    | nil =>
      have hlt : ds.length = n := by rw [← HB.out.1, hds, List.append_nil]
      have hl2 : decide (ds.length < n) = false := by rw [decide_eq_false_iff_not, hlt]; omega
      have HD := Lib.hid (show ds = L by rw [hds, List.append_nil])
      clear hds hlt
      obtain ⟨W0, hW0⟩ : ∃ W, W = wr := ⟨_, rfl⟩
      rw [← hW0] at hI ⊢
      clear hW0 wr
      obtain ⟨h6, ⟨D, V, hG⟩, hBw⟩ := hI.out
      obtain ⟨i0, hi, hz0, hz1, hz2⟩ := info_parts infoPi
      obtain ⟨wm, hmk, hownm, hgm⟩ := run_make_own (P := Tryz.prog) W0 w.heap.size 96 88 i0 _ 2 Tryz.underlying96 hi hz0 hz1 .i64 .i64 (Maps.size D) (by rw [hz2]; have := hG.own.size_le; omega) (by have := hG.own.size_le; unfold maxLen; omega) hBw.size
      have hBm : Below W0.heap.size W0 wm := ⟨hgm.os, hgm.tape, hgm.output, hgm.size, fun k hk => hgm.block k hk (by simp)⟩
      have hsz : Maps.size D ≤ 1000 := Nat.le_trans hG.own.size_le hdl
      have HG := Lib.hid (And.intro hG (And.intro (hG.below hBm) (And.intro h6 (And.intro (hBw.trans (hBm.mono hBw.size)) (And.intro hownm hsz)))))
      clear hG hBm h6 hBw hownm hsz hgm hi hz0 hz1 hz2 hI
      go_wp2_with (first | (at_len; refine wpList_len_own _ rfl _ 146 rfl 85 86 Tryz.underlying146 heldE w.heap.size ds.length D rfl HG.out.1.own ?_) | (at_range; refine wpList_range_own _ rfl _ 146 rfl 85 86 idKeyed Tryz.underlying146 heldE w.heap.size ds.length D rfl HG.out.2.1.own ?_; intro w1 hrg1 hg1 hs1))
      go_frame
      have hB1 : Below wm.heap.size wm w1 := ⟨hg1.os, hg1.tape, hg1.output, hg1.size, fun k hk => hg1.block k hk (by simp)⟩
      have H1 := Lib.hid (And.intro hrg1 (And.intro (HG.out.2.1.below hB1) (And.intro (HG.out.2.2.2.1.trans (hB1.mono HG.out.2.2.2.1.size)) (ownsRow_below HG.out.2.2.2.2.1 hB1))))
      clear hrg1 hg1 hs1 hB1 hmk
      obtain ⟨r, hr⟩ : ∃ r, r = wm.heap.size := ⟨_, rfl⟩
      rw [← hr] at H1 ⊢
      have HRr := Lib.hid (show w.heap.size ≤ r by rw [hr]; exact HG.out.2.2.2.1.size)
      clear hr
      go_loopg [11, 12, 13] (Maps.size D) (fun gk sv _ _ wr => ∃ sv' : Value, sv' = sv ∧ Hid (∃ (left : Lit → Bool) (R : List (List Int × List Adr)), wr.ranges Tryz.prog 85 heldE w.heap.size r ds.length D left gk ∧ RowQ 88 (pinfoP Bi w.heap.size) wr w.heap.size sv' R ∧ (R.map (·.1)).Nodup ∧ (∀ x ∈ R, Fof ds x.1 = some x.2 ∧ left (kL x.1) = false) ∧ (∀ id, Fof ds id ≠ none → left (kL id) = true ∨ id ∈ R.map (·.1)) ∧ Grp wr Bi w.heap.size w.heap.size ds.length ds D V ∧ Below w.heap.size w wr ∧ R.length + gk ≤ 1000))
      case atStart =>
        refine ⟨_, rfl, Maps.has D, [], H1.out.1, ⟨[], rfl, H1.out.2.2.2, fun i u x h => by simp at h⟩, List.nodup_nil, fun x hx => (by cases hx), fun id hid => .inl ?_, H1.out.2.1, H1.out.2.2.1, by simpa using HG.out.2.2.2.2.2⟩
        obtain ⟨ts, ht⟩ := Option.ne_none_iff_exists'.1 hid
        exact (HG.out.1.at_ id ts ht).1
      case round =>
        obtain ⟨sv, rfl, hK⟩ := hrel
        obtain ⟨left, R, hrg, hrow, hnd, hdone, hall, hGr, hBr, hlen⟩ := hK.out
        obtain ⟨us, hul, huo, huP⟩ := hrow
        have HR := Lib.hid (And.intro hrg (And.intro hul (And.intro huo (And.intro huP (And.intro hnd (And.intro hdone (And.intro hall (And.intro hGr (And.intro hBr hlen)))))))))
        clear hrg hul huo huP hnd hdone hall hGr hBr hlen hK
        go_wp2_with (at_next; refine wpList_next_ranges _ rfl _ rfl 85 idKeyed heldE Value.string (fun x : Option Addr × Nat × Nat => Value.slice x.1 x.2.1 x.2.2) (fun key kl h => ⟨_, (keyStr h).choose_spec.1⟩) (fun v y h => by obtain ⟨p, n, c, e, _⟩ := heldE_inv h; exact ⟨(p, n, c), e⟩) w.heap.size r ds.length D left gk rfl HR.out.1 ?_ ?_)
        · intro hc0 hl0
          go_wp2_with fail
          go_ret2
          have hLd : ds = L := HD.out
          refine ⟨HR.out.2.2.2.2.2.2.2.2.1, .inl ⟨_, R, rfl, by rw [← hLd]; exact HG.out.2.2.1, HR.out.2.2.2.2.1, fun id ts => ?_, us, HR.out.2.1, HR.out.2.2.1, HR.out.2.2.2.1⟩⟩
          rw [← hLd]
          constructor
          · intro hm
            exact (HR.out.2.2.2.2.2.1 _ hm).1
          · intro hf
            rcases HR.out.2.2.2.2.2.2.1 id (by rw [hf]; simp) with h0 | h0
            · rw [hl0] at h0; cases h0
            · obtain ⟨x, hx, rfl⟩ := List.mem_map.1 h0
              have := (HR.out.2.2.2.2.2.1 _ hx).1
              rw [hf] at this
              rw [Option.some.inj this]
              exact hx
        · intro x p2 n2 c2 kl yd yp w2 cnt' hkey hlk hv hat hrg2 hcl hg2 hs2 hen
          obtain ⟨o0, hri⟩ : ∃ o : Option Nat × Nat × Array Nat × Nat, wr.heap[r]? = some (.mapIter o.1 o.2.1 o.2.2.1 o.2.2.2) := by
            obtain ⟨es, clock, since, seen, c0, h1, h2, h3, h4, hri, h5⟩ := HR.out.1
            exact ⟨(_, _, _, _), hri⟩
          have hK2 : Kept 88 wr w2 := Kept.other hri (fun _ _ _ e => by cases e) hg2
          have hG2 : Grp w2 Bi w.heap.size w.heap.size ds.length ds D V := HR.out.2.2.2.2.2.2.2.1.kept hg2 (fun e => HR.out.1.ne (Option.some.inj e).symm) hK2 (by decide) (by decide) (by decide) (by decide)
          replace hv : heldE (.slice p2 n2 c2) = some (yd, yp) := hv
          replace hen : (Instr.entry (.pointer (some ⟨r, 0, none⟩))).run Tryz.prog w2 = .ok (.tuple #[.string x, .slice p2 n2 c2]) w2 := hen
          have hx2 : ∃ id ts, x = strOfNums id ∧ kl = kL id ∧ Fof ds id = some ts ∧ V id = .slice p2 n2 c2 := by
            obtain ⟨id, hidn, hkl⟩ := hG2.keys kl (Maps.has_true_of_atKey hat)
            obtain ⟨ts, ht⟩ := Option.ne_none_iff_exists'.1 hidn
            obtain ⟨x', ex, ekl⟩ := keyStr hkey
            injection ex with ex
            subst ex
            refine ⟨id, ts, ?_, hkl, ht, ?_⟩
            · rw [hkl] at ekl
              injection ekl with ekl
              exact (ByteArray.ext (Array.toList_inj.1 ekl)).symm
            · have h1 := heldE_mk hv
              have h2 := hat (.held (.slice none 0 0))
              rw [hkl, (hG2.at_ id ts ht).2.1] at h2
              have h3 : DataW.held (V id) = DataW.held (.slice p2 n2 c2) := h2.trans h1
              injection h3
          obtain ⟨id, ts, hx, hkl, hf, hV⟩ := hx2
          have hne2 : sv.ownBlock = none ∨ sv.ownBlock ≠ some r := by
            rcases HR.out.2.2.1.2 with ⟨e, _⟩ | ⟨g, cap, cur, e, _, hh, _⟩
            · exact .inl (by rw [e]; rfl)
            · refine .inr fun e2 => ?_
              rw [e] at e2
              have e3 : g = r := Option.some.inj e2
              rw [e3, hri] at hh
              cases hh
          have ho2 := HR.out.2.2.1.kept hg2 hne2
          have hB2 : Below w.heap.size w w2 := HR.out.2.2.2.2.2.2.2.2.1.grown hg2 HR.out.2.2.2.2.2.2.2.2.1.size (fun k hk => by cases hk; exact HRr.out)
          have H2 := Lib.hid (And.intro hkey (And.intro hlk (And.intro hrg2 (And.intro hK2 (And.intro hG2 (And.intro hx (And.intro hkl (And.intro hf (And.intro hV (And.intro ho2 (And.intro hB2 hri)))))))))))
          clear hkey hlk hrg2 hK2 hG2 hx hkl hf hV ho2 hB2 hri hv hat hg2 hs2 hne2
          go_wp2_with (at_builtin; refine wpAppN 96 88 2 _ 40 Tryz.underlying96 infoPi rfl (by decide) (by decide) rfl _ _ rfl w.heap.size sv R.length (pairCells us) rfl H2.out.2.2.2.2.2.2.2.2.2.1 [.string x, .slice p2 n2 c2] rfl (fun u hu => by simp at hu; rcases hu with rfl | rfl <;> rfl) rfl (by have := HR.out.2.2.2.2.2.2.2.2.2; omega) H2.out.2.2.2.2.2.2.2.2.2.2.1.size ?_)
          intro v' w3 ho3 hg3 hat3
          have H3 := Lib.hid (And.intro ho3 (And.intro hg3 hat3))
          clear ho3 hg3 hat3
          go_wp2_with fail
          go_roundg cnt'
          case measure => exact hcl
          case rel =>
            obtain ⟨ho3, hg3, hat3⟩ := H3.out
            obtain ⟨hkey, hlk, hrg2, hK2, hG2, hx, hkl, hf, hV, ho2, hB2, hri⟩ := H2.out
            obtain ⟨hrg, hul, huo, huP, hnd, hdone, hall, hGr, hBr, hlen⟩ := HR.out
            have hKe : WideAt.IsKeyLit kl := by rw [hkl]; unfold kL; simp [WideAt.IsKeyLit]
            have hK3 : Kept 88 w2 w3 := Kept.row ho2 hg3
            have hr2 : some r ≠ sv.ownBlock := by
              obtain ⟨es2, clock2, since2, seen2, c02, _, _, _, _, hri2, _⟩ := hrg2
              rcases ho2.2 with ⟨e, _⟩ | ⟨g, cap, cur, e, _, hh, _⟩
              · rw [e]; simp [Value.ownBlock]
              · intro e2
                rw [e] at e2
                have e3 : r = g := Option.some.inj e2
                rw [← e3, hri2] at hh
                cases hh
            have hP3 : ∀ u x, pinfoP Bi w.heap.size wr u x → pinfoP Bi w.heap.size w3 u x := fun u x hp => ⟨hp.1, (hp.2.kept hK2 (by decide) (by decide) (by decide) (by decide)).kept hK3 (by decide) (by decide) (by decide) (by decide)⟩
            have hG3 : Grp w3 Bi w.heap.size w.heap.size ds.length ds D V := hG2.kept hg3 (hG2.neRow ho2) hK3 (by decide) (by decide) (by decide) (by decide)
            refine ⟨_, rfl, fun z => left z && !z.sameKey kl, R ++ [(id, ts)], hrg2.kept hg3 (hG2.neRow ho2) hr2, ?_, ?_, fun x0 hx0 => ?_, fun id0 hid0 => ?_, hG3, grown_below hB2 ho2 hg3 hB2.size, by simp; omega⟩
            · exact RowQ.push (u := (.string x, .slice p2 n2 c2)) hul huP ho3 hP3 ⟨by rw [hx], by rw [← hV]; exact (hG3.at_ id ts hf).2.2⟩
            · rw [List.map_append, List.nodup_append]
              refine ⟨hnd, by simp, fun a ha b hb e => ?_⟩
              simp at hb
              subst hb e
              obtain ⟨x0, hx0, rfl⟩ := List.mem_map.1 ha
              rw [hkl, (hdone x0 hx0).2] at hlk
              cases hlk
            · rcases List.mem_append.1 hx0 with hx0 | hx0
              · exact ⟨(hdone x0 hx0).1, by simp [(hdone x0 hx0).2]⟩
              · rw [List.mem_singleton] at hx0
                subst hx0
                exact ⟨hf, by rw [← hkl]; simp [WideAt.sameKey_self hKe]⟩
            · by_cases e : id0 = id
              · exact .inr (by simp [e])
              · rcases hall id0 hid0 with h0 | h0
                · have hne : kL id0 ≠ kl := fun e2 => e (kL_inj (hGr.u8 id0 hid0) (hGr.u8 id (by rw [hf]; simp)) (e2.trans hkl))
                  exact .inl (by simp [h0, Maps.sameKey_ne hne])
                · exact .inr (by rw [List.map_append]; exact List.mem_append_left _ h0)
    | cons r rs =>
      have hlt : ds.length < n := by rw [← HB.out.1, hds]; simp
      have hl2 : decide (ds.length < n) = true := by rw [decide_eq_true_iff]; omega
      obtain ⟨hr0, hrk, hrl⟩ := HB.out.2.2.1 r (by rw [hds]; simp)
      obtain ⟨init, h, rfl⟩ : ∃ init h, r = init ++ [h] := by
        rcases List.eq_nil_or_concat r with e | ⟨i, x, e⟩
        · exact absurd e hr0
        · exact ⟨i, x, by simpa using e⟩
      obtain ⟨g, rfl⟩ : ∃ g, p = some ⟨g, 0, none⟩ := by
        rcases RowP.form HB.out.2.2.2.1 with ⟨_, e⟩ | ⟨g, c', e, _⟩
        · rw [hds] at e; simp at e
        · injection e with e; exact ⟨g, e⟩
      obtain ⟨u, hcu, hmu⟩ := RowP.at HB.out.2.2.2.1 ds.length (init ++ [h]) (by rw [hds]; simp)
      obtain ⟨g1, c1, rfl, hc1⟩ := ma_form hmu (by simp)
      replace hcu := cB hI.out.2.2 hcu
      replace hmu := hmu.below hI.out.2.2
      have hBi := Nat.le_trans HB.out.2.1 hI.out.2.2.size
      have hk := hrk h (by simp)
      by_cases h6 : h.1 = 6
      · obtain ⟨hidne, hidl⟩ := id6_ne hk h6
        have hsp := splitAddr6 Bi g1 _ c1 wr hrl hc1 hBi init (by simp) h hmu hk h6
        have hse := strOf_ne h.2 hidne
        have hkey := keyId h.2 hidl
        obtain ⟨S, hS⟩ : ∃ S, S = strOfNums h.2 := ⟨_, rfl⟩
        rw [← hS] at hsp hse hkey
        have HS := Lib.hid (And.intro hsp (And.intro hI.out (And.intro hk.2.2 (And.intro h6 hds))))
        clear hsp hds hmu hr0 hrk hidne hidl hS hk hI
        obtain ⟨M, hM⟩ : ∃ M, M = (init ++ [h]).length := ⟨_, rfl⟩
        rw [← hM] at HS hcu
        clear hM hrl hc1 hBi
        go_wp2_with fail
        refine HS.out.1.mono ?_
        rintro e w1 ⟨tv, rfl, hma, hnil, hB1⟩
        obtain ⟨hsp, ⟨hds6, ⟨D, V, hG⟩, hBw⟩, hidu, h6, hds⟩ := HS.out
        clear HS hsp
        replace hG := hG.below hB1
        replace hBw := hBw.trans (hB1.mono hBw.size)
        have hends : ∀ x ∈ ds ++ [init ++ [h]], ends6 x := fun x hx => by
          rcases List.mem_append.1 hx with hx | hx
          · exact hds6 x hx
          · rw [List.mem_singleton] at hx; subst hx; exact (ends6_snoc _ _).2 h6
        have hls : lastId (init ++ [h]) = h.2 := lastId_snoc _ _
        have HG := Lib.hid (And.intro hG (And.intro hBw (And.intro hidu (And.intro hends (And.intro hds (And.intro hls hma))))))
        clear hG hBw hidu hends hds hds6 hls hma hB1 h6
        by_cases hi0 : init = []
        · obtain rfl := hnil hi0
          have hmn := maNil
          have hw : wayOf (init ++ [h]) = [] := by rw [wayOf_snoc, if_pos hi0]
          cases hf : Fof ds h.2 with
          | none =>
            have hha := HG.out.1.hasnt HG.out.2.2.1 hf
            go_wp2_with (first | (at_lookup; refine wpList_lookup_own_ok _ rfl _ _ 146 rfl 85 86 idKeyed Tryz.underlying146 heldE (zeroMs _) (.held (.slice none 0 0)) [] rfl w.heap.size ds.length D rfl HG.out.1.own _ (kL h.2) rfl hkey ?_; intro v ps hv; rw [hha]) | (at_mapUpdate; refine wpList_mapUpdate_own _ rfl _ _ _ 146 rfl 85 86 idKeyed Tryz.underlying146 heldE w.heap.size ds.length D rfl HG.out.1.own (by unfold maxLen; omega) _ _ (kL h.2) rfl rfl hkey (.held (.slice none 0 0)) [] rfl ?_; intro w2 ho2 hg2; have H2 := Lib.hid (And.intro ho2 hg2); clear ho2 hg2))
            go_wp2_with fail
            go_roundg rs.length
            case measure => simp
            case rel =>
              obtain ⟨ho2, hg2⟩ := H2.out
              obtain ⟨hG, hBw, hidu, hends, hds, hls, hma⟩ := HG.out
              refine ⟨ds ++ [init ++ [h]], rs, by rw [hds, List.append_assoc]; rfl, rfl, by simp, hends, ?_, hBw.grown hg2 hBw.size (fun k hk => by cases hk; exact Nat.le_refl _)⟩
              rw [List.length_append]
              rw [← hls] at ho2 hidu hf
              exact ⟨_, _, hG.store hidu (.slice none 0 0) none (.inl rfl) (World.grownBy.but ⟨rfl, rfl, rfl, Nat.le_refl _, fun _ _ _ => rfl⟩ none) (Kept.refl _ _) hg2 ho2 (by rw [hf, hw]; exact RowP.nil _ _ _ _) (.inl rfl)⟩
          | some ts =>
            have hha := (HG.out.1.at_ h.2 ts hf).1
            go_wp2_with (at_lookup; refine wpList_lookup_own_ok _ rfl _ _ 146 rfl 85 86 idKeyed Tryz.underlying146 heldE (zeroMs _) (.held (.slice none 0 0)) [] rfl w.heap.size ds.length D rfl HG.out.1.own _ (kL h.2) rfl hkey ?_; intro v ps hv; rw [hha])
            go_wp2_with fail
            go_roundg rs.length
            case measure => simp
            case rel =>
              obtain ⟨hG, hBw, hidu, hends, hds, hls, hma⟩ := HG.out
              refine ⟨ds ++ [init ++ [h]], rs, by rw [hds, List.append_assoc]; rfl, rfl, by simp, hends, ?_, hBw⟩
              rw [List.length_append]
              exact ⟨D, V, hG.same hw (by rw [hls, hf]; simp)⟩
        · obtain ⟨g2, c2, rfl, _⟩ := ma_form HG.out.2.2.2.2.2.2 hi0
          have hnn := fun w => maNotNil ⟨g2, 0, none⟩ init.length c2 w
          go_wp2_with (first | (at_lookup; refine wpLook _ rfl _ _ 146 rfl 85 86 idKeyed Tryz.underlying146 heldE (zeroMs _) (.held (.slice none 0 0)) [] rfl w.heap.size ds.length D rfl HG.out.1.own _ (kL h.2) rfl hkey ?_; intro v ps hv; have hlook := HG.out.1.look HG.out.2.2.1 hv; obtain ⟨us, hul, huo, huP⟩ := HG.out.1.row hlook; have HU := Lib.hid (And.intro hul (And.intro huo (And.intro huP hlook))); clear hul huo huP hlook hv; have hN : ((Fof ds h.2).getD []).length ≤ 1000000 := (by have := Fof_len ds h.2; omega)) | (at_builtin; refine wpAppN 86 76 1 _ 24 Tryz.underlying86 infoMs rfl (by decide) (by decide) rfl _ _ rfl w.heap.size v _ us rfl HU.out.2.1 [.slice (some ⟨g2, 0, none⟩) init.length c2] rfl (fun u hu => by simp at hu; subst hu; rfl) rfl hN HG.out.2.1.size ?_; intro v' w2 ho2 hg2 hat; have hv' := own_held ho2; have hK2 : Kept 76 w1 w2 := Kept.row HU.out.2.1 hg2; have H2 := Lib.hid (And.intro ho2 (And.intro hg2 (And.intro hat (And.intro hK2 (HG.out.1.own.kept hg2 (HG.out.1.neRow HU.out.2.1)))))); clear ho2 hg2 hat hK2) | (at_mapUpdate; refine wpList_mapUpdate_own _ rfl _ _ _ 146 rfl 85 86 idKeyed Tryz.underlying146 heldE w.heap.size ds.length D rfl H2.out.2.2.2.2 (by unfold maxLen; omega) _ _ (kL h.2) rfl rfl hkey (.held v') [] hv' ?_; intro w3 ho3 hg3; have H3 := Lib.hid (And.intro ho3 hg3); clear ho3 hg3))
          go_wp2_with fail
          go_roundg rs.length
          case measure => simp
          case rel =>
            obtain ⟨ho3, hg3⟩ := H3.out
            obtain ⟨ho2, hg2, hat, hK2, _⟩ := H2.out
            obtain ⟨hul, huo, huP, hlook⟩ := HU.out
            obtain ⟨hG, hBw, hidu, hends, hds, hls, hma⟩ := HG.out
            have hB2 : Below w.heap.size w w2 := grown_below hBw huo hg2 hBw.size
            refine ⟨ds ++ [init ++ [h]], rs, by rw [hds, List.append_assoc]; rfl, rfl, by simp, hends, ?_, hB2.grown hg3 hB2.size (fun k hk => by cases hk; exact Nat.le_refl _)⟩
            rw [List.length_append]
            have hrow : MRow w2 Bi w.heap.size v' ((Fof ds h.2).getD [] ++ wayOf (init ++ [h])) := by
              rw [wayOf_snoc, if_neg hi0]
              exact RowP.push hul huP ho2 (fun u x hm => hK2.ma (by decide) (by decide) (by decide) hm) (hK2.ma (by decide) (by decide) (by decide) hma)
            rw [← hls] at ho3 hidu hlook hrow
            exact ⟨_, _, hG.store hidu v' v.ownBlock (by rcases hlook with ⟨_, rfl⟩ | ⟨hf, rfl⟩; exact .inl rfl; exact .inr ⟨hf, rfl⟩) hg2 hK2 hg3 ho3 hrow (by rcases hat with h0 | h0; exact .inr (.inl h0); exact .inr (.inr ⟨_, h0, by omega⟩))⟩
      · have hsp := splitAddrN Bi g1 (init ++ [h]).length c1 wr hrl hc1 hBi init (by simp) h hmu hk.1 h6
        have HS := Lib.hid (And.intro hsp (And.intro hI.out.2.2 (And.intro h6 hds)))
        clear hsp hds hmu hr0 hrk hk h6 hI
        obtain ⟨M, hM⟩ : ∃ M, M = (init ++ [h]).length := ⟨_, rfl⟩
        rw [← hM] at HS hcu
        clear hM hrl hc1 hBi
        go_wp2_with fail
        refine HS.out.1.mono ?_
        rintro e w1 ⟨rfl, hB1⟩
        have hB2 := HS.out.2.1.trans (hB1.mono HS.out.2.1.size)
        obtain ⟨T, ea, hce⟩ := HB.out.2.2.2.2.below hB2
        have HB2 := Lib.hid hB2
        clear hB1 hB2
        go_wp2_with fail
        go_quiet (fail)
        go_wp2_with fail
        go_ret2
        exact ⟨below_drewN HB2.out _, .inr ⟨⟨init ++ [h], by rw [HS.out.2.2.2]; simp, by rw [ends6_snoc]; exact HS.out.2.2.1⟩, T, ea, rfl⟩⟩
end Go.Proofs.YtapkmoakbfpkeaaGreatDoor
namespace Go.Proofs.YtapkmoakbfpkeaaGreatDoor
open Go Go.RowKit Go.Proofs Go.Sort
theorem convIDB (w : World) (xs : List Int) (hu : U8 xs) (hl : xs.length ≤ 1000000) : ∃ c W, (convert 85 23 (.string (strOfNums xs))).run Tryz.prog w = .ok (.slice (some ⟨w.heap.size, 0, none⟩) xs.length c) W ∧
    BV W w.heap.size (.slice (some ⟨w.heap.size, 0, none⟩) xs.length c) xs ∧ Below w.heap.size w W := by
  have h := run_bytes_of_string (P := Tryz.prog) w 85 23 5 (strOfNums xs) (by kernel_rfl) Tryz.underlying23 Tryz.underlying5
  rw [strOfNums_size] at h
  refine ⟨_, _, h, ⟨_, _, _, rfl, ⟨Nat.le_refl _, grownCap_ge _ _ _ _, grownCap_le_maxLen _ _ _ _ (by unfold maxLen; omega)⟩, ⟨_, heap_alloc_new w.drew _⟩, fun i hi => ?_⟩, ((Below.refl _ _).drew).alloc (Nat.le_refl _) _⟩
  have hi2 : i < (strOfNums xs).data.size := by simpa [strOfNums] using hi
  rw [Nat.zero_add]
  refine (World.cell?_alloc_mark w.drew _ _ _ i).trans ?_
  rw [bytesRow_at _ _ _ hi2, strOf_byte xs hu]
theorem convIDBF (xs : List Int) (hu : U8 xs) (hl : xs.length ≤ 1000000) : ∃ (cF : World → Nat) (WF : World → World), (∀ w, (convert 85 23 (.string (strOfNums xs))).run Tryz.prog w = .ok (.slice (some ⟨w.heap.size, 0, none⟩) xs.length (cF w)) (WF w)) ∧
    ∀ w, BV (WF w) w.heap.size (.slice (some ⟨w.heap.size, 0, none⟩) xs.length (cF w)) xs ∧ Below w.heap.size w (WF w) :=
  ⟨fun w => (convIDB w xs hu hl).choose, fun w => (convIDB w xs hu hl).choose_spec.choose, fun w => (convIDB w xs hu hl).choose_spec.choose_spec.1, fun w => (convIDB w xs hu hl).choose_spec.choose_spec.2⟩
theorem cloneBV (gb cb : Nat) (xs : List Int) (h0 : xs ≠ []) (hm : xs.length ≤ 1000000) (w : World) (hb : Bs w gb 0 xs) : Calls Tryz.prog 21 #[.slice (some ⟨gb, 0, none⟩) xs.length cb] w fun e w' => ∃ g c, e = .returned (.slice (some ⟨g, 0, none⟩) xs.length c) ∧ BV w' w.heap.size (.slice (some ⟨g, 0, none⟩) xs.length c) xs ∧ Below w.heap.size w w' := by
  refine (Tryz.bytes_Clone_at ⟨gb, 0, none⟩ xs.length cb xs w rfl (by omega) (fun i hi => by rw [Lib.add_plain]; exact hb i hi)).mono ?_
  rintro e w' ⟨v, rfl, hown, _, hB⟩
  have hbv := BV.own hown h0
  obtain ⟨g, c, cs, rfl, hr⟩ := id hbv
  exact ⟨g, c, rfl, hbv, hB⟩
/-- A row of addresses as bytes. -/
def BRow (w : World) (B : Nat) (v : Value) (ts : List Adr) : Prop := RowP 23 (fun w u hs => BV w B u (addrB hs)) w B v ts
theorem BRow.below {w w' : World} {B : Nat} {v : Value} {ts : List Adr} (h : BRow w B v ts) (hb : Below w.heap.size w w') : BRow w' B v ts := RowP.below h hb fun _ _ hm => hm.below hb
theorem BRow.kept {T : TypeId} {w w' : World} {B : Nat} {v : Value} {ts : List Adr} (h : BRow w B v ts) (hk : Kept T w w') (h3 : 5 ≠ T) (h4 : 23 ≠ T) : BRow w' B v ts :=
  RowP.moved h (fun _ ho => hk.own h4 ho) fun _ _ hm => hk.bv h3 hm
/-- An info as data. -/
def PlainI (B : Nat) (w : World) (u : Value × Value) (x : List Int × List Adr) : Prop := BV w B u.1 x.1 ∧ BRow w B u.2 x.2
theorem PlainI.below {w w' : World} {B : Nat} {u : Value × Value} {x : List Int × List Adr} (h : PlainI B w u x) (hb : Below w.heap.size w w') : PlainI B w' u x := ⟨h.1.below hb, h.2.below hb⟩
theorem PlainI.kept {T : TypeId} {w w' : World} {B : Nat} {u : Value × Value} {x : List Int × List Adr} (h : PlainI B w u x) (hk : Kept T w w') (h3 : 5 ≠ T) (h4 : 23 ≠ T) : PlainI B w' u x := ⟨hk.bv h3 h.1, h.2.kept hk h3 h4⟩
theorem BRow.mono {w : World} {B B' : Nat} {v : Value} {ts : List Adr} (h : BRow w B v ts) (hB : B' ≤ B) : BRow w B' v ts := by
  obtain ⟨us, hl, ho, hP⟩ := h
  refine ⟨us, hl, ⟨ho.1, ?_⟩, fun i u x h1 h2 => (hP i u x h1 h2).mono hB⟩
  rcases ho.2 with h | ⟨g, cap, cur, hv, hg, r⟩
  · exact .inl h
  · exact .inr ⟨g, cap, cur, hv, Nat.le_trans hB hg, r⟩
def AdrOk (hs : Adr) : Prop := hs ≠ [] ∧ (∀ x ∈ hs, HopOk x) ∧ hs.length ≤ 1000
set_option maxHeartbeats 3200000 in
set_option maxRecDepth 100000 in
theorem plainInfo (Bi Bv : Nat) (id : List Int) (hid : U8 id) (hidl : id.length ≤ 1000) (ts : List Adr) (p : Option Addr) (n c : Nat) (hn : ts.length = n) (hn1 : n ≤ 1000) (hts : ∀ hs ∈ ts, AdrOk hs) (w : World) (hr : MRow w Bi Bv (.slice p n c) ts) :
    Calls Tryz.prog 44 #[.agg #[.string (strOfNums id), .slice p n c]] w fun e w' => ∃ g1 c1 p2 c2, e = .returned (.agg #[.slice (some ⟨g1, 0, none⟩) id.length c1, .slice p2 n c2]) ∧ PlainI w.heap.size w' (.slice (some ⟨g1, 0, none⟩) id.length c1, .slice p2 n c2) (id, ts) ∧ Below w.heap.size w w' := by
  obtain ⟨cF, WF, hcv, hW⟩ := convIDBF id hid (by omega)
  have HB := Lib.hid (And.intro hr (And.intro hn (And.intro hts hW)))
  obtain ⟨S, hS⟩ : ∃ S, S = strOfNums id := ⟨_, rfl⟩
  rw [← hS] at hcv ⊢
  clear hr hn hts hW hS hid
  go_enter Tryz.func44, Tryz.ntmps44
  go_upto_region 2 with fail
  have hi2 := HB.out.2.2.2 ((w.alloc (.cells #[.string S, .slice p n c] 88)).alloc (.cells #[.slice none 0 0, .slice none 0 0] 32))
  obtain ⟨W2, hW2⟩ : ∃ W, W = ((w.alloc (.cells #[.string S, .slice p n c] 88)).alloc (.cells #[.slice none 0 0, .slice none 0 0] 32)) := ⟨_, rfl⟩
  rw [← hW2] at hi2 ⊢
  have hz2 : W2.heap.size = w.heap.size + 1 + 1 := by rw [hW2]; simp
  have hb2 : Below w.heap.size w W2 := by rw [hW2]; exact ((Below.refl _ _).alloc (Nat.le_refl _) _).alloc (by simp) _
  have c01 : W2.cell? ⟨w.heap.size, 1, none⟩ = some (.slice p n c) := by rw [hW2]; exact (cB ((Below.refl _ _).alloc (Nat.le_refl _) _) (World.cell?_alloc_mark w _ _ _ 1)).trans rfl
  have c1 : W2.heap[w.heap.size + 1]? = some (.cells #[.slice none 0 0, .slice none 0 0] 32 (0, 0)) := by
    rw [hW2]
    have h := heap_alloc_new (w.alloc (.cells #[.string S, .slice p n c] 88)) (.cells #[.slice none 0 0, .slice none 0 0] 32)
    rw [show (w.alloc (.cells #[.string S, .slice p n c] 88)).heap.size = w.heap.size + 1 by simp] at h
    exact h
  obtain ⟨CF, hCF⟩ : ∃ C, C = cF W2 := ⟨_, rfl⟩
  obtain ⟨W3, hW3⟩ : ∃ W, W = WF W2 := ⟨_, rfl⟩
  rw [← hCF, ← hW3] at hi2 ⊢
  have hz3 : W2.heap.size ≤ W3.heap.size := hi2.2.size
  have hb3 : Below w.heap.size w W3 := hb2.trans (hi2.2.mono hb2.size)
  have e01 := cB hi2.2 c01
  have e1 : W3.heap[w.heap.size + 1]? = some (.cells #[.slice none 0 0, .slice none 0 0] 32 (0, 0)) := (hi2.2.block _ (by omega)).trans c1
  obtain ⟨P, hP⟩ : ∃ P, P = W3.heap.size := ⟨_, rfl⟩
  obtain ⟨W4, hW4⟩ : ∃ W, W = W3.alloc (.cells #[.slice (some ⟨w.heap.size + 1 + 1, 0, none⟩) id.length CF, .slice none 0 0] 32) := ⟨_, rfl⟩
  have hb34 : Below W3.heap.size W3 W4 := by rw [hW4]; exact (Below.refl _ _).alloc (Nat.le_refl _) _
  have f01 := cB hb34 e01
  have f1 : W4.heap[w.heap.size + 1]? = some (.cells #[.slice none 0 0, .slice none 0 0] 32 (0, 0)) := (hb34.block _ (by omega)).trans e1
  have fP : W4.heap[P]? = some (.cells #[.slice (some ⟨w.heap.size + 1 + 1, 0, none⟩) id.length CF, .slice none 0 0] 32 (0, 0)) := by rw [hW4, hP]; exact heap_alloc_new _ _
  have hzP : P < W4.heap.size := (Array.getElem?_eq_some_iff.1 fP).1
  have hb4 : Below w.heap.size w W4 := hb3.trans (hb34.mono hb3.size)
  have hid4 : BV W4 w.heap.size (.slice (some ⟨w.heap.size + 1 + 1, 0, none⟩) id.length CF) id := by
    have h := hi2.1.below hb34
    rw [hz2] at h
    exact h.mono (by omega)
  rw [← hP, ← hW4]
  have H4 := Lib.hid (And.intro f1 (And.intro fP (And.intro hb4 (And.intro hid4 (And.intro hzP (show w.heap.size + 1 + 1 ≤ P by omega))))))
  clear hi2 hW2 hb2 c01 c1 hCF hW3 hz3 hb3 e01 e1 hW4 hb34 f1 fP hzP hb4 hid4 hP hz2 hcv
  go_wp2_with fail
  go_loopg [13] n (fun gk iv wr => ∃ (ds rs : List Adr), ts = ds ++ rs ∧ gk = rs.length ∧ iv = .int .i64 (ds.length : Int) ∧ Hid (∃ p2 c2, wr.heap[P]? = some (.cells #[.slice (some ⟨w.heap.size + 1 + 1, 0, none⟩) id.length CF, .slice p2 ds.length c2] 32 (0, 0)) ∧ BRow wr P (.slice p2 ds.length c2) ds ∧ BV wr w.heap.size (.slice (some ⟨w.heap.size + 1 + 1, 0, none⟩) id.length CF) id ∧ Below P W4 wr ∧ P < wr.heap.size))
  case atStart => exact ⟨[], ts, rfl, HB.out.2.1.symm, rfl, none, 0, H4.out.2.1, RowP.nil _ _ _ _, H4.out.2.2.2.1, Below.refl _ _, H4.out.2.2.2.2.1⟩
  case round =>
    obtain ⟨ds, rs, hds, rfl, rfl, hI⟩ := hrel
    cases rs with
    | cons r rs =>
      have hlt : ds.length < n := by rw [← HB.out.2.1, hds]; simp
      have hl2 : decide (ds.length < n) = true := by rw [decide_eq_true_iff]; omega
      obtain ⟨hr0, hrk, hrl⟩ := HB.out.2.2.1 r (by rw [hds]; simp)
      obtain ⟨g, rfl⟩ : ∃ g, p = some ⟨g, 0, none⟩ := by
        rcases RowP.form HB.out.1 with ⟨_, e⟩ | ⟨g, c', e, _⟩
        · rw [hds] at e; simp at e
        · injection e with e; exact ⟨g, e⟩
      obtain ⟨u, hcu, hmu⟩ := RowP.at HB.out.1 ds.length r (by rw [hds]; simp)
      obtain ⟨g1, c1, rfl, hc1⟩ := ma_form hmu hr0
      obtain ⟨p2, c2, hcP, hbr, hbid, hBP, hPz⟩ := hI.out
      have hBw : Below w.heap.size w wr := H4.out.2.2.1.trans (hBP.mono (by have := H4.out.2.2.2.2.2; omega))
      replace hcu := cB hBw hcu
      replace hmu := hmu.below hBw
      have f01' : wr.cell? ⟨w.heap.size, 1, none⟩ = some (.slice (some ⟨g, 0, none⟩) n c) := (hBP.cell (by have := H4.out.2.2.2.2.2; show w.heap.size < P; omega)).trans f01
      obtain ⟨⟨_, d1⟩, _, z1⟩ := two_cells hcP
      have hLN : (addrB r).length ≤ 123000 := by have := addrB_le r hrk; omega
      have hL0 : addrB r ≠ [] := fun e => by have := addrB_pos r hrk hr0; rw [e] at this; simp at this
      have HD := Lib.hid (And.intro hds (And.intro hmu (And.intro hrk (And.intro hcP (And.intro hbr (And.intro hbid (And.intro hBP (And.intro hPz (And.intro hBw hL0)))))))))
      clear hds hmu hrk hcP hbr hbid hBP hPz hBw hr0 hc1 hL0
      obtain ⟨M, hM⟩ : ∃ M, M = r.length := ⟨_, rfl⟩
      rw [← hM] at hcu
      have HM := Lib.hid hM
      clear hM
      go_upto_region 5 with fail
      go_region_law (first
        | (go_simp; go_at_call 57; refine (maBytes Bi g1 M c1 _ r HM.out.symm (by rw [HM.out]; exact (HD.out.2.1.below ((Below.refl _ _).drew))) HD.out.2.2.1 (by rw [HM.out]; exact hrl)).mono ?_; rintro e w5 ⟨g5, c5, rfl, _, _, _, hbs5, hB5⟩; have hb5 : Below wr.heap.size wr w5 := ((Below.refl wr.heap.size wr).drew).trans hB5; have d5 := cB hb5 d1; have e5 : w5.heap.size ≠ P := by have := hb5.size; have := HD.out.2.2.2.2.2.2.2.1; omega)
        | (go_simp; go_at_call 21; refine (cloneBV g5 c5 (addrB r) HD.out.2.2.2.2.2.2.2.2.2 (by omega) _ hbs5).mono ?_; rintro e w6 ⟨g6, c6, rfl, hbv6, hB6⟩; have hb6 : Below wr.heap.size wr w6 := hb5.trans (hB6.mono hb5.size); have d6 := cB hb6 d1; have d6a : (w6.alloc (.cells #[.slice (some ⟨g6, 0, none⟩) (addrB r).length c6] 23)).cell? ⟨P, 1, none⟩ = some (.slice p2 ds.length c2) := cB ((Below.refl _ _).alloc (Nat.le_refl _) _) d6; have e6 : w6.heap.size ≠ P := by have := hb6.size; have := HD.out.2.2.2.2.2.2.2.1; omega)
        | (obtain ⟨us, hul, huo, huP⟩ := HD.out.2.2.2.2.1; refine stepAppB rfl 23 rfl _ _ rfl P _ ds.length us rfl ((ownsRow_below huo hb6).alloc _) w6.heap.size 1 (.slice (some ⟨g6, 0, none⟩) (addrB r).length c6) rfl rfl (World.cell?_alloc_mark w6 _ _ _ 0) (by omega) (by have := hb6.size; have := HD.out.2.2.2.2.2.2.2.1; simp; omega) ?_; intro v7 w7 hown7 hgrow7; obtain ⟨g7, c7, rfl⟩ : ∃ g7 c7, v7 = .slice (some ⟨g7, 0, none⟩) (ds.length + 1) c7 := (by rcases hown7.2 with ⟨_, h0⟩ | ⟨g7, c7, _, e, _⟩; exact absurd h0 (by omega); exact ⟨g7, c7, e⟩); have hK7 : Kept 23 w6 w7 := (Kept.below ((Below.refl _ _).alloc (Nat.le_refl _) _)).trans (Kept.row ((ownsRow_below huo hb6).alloc _) hgrow7); have hP7 := hK7 _ _ _ _ ((hb6.block P HD.out.2.2.2.2.2.2.2.1).trans HD.out.2.2.2.1) (by decide); obtain ⟨⟨_, d7⟩, _, z7⟩ := two_cells hP7))
      all_goals
        go_wp2_with fail
        go_roundg rs.length
        case measure => simp
        case rel =>
          obtain ⟨hds, hmu, hrk, hcP, hbr, hbid, hBP, hPz, hBw, hL0⟩ := HD.out
          refine ⟨ds ++ [r], rs, by rw [hds, List.append_assoc]; rfl, rfl, by simp, ?_⟩
          rw [List.length_append]
          have hK8 : Kept 32 w7 (w7.setCell ⟨P, 1, none⟩ (.slice (some ⟨g7, 0, none⟩) (ds.length + 1) c7)) := Kept.setCell (p := ⟨P, 1, none⟩) hP7 _
          have hb7 : Below P wr w7 := grown_below ((hb6.mono (Nat.le_of_lt hPz)).alloc (by have := hb6.size; omega) _) ((ownsRow_below huo hb6).alloc _) hgrow7 (by have := hb6.size; simp; omega)
          exact ⟨some ⟨g7, 0, none⟩, c7, two_set1 hP7 _, BRow.kept (RowP.push hul huP hown7 (fun u x h => hK7.bv (by decide) (h.below hb6)) (hK7.bv (by decide) (hbv6.mono (by have := hb5.size; omega)))) hK8 (by decide) (by decide), hK8.bv (by decide) (hK7.bv (by decide) (hbid.below hb6)), (hBP.trans hb7).setCell (Nat.le_refl _) _, (Array.getElem?_eq_some_iff.1 (two_set1 hP7 (.slice (some ⟨g7, 0, none⟩) (ds.length + 1) c7))).1⟩
    | nil =>
      have hlt : ds.length = n := by rw [← HB.out.2.1, hds, List.append_nil]
      have hl2 : decide (ds.length < n) = false := by rw [decide_eq_false_iff_not, hlt]; omega
      have HD := Lib.hid (show ts = ds by rw [hds, List.append_nil])
      clear hds
      obtain ⟨p2, c2, hcP, hbr, hbid, hBP, hPz⟩ := hI.out
      rw [hlt] at hcP hbr
      clear hlt
      obtain ⟨⟨d0, d1⟩, z0, z1⟩ := two_cells hcP
      have hr : wr.heap[w.heap.size + 1]? = some (.cells #[.slice none 0 0, .slice none 0 0] 32 (0, 0)) := (hBP.block _ (by have := H4.out.2.2.2.2.2; omega)).trans H4.out.1
      obtain ⟨⟨r0, r1⟩, y0, y1⟩ := two_cells hr
      have hne : w.heap.size + 1 ≠ P := by have := H4.out.2.2.2.2.2; omega
      go_wp2_with fail
      obtain ⟨W9, hW9⟩ : ∃ W, W = (wr.setCell ⟨w.heap.size + 1, 0, none⟩ (.slice (some ⟨w.heap.size + 1 + 1, 0, none⟩) id.length CF)).setCell ⟨w.heap.size + 1, 1, none⟩ (.slice p2 n c2) := ⟨_, rfl⟩
      rw [← hW9]
      have hr9 : W9.heap[w.heap.size + 1]? = some (.cells #[.slice (some ⟨w.heap.size + 1 + 1, 0, none⟩) id.length CF, .slice p2 n c2] 32 (0, 0)) := by rw [hW9]; exact two_set01 hr _ _
      have hK9 : Kept 32 wr W9 := by
        rw [hW9]
        refine Kept.trans (b := wr.setCell ⟨w.heap.size + 1, 0, none⟩ (.slice (some ⟨w.heap.size + 1 + 1, 0, none⟩) id.length CF)) (Kept.setCell (p := ⟨w.heap.size + 1, 0, none⟩) hr _) ?_
        obtain ⟨cs', hcs⟩ := heap_atSet (w := wr) (b := w.heap.size + 1) (o := 0) hr (.slice (some ⟨w.heap.size + 1 + 1, 0, none⟩) id.length CF)
        exact Kept.setCell (p := ⟨w.heap.size + 1, 1, none⟩) hcs _
      obtain ⟨⟨k0, k1⟩, _, _⟩ := two_cells hr9
      refine bodyPost_ret (v := .agg #[.slice (some ⟨w.heap.size + 1 + 1, 0, none⟩) id.length CF, .slice p2 n c2]) (by simp [results, Tryz.results44, go_sem, k0, k1]) rfl ⟨_, _, _, _, rfl, ⟨hK9.bv (by decide) hbid, ?_⟩, ?_⟩
      · show BRow W9 w.heap.size _ ts
        rw [HD.out]
        exact (hbr.mono (by have := H4.out.2.2.2.2.2; omega)).kept hK9 (by decide) (by decide)
      · rw [hW9]
        exact ((H4.out.2.2.1.trans (hBP.mono (by have := H4.out.2.2.2.2.2; omega))).setCell (by show w.heap.size ≤ w.heap.size + 1; omega) _).setCell (by show w.heap.size ≤ w.heap.size + 1; omega) _
end Go.Proofs.YtapkmoakbfpkeaaGreatDoor
namespace Go.Proofs.YtapkmoakbfpkeaaGreatDoor
open Go Go.RowKit Go.Proofs Go.Sort Go.Shelf
theorem flat_pairs (e : Nat → Value × Value) (d : Array Nat) : (flatK (fun i => [(e i).1, (e i).2]) 2 d).toList = pairCells (d.toList.map e) := by
  refine List.ext_getElem? fun t => ?_
  have hz : (flatK (fun i => [(e i).1, (e i).2]) 2 d).size = d.size * 2 := size_flatK _ _ _
  by_cases ht : t < d.size * 2
  · have h1 : (flatK (fun i => [(e i).1, (e i).2]) 2 d).toList[t]? = some ([(e d[t / 2]!).1, (e d[t / 2]!).2])[t % 2]! := by
      rw [Array.getElem?_toList, ← get_flatK (fun i => [(e i).1, (e i).2]) 2 d t ht, getElem!_pos _ t (by rw [hz]; exact ht)]
      exact Array.getElem?_eq_getElem (by rw [hz]; exact ht)
    have hq : t / 2 < d.size := by omega
    have h2 := pairCells_at (d.toList.map e) (t / 2) (e d[t / 2]!) (by rw [List.getElem?_map, Array.getElem?_toList, Array.getElem?_eq_getElem hq, getElem!_pos d (t / 2) hq]; rfl)
    rw [h1]
    have hr : t % 2 = 0 ∨ t % 2 = 1 := by omega
    rcases hr with hr | hr
    · rw [hr]
      have e1 : t = t / 2 * 2 := by omega
      rw [show (pairCells (d.toList.map e))[t]? = (pairCells (d.toList.map e))[t / 2 * 2]? by rw [← e1], h2.1]
      rfl
    · rw [hr]
      have e1 : t = t / 2 * 2 + 1 := by omega
      rw [show (pairCells (d.toList.map e))[t]? = (pairCells (d.toList.map e))[t / 2 * 2 + 1]? by rw [← e1], h2.2]
      rfl
  · rw [List.getElem?_eq_none (by rw [Array.length_toList, hz]; omega), List.getElem?_eq_none (by rw [pairCells_len, List.length_map, Array.length_toList]; omega)]
theorem sort_block (W : World) (g m : Nat) (enc : Nat → List Value) (dk : Array Nat) (os : Array Obj) (cur : Array Value) (T : TypeId) (hh : W.heap[g]? = some (Obj.cells cur T (0, 0))) :
    (sortWorldK enc 2 W g 0 m dk os).heap[g]? = some (Obj.cells (putCells id 0 (flatK enc 2 dk) cur) T (0, 0)) := by
  have hg := (Array.getElem?_eq_some_iff.1 hh).1
  unfold sortWorldK
  rw [heap_grow_old _ _ (by simpa [putRowK] using hg)]
  simp [putRowK, putRow, mapBlock, Array.getElem?_modify, hh, onCells]
theorem sort_other (W : World) (g m : Nat) (enc : Nat → List Value) (dk : Array Nat) (os : Array Obj) (i : Nat) (hi : i < W.heap.size) (hne : i ≠ g) :
    (sortWorldK enc 2 W g 0 m dk os).heap[i]? = W.heap[i]? := by
  unfold sortWorldK
  rw [heap_grow_old _ _ (by simpa [putRowK] using hi)]
  simp [putRowK, putRow, mapBlock, Array.getElem?_modify, Ne.symm hne]
theorem put_take (e : Nat → Value × Value) (dk : Array Nat) (cur : Array Value) (n : Nat) (hn : dk.size = n) (hc : n * 2 ≤ cur.size) :
    (putCells id 0 (flatK (fun i => [(e i).1, (e i).2]) 2 dk) cur).toList.take (n * 2) = pairCells (dk.toList.map e) := by
  rw [← flat_pairs]
  have hz : (flatK (fun i => [(e i).1, (e i).2]) 2 dk).size = n * 2 := by rw [size_flatK, hn]
  generalize flatK (fun i => [(e i).1, (e i).2]) 2 dk = F at hz ⊢
  refine List.ext_getElem? fun t => ?_
  by_cases ht : t < n * 2
  · rw [List.getElem?_take_of_lt ht, Array.getElem?_toList, Array.getElem?_toList]
    unfold putCells
    rw [Array.getElem?_mapIdx, Array.getElem?_eq_getElem (by omega : t < cur.size), Array.getElem?_eq_getElem (by omega : t < F.size)]
    simp [hz, ht]
  · rw [List.getElem?_eq_none (by simp; omega), List.getElem?_eq_none (by simp [hz]; omega)]
theorem map_range {α : Type} (R : List α) (z : α) (n : Nat) (hn : R.length = n) : (List.range n).map (fun i => R.getD (i % n) z) = R := by
  refine List.ext_getElem? fun t => ?_
  by_cases ht : t < n
  · rw [List.getElem?_map, List.getElem?_range ht]
    simp [Nat.mod_eq_of_lt ht, List.getD, List.getElem?_eq_getElem (by omega : t < R.length)]
  · rw [List.getElem?_eq_none (by simp; omega), List.getElem?_eq_none (by omega)]
theorem kept_sort (W : World) (g m : Nat) (enc : Nat → List Value) (dk : Array Nat) (os : Array Obj) (cur : Array Value) (T : TypeId) (hh : W.heap[g]? = some (Obj.cells cur T (0, 0))) : Kept T W (sortWorldK enc 2 W g 0 m dk os) := fun i cs t _ hi ht => by
  refine (sort_other W g m enc dk os i (Array.getElem?_eq_some_iff.1 hi).1 fun e => ?_).trans hi
  subst e
  have e2 := Option.some.inj (hh.symm.trans hi)
  injection e2 with _ e3
  exact ht e3.symm
theorem below_sort (W : World) (B g m : Nat) (enc : Nat → List Value) (dk : Array Nat) (os : Array Obj) (hg : B ≤ g) (hB : B ≤ W.heap.size) : Below B W (sortWorldK enc 2 W g 0 m dk os) :=
  ⟨rfl, rfl, rfl, by unfold sortWorldK; simp [putRowK], fun k hk => sort_other W g m enc dk os k (by omega) (by omega)⟩
theorem sortNoneAI (p : Option Addr) (cap : Nat) (fv : Value) (w : World) : Calls Tryz.prog 51 #[.slice p 0 cap, fv] w fun e w' => e = .returned (.tuple #[]) ∧ w' = w := AnyF.slices_SortFunc_none Tryz.sortAI p cap fv w
set_option maxRecDepth 100000 in
theorem lessInfos (W : World) (B : Nat) (u v : Value × Value) (x y : List Int × List Adr) (hu : PlainI B W u x) (hv : PlainI B W v y) (hx : U8 x.1) (hy : U8 y.1) :
    Calls Tryz.prog 52 #[.agg #[u.1, u.2], .agg #[v.1, v.2]] W fun e w' => e = .returned (.int .i64 (cmpL x.1 y.1)) ∧ ∃ q os', w' = grow (W.drewN q) os' := by
  obtain ⟨u1, u2⟩ := u
  obtain ⟨v1, v2⟩ := v
  obtain ⟨g1, c1, cs1, rfl, -, -, hb1⟩ : BV W B u1 x.1 := hu.1
  obtain ⟨g2, c2, cs2, rfl, -, -, hb2⟩ : BV W B v1 y.1 := hv.1
  obtain ⟨p3, c3, rfl, -⟩ := RowP.slice (show BRow W B u2 x.2 from hu.2)
  obtain ⟨p4, c4, rfl, -⟩ := RowP.slice (show BRow W B v2 y.2 from hv.2)
  obtain ⟨n1, hn1⟩ : ∃ n, n = x.1.length := ⟨_, rfl⟩
  obtain ⟨n2, hn2⟩ : ∃ n, n = y.1.length := ⟨_, rfl⟩
  obtain ⟨n3, hn3⟩ : ∃ n, n = x.2.length := ⟨_, rfl⟩
  obtain ⟨n4, hn4⟩ : ∃ n, n = y.2.length := ⟨_, rfl⟩
  rw [← hn1, ← hn2, ← hn3, ← hn4]
  have hbel : Below W.heap.size W ((W.alloc (.cells #[.slice (some ⟨g1, 0, none⟩) n1 c1, .slice p3 n3 c3] 32)).alloc (.cells #[.slice (some ⟨g2, 0, none⟩) n2 c2, .slice p4 n4 c4] 32)) := ((Below.refl _ _).alloc (Nat.le_refl _) _).alloc (by simp) _
  have k1 := convStr g1 0 n1 c1 x.1 _ hn1.symm (hb1.below hbel)
  have k2 := convStr g2 0 n2 c2 y.1 _ hn2.symm (hb2.below hbel)
  have hc := cmpL_bytes x.1 y.1 hx hy
  obtain ⟨S1, hS1⟩ : ∃ S, S = strOfNums x.1 := ⟨_, rfl⟩
  obtain ⟨S2, hS2⟩ : ∃ S, S = strOfNums y.1 := ⟨_, rfl⟩
  obtain ⟨r, hr⟩ : ∃ r, r = cmpL x.1 y.1 := ⟨_, rfl⟩
  rw [← hS1] at k1 hc
  rw [← hS2] at k2 hc
  rw [← hr] at hc ⊢
  clear hu hv hx hy hb1 hb2 hn1 hn2 hn3 hn4 hbel hS1 hS2 hr
  go_enter Tryz.func52, Tryz.ntmps52
  go_wp2_with (go_at_call 53; refine (Tryz.strings_Compare _ _ _).mono ?_; rintro e w' ⟨rfl, rfl⟩; rw [hc])
  go_ret
  exact ⟨rfl, 0, _, by rw [alloc_eq_grow, alloc_eq_grow, grow_grow]; rfl⟩
set_option maxRecDepth 100000 in
theorem sortInfos (W : World) (B g c n : Nat) (R : List (List Int × List Adr)) (hn : R.length = n) (h0 : 0 < n) (hn1 : n ≤ 1000) (hrow : RowQ 32 (PlainI B) W B (.slice (some ⟨g, 0, none⟩) n c) R) (hU : ∀ x ∈ R, U8 x.1) (hnd : (R.map (·.1)).Nodup) (hB : B ≤ W.heap.size) :
    Calls Tryz.prog 51 #[.slice (some ⟨g, 0, none⟩) n c, .func (.func 52) #[] #[]] W fun e w' => e = .returned (.tuple #[]) ∧ ∃ I, I.Pairwise infoLt ∧ I.Perm R ∧ RowQ 32 (PlainI B) w' B (.slice (some ⟨g, 0, none⟩) n c) I ∧ Below B W w' := by
  obtain ⟨us, hul, hown, hP⟩ := hrow
  rw [hn] at hown
  rcases id hown.2 with ⟨e, _⟩ | ⟨g', cap, cur, e, hBg, hh, hcap, hmax, hsz, htk⟩
  · cases e
  injection e with e1 e2 e3
  obtain rfl : g = g' := by injection (Option.some.inj e1)
  subst e3
  let zV : Value × Value := (.slice none 0 0, .slice none 0 0)
  let zR : List Int × List Adr := ([], [])
  let eU : Nat → Value × Value := fun i => us.getD (i % n) zV
  let eR : Nat → List Int × List Adr := fun i => R.getD (i % n) zR
  have hPm : ∀ i, PlainI B W (eU i) (eR i) := fun i => by
    have hi : i % n < n := Nat.mod_lt _ h0
    refine hP (i % n) _ _ ?_ ?_
    · show us[i % n]? = some (us.getD (i % n) zV)
      simp [List.getD, List.getElem?_eq_getElem (show i % n < us.length by omega)]
    · show R[i % n]? = some (R.getD (i % n) zR)
      simp [List.getD, List.getElem?_eq_getElem (show i % n < R.length by omega)]
  have hRm : ∀ i, eR i ∈ R := fun i => by
    have hi : i % n < n := Nat.mod_lt _ h0
    show R.getD (i % n) zR ∈ R
    simp [List.getD, List.getElem?_eq_getElem (show i % n < R.length by omega)]
  have h1c : ∀ x, ∀ v ∈ [(eU x).1, (eU x).2], v.oneCell' = true := fun x v hv => by
    have hp := hPm x
    simp at hv
    rcases hv with rfl | rfl
    · exact hp.1.one
    · obtain ⟨p, c, e, _⟩ := RowP.slice hp.2
      rw [e]; rfl
  have hH : HoldsK (fun i => [(eU i).1, (eU i).2]) 2 W g 0 (Array.range n) := by
    intro j hj
    rw [size_flatK, Array.size_range] at hj
    rw [Nat.zero_add]
    constructor
    · have h2 : (flatK (fun i => [(eU i).1, (eU i).2]) 2 (Array.range n)).toList = pairCells us := by
        rw [flat_pairs, Array.toList_range, map_range us zV n (by omega)]
      have h3 : (flatK (fun i => [(eU i).1, (eU i).2]) 2 (Array.range n))[j]? = (pairCells us)[j]? := by rw [← h2, Array.getElem?_toList]
      have hj2 : j < (flatK (fun i => [(eU i).1, (eU i).2]) 2 (Array.range n)).size := by simpa using hj
      have h4 := hown.cellAt j hj
      rw [h4, ← h3, Array.getElem?_eq_getElem hj2, getElem!_pos _ j hj2]
      rfl
    · simp [World.frozen?, hh]
  have hcmp : CmpLays Tryz.prog 52 #[] (fun i => [(eU i).1, (eU i).2]) 2 (fun i j => cmpL (eR i).1 (eR j).1) g 0 (Array.range n).size W := fun m os dk _ x y => by
    have hk := kept_sort W g m (fun i => [(eU i).1, (eU i).2]) dk os cur _ hh
    exact lessInfos _ B (eU x) (eU y) (eR x) (eR y) ((hPm x).kept hk (by decide) (by decide)) ((hPm y).kept hk (by decide) (by decide)) (hU _ (hRm x)) (hU _ (hRm y))
  have eg : ∀ args w, (callFunc 52 args).run Tryz.prog w = .ok (.enter 52 args) w := enters_of Tryz.func52 (by kernel_rfl) rfl
  have hcon := AnyQ.slices_SortFunc Tryz.sortAI 2 Tryz.isAgg32 Tryz.sizeOf32 (fun i => [(eU i).1, (eU i).2]) (fun _ => rfl) h1c (fun i j => cmpL (eR i).1 (eR j).1) (cmpL_swo fun i => (eR i).1) 52 #[] g 0 c (Array.range n) W eg hcmp hH (Array.getElem?_eq_some_iff.1 hh).1 (by simp; omega)
  rw [Array.size_range] at hcon
  refine hcon.mono ?_
  rintro e w' ⟨rfl, d', m, os, hp, hs, rfl⟩
  obtain ⟨hsz', _, hperm⟩ := hp
  rw [Array.size_range] at hsz'
  have hperm' : d'.toList.Perm (List.range n) := by
    have e1 : d'.extract 0 n = d' := by rw [← hsz']; exact Array.extract_size
    have e2 : (Array.range n).extract 0 n = Array.range n := by
      have h : (Array.range n).extract 0 (Array.range n).size = Array.range n := Array.extract_size
      rwa [Array.size_range] at h
    rw [e1, e2, Array.toList_range] at hperm
    exact hperm
  have hI : (d'.toList.map eR).Perm R := by
    have := hperm'.map eR
    rwa [map_range R zR n hn] at this
  refine ⟨rfl, d'.toList.map eR, ?_, hI, ⟨d'.toList.map eU, by simp, ⟨?_, .inr ⟨g, c, _, ?_, hBg, sort_block W g m _ d' os cur _ hh, ?_, hmax, ?_, ?_⟩⟩, fun i u x h1 h2 => ?_⟩, below_sort W B g m _ d' os hBg hB⟩
  · have hnd' : ((d'.toList.map eR).map (·.1)).Nodup := (hI.map (·.1)).nodup_iff.2 hnd
    rw [List.pairwise_iff_getElem]
    intro i j hi hj hij
    have hi' : i < d'.size := by simpa using hi
    have hj' : j < d'.size := by simpa using hj
    have h1 := hs i j (Nat.zero_le _) hij (by omega)
    rw [getElem!_pos d' i hi', getElem!_pos d' j hj'] at h1
    simp only [ltOf, decide_eq_false_iff_not] at h1
    have h2 := cmpL_swap (eR d'[i]).1 (eR d'[j]).1
    have h3 : (eR d'[i]).1 ≠ (eR d'[j]).1 := fun e => by
      have h4 := (List.pairwise_iff_getElem.1 hnd') i j (by simpa using hi') (by simpa using hj') hij
      simp at h4
      exact h4 e
    have h5 : cmpL (eR d'[i]).1 (eR d'[j]).1 ≠ 0 := fun e => h3 (cmpL_zero _ _ e)
    show cmpL _ _ < 0
    simp
    omega
  · rw [pairCells_len]; simp
  · rw [List.length_map, Array.length_toList, hsz']
  · rw [List.length_map, Array.length_toList, hsz']; exact hcap
  · simpa [putCells] using hsz
  · rw [List.length_map, Array.length_toList, hsz']
    exact put_take eU d' cur n hsz' (by rw [hsz]; exact Nat.mul_le_mul_right 2 hcap)
  · have hk := kept_sort W g m (fun i => [(eU i).1, (eU i).2]) d' os cur _ hh
    rw [List.getElem?_map] at h1 h2
    obtain ⟨a, ha, rfl⟩ := Option.map_eq_some_iff.1 h1
    rw [ha] at h2
    obtain rfl := Option.some.inj h2
    exact (hPm a).kept hk (by decide) (by decide)
end Go.Proofs.YtapkmoakbfpkeaaGreatDoor
namespace Go.Proofs.YtapkmoakbfpkeaaGreatDoor
open Go Go.RowKit Go.Proofs Go.Sort
theorem Fof_mem {L : List Adr} {id : List Int} (h : Fof L id ≠ none) : ∃ hs ∈ L, lastId hs = id := by
  unfold Fof at h
  split at h
  · rename_i ha
    obtain ⟨hs, h1, h2⟩ := List.any_eq_true.1 ha
    exact ⟨hs, h1, by simpa using h2⟩
  · exact absurd rfl h
theorem Fof_ways {L : List Adr} {id : List Int} {ts : List Adr} (h : Fof L id = some ts) (t : Adr) (ht : t ∈ ts) : ∃ hs ∈ L, t = hs.dropLast ∧ t ≠ [] := by
  unfold Fof at h
  split at h
  · obtain rfl := Option.some.inj h
    obtain ⟨hs, h1, h2⟩ := List.mem_flatMap.1 ht
    refine ⟨hs, (List.mem_filter.1 h1).1, ?_⟩
    unfold wayOf at h2
    split at h2
    · cases h2
    · rename_i hne
      rw [List.mem_singleton] at h2
      exact ⟨h2, by rw [h2]; exact hne⟩
  · cases h
theorem adr_last {L : List Adr} (hL : ∀ hs ∈ L, AdrOk hs) (h6 : ∀ hs ∈ L, ends6 hs) {id : List Int} (h : Fof L id ≠ none) : U8 id ∧ id ≠ [] ∧ id.length ≤ 1000 := by
  obtain ⟨hs, h1, rfl⟩ := Fof_mem h
  obtain ⟨h0, hk, _⟩ := hL hs h1
  obtain ⟨init, x, rfl⟩ : ∃ init x, hs = init ++ [x] := by
    rcases List.eq_nil_or_concat hs with e | ⟨i, x, e⟩
    · exact absurd e h0
    · exact ⟨i, x, by simpa using e⟩
  rw [lastId_snoc]
  have hx := hk x (by simp)
  have h7 := id6_ne hx ((ends6_snoc init x).1 (h6 _ h1))
  exact ⟨hx.2.2, h7⟩
theorem adr_ways {L : List Adr} (hL : ∀ hs ∈ L, AdrOk hs) {id : List Int} {ts : List Adr} (h : Fof L id = some ts) : ∀ t ∈ ts, AdrOk t := fun t ht => by
  obtain ⟨hs, h1, rfl, h2⟩ := Fof_ways h t ht
  obtain ⟨h0, hk, hl⟩ := hL hs h1
  exact ⟨h2, fun x hx => hk x ((List.dropLast_sublist hs).subset hx), by simp; omega⟩
theorem RowQ.mono {α : Type} {T : TypeId} {P P' : World → Value × Value → α → Prop} {w : World} {B B' : Nat} {v : Value} {xs : List α} (h : RowQ T P w B v xs) (hB : B' ≤ B) (hk : ∀ u x, P w u x → P' w u x) : RowQ T P' w B' v xs := by
  obtain ⟨us, hl, ho, hP⟩ := h
  refine ⟨us, hl, ⟨ho.1, ?_⟩, fun i u x h1 h2 => hk _ _ (hP i u x h1 h2)⟩
  rcases ho.2 with h | ⟨g, cap, cur, hv, hg, r⟩
  · exact .inl h
  · exact .inr ⟨g, cap, cur, hv, Nat.le_trans hB hg, r⟩
theorem PlainI.mono {w : World} {B B' : Nat} {u : Value × Value} {x : List Int × List Adr} (h : PlainI B w u x) (hB : B' ≤ B) : PlainI B' w u x := ⟨h.1.mono hB, h.2.mono hB⟩
theorem infoAI : (Tryz.prog.info? 32).map (fun i => (i.zero, i.size, i.bytes)) = some (some (.agg #[.slice none 0 0, .slice none 0 0]), 2, 48) := by kernel_rfl
theorem nodup_le {α : Type} [DecidableEq α] : ∀ (l m : List α), l.Nodup → (∀ x ∈ l, x ∈ m) → l.length ≤ m.length
  | [], _, _, _ => Nat.zero_le _
  | x :: l, m, hnd, h => by
    have hx := h x (by simp)
    have h1 := nodup_le l (m.erase x) (List.nodup_cons.1 hnd).2 (fun y hy => (List.mem_erase_of_ne (fun e => (List.nodup_cons.1 hnd).1 (by rw [← e]; exact hy))).2 (h y (by simp [hy])))
    have h2 := List.length_erase_of_mem hx
    have h3 : 0 < m.length := List.length_pos_of_mem hx
    simp only [List.length_cons]
    omega
/-- A list of addresses as bytes. -/
def ListIn (w : World) (p : Option Addr) (L : List Adr) : Prop := ∀ i hs, L[i]? = some hs → ∃ g b o c, p = some ⟨g, 0, none⟩ ∧ w.cell? ⟨g, i, none⟩ = some (.slice (some ⟨b, o, none⟩) (addrB hs).length c) ∧ Bs w b o (addrB hs)
theorem ListIn.below {w w' : World} {p : Option Addr} {L : List Adr} (h : ListIn w p L) (hb : Below w.heap.size w w') : ListIn w' p L := fun i hs hi => by
  obtain ⟨g, b, o, c, h1, h2, h3⟩ := h i hs hi
  exact ⟨g, b, o, c, h1, cB hb h2, h3.below hb⟩
/-- What AddrInfos hands back. -/
def IInf (L : List Adr) (w : World) (e : Ending) (w' : World) : Prop :=
  Below w.heap.size w w' ∧ (((∀ hs ∈ L, ends6 hs) ∧ ∃ v I, e = .returned (.tuple #[v, .bool true]) ∧ IsInfos L I ∧ RowQ 32 (PlainI w.heap.size) w' w.heap.size v I) ∨
    ((∃ hs ∈ L, ¬ ends6 hs) ∧ e = .returned (.tuple #[.slice none 0 0, .bool false])))
set_option maxHeartbeats 4000000 in
set_option maxRecDepth 100000 in
theorem implInfos (L : List Adr) (hL : ∀ hs ∈ L, AdrOk hs) (p : Option Addr) (n c : Nat) (w : World) (hn : L.length = n) (hn1 : n ≤ 1000) (hin : ListIn w p L) (hT : Tab w) (hE : ErrV w) :
    Calls Tryz.prog 23 #[.slice p n c] w (IInf L w) := by
  have HB := Lib.hid (And.intro hL (And.intro hn (And.intro hin (And.intro hT hE))))
  clear hL hn hin hT hE
  go_enter Tryz.func23, Tryz.ntmps23
  go_wp2_with fail
  go_loopg [4, 16] n (fun gk sv iv wr => ∃ (ds rs : List Adr) (p2 : Option Addr) (c2 : Nat), L = ds ++ rs ∧ gk = rs.length ∧ sv = .slice p2 ds.length c2 ∧ iv = .int .i64 (ds.length : Int) ∧ Hid (MRow wr w.heap.size w.heap.size (.slice p2 ds.length c2) ds ∧ Below w.heap.size w wr))
  case atStart => exact ⟨[], L, none, 0, rfl, HB.out.2.1.symm, rfl, rfl, RowP.nil _ _ _ _, Below.refl _ _⟩
  case round =>
    obtain ⟨ds, rs, p2, c2, hds, rfl, rfl, rfl, hI⟩ := hrel
    cases rs with
    | cons r rs =>
      have hlt : ds.length < n := by rw [← HB.out.2.1, hds]; simp
      have hl2 : decide (ds.length < n) = true := by rw [decide_eq_true_iff]; omega
      obtain ⟨hr0, hrk, hrl⟩ := HB.out.1 r (by rw [hds]; simp)
      obtain ⟨g, b, o, c', rfl, hcu, hbs⟩ := HB.out.2.2.1 ds.length r (by rw [hds]; simp)
      replace hcu := cB hI.out.2 hcu
      have hao := addrOf r hrk hrl [] (.inl hr0) (.inl rfl) b o (addrB r).length c' wr (by rw [List.append_nil]) (by rw [List.append_nil]; exact hbs.below hI.out.2) (HB.out.2.2.2.1.below hI.out.2)
      have HA := Lib.hid (And.intro hao (And.intro hds hr0))
      clear hao hds hbs hrk hrl hr0
      obtain ⟨N, hN⟩ : ∃ N, N = (addrB r).length := ⟨_, rfl⟩
      rw [← hN] at HA hcu
      clear hN
      go_wp2_with fail
      refine HA.out.1.mono ?_
      rintro e w1 ⟨hB1, ⟨_, v, rfl, hM⟩ | ⟨hne, _⟩⟩
      rotate_left
      · exact absurd rfl hne
      replace hM := hM.mono (Nat.le_trans hI.out.2.size (Nat.le_refl _))
      obtain ⟨g1, c1, rfl, hc1⟩ := ma_form hM HA.out.2.2
      obtain ⟨us, hul, huo, huP⟩ := hI.out.1
      have HU := Lib.hid (And.intro hM (And.intro hul (And.intro (ownsRow_below huo hB1) (And.intro huP (And.intro hB1 (hI.out.2.trans (hB1.mono hI.out.2.size)))))))
      clear hM hul huo huP hB1 hc1
      obtain ⟨M, hMl⟩ : ∃ M, M = r.length := ⟨_, rfl⟩
      rw [← hMl] at HU ⊢
      clear hMl
      go_wp2_with (at_builtin; refine wpAppN 86 76 1 _ 24 Tryz.underlying86 infoMs rfl (by decide) (by decide) rfl _ _ rfl w.heap.size _ ds.length us rfl HU.out.2.2.1 [.slice (some ⟨g1, 0, none⟩) M c1] rfl (fun u hu => by simp at hu; subst hu; rfl) rfl (by omega) HU.out.2.2.2.2.2.size ?_)
      intro v' w2 ho2 hg2 _
      obtain ⟨p3, c3, rfl⟩ : ∃ p3 c3, v' = .slice p3 (ds.length + 1) c3 := by
        rcases ho2.2 with ⟨_, h0⟩ | ⟨g7, c7, _, e, _⟩
        · omega
        · exact ⟨_, c7, e⟩
      have H2 := Lib.hid (And.intro ho2 hg2)
      clear ho2 hg2
      go_wp2_with fail
      go_roundg rs.length
      case measure => simp
      case rel =>
        obtain ⟨ho2, hg2⟩ := H2.out
        obtain ⟨hM, hul, huo, huP, hB1, hBw⟩ := HU.out
        have hK2 : Kept 76 w1 w2 := Kept.row huo hg2
        refine ⟨ds ++ [r], rs, p3, c3, by rw [HA.out.2.1, List.append_assoc]; rfl, rfl, by simp, by simp, ?_⟩
        rw [List.length_append]
        exact ⟨RowP.push hul huP ho2 (fun u x hm => hK2.ma (by decide) (by decide) (by decide) (hm.below hB1)) (hK2.ma (by decide) (by decide) (by decide) hM), grown_below hBw huo hg2 hBw.size⟩
    | nil =>
      have hlt : ds.length = n := by rw [← HB.out.2.1, hds, List.append_nil]
      have hl2 : decide (ds.length < n) = false := by rw [decide_eq_false_iff_not, hlt]; omega
      obtain rfl : L = ds := by rw [hds, List.append_nil]
      clear hds
      have hif := infosFrom w.heap.size L p2 L.length c2 wr rfl (by omega) hI.out.2.size (fun hs hh => HB.out.1 hs hh) (by
        obtain ⟨us, a1, a2, a3⟩ := hI.out.1
        exact ⟨us, a1, a2, a3⟩) (HB.out.2.2.2.2.below hI.out.2)
      have HF := Lib.hid hif
      clear hif
      obtain ⟨N, hN⟩ : ∃ N, N = L.length := ⟨_, rfl⟩
      rw [← hN] at HF hl2 ⊢
      clear hN hlt
      obtain ⟨W0, hW0⟩ : ∃ W, W = wr := ⟨_, rfl⟩
      rw [← hW0] at hI HF ⊢
      clear hW0 wr
      go_wp2_with fail
      refine HF.out.mono ?_
      rintro e w1 ⟨hB1, ⟨rv, R, rfl, h6, hnd, hiff, hrow⟩ | ⟨hex, T, a, rfl⟩⟩
      rotate_left
      · have HX := Lib.hid (And.intro hex (hI.out.2.trans (hB1.mono hI.out.2.size)))
        clear hex hB1
        go_wp2_with fail
        go_ret2
        exact ⟨HX.out.2, .inr ⟨HX.out.1, rfl⟩⟩
      · obtain ⟨p3, c3, rfl, _⟩ := RowQ.slice hrow
        have hRl : R.length ≤ 1000 := by
          have h1 := nodup_le (R.map (·.1)) (L.map lastId) hnd (fun x hx => by
            obtain ⟨⟨id, ts⟩, hy, rfl⟩ := List.mem_map.1 hx
            obtain ⟨hs, h1, h2⟩ := Fof_mem (L := L) (id := id) (by rw [(hiff id ts).1 hy]; simp)
            exact List.mem_map.2 ⟨hs, h1, h2⟩)
          have h2 := HB.out.2.1
          rw [List.length_map, List.length_map] at h1
          omega
        have HX := Lib.hid (And.intro h6 (And.intro hnd (And.intro hiff (And.intro hrow (hI.out.2.trans (hB1.mono hI.out.2.size))))))
        clear h6 hnd hiff hrow hB1
        obtain ⟨m, hm⟩ : ∃ m, m = R.length := ⟨_, rfl⟩
        have HM := Lib.hid hm
        rw [← hm] at hRl ⊢
        clear hm
        go_wp2_with fail
        go_loopg [11, 41] m (fun gk sv iv wr => ∃ (ds rs : List (List Int × List Adr)) (p4 : Option Addr) (c4 : Nat), R = ds ++ rs ∧ gk = rs.length ∧ sv = .slice p4 ds.length c4 ∧ iv = .int .i64 (ds.length : Int) ∧ Hid (RowQ 32 (PlainI w1.heap.size) wr w1.heap.size (.slice p4 ds.length c4) ds ∧ Below w1.heap.size w1 wr))
        case atStart => exact ⟨[], R, none, 0, rfl, HM.out, rfl, rfl, RowQ.nil _ _ _ _, Below.refl _ _⟩
        case round =>
          obtain ⟨ds, rs, p4, c4, hds, rfl, rfl, rfl, hJ⟩ := hrel
          cases rs with
          | cons r rs =>
            have hlt : ds.length < m := by rw [HM.out, hds]; simp
            have hl2 : decide (ds.length < m) = true := by rw [decide_eq_true_iff]; omega
            obtain ⟨g, rfl⟩ : ∃ g, p3 = some ⟨g, 0, none⟩ := by
              rcases RowQ.form HX.out.2.2.2.1 with ⟨_, e⟩ | ⟨g, c', e, _⟩
              · rw [hds] at e; simp at e
              · injection e with e; exact ⟨g, e⟩
            obtain ⟨⟨u1, u2⟩, ⟨hc1, hc2⟩, hu1, hu2⟩ := RowQ.at HX.out.2.2.2.1 ds.length r (by rw [hds]; simp)
            obtain ⟨id, ts⟩ := r
            obtain rfl : u1 = .string (strOfNums id) := hu1
            replace hu2 : MRow w1 w.heap.size W0.heap.size u2 ts := hu2
            obtain ⟨p5, c5, rfl, _⟩ := RowP.slice hu2
            replace hc1 := cB hJ.out.2 hc1
            replace hc2 := cB hJ.out.2 hc2
            have hF : Fof L id = some ts := (HX.out.2.2.1 id ts).1 (by rw [hds]; simp)
            obtain ⟨hidu, _, hidl⟩ := adr_last HB.out.1 HX.out.1 (id := id) (by rw [hF]; simp)
            have htl : ts.length ≤ 1000 := by
              have h1 := Fof_len L id
              have h2 := HB.out.2.1
              rw [hF] at h1
              simp at h1
              omega
            have hpl := plainInfo w.heap.size W0.heap.size id hidu hidl ts p5 ts.length c5 rfl htl (adr_ways HB.out.1 hF) (wr.alloc (.cells #[.string (strOfNums id), .slice p5 ts.length c5] 88)) (hu2.below (hJ.out.2.alloc hJ.out.2.size _))
            obtain ⟨us, hul, huo, huP⟩ := hJ.out.1
            have HPL := Lib.hid (And.intro hpl (And.intro hds (And.intro hul (And.intro huo (And.intro huP hJ.out.2)))))
            clear hpl hds hul huo huP hJ hu2 hF hidu hidl htl
            obtain ⟨S, hS⟩ : ∃ S, S = strOfNums id := ⟨_, rfl⟩
            rw [← hS] at HPL hc1
            obtain ⟨K, hK⟩ : ∃ K, K = ts.length := ⟨_, rfl⟩
            rw [← hK] at HPL hc2
            obtain ⟨K1, hK1⟩ : ∃ K, K = id.length := ⟨_, rfl⟩
            rw [← hK1] at HPL
            clear hS hK hK1
            go_wp2_with fail
            refine HPL.out.1.mono ?_
            rintro e w2 ⟨g6, c6, p7, c7, rfl, hP, hB2⟩
            have hb2 : Below wr.heap.size wr w2 := ((Below.refl _ _).alloc (Nat.le_refl _) _).trans (hB2.mono (by simp))
            have HP := Lib.hid (And.intro hP (And.intro hb2 (ownsRow_below HPL.out.2.2.2.1 hb2)))
            clear hP hB2 hb2
            go_wp2_with (at_builtin; refine wpAppN 44 32 2 _ 48 Tryz.underlying44 infoAI rfl (by decide) (by decide) rfl _ _ rfl w1.heap.size _ ds.length (pairCells us) rfl HP.out.2.2 [.slice (some ⟨g6, 0, none⟩) K1 c6, .slice p7 K c7] rfl (fun u hu => by simp at hu; rcases hu with rfl | rfl <;> rfl) rfl (by omega) (Nat.le_trans HPL.out.2.2.2.2.2.size HP.out.2.1.size) ?_)
            intro v' w3 ho3 hg3 _
            obtain ⟨p8, c8, rfl⟩ : ∃ p3 c3, v' = .slice p3 (ds.length + 1) c3 := by
              rcases ho3.2 with ⟨_, h0⟩ | ⟨g7, c7, _, e, _⟩
              · omega
              · exact ⟨_, c7, e⟩
            have H3 := Lib.hid (And.intro ho3 hg3)
            clear ho3 hg3
            go_wp2_with fail
            go_roundg rs.length
            case measure => simp
            case rel =>
              obtain ⟨ho3, hg3⟩ := H3.out
              obtain ⟨hP, hb2, ho2⟩ := HP.out
              obtain ⟨_, hds, hul, _, huP, hBr⟩ := HPL.out
              have hK3 : Kept 32 w2 w3 := Kept.row ho2 hg3
              refine ⟨ds ++ [(id, ts)], rs, p8, c8, by rw [hds, List.append_assoc]; rfl, rfl, by simp, by simp, ?_⟩
              rw [List.length_append]
              exact ⟨RowQ.push (u := (.slice (some ⟨g6, 0, none⟩) K1 c6, .slice p7 K c7)) hul huP ho3 (fun u x h => (h.below hb2).kept hK3 (by decide) (by decide)) ((hP.mono (by have := hBr.size; simp; omega)).kept hK3 (by decide) (by decide)), grown_below (hBr.trans (hb2.mono hBr.size)) ho2 hg3 (Nat.le_trans hBr.size hb2.size)⟩
          | nil =>
            have hlt : ds.length = m := by rw [HM.out, hds, List.append_nil]
            have hl2 : decide (ds.length < m) = false := by rw [decide_eq_false_iff_not, hlt]; omega
            obtain rfl : R = ds := by rw [hds, List.append_nil]
            clear hds
            by_cases h0 : m = 0
            · have hR0 : R = [] := List.eq_nil_of_length_eq_zero (by rw [hlt, h0])
              have hd0 : R.length = 0 := by rw [hlt, h0]
              rw [hd0] at hl2 ⊢
              have HJ := Lib.hid hJ
              clear hJ hlt
              go_wp2_with (go_at_call 51; refine (sortNoneAI p4 c4 _ _).mono ?_; rintro e w' ⟨rfl, rfl⟩)
              go_ret2
              obtain ⟨h6, hnd, hiff, hrow, hBw⟩ := HX.out
              have hJ := HJ.out.out
              rw [hd0] at hJ
              refine ⟨hBw.trans (hJ.2.mono hBw.size), .inl ⟨h6, _, R, rfl, ⟨by rw [hR0]; exact List.Pairwise.nil, hiff⟩, hJ.1.mono hBw.size fun u x h => h.mono hBw.size⟩⟩
            · rw [hlt] at hJ hl2 ⊢
              obtain ⟨g, rfl⟩ : ∃ g, p4 = some ⟨g, 0, none⟩ := by
                rcases RowQ.form hJ.out.1 with ⟨_, e⟩ | ⟨g, c', e, _⟩
                · rw [e] at hlt; simp at hlt; exact absurd hlt.symm h0
                · injection e with e; exact ⟨g, e⟩
              have hso := sortInfos wr w1.heap.size g c4 m R hlt (by omega) hRl hJ.out.1 (fun x hx => (adr_last HB.out.1 HX.out.1 (id := x.1) (by rw [(HX.out.2.2.1 x.1 x.2).1 hx]; simp)).1) HX.out.2.1 hJ.out.2.size
              have HS := Lib.hid (And.intro hso hJ.out.2)
              clear hso hJ hlt
              go_wp2_with (go_at_call 51; refine HS.out.1.mono ?_; rintro e w' ⟨rfl, I, hpw, hperm, hrI, hBs⟩)
              go_ret2
              obtain ⟨h6, hnd, hiff, hrow, hBw⟩ := HX.out
              exact ⟨hBw.trans ((HS.out.2.trans hBs).mono hBw.size), .inl ⟨h6, _, I, rfl, ⟨hpw, fun id ts => (hperm.mem_iff).trans (hiff id ts)⟩, hrI.mono hBw.size fun u x h => h.mono hBw.size⟩⟩
end Go.Proofs.YtapkmoakbfpkeaaGreatDoor
namespace Go.Proofs.YtapkmoakbfpkeaaGreatDoor
open Go Go.RowKit Go.Proofs Go.Sort
set_option maxRecDepth 100000 in
theorem implSplit6e (h : Hop) (hk : HopOk h) (h6 : h.1 = 6) (b o N c : Nat) (w : World) (hN : (addrB [h]).length = N) (hb : Bs w b o (addrB [h])) (hT : Tab w) :
    Calls Tryz.prog 28 #[.slice (some ⟨b, o, none⟩) N c] w fun e w' => ∃ g2 c2, e = .returned (.tuple #[.slice none 0 0, .slice (some ⟨g2, 0, none⟩) h.2.length c2, .bool true]) ∧ Bs w' g2 0 h.2 ∧ Below w.heap.size w w' := by
  have hao := addrOf [h] (fun x hx => by rw [List.mem_singleton] at hx; subst hx; exact hk) (by simp) [] (.inl (by simp)) (.inl rfl) b o N c w (by rw [List.append_nil]; exact hN) (by rw [List.append_nil]; exact hb) hT
  have HA := Lib.hid (And.intro hao hk)
  clear hao hb hT hN
  go_enter Tryz.func28, Tryz.ntmps28
  go_wp2_with fail
  refine HA.out.1.mono ?_
  rintro e w1 ⟨hB, ⟨_, v, rfl, hM⟩ | ⟨hne, _⟩⟩
  rotate_left
  · exact absurd rfl hne
  obtain ⟨g, cap, rfl, hcap⟩ := ma_form hM (by simp)
  have hsa := splitAddr6 w.heap.size g 1 cap w1 (by decide) hcap hB.size [] rfl h hM HA.out.2 h6
  have HS := Lib.hid (And.intro hsa hB)
  clear hsa hM hB hcap
  go_wp2_with fail
  refine HS.out.1.mono ?_
  rintro e w2 ⟨tv, rfl, hM2, hnil, hB2⟩
  obtain rfl := hnil trivial
  have HM2 := Lib.hid (HS.out.2.trans (hB2.mono HS.out.2.size))
  clear hM2 hB2 hnil
  obtain ⟨cF, WF, hcv, hW⟩ := convIDF h.2 HA.out.2.2.2 (by have := hop_len h.1 h.2; have := hopB_le h HA.out.2; omega)
  have HW := Lib.hid hW
  clear hW
  go_wp2_with fail
  go_ret3
  have hb := (HW.out w2).2.2.2
  exact ⟨w2.heap.size, cF w2, rfl, (HW.out w2).1, HM2.out.trans (hb.mono HM2.out.size)⟩
set_option maxRecDepth 100000 in
theorem implSplitN (init : List Hop) (h : Hop) (hh : ∀ x ∈ init ++ [h], HopOk x) (h6 : h.1 ≠ 6) (hl : (init ++ [h]).length ≤ 1000) (b o N c : Nat) (w : World) (hN : (addrB (init ++ [h])).length = N) (hb : Bs w b o (addrB (init ++ [h]))) (hT : Tab w) :
    Calls Tryz.prog 28 #[.slice (some ⟨b, o, none⟩) N c] w fun e w' => ∃ g1 c1 g2 c2, e = .returned (.tuple #[.slice (some ⟨g1, 0, none⟩) N c1, .slice (some ⟨g2, 0, none⟩) 0 c2, .bool true]) ∧ Bs w' g1 0 (addrB (init ++ [h])) ∧ Below w.heap.size w w' := by
  have hao := addrOf (init ++ [h]) hh hl [] (.inl (by simp)) (.inl rfl) b o N c w (by rw [List.append_nil]; exact hN) (by rw [List.append_nil]; exact hb) hT
  have hLi : N ≤ 123000 := by have := addrB_le (init ++ [h]) hh; omega
  have HA := Lib.hid (And.intro hao (And.intro hh hN))
  clear hao hb hT hN hh
  go_enter Tryz.func28, Tryz.ntmps28
  go_wp2_with fail
  refine HA.out.1.mono ?_
  rintro e w1 ⟨hB, ⟨_, v, rfl, hM⟩ | ⟨hne, _⟩⟩
  rotate_left
  · exact absurd rfl hne
  obtain ⟨g, cap, rfl, hcap⟩ := ma_form hM (by simp)
  have hsa := splitAddrN w.heap.size g _ cap w1 hl hcap hB.size init (by simp) h hM (HA.out.2.1 h (by simp)).1 h6
  have HS := Lib.hid (And.intro hsa (And.intro hB hM))
  clear hsa hM hB
  obtain ⟨M, hMl⟩ : ∃ M, M = (init ++ [h]).length := ⟨_, rfl⟩
  rw [← hMl] at HS hl ⊢
  have HMl := Lib.hid hMl
  clear hMl hcap
  have hnq := fun w => maNeqNil ⟨g, 0, none⟩ M cap w
  go_wp2_with fail
  refine HS.out.1.mono ?_
  rintro e w2 ⟨rfl, hB2⟩
  have hmb := maBytes w.heap.size g M cap w2 (init ++ [h]) HMl.out.symm (HS.out.2.2.below hB2) HA.out.2.1 hl
  have HM2 := Lib.hid (And.intro hmb (HS.out.2.1.trans (hB2.mono HS.out.2.1.size)))
  clear hmb hB2
  go_wp2_with fail
  refine HM2.out.1.mono ?_
  rintro e w3 ⟨g3, c3, rfl, _, _, _, hbs, hB3⟩
  rw [HA.out.2.2]
  have hB3' := HM2.out.2.trans (hB3.mono HM2.out.2.size)
  have hcl := Tryz.bytes_Clone_at ⟨g3, 0, none⟩ N c3 (addrB (init ++ [h])) w3 HA.out.2.2 (by omega) (fun i hi => by rw [Lib.add_plain]; exact hbs i (by rw [HA.out.2.2]; exact hi))
  have HC := Lib.hid (And.intro hcl hB3')
  clear hbs hB3 hB3' hcl
  go_wp2_with fail
  refine HC.out.1.mono ?_
  rintro e w4 ⟨v', rfl, hown, hvn, hB4⟩
  obtain ⟨g4, c4, rfl, hbs4⟩ : ∃ g4 c4, v' = .slice (some ⟨g4, 0, none⟩) N c4 ∧ Bs w4 g4 0 (addrB (init ++ [h])) := by
    have hown2 := hown
    rcases hown.2 with ⟨h0, _⟩ | ⟨g4, c4, cur, rfl, _⟩
    · exact absurd h0 hvn
    · exact ⟨g4, c4, rfl, ownsBytes hown2 HA.out.2.2⟩
  obtain ⟨cF, WF, hcv, hW⟩ := convIDF [] (fun x hx => by cases hx) (by simp)
  replace hcv : ∀ w, (convert 85 23 (.string ⟨#[]⟩)).run Tryz.prog w = .ok (.slice (some ⟨w.heap.size, 0, none⟩) 0 (cF w)) (WF w) := hcv
  have HW := Lib.hid (And.intro hW (And.intro hbs4 (HC.out.2.trans (hB4.mono HC.out.2.size))))
  clear hown hvn hB4 hbs4 hW
  go_wp2_with fail
  go_ret3
  have hb := (HW.out.1 w4).2.2.2
  exact ⟨g4, c4, w4.heap.size, cF w4, rfl, HW.out.2.1.below hb, HW.out.2.2.trans (hb.mono HW.out.2.2.size)⟩
set_option maxRecDepth 100000 in
theorem infoFrom6e (B g c : Nat) (w : World) (hc : 1 ≤ c) (hBw : B ≤ w.heap.size) (h : Hop) (hm : MA w B (.slice (some ⟨g, 0, none⟩) 1 c) [h])
    (hk : HopOk h) (h6 : h.1 = 6) (hd : h.2 ≠ []) : Calls Tryz.prog 43 #[.slice (some ⟨g, 0, none⟩) 1 c] w fun e w' => ∃ p, e = .returned (.tuple #[.pointer (some ⟨p, 0, none⟩), .nilIface]) ∧ w'.cell? ⟨p, 0, none⟩ = some (.string (strOfNums h.2)) ∧ w'.cell? ⟨p, 1, none⟩ = some (.slice none 0 0) ∧ Below w.heap.size w w' := by
  have hsl := splitAddr6 B g 1 c w (by decide) hc hBw [] rfl h hm hk h6
  have hse := strOf_ne h.2 hd
  obtain ⟨S, hS⟩ : ∃ S, S = strOfNums h.2 := ⟨_, rfl⟩
  rw [← hS] at hsl hse ⊢
  have HSL := Lib.hid hsl
  clear hsl hm hBw hS
  go_enter Tryz.func43, Tryz.ntmps43
  go_wp2_with fail
  refine HSL.out.mono ?_
  rintro e w1 ⟨tv, rfl, hma, hnil, hB⟩
  obtain rfl := hnil trivial
  have HP := Lib.hid hB
  clear hma hB hnil
  go_wp2_with fail
  go_ret2
  have hb0 : Below w1.heap.size w1 (w1.alloc (.cells #[.string S, .slice none 0 0] 88)) := (Below.refl _ _).alloc (Nat.le_refl _) _
  exact ⟨w1.heap.size, rfl, World.cell?_alloc_mark w1 _ _ _ 0, World.cell?_alloc_mark w1 _ _ _ 1, HP.out.trans (hb0.mono HP.out.size)⟩
set_option maxRecDepth 100000 in
theorem infoFromN (B g n c : Nat) (w : World) (hn1 : n ≤ 1000) (hc : n ≤ c) (hBw : B ≤ w.heap.size) (init : List Hop) (hi : init.length + 1 = n) (h : Hop) (hm : MA w B (.slice (some ⟨g, 0, none⟩) n c) (init ++ [h]))
    (hk : h.1 < 8) (h6 : h.1 ≠ 6) (hE : ErrV w) : Calls Tryz.prog 43 #[.slice (some ⟨g, 0, none⟩) n c] w fun e w' => (∃ T a, e = .returned (.tuple #[.pointer none, .iface T (.pointer (some a))])) ∧ Below w.heap.size w w' := by
  have hsl := splitAddrN B g n c w hn1 hc hBw init hi h hm hk h6
  have HSL := Lib.hid (And.intro hsl hE)
  clear hsl hm hBw hi h6 hE
  go_enter Tryz.func43, Tryz.ntmps43
  go_wp2_with fail
  refine HSL.out.1.mono ?_
  rintro e w1 ⟨rfl, hB⟩
  obtain ⟨T, ea, hce⟩ := HSL.out.2.below hB
  have HB2 := Lib.hid hB
  clear hB
  go_wp2_with fail
  go_quiet (fail)
  go_wp2_with fail
  go_ret2
  exact ⟨⟨T, ea, rfl⟩, below_drewN HB2.out _⟩
set_option maxRecDepth 100000 in
theorem implInfo6e (h : Hop) (hk : HopOk h) (h6 : h.1 = 6) (hd : h.2 ≠ []) (b o N c : Nat) (w : World) (hN : (addrB [h]).length = N) (hb : Bs w b o (addrB [h])) (hT : Tab w) :
    Calls Tryz.prog 15 #[.slice (some ⟨b, o, none⟩) N c] w fun e w' => ∃ g1 c1 p2 c2, e = .returned (.tuple #[.agg #[.slice (some ⟨g1, 0, none⟩) h.2.length c1, .slice p2 0 c2], .bool true]) ∧ Bs w' g1 0 h.2 ∧ Below w.heap.size w w' := by
  have hB0 : Below w.heap.size w (w.alloc (.cells #[.slice none 0 0, .slice none 0 0] 32)) := (Below.refl _ _).alloc (Nat.le_refl _) _
  have hao := addrOf [h] (fun x hx => by rw [List.mem_singleton] at hx; subst hx; exact hk) (by simp) [] (.inl (by simp)) (.inl rfl) b o N c _ (by rw [List.append_nil]; exact hN) (by rw [List.append_nil]; exact hb.below hB0) (hT.below hB0)
  have hr0 : (w.alloc (.cells #[.slice none 0 0, .slice none 0 0] 32)).heap[w.heap.size]? = some (.cells #[.slice none 0 0, .slice none 0 0] 32 (0, 0)) := heap_alloc_new _ _
  have HA := Lib.hid (And.intro hao (And.intro hk (And.intro hB0 hr0)))
  clear hao hb hT hN hB0 hr0
  go_enter Tryz.func15, Tryz.ntmps15
  go_wp2_with fail
  obtain ⟨W0, hW0⟩ : ∃ W, W = w.alloc (.cells #[.slice none 0 0, .slice none 0 0] 32) := ⟨_, rfl⟩
  have hz0 : W0.heap.size = w.heap.size + 1 := by rw [hW0]; simp
  rw [← hW0] at HA ⊢
  refine HA.out.1.mono ?_
  rintro e w1 ⟨hB, ⟨_, v, rfl, hM⟩ | ⟨hne, _⟩⟩
  rotate_left
  · exact absurd rfl hne
  obtain ⟨g, cap, rfl, hcap⟩ := ma_form hM (by simp)
  have hsa := infoFrom6e W0.heap.size g cap w1 hcap hB.size h hM HA.out.2.1 h6 hd
  have HS := Lib.hid (And.intro hsa hB)
  clear hsa hM hB hcap
  go_wp2_with fail
  refine HS.out.1.mono ?_
  rintro e w2 ⟨p, rfl, hp0, hp1, hB2⟩
  have hpl := plainInfo 0 0 h.2 HA.out.2.1.2.2 (by have := hop_len h.1 h.2; have := hopB_le h HA.out.2.1; omega) [] none 0 0 rfl (by decide) (fun _ hx => by cases hx) w2 (RowP.nil _ _ _ _)
  have HM2 := Lib.hid (And.intro hpl (HS.out.2.trans (hB2.mono HS.out.2.size)))
  clear hpl hB2
  obtain ⟨S, hS⟩ : ∃ S, S = strOfNums h.2 := ⟨_, rfl⟩
  rw [← hS] at HM2 hp0
  clear hS
  go_wp2_with fail
  refine HM2.out.1.mono ?_
  rintro e w3 ⟨g1, c1, p2, c2, rfl, hv, hB3⟩
  have hB3' := HM2.out.2.trans (hB3.mono HM2.out.2.size)
  have hr3 := (hB3'.block w.heap.size (by omega)).trans HA.out.2.2.2
  have hz2 := HM2.out.2.size
  obtain ⟨g1', c1', cs1, e1, hg1, hh1, hbs1⟩ := hv.1
  injection e1 with e1 e2 e3
  obtain rfl : g1 = g1' := by injection (Option.some.inj e1)
  subst e3
  obtain ⟨⟨r0, r1⟩, y0, y1⟩ := two_cells hr3
  have HV := Lib.hid (And.intro hbs1 (And.intro hB3' (And.intro hr3 (And.intro hg1 hz2))))
  clear hv hbs1 hB3 hB3' hr3 hg1 hz2 hh1
  obtain ⟨K, hK⟩ : ∃ K, K = h.2.length := ⟨_, rfl⟩
  rw [← hK] at HV ⊢
  have HK := Lib.hid hK
  clear hK
  go_wp2_with fail
  obtain ⟨hv1, hB3, hr3, ⟨hg1, _⟩, hz2⟩ := HV.out
  obtain ⟨W9, hW9⟩ : ∃ W, W = (w3.setCell ⟨w.heap.size, 0, none⟩ (.slice (some ⟨g1, 0, none⟩) K c1)).setCell ⟨w.heap.size, 1, none⟩ (.slice p2 0 c2) := ⟨_, rfl⟩
  rw [← hW9]
  have hr9 : W9.heap[w.heap.size]? = some (.cells #[.slice (some ⟨g1, 0, none⟩) K c1, .slice p2 0 c2] 32 (0, 0)) := by rw [hW9]; exact two_set01 hr3 _ _
  obtain ⟨⟨k0, k1⟩, _, _⟩ := two_cells hr9
  refine bodyPost_ret (v := .tuple #[.agg #[.slice (some ⟨g1, 0, none⟩) K c1, .slice p2 0 c2], .bool true]) (by simp [results, Tryz.results15, go_sem, k0, k1]) rfl ⟨g1, c1, p2, c2, by rw [HK.out], ?_, ?_⟩
  · rw [hW9]
    exact bs_set (by omega) _ (bs_set (by omega) _ hv1)
  · rw [hW9]
    exact ((HA.out.2.2.1.trans (hB3.mono (by omega))).setCell (Nat.le_refl _) _).setCell (Nat.le_refl _) _
set_option maxRecDepth 100000 in
theorem implInfoN (init : List Hop) (h : Hop) (hh : ∀ x ∈ init ++ [h], HopOk x) (h6 : h.1 ≠ 6) (hl : (init ++ [h]).length ≤ 1000) (b o N c : Nat) (w : World) (hN : (addrB (init ++ [h])).length = N) (hb : Bs w b o (addrB (init ++ [h]))) (hT : Tab w) (hE : ErrV w) :
    Calls Tryz.prog 15 #[.slice (some ⟨b, o, none⟩) N c] w fun e w' => e = .returned (.tuple #[.agg #[.slice none 0 0, .slice none 0 0], .bool false]) ∧ Below w.heap.size w w' := by
  have hB0 : Below w.heap.size w (w.alloc (.cells #[.slice none 0 0, .slice none 0 0] 32)) := (Below.refl _ _).alloc (Nat.le_refl _) _
  have hao := addrOf (init ++ [h]) hh hl [] (.inl (by simp)) (.inl rfl) b o N c _ (by rw [List.append_nil]; exact hN) (by rw [List.append_nil]; exact hb.below hB0) (hT.below hB0)
  have hr0 : (w.alloc (.cells #[.slice none 0 0, .slice none 0 0] 32)).heap[w.heap.size]? = some (.cells #[.slice none 0 0, .slice none 0 0] 32 (0, 0)) := heap_alloc_new _ _
  have HA := Lib.hid (And.intro hao (And.intro (hh h (by simp)).1 (And.intro hB0 (And.intro hr0 (hE.below hB0)))))
  clear hao hb hT hN hB0 hr0 hh hE
  go_enter Tryz.func15, Tryz.ntmps15
  go_wp2_with fail
  obtain ⟨W0, hW0⟩ : ∃ W, W = w.alloc (.cells #[.slice none 0 0, .slice none 0 0] 32) := ⟨_, rfl⟩
  have hz0 : W0.heap.size = w.heap.size + 1 := by rw [hW0]; simp
  rw [← hW0] at HA ⊢
  refine HA.out.1.mono ?_
  rintro e w1 ⟨hB, ⟨_, v, rfl, hM⟩ | ⟨hne, _⟩⟩
  rotate_left
  · exact absurd rfl hne
  obtain ⟨g, cap, rfl, hcap⟩ := ma_form hM (by simp)
  have hsa := infoFromN W0.heap.size g _ cap w1 hl hcap hB.size init (by simp) h hM HA.out.2.1 h6 (HA.out.2.2.2.2.below hB)
  have HS := Lib.hid (And.intro hsa hB)
  clear hsa hM hB hcap
  obtain ⟨M, hMl⟩ : ∃ M, M = (init ++ [h]).length := ⟨_, rfl⟩
  rw [← hMl] at HS ⊢
  clear hMl hl
  go_wp2_with fail
  refine HS.out.1.mono ?_
  rintro e w2 ⟨⟨T, a, rfl⟩, hB2⟩
  have hB3' := HS.out.2.trans (hB2.mono HS.out.2.size)
  have hr3 := (hB3'.block w.heap.size (by omega)).trans HA.out.2.2.2.1
  obtain ⟨⟨r0, r1⟩, y0, y1⟩ := two_cells hr3
  have HV := Lib.hid (And.intro hB3' hr3)
  clear hB2 hB3' hr3
  go_wp2_with fail
  obtain ⟨hB3, hr3⟩ := HV.out
  obtain ⟨W9, hW9⟩ : ∃ W, W = (w2.setCell ⟨w.heap.size, 0, none⟩ (.slice none 0 0)).setCell ⟨w.heap.size, 1, none⟩ (.slice none 0 0) := ⟨_, rfl⟩
  rw [← hW9]
  have hr9 : W9.heap[w.heap.size]? = some (.cells #[.slice none 0 0, .slice none 0 0] 32 (0, 0)) := by rw [hW9]; exact two_set01 hr3 _ _
  obtain ⟨⟨k0, k1⟩, _, _⟩ := two_cells hr9
  refine bodyPost_ret (v := .tuple #[.agg #[.slice none 0 0, .slice none 0 0], .bool false]) (by simp [results, Tryz.results15, go_sem, k0, k1]) rfl ⟨rfl, ?_⟩
  rw [hW9]
  exact ((HA.out.2.2.1.trans (hB3.mono (by omega))).setCell (Nat.le_refl _) _).setCell (Nat.le_refl _) _
end Go.Proofs.YtapkmoakbfpkeaaGreatDoor
namespace Go.Proofs.YtapkmoakbfpkeaaGreatDoor
open Go Go.RowKit Go.Proofs Go.Sort
theorem BRow.list {w : World} {B n c : Nat} {p : Option Addr} {ts : List Adr} (h : BRow w B (.slice p n c) ts) : ListIn w p ts := fun i hs hi => by
  rcases RowP.form h with ⟨_, e⟩ | ⟨g, c', e, _⟩
  · rw [e] at hi; simp at hi
  · injection e with e1 e2 e3
    subst e1 e2 e3
    obtain ⟨u, hc, g2, c2, cs, rfl, _, _, hb⟩ := RowP.at h i hs hi
    exact ⟨g, g2, 0, c2, rfl, hc, hb⟩
/-- A peer as data, wherever it lies. -/
def SameI (w : World) (u : Value × Value) (x : List Int × List Adr) : Prop := ∃ g o c p c2, u = (.slice (some ⟨g, o, none⟩) x.1.length c, .slice p x.2.length c2) ∧ Bs w g o x.1 ∧ ListIn w p x.2
theorem SameI.below {w w' : World} {u : Value × Value} {x : List Int × List Adr} (h : SameI w u x) (hb : Below w.heap.size w w') : SameI w' u x := by
  obtain ⟨g, o, c, p, c2, h1, h2, h3⟩ := h
  exact ⟨g, o, c, p, c2, h1, h2.below hb, h3.below hb⟩
theorem PlainI.same {w : World} {B : Nat} {u : Value × Value} {x : List Int × List Adr} (h : PlainI B w u x) : SameI w u x := by
  obtain ⟨u1, u2⟩ := u
  obtain ⟨g, c, cs, e1, _, _, hb⟩ := h.1
  obtain ⟨p, c2, e2, _⟩ := RowP.slice h.2
  replace e1 : u1 = _ := e1
  replace e2 : u2 = _ := e2
  subst e1 e2
  exact ⟨g, 0, c, p, c2, rfl, hb, BRow.list h.2⟩
set_option maxRecDepth 100000 in
theorem equalRows (p1 p2 : Option Addr) (n c1 c2 : Nat) (ts : List Adr) (w : World) (hn : ts.length = n) (hn1 : n ≤ 100000) (h1 : ListIn w p1 ts) (h2 : ListIn w p2 ts) :
    Calls Tryz.prog 26 #[.slice p1 n c1, .slice p2 n c2, .func (.func 17) #[] #[]] w fun e w' => e = .returned (.bool true) ∧ w' = w := by
  have HB := Lib.hid (And.intro hn (And.intro h1 h2))
  clear hn h1 h2
  go_enter Tryz.func26, Tryz.ntmps26
  go_wp2_with fail
  go_loopg [17] n (fun gk iv wr => ∃ (ds rs : List Adr), ts = ds ++ rs ∧ gk = rs.length ∧ iv = .int .i64 (ds.length : Int) ∧ wr = w)
  case atStart => exact ⟨[], ts, rfl, HB.out.1.symm, rfl, rfl⟩
  case round =>
    obtain ⟨ds, rs, hds, rfl, rfl, rfl⟩ := hrel
    cases rs with
    | nil =>
      have hlt : ds.length = n := by rw [← HB.out.1, hds, List.append_nil]
      have hl2 : decide (ds.length < n) = false := by rw [decide_eq_false_iff_not, hlt]; omega
      clear hds hlt
      go_wp2_with fail
      go_ret
      exact ⟨rfl, rfl⟩
    | cons r rs =>
      have hlt : ds.length < n := by rw [← HB.out.1, hds]; simp
      have hl2 : decide (ds.length < n) = true := by rw [decide_eq_true_iff]; omega
      obtain ⟨g, b, o, c, rfl, hc1, hb1⟩ := HB.out.2.1 ds.length r (by rw [hds]; simp)
      obtain ⟨g', b', o', c', rfl, hc2, hb2⟩ := HB.out.2.2 ds.length r (by rw [hds]; simp)
      obtain ⟨N, hN⟩ : ∃ N, N = (addrB r).length := ⟨_, rfl⟩
      have heq := eqSame b o c b' o' c' N (addrB r) wr hN.symm hb1 hb2
      have HE := Lib.hid (And.intro heq hds)
      rw [← hN] at hc1 hc2
      clear heq hds hb1 hb2 hN
      go_wp2_with (go_at_call 17; refine HE.out.1.mono ?_; rintro e w' ⟨rfl, rfl⟩)
      go_roundg rs.length
      case measure => simp
      case rel => exact ⟨ds ++ [r], rs, by rw [HE.out.2, List.append_assoc]; rfl, rfl, by simp, rfl⟩
set_option maxRecDepth 100000 in
theorem addrSame (w : World) (u v : Value × Value) (x : List Int × List Adr) (hu : SameI w u x) (hv : SameI w v x) (hl : x.2.length ≤ 100000) :
    Calls Tryz.prog 29 #[.agg #[u.1, u.2], .agg #[v.1, v.2]] w fun e w' => e = .returned (.bool true) ∧ Below w.heap.size w w' := by
  obtain ⟨g, o, c, p, c2, rfl, hb, hr⟩ := hu
  obtain ⟨g', o', c', p', c2', rfl, hb', hr'⟩ := hv
  obtain ⟨n, hn⟩ : ∃ n, n = x.1.length := ⟨_, rfl⟩
  obtain ⟨m, hm⟩ : ∃ n, n = x.2.length := ⟨_, rfl⟩
  have hbel : Below w.heap.size w ((w.alloc (.cells #[.slice (some ⟨g, o, none⟩) n c, .slice p m c2] 32)).alloc (.cells #[.slice (some ⟨g', o', none⟩) n c', .slice p' m c2'] 32)) := ((Below.refl _ _).alloc (Nat.le_refl _) _).alloc (by simp) _
  have heq := eqSame g o c g' o' c' n x.1 _ hn.symm (hb.below hbel) (hb'.below hbel)
  have her := equalRows p p' m c2 c2' x.2 _ hm.symm (by omega) (hr.below hbel) (hr'.below hbel)
  rw [← hn, ← hm]
  have HE := Lib.hid (And.intro heq (And.intro her hbel))
  clear heq her hbel hb hb' hr hr' hn hm hl
  go_enter Tryz.func29, Tryz.ntmps29
  go_wp2_with (first | (go_at_call 17; refine HE.out.1.mono ?_; rintro e w' ⟨rfl, rfl⟩) | (go_at_call 26; refine HE.out.2.1.mono ?_; rintro e w' ⟨rfl, rfl⟩))
  go_ret
  exact ⟨rfl, HE.out.2.2⟩
end Go.Proofs.YtapkmoakbfpkeaaGreatDoor
