/- valueAndErr. -/
import Derived.Test.YtapkmoakbfpkeaaGreatDoorA12
import Derived.Test.YtapkmoakbfpkeaaGreatDoorB3
namespace Go.Proofs.YtapkmoakbfpkeaaGreatDoor
open Go Go.RowKit Go.Proofs Go.Sort

/-! ### Strings of bytes -/
theorem strOf_extract (xs : List Int) (i j : Nat) : (strOfNums xs).extract i j = strOfNums ((xs.drop i).take (j - i)) := by
  apply ByteArray.ext
  apply Array.toList_inj.1
  simp [strOfNums, ByteArray.data_extract, List.map_take, List.map_drop]
theorem strOf_rest (xs : List Int) (i : Nat) : (strOfNums xs).extract i (strOfNums xs).size = strOfNums (xs.drop i) := by
  rw [strOf_extract, strOfNums_size, List.take_of_length_le (by rw [List.length_drop]; exact Nat.le_refl _)]
theorem strOf_byte (xs : List Int) (hb : ∀ x ∈ xs, 0 ≤ x ∧ x < 256) (i : Nat) (h : i < (strOfNums xs).data.size) : (((strOfNums xs).data[i]).toNat : Int) = xs.getD i 0 := by
  have h2 : i < xs.length := by simpa [strOfNums] using h
  have e : xs.getD i 0 = xs[i] := by simp [List.getD, List.getElem?_eq_getElem h2]
  rw [e]
  have := hb _ (List.getElem_mem h2)
  simp [strOfNums]
  omega

/-- Bytes at an address. -/
def Bs (w : World) (b o : Nat) (xs : List Int) : Prop := ∀ i, i < xs.length → w.cell? ⟨b, o + i, none⟩ = some (.int .u8 (xs.getD i 0))
def U8 (xs : List Int) : Prop := ∀ x ∈ xs, 0 ≤ x ∧ x < 256
theorem Bs.below {w w' : World} {b o : Nat} {xs : List Int} (h : Bs w b o xs) (hb : Below w.heap.size w w') : Bs w' b o xs := fun i hi => cB hb (h i hi)
theorem U8.drop {xs : List Int} (h : U8 xs) (k : Nat) : U8 (xs.drop k) := fun x hx => h x (List.mem_of_mem_drop hx)
theorem U8.take {xs : List Int} (h : U8 xs) (k : Nat) : U8 (xs.take k) := fun x hx => h x (List.mem_of_mem_take hx)

/-- '[]byte(s)' of a string of bytes. -/
theorem convBytes (w : World) (xs : List Int) (hu : U8 xs) (hl : xs.length ≤ 1000000) : ∃ c W, (convert 9 23 (.string (strOfNums xs))).run Tryz.prog w = .ok (.slice (some ⟨w.heap.size, 0, none⟩) xs.length c) W ∧
    Bs W w.heap.size 0 xs ∧ xs.length ≤ c ∧ c ≤ 9223372036854775807 ∧ Below w.heap.size w W := by
  have h := run_bytes_of_string (P := Tryz.prog) w 9 23 5 (strOfNums xs) Tryz.underlying9 Tryz.underlying23 Tryz.underlying5
  rw [strOfNums_size] at h
  refine ⟨_, _, h, ?_, ?_, ?_, ?_⟩
  · intro i hi
    have hi2 : i < (strOfNums xs).data.size := by simpa [strOfNums] using hi
    rw [Nat.zero_add]
    refine (World.cell?_alloc_mark w.drew _ _ _ i).trans ?_
    rw [bytesRow_at _ _ _ hi2, strOf_byte xs hu]
  · exact grownCap_ge _ _ _ _
  · exact grownCap_le_maxLen _ _ _ _ (by unfold maxLen; omega)
  · exact ((Below.refl _ _).drew).alloc (Nat.le_refl _) _

/-- .. as functions of the world. -/
theorem convBytesF (xs : List Int) (hu : U8 xs) (hl : xs.length ≤ 1000000) : ∃ (cF : World → Nat) (WF : World → World), (∀ w, (convert 9 23 (.string (strOfNums xs))).run Tryz.prog w = .ok (.slice (some ⟨w.heap.size, 0, none⟩) xs.length (cF w)) (WF w)) ∧
    ∀ w, Bs (WF w) w.heap.size 0 xs ∧ xs.length ≤ cF w ∧ cF w ≤ 9223372036854775807 ∧ Below w.heap.size w (WF w) :=
  ⟨fun w => (convBytes w xs hu hl).choose, fun w => (convBytes w xs hu hl).choose_spec.choose, fun w => (convBytes w xs hu hl).choose_spec.choose_spec.1, fun w => (convBytes w xs hu hl).choose_spec.choose_spec.2⟩
/-- 's[i:]' of a string of bytes. -/
theorem sliceRest (xs : List Int) (i : Nat) (hi : i ≤ xs.length) (w : World) : (Instr.slice 9 (.string (strOfNums xs)) (some (.int .i64 (i : Int))) none none).run Tryz.prog w = .ok (.string (strOfNums (xs.drop i))) w := by
  have hz := strOfNums_size xs
  have h := strOf_rest xs i
  rw [← h]
  go_simp

/-- A component lies in block r: its bytes xs, its protocol p (in block q, its VCode in block a), the place at which its value begins. -/
structure CompAt (w : World) (r q a : Nat) (p : Prot) (xs : List Int) (st : Nat) : Prop where
  comp : w.heap[r]? = some (.cells #[.string (strOfNums xs), .pointer (some ⟨q, 0, none⟩), .int .i64 st] 138 (0, 0))
  prot : w.heap[q]? = some (.cells (p.cells a) 144 (0, 0))
  vcode : VRow w a p.vc
theorem CompAt.below {w w' : World} {r q a : Nat} {p : Prot} {xs : List Int} {st : Nat} (h : CompAt w r q a p xs st) (hb : Below w.heap.size w w') : CompAt w' r q a p xs st :=
  ⟨(hb.block r (Array.getElem?_eq_some_iff.1 h.comp).1).trans h.comp, (hb.block q (Array.getElem?_eq_some_iff.1 h.prot).1).trans h.prot, h.vcode.below hb h.vcode.lt⟩

set_option maxRecDepth 100000 in
/-- valueAndErr at a protocol without a transcoder. -/
theorem value_none (r q a : Nat) (p : Prot) (xs : List Int) (st : Nat) (w : World) (h : CompAt w r q a p xs st) (ht : p.tr = .nilIface) :
    Calls Tryz.prog 192 #[.pointer (some ⟨r, 0, none⟩)] w (SomeStrNil w) := by
  have c1 : w.cell? ⟨r, 1, none⟩ = some (.pointer (some ⟨q, 0, none⟩)) := by rw [cell_of_row w r 1 _ _ (0, 0) h.comp]; rfl
  have c5 : w.cell? ⟨q, 5, none⟩ = some .nilIface := by rw [cell_of_row w q 5 _ _ (0, 0) h.prot]; show some p.tr = _; rw [ht]
  clear h ht
  go_enter Tryz.func192, Tryz.ntmps192
  go_wp2_with fail
  go_ret2
  exact ⟨_, rfl, by decide, Below.refl _ _⟩

set_option maxRecDepth 100000 in
/-- valueAndErr at a protocol with one. -/
theorem value_some (r q a : Nat) (p : Prot) (xs : List Int) (st : Nat) (fs : Array Value) (w : World) (h : CompAt w r q a p xs st) (ht : p.tr = .iface 253 (.agg fs)) (hu : U8 xs) (hl : xs.length ≤ 1000) (hst : st ≤ xs.length)
    (hB : ∀ b o c w', Bs w' b o (xs.drop st) → xs.length - st ≤ c → c ≤ 9223372036854775807 → Below w.heap.size w w' → Calls Tryz.prog 451 #[.agg fs, .slice (some ⟨b, o, none⟩) (xs.length - st) c] w' (SomeStrNil w')) :
    Calls Tryz.prog 192 #[.pointer (some ⟨r, 0, none⟩)] w (SomeStrNil w) := by
  have c0 : w.cell? ⟨r, 0, none⟩ = some (.string (strOfNums xs)) := by rw [cell_of_row w r 0 _ _ (0, 0) h.comp]; rfl
  have c1 : w.cell? ⟨r, 1, none⟩ = some (.pointer (some ⟨q, 0, none⟩)) := by rw [cell_of_row w r 1 _ _ (0, 0) h.comp]; rfl
  have c2 : w.cell? ⟨r, 2, none⟩ = some (.int .i64 st) := by rw [cell_of_row w r 2 _ _ (0, 0) h.comp]; rfl
  have c5 : w.cell? ⟨q, 5, none⟩ = some (.iface 253 (.agg fs)) := by rw [cell_of_row w q 5 _ _ (0, 0) h.prot]; show some p.tr = _; rw [ht]
  have HB := Lib.hid hB
  clear h ht hB
  obtain ⟨cF, WF, hcv, hW⟩ := convBytesF (xs.drop st) (hu.drop st) (by rw [List.length_drop]; omega)
  have hsl := sliceRest xs st hst
  obtain ⟨S, hS⟩ : ∃ S, S = strOfNums xs := ⟨_, rfl⟩
  obtain ⟨S2, hS2⟩ : ∃ S, S = strOfNums (xs.drop st) := ⟨_, rfl⟩
  rw [← hS2] at hcv
  rw [← hS, ← hS2] at hsl
  rw [← hS] at c0
  rw [List.length_drop] at hcv hW
  have HW := Lib.hid hW
  clear hS hS2 hW
  go_enter Tryz.func192, Tryz.ntmps192
  go_wp2_with fail
  go_region_held (fun w' => w'.cell? ⟨r, 0, none⟩ = some (.string S) ∧ w'.cell? ⟨r, 1, none⟩ = some (.pointer (some ⟨q, 0, none⟩)) ∧ w'.cell? ⟨r, 2, none⟩ = some (.int .i64 st) ∧ w'.cell? ⟨q, 5, none⟩ = some (.iface 253 (.agg fs)))
    (first | exact ⟨c0, c1, c2, c5⟩ | exact ⟨cB (HW.out _).2.2.2 c0, cB (HW.out _).2.2.2 c1, cB (HW.out _).2.2.2 c2, cB (HW.out _).2.2.2 c5⟩ | exact ⟨cB hb1 (cB (HW.out w.drew).2.2.2 c0), cB hb1 (cB (HW.out w.drew).2.2.2 c1), cB hb1 (cB (HW.out w.drew).2.2.2 c2), cB hb1 (cB (HW.out w.drew).2.2.2 c5)⟩)
    (first | (go_at_call 451; refine (HB.out w.heap.size 0 (cF w.drew) (WF w.drew) (HW.out w.drew).1 (HW.out w.drew).2.1 (HW.out w.drew).2.2.1 (((Below.refl _ w).drew).trans (HW.out w.drew).2.2.2)).mono ?_; rintro e w1 ⟨s, rfl, hs, hb1⟩))
  go_wp2_with fail
  go_ret2
  have hb0 : Below w.heap.size w (WF w.drew) := ((Below.refl _ w).drew).trans (HW.out w.drew).2.2.2
  exact ⟨_, rfl, hs, hb0.trans (hb1.mono hb0.size)⟩

set_option maxRecDepth 100000 in
theorem twrpB_ip4BtS (f0 f2 v : Value) (w : World) (H : ∀ w', Below w.heap.size w w' → Calls Tryz.prog 216 #[v] w' (SomeStrNil w')) :
    Calls Tryz.prog 451 #[.agg #[f0, .func (Fn.func 216) #[] #[], f2], v] w (SomeStrNil w) := by
  have HH := Lib.hid H
  clear H
  go_enter Tryz.func451, Tryz.ntmps451
  go_wp2_with fail
  refine (HH.out _ ((Below.refl _ _).alloc (Nat.le_refl _) _)).mono ?_
  rintro e w1 ⟨s, rfl, hs, hb1⟩
  go_wp2_with fail
  go_ret2
  exact ⟨_, rfl, hs, ((Below.refl _ _).alloc (Nat.le_refl _) _).trans (hb1.mono (by simp))⟩

set_option maxRecDepth 100000 in
theorem twrpB_portBtS (f0 f2 v : Value) (w : World) (H : ∀ w', Below w.heap.size w w' → Calls Tryz.prog 218 #[v] w' (SomeStrNil w')) :
    Calls Tryz.prog 451 #[.agg #[f0, .func (Fn.func 218) #[] #[], f2], v] w (SomeStrNil w) := by
  have HH := Lib.hid H
  clear H
  go_enter Tryz.func451, Tryz.ntmps451
  go_wp2_with fail
  refine (HH.out _ ((Below.refl _ _).alloc (Nat.le_refl _) _)).mono ?_
  rintro e w1 ⟨s, rfl, hs, hb1⟩
  go_wp2_with fail
  go_ret2
  exact ⟨_, rfl, hs, ((Below.refl _ _).alloc (Nat.le_refl _) _).trans (hb1.mono (by simp))⟩

set_option maxRecDepth 100000 in
theorem twrpB_ip6BtS (f0 f2 v : Value) (w : World) (H : ∀ w', Below w.heap.size w w' → Calls Tryz.prog 223 #[v] w' (SomeStrNil w')) :
    Calls Tryz.prog 451 #[.agg #[f0, .func (Fn.func 223) #[] #[], f2], v] w (SomeStrNil w) := by
  have HH := Lib.hid H
  clear H
  go_enter Tryz.func451, Tryz.ntmps451
  go_wp2_with fail
  refine (HH.out _ ((Below.refl _ _).alloc (Nat.le_refl _) _)).mono ?_
  rintro e w1 ⟨s, rfl, hs, hb1⟩
  go_wp2_with fail
  go_ret2
  exact ⟨_, rfl, hs, ((Below.refl _ _).alloc (Nat.le_refl _) _).trans (hb1.mono (by simp))⟩

set_option maxRecDepth 100000 in
theorem twrpB_p2pBtS (f0 f2 v : Value) (w : World) (H : ∀ w', Below w.heap.size w w' → Calls Tryz.prog 249 #[v] w' (SomeStrNil w')) :
    Calls Tryz.prog 451 #[.agg #[f0, .func (Fn.func 249) #[] #[], f2], v] w (SomeStrNil w) := by
  have HH := Lib.hid H
  clear H
  go_enter Tryz.func451, Tryz.ntmps451
  go_wp2_with fail
  refine (HH.out _ ((Below.refl _ _).alloc (Nat.le_refl _) _)).mono ?_
  rintro e w1 ⟨s, rfl, hs, hb1⟩
  go_wp2_with fail
  go_ret2
  exact ⟨_, rfl, hs, ((Below.refl _ _).alloc (Nat.le_refl _) _).trans (hb1.mono (by simp))⟩

/-- 'no error comes back'. -/
def NoErr (w : World) (e : Ending) (w' : World) : Prop := e = .returned .nilIface ∧ Below w.heap.size w w'
set_option maxRecDepth 100000 in
theorem twrpV0 (f0 f1 v : Value) (w : World) : Calls Tryz.prog 453 #[.agg #[f0, f1, .nilFunc], v] w (NoErr w) := by
  have hq : ∀ w, (binOp .eql 130 .nilFunc .nilFunc).run Tryz.prog w = .ok (.bool true) w := fun w => by kernel_rfl
  go_enter Tryz.func453, Tryz.ntmps453
  go_wp2_with fail
  go_ret
  exact ⟨rfl, (Below.refl _ _).alloc (Nat.le_refl _) _⟩
set_option maxRecDepth 100000 in
theorem twrpV (f0 f1 v : Value) (w : World) (H : ∀ w', Below w.heap.size w w' → Calls Tryz.prog 250 #[v] w' (NoErr w')) :
    Calls Tryz.prog 453 #[.agg #[f0, f1, .func (Fn.func 250) #[] #[]], v] w (NoErr w) := by
  have hq : ∀ w, (binOp .eql 130 (.func (Fn.func 250) #[] #[]) .nilFunc).run Tryz.prog w = .ok (.bool false) w := fun w => by kernel_rfl
  have HH := Lib.hid H
  clear H
  go_enter Tryz.func453, Tryz.ntmps453
  go_wp2_with fail
  refine (HH.out _ ((Below.refl _ _).alloc (Nat.le_refl _) _)).mono ?_
  rintro e w1 ⟨rfl, hb1⟩
  go_wp2_with fail
  go_ret
  exact ⟨rfl, ((Below.refl _ _).alloc (Nat.le_refl _) _).trans (hb1.mono (by simp))⟩

/-- A part's value, by its kind. -/
def ValOk : Nat → List Int → Prop
  | 0, vs => vs.length = 4
  | 1, vs => vs.length = 2
  | 2, vs => vs.length = 2
  | 3, vs => vs.length = 0
  | 4, vs => vs.length = 0
  | 5, vs => vs.length = 0
  | 6, vs => (vs.getD 0 0 = 0 ∨ (vs.getD 0 0 = 18 ∧ vs.getD 1 0 = 32)) ∧ 0 ≤ vs.getD 1 0 ∧ vs.getD 1 0 < 100 ∧ (vs.length : Int) = vs.getD 1 0 + 2
  | _, vs => vs.length = 16
theorem Bs.at {w : World} {b o : Nat} {xs : List Int} (h : Bs w b o xs) (i : Nat) (hi : i < xs.length) : w.cell? ⟨b, o + i, none⟩ = some (.int .u8 (xs.getD i 0)) := h i hi
theorem U8.at {xs : List Int} (h : U8 xs) (i : Nat) (hi : i < xs.length) : 0 ≤ xs.getD i 0 ∧ xs.getD i 0 < 256 := getD_bd h i hi

/-- The transcoder's BytesToString at the bytes of a part's value. -/
theorem btS (k : Nat) (hk : k < 8) (fs : Array Value) (ht : (protOf k).tr = .iface 253 (.agg fs)) (vs : List Int) (hv : ValOk k vs) (hu : U8 vs) (b o n c : Nat) (hn : vs.length = n) (hc : n ≤ c) (hcm : c ≤ 9223372036854775807) (w : World) (hb : Bs w b o vs) (hT : Tab w) :
    Calls Tryz.prog 451 #[.agg fs, .slice (some ⟨b, o, none⟩) n c] w (SomeStrNil w) := by
  rcases kinds k hk with rfl | rfl | rfl | rfl | rfl | rfl | rfl | rfl
  · cases ht
    have hl : vs.length = 4 := hv
    rw [hl] at hn; subst hn
    exact twrpB_ip4BtS _ _ _ w fun w' hw => ip4BtS b o c _ _ _ _ w' (hu.at 0 (by omega)) (hu.at 1 (by omega)) (hu.at 2 (by omega)) (hu.at 3 (by omega)) ((hb.below hw).at 0 (by omega)) ((hb.below hw).at 1 (by omega)) ((hb.below hw).at 2 (by omega)) ((hb.below hw).at 3 (by omega)) (hT.below hw)
  · cases ht
    have hl : vs.length = 2 := hv
    exact twrpB_portBtS _ _ _ w fun w' hw => portBtS b o n c _ _ w' (by omega) (hu.at 0 (by omega)).1 (hu.at 0 (by omega)).2 (hu.at 1 (by omega)).1 (hu.at 1 (by omega)).2 ((hb.below hw).at 0 (by omega)) ((hb.below hw).at 1 (by omega)) (hT.below hw)
  · cases ht
    have hl : vs.length = 2 := hv
    exact twrpB_portBtS _ _ _ w fun w' hw => portBtS b o n c _ _ w' (by omega) (hu.at 0 (by omega)).1 (hu.at 0 (by omega)).2 (hu.at 1 (by omega)).1 (hu.at 1 (by omega)).2 ((hb.below hw).at 0 (by omega)) ((hb.below hw).at 1 (by omega)) (hT.below hw)
  · cases ht
  · cases ht
  · cases ht
  · cases ht
    obtain ⟨h0, h1, h2, h3⟩ := hv
    exact twrpB_p2pBtS _ _ _ w fun w' hw => p2pBtS b o n c _ _ vs w' hn hu hc hcm (by omega) (by omega) h1 (by omega) (by omega) rfl rfl (fun i hi => (hb.below hw).at i (by omega))
  · cases ht
    have hl : vs.length = 16 := hv
    rw [hl] at hn; subst hn
    exact twrpB_ip6BtS _ _ _ w fun w' hw => ip6BtS b o c vs w' hl hc hu (fun i hi => (hb.below hw).at i (by omega)) (hT.below hw)
/-- .. and its ValidateBytes. -/
theorem valB (k : Nat) (hk : k < 8) (fs : Array Value) (ht : (protOf k).tr = .iface 253 (.agg fs)) (vs : List Int) (hv : ValOk k vs) (_hu : U8 vs) (b o n c : Nat) (hn : vs.length = n) (hc : n ≤ c) (hcm : c ≤ 9223372036854775807) (w : World) (hb : Bs w b o vs) :
    Calls Tryz.prog 453 #[.agg fs, .slice (some ⟨b, o, none⟩) n c] w (NoErr w) := by
  rcases kinds k hk with rfl | rfl | rfl | rfl | rfl | rfl | rfl | rfl
  · cases ht; exact twrpV0 _ _ _ w
  · cases ht; exact twrpV0 _ _ _ w
  · cases ht; exact twrpV0 _ _ _ w
  · cases ht
  · cases ht
  · cases ht
  · cases ht
    obtain ⟨h0, h1, h2, h3⟩ := hv
    exact twrpV _ _ _ w fun w' hw => p2pVal_ok b o n c _ _ w' hc hcm h0 h1 (by omega) (by omega) ((hb.below hw).at 0 (by omega)) ((hb.below hw).at 1 (by omega))
  · cases ht; exact twrpV0 _ _ _ w
end Go.Proofs.YtapkmoakbfpkeaaGreatDoor
