/- slices.Clone at lists of slices; sorting of bytes; rotations. Rows of bytes, sorted. The law FnAddrGroups. The law FnAddrGroups: the walk. -/
import Derived.Test.YtapkmoakbfpkeaaGreatDoorZD
import Derived.Shelf.SlSortCmp.NoneTotal
import Derived.Deep.DeepCutAuto
namespace Go.Proofs.YtapkmoakbfpkeaaGreatDoor
open Go Go.RowKit Go.Proofs Go.Sort
theorem infoHs : (Tryz.prog.info? 22).map (fun i => (i.zero, i.size, i.bytes)) = some (some (.slice none 0 0), 1, 24) := by kernel_rfl
theorem nnLL (a : Addr) (n c : Nat) (w : World) : (binOp .eql 42 (.slice (some a) n c) (.slice none 0 0)).run Tryz.prog w = .ok (.bool false) w := by
  have h := run_equal_slice_nil (P := Tryz.prog) w 42 _ (some a) n c Tryz.underlying42
  simp [binOp, h]
theorem n0LL (w : World) : (binOp .eql 42 (.slice none 0 0) (.slice none 0 0)).run Tryz.prog w = .ok (.bool true) w := by
  have h := run_equal_slice_nil (P := Tryz.prog) w 42 _ none 0 0 Tryz.underlying42
  simp [binOp, h]
theorem oeLL (w : World) : (w.alloc (.cells #[] 22)).ownsRow w.heap.size 22 1 (.slice (some ⟨w.heap.size, 0, none⟩) 0 0) 0 [] :=
  ⟨rfl, .inr ⟨w.heap.size, 0, #[], rfl, Nat.le_refl _, heap_alloc_new _ _, Nat.le_refl _, by unfold maxLen; omega, rfl, rfl⟩⟩
set_option maxRecDepth 100000 in
theorem cloneLL (p : Option Addr) (n c : Nat) (us : List Value) (w : World) (h : (Seg.mk p n c us).Ok w) (hn : n ≤ 10000) : Calls Tryz.prog 32 #[.slice p n c] w fun e w' => ∃ v, e = .returned v ∧ w'.ownsRow w.heap.size 22 1 v n us ∧ Below w.heap.size w w' := by
  cases p with
  | none =>
    obtain ⟨rfl, rfl⟩ : n = 0 ∧ c = 0 := h.2.2.1 rfl
    obtain rfl : us = [] := List.length_eq_zero_iff.1 h.1
    have hnn := n0LL w
    clear h
    go_enter Tryz.func32, Tryz.ntmps32
    go_wp2_with fail
    go_ret
    exact ⟨_, rfl, World.ownsRow_nil _ _ _ _, Below.refl _ _⟩
  | some a =>
    obtain ⟨i0, hi, hz0, hz1, hz2⟩ := info_parts infoHs
    have hnn := nnLL a n c w
    have hcell : ∀ j u, us[j]? = some u → w.cell? (a.add j) = some u := fun j u hj => by
      obtain ⟨b, o, e, hc⟩ := h.2.1 j u hj
      obtain rfl := Option.some.inj e
      rw [Lib.add_plain]; exact hc
    have h1 : ∀ u ∈ us, u.oneCell' = true := h.2.2.2
    have hl : us.length = n := h.1
    have HB := Lib.hid (And.intro hcell (And.intro h1 hl))
    clear hcell h1 hl h
    go_enter Tryz.func32, Tryz.ntmps32
    go_wp2_with (at_builtin; refine wpList_append_own _ rfl _ _ 42 rfl w.heap.size 22 i0 _ 1 24 Tryz.underlying42 hi hz0 hz1 hz2 rfl (by decide) _ 0 [] rfl (oeLL w) a n c us rfl (by rw [HB.out.2.2]; omega) (fun j u hj => cB ((Below.refl _ _).alloc (Nat.le_refl _) _) (HB.out.1 j u hj)) HB.out.2.1 (by unfold maxLen; omega) (by omega) (by simp) ?_)
    intro v' w' hown hgrow _
    have hBB : Below w.heap.size w w' := grown_below ((Below.refl _ _).alloc (Nat.le_refl _) _) (oeLL w) hgrow (by simp)
    have HO := Lib.hid (And.intro hown hBB)
    clear hown hgrow hBB
    go_wp2_with fail
    go_ret
    refine ⟨_, rfl, ?_, HO.out.2⟩
    simpa using HO.out.1
theorem nnBB (a : Addr) (n c : Nat) (w : World) : (binOp .eql 30 (.slice (some a) n c) (.slice none 0 0)).run Tryz.prog w = .ok (.bool false) w := by
  have h := run_equal_slice_nil (P := Tryz.prog) w 30 _ (some a) n c Tryz.underlying30
  simp [binOp, h]
theorem n0BB (w : World) : (binOp .eql 30 (.slice none 0 0) (.slice none 0 0)).run Tryz.prog w = .ok (.bool true) w := by
  have h := run_equal_slice_nil (P := Tryz.prog) w 30 _ none 0 0 Tryz.underlying30
  simp [binOp, h]
theorem oeBB (w : World) : (w.alloc (.cells #[] 23)).ownsRow w.heap.size 23 1 (.slice (some ⟨w.heap.size, 0, none⟩) 0 0) 0 [] :=
  ⟨rfl, .inr ⟨w.heap.size, 0, #[], rfl, Nat.le_refl _, heap_alloc_new _ _, Nat.le_refl _, by unfold maxLen; omega, rfl, rfl⟩⟩
set_option maxRecDepth 100000 in
theorem cloneBB (p : Option Addr) (n c : Nat) (us : List Value) (w : World) (h : (Seg.mk p n c us).Ok w) (hn : n ≤ 10000) : Calls Tryz.prog 33 #[.slice p n c] w fun e w' => ∃ v, e = .returned v ∧ w'.ownsRow w.heap.size 23 1 v n us ∧ Below w.heap.size w w' := by
  cases p with
  | none =>
    obtain ⟨rfl, rfl⟩ : n = 0 ∧ c = 0 := h.2.2.1 rfl
    obtain rfl : us = [] := List.length_eq_zero_iff.1 h.1
    have hnn := n0BB w
    clear h
    go_enter Tryz.func33, Tryz.ntmps33
    go_wp2_with fail
    go_ret
    exact ⟨_, rfl, World.ownsRow_nil _ _ _ _, Below.refl _ _⟩
  | some a =>
    obtain ⟨i0, hi, hz0, hz1, hz2⟩ := info_parts infoBs
    have hnn := nnBB a n c w
    have hcell : ∀ j u, us[j]? = some u → w.cell? (a.add j) = some u := fun j u hj => by
      obtain ⟨b, o, e, hc⟩ := h.2.1 j u hj
      obtain rfl := Option.some.inj e
      rw [Lib.add_plain]; exact hc
    have h1 : ∀ u ∈ us, u.oneCell' = true := h.2.2.2
    have hl : us.length = n := h.1
    have HB := Lib.hid (And.intro hcell (And.intro h1 hl))
    clear hcell h1 hl h
    go_enter Tryz.func33, Tryz.ntmps33
    go_wp2_with (at_builtin; refine wpList_append_own _ rfl _ _ 30 rfl w.heap.size 23 i0 _ 1 24 Tryz.underlying30 hi hz0 hz1 hz2 rfl (by decide) _ 0 [] rfl (oeBB w) a n c us rfl (by rw [HB.out.2.2]; omega) (fun j u hj => cB ((Below.refl _ _).alloc (Nat.le_refl _) _) (HB.out.1 j u hj)) HB.out.2.1 (by unfold maxLen; omega) (by omega) (by simp) ?_)
    intro v' w' hown hgrow _
    have hBB : Below w.heap.size w w' := grown_below ((Below.refl _ _).alloc (Nat.le_refl _) _) (oeBB w) hgrow (by simp)
    have HO := Lib.hid (And.intro hown hBB)
    clear hown hgrow hBB
    go_wp2_with fail
    go_ret
    refine ⟨_, rfl, ?_, HO.out.2⟩
    simpa using HO.out.1
theorem srt_eq {A B : List (List Int)} (hA : A.Pairwise fun a b => cmpL a b ≤ 0) (hB : B.Pairwise fun a b => cmpL a b ≤ 0) (h : A.Perm B) : A = B :=
  List.Perm.eq_of_pairwise (fun a b _ _ h1 h2 => cmpL_zero _ _ (by have := cmpL_swap a b; omega)) hA hB h
/-- Where the addresses are turned round, the peers are the same; each one's addresses are the same, in some order. -/
theorem infos_rot {A B : List Adr} {J J' : List (List Int × List Adr)} (h : IsInfos (A ++ B) J) (h' : IsInfos (B ++ A) J') : J'.length = J.length ∧ ∀ (i : Nat) x x', J[i]? = some x → J'[i]? = some x' → x'.1 = x.1 ∧ x'.2.Perm x.2 := by
  have some_iff : ∀ id, (∃ ts, Fof (A ++ B) id = some ts) ↔ ∃ ts, Fof (B ++ A) id = some ts := fun id => by
    rw [Fof_append, Fof_append]
    cases Fof A id <;> cases Fof B id <;> simp
  have perm : ∀ id ts ts', Fof (A ++ B) id = some ts → Fof (B ++ A) id = some ts' → ts'.Perm ts := fun id ts ts' e e' => by
    rw [Fof_append] at e e'
    cases hA : Fof A id <;> cases hB : Fof B id <;> rw [hA, hB] at e e' <;> simp at e e'
    all_goals (subst e e'; first | exact List.Perm.refl _ | exact List.perm_append_comm)
  have key : ∀ {L : List Adr} {I : List (List Int × List Adr)}, IsInfos L I → ∀ id, id ∈ I.map (·.1) ↔ ∃ ts, Fof L id = some ts := fun {L I} hI id => by
    rw [List.mem_map]
    constructor
    · rintro ⟨⟨i, ts⟩, hm, rfl⟩; exact ⟨ts, (hI.2 i ts).1 hm⟩
    · rintro ⟨ts, e⟩; exact ⟨(id, ts), (hI.2 id ts).2 e, rfl⟩
  have hmap : J'.map (·.1) = J.map (·.1) := sorted_eq (lt := fun a b => cmpL a b < 0) (fun x => by simp [cmpL_self]) (fun x y hxy hyx => by have := cmpL_swap x y; omega) (List.pairwise_map.2 h'.1) (List.pairwise_map.2 h.1) fun id => by rw [key h' id, key h id, some_iff]
  refine ⟨by have := congrArg List.length hmap; simpa using this, fun i x x' e e' => ?_⟩
  have h1 : x'.1 = x.1 := by
    have h2 : (J'.map (·.1))[i]? = (J.map (·.1))[i]? := by rw [hmap]
    rw [List.getElem?_map, List.getElem?_map, e, e'] at h2
    simpa using h2
  refine ⟨h1, perm x.1 _ _ ((h.2 x.1 x.2).1 (List.mem_of_getElem? e)) ?_⟩
  rw [← h1]
  exact (h'.2 x'.1 x'.2).1 (List.mem_of_getElem? e')
end Go.Proofs.YtapkmoakbfpkeaaGreatDoor
namespace Go.Proofs.YtapkmoakbfpkeaaGreatDoor
open Go Go.RowKit Go.Proofs Go.Sort Go.Shelf
theorem sort1_block (W : World) (g m : Nat) (enc : Nat → Value) (dk : Array Nat) (os : Array Obj) (cur : Array Value) (T : TypeId) (hh : W.heap[g]? = some (Obj.cells cur T (0, 0))) :
    (sortWorld enc W g 0 m dk os).heap[g]? = some (Obj.cells (putCells enc 0 dk cur) T (0, 0)) := by
  have hg := (Array.getElem?_eq_some_iff.1 hh).1
  unfold sortWorld
  rw [heap_grow_old _ _ (by simpa [putRow, mapBlock] using hg)]
  simp [putRow, mapBlock, Array.getElem?_modify, hh, onCells]
theorem sort1_other (W : World) (g m : Nat) (enc : Nat → Value) (dk : Array Nat) (os : Array Obj) (i : Nat) (hi : i < W.heap.size) (hne : i ≠ g) :
    (sortWorld enc W g 0 m dk os).heap[i]? = W.heap[i]? := by
  unfold sortWorld
  rw [heap_grow_old _ _ (by simpa [putRow, mapBlock] using hi)]
  simp [putRow, mapBlock, Array.getElem?_modify, Ne.symm hne]
theorem put1_take (e : Nat → Value) (dk : Array Nat) (cur : Array Value) (n : Nat) (hn : dk.size = n) (hc : n ≤ cur.size) :
    (putCells e 0 dk cur).toList.take n = dk.toList.map e := by
  refine List.ext_getElem? fun t => ?_
  by_cases ht : t < n
  · rw [List.getElem?_take_of_lt ht, Array.getElem?_toList, List.getElem?_map, Array.getElem?_toList]
    unfold putCells
    rw [Array.getElem?_mapIdx, Array.getElem?_eq_getElem (by omega : t < cur.size), Array.getElem?_eq_getElem (by omega : t < dk.size)]
    simp [hn, ht]
  · rw [List.getElem?_eq_none (by simp; omega), List.getElem?_eq_none (by simp; omega)]
theorem kept1_sort (W : World) (g m : Nat) (enc : Nat → Value) (dk : Array Nat) (os : Array Obj) (cur : Array Value) (T : TypeId) (hh : W.heap[g]? = some (Obj.cells cur T (0, 0))) : Kept T W (sortWorld enc W g 0 m dk os) := fun i cs t _ hi ht => by
  refine (sort1_other W g m enc dk os i (Array.getElem?_eq_some_iff.1 hi).1 fun e => ?_).trans hi
  subst e
  have e2 := Option.some.inj (hh.symm.trans hi)
  injection e2 with _ e3
  exact ht e3.symm
theorem below1_sort (W : World) (B g m : Nat) (enc : Nat → Value) (dk : Array Nat) (os : Array Obj) (hg : B ≤ g) (hB : B ≤ W.heap.size) : Below B W (sortWorld enc W g 0 m dk os) :=
  ⟨rfl, rfl, rfl, by unfold sortWorld; simp [putRow, mapBlock], fun k hk => sort1_other W g m enc dk os k (by omega) (by omega)⟩
theorem sortNoneBB (p : Option Addr) (cap : Nat) (fv : Value) (w : World) : Calls Tryz.prog 34 #[.slice p 0 cap, fv] w fun e w' => e = .returned (.tuple #[]) ∧ w' = w := AnyF.slices_SortFunc_none { Tryz.sortBB with } p cap fv w
def Sorted (S : List Adr) : Prop := (S.map addrB).Pairwise fun a b => cmpL a b ≤ 0
set_option maxRecDepth 100000 in
theorem sortRows (W : World) (B c n : Nat) (p : Option Addr) (R : List Adr) (hn : R.length = n) (hn1 : n ≤ 1000) (hrow : BRow W B (.slice p n c) R) (hU : ∀ x ∈ R, U8 (addrB x)) (hB : B ≤ W.heap.size) :
    Calls Tryz.prog 34 #[.slice p n c, .func (.func 35) #[] #[]] W fun e w' => e = .returned (.tuple #[]) ∧ ∃ S, S.Perm R ∧ Sorted S ∧ BRow w' B (.slice p n c) S ∧ Below B W w' ∧ (W.grownBy w' (Value.slice p n c).ownBlock) := by
  rcases Nat.eq_zero_or_pos n with h0 | h0
  · subst h0
    refine (sortNoneBB p c _ W).mono ?_
    rintro e w' ⟨rfl, rfl⟩
    exact ⟨rfl, R, List.Perm.refl _, by rw [List.length_eq_zero_iff.1 hn]; exact List.Pairwise.nil, hrow, Below.refl _ _, ⟨rfl, rfl, rfl, Nat.le_refl _, fun _ _ _ => rfl⟩⟩
  obtain ⟨us, hul, hown, hP⟩ := hrow
  rw [hn] at hown
  rcases id hown.2 with ⟨_, e⟩ | ⟨g, cap, cur, e, hBg, hh, hcap, hmax, hsz, htk⟩
  · omega
  injection e with e1 e2 e3
  subst e1 e3
  let eU : Nat → Value := fun i => us.getD (i % n) (.slice none 0 0)
  let eR : Nat → Adr := fun i => R.getD (i % n) []
  have hPm : ∀ i, BV W B (eU i) (addrB (eR i)) := fun i => by
    have hi : i % n < n := Nat.mod_lt _ h0
    refine hP (i % n) _ _ ?_ ?_
    · show us[i % n]? = some (us.getD (i % n) (.slice none 0 0))
      simp [List.getD, List.getElem?_eq_getElem (show i % n < us.length by omega)]
    · show R[i % n]? = some (R.getD (i % n) [])
      simp [List.getD, List.getElem?_eq_getElem (show i % n < R.length by omega)]
  have hRm : ∀ i, eR i ∈ R := fun i => by
    have hi : i % n < n := Nat.mod_lt _ h0
    show R.getD (i % n) [] ∈ R
    simp [List.getD, List.getElem?_eq_getElem (show i % n < R.length by omega)]
  have hH : Holds eU W g 0 (Array.range n) := by
    intro j hj
    rw [Array.size_range] at hj
    rw [Nat.zero_add]
    constructor
    · have h4 := hown.cellAt j (by omega)
      rw [h4, getElem!_pos (Array.range n) j (by simpa using hj), Array.getElem_range, List.getElem?_eq_getElem (show j < us.length by omega)]
      show some us[j] = some (us.getD (j % n) (.slice none 0 0))
      rw [Nat.mod_eq_of_lt hj]
      simp [List.getD, List.getElem?_eq_getElem (show j < us.length by omega)]
    · simp [World.frozen?, hh]
  have hcmp : CmpLays1 Tryz.prog 35 #[] eU (fun i j => cmpL (addrB (eR i)) (addrB (eR j))) g 0 (Array.range n).size W := fun m os dk _ x y => by
    have hk := kept1_sort W g m eU dk os cur _ hh
    obtain ⟨g1, c1, cs1, e1, _, _, hb1⟩ := hk.bv (by decide) (hPm x)
    obtain ⟨g2, c2, cs2, e2, _, _, hb2⟩ := hk.bv (by decide) (hPm y)
    rw [e1, e2]
    refine (bytesCompare g1 0 _ c1 g2 0 _ c2 _ _ _ rfl rfl (hU _ (hRm x)) (hU _ (hRm y)) hb1 hb2).mono ?_
    rintro e w' ⟨rfl, rfl⟩
    exact ⟨rfl, 0, #[], by rw [grow_empty]; rfl⟩
  have eg : ∀ args w, (callFunc 35 args).run Tryz.prog w = .ok (.enter 35 args) w := enters_of Tryz.func35 (by kernel_rfl) rfl
  have hcon := Any.slices_SortFunc Tryz.sortBB eU (fun i => (hPm i).one) (fun i j => cmpL (addrB (eR i)) (addrB (eR j))) (cmpL_swo fun i => addrB (eR i)) 35 #[] g 0 c (Array.range n) W eg hcmp hH (Array.getElem?_eq_some_iff.1 hh).1 (by simp; omega)
  rw [Array.size_range] at hcon
  refine hcon.mono ?_
  rintro e w' ⟨rfl, d', m, os, hp, hs, rfl⟩
  obtain ⟨hsz', _, hperm⟩ := hp
  rw [Array.size_range] at hsz'
  have hperm' : d'.toList.Perm (List.range n) := by
    have e1 : d'.extract 0 n = d' := by rw [← hsz']; exact Array.extract_size
    have e2 : (Array.range n).extract 0 n = Array.range n := by
      have h : (Array.range n).extract 0 (Array.range n).size = Array.range n := Array.extract_size
      rwa [Array.size_range] at h
    rw [e1, e2, Array.toList_range] at hperm
    exact hperm
  have hI : (d'.toList.map eR).Perm R := by
    have := hperm'.map eR
    rwa [map_range R [] n hn] at this
  refine ⟨rfl, d'.toList.map eR, hI, ?_, ⟨d'.toList.map eU, by simp, ⟨?_, .inr ⟨g, c, _, ?_, hBg, sort1_block W g m _ d' os cur _ hh, ?_, hmax, ?_, ?_⟩⟩, fun i u x h1 h2 => ?_⟩, below1_sort W B g m _ d' os hBg hB, ?_⟩
  · unfold Sorted
    rw [List.pairwise_iff_getElem]
    intro i j hi hj hij
    have hi' : i < d'.size := by simpa using hi
    have hj' : j < d'.size := by simpa using hj
    have h1 := hs i j (Nat.zero_le _) hij (by omega)
    rw [getElem!_pos d' i hi', getElem!_pos d' j hj'] at h1
    simp only [ltOf, decide_eq_false_iff_not] at h1
    have h2 := cmpL_swap (addrB (eR d'[i])) (addrB (eR d'[j]))
    show cmpL _ _ ≤ 0
    simp
    omega
  · simp
  · rw [List.length_map, Array.length_toList, hsz']
  · rw [List.length_map, Array.length_toList, hsz']; exact hcap
  · simpa [putCells] using hsz
  · rw [List.length_map, Array.length_toList, hsz', Nat.mul_one]
    exact put1_take eU d' cur n hsz' (by omega)
  · have hk := kept1_sort W g m eU d' os cur _ hh
    rw [List.getElem?_map] at h1 h2
    obtain ⟨a, ha, rfl⟩ := Option.map_eq_some_iff.1 h1
    rw [ha] at h2
    obtain rfl := Option.some.inj h2
    exact hk.bv (by decide) (hPm a)
  · exact ⟨rfl, rfl, rfl, by unfold sortWorld; simp [putRow, mapBlock], fun k hk hne => sort1_other W g m eU d' os k hk fun e => hne (by rw [e]; rfl)⟩
end Go.Proofs.YtapkmoakbfpkeaaGreatDoor
namespace Go.Proofs.YtapkmoakbfpkeaaGreatDoor
open Go Go.RowKit Go.Proofs Go.Sort
theorem addrB_u8 : ∀ hs : Adr, (∀ x ∈ hs, HopOk x) → U8 (addrB hs)
  | [], _ => fun x hx => by simp [addrB] at hx
  | h :: t, hh => by
    rw [addrB_cons]
    obtain ⟨a, b, c⟩ := hh h (by simp)
    exact (hopU8 h.1 a h.2 b c).append (addrB_u8 t fun x hx => hh x (by simp [hx]))
theorem LLIn.row {w : World} {B n c : Nat} {p : Option Addr} {M : List LEl} (ho : w.ownsRow B 22 1 (.slice p n c) n (M.map LEl.v)) (hM : ∀ a ∈ M, LIn w a.p a.l ∧ a.l.length ≤ a.c) : LLIn w p M := fun hpos => by
  have hl : M.length = n := by have := ho.1; simpa using this
  rcases id ho.2 with ⟨_, h0⟩ | ⟨g, cap, cur, e, _⟩
  · omega
  · injection e with e1 _ e3
    subst e1 e3
    refine ⟨g, 0, rfl, fun i a hi => ⟨?_, hM a (List.mem_of_getElem? hi)⟩⟩
    have h2 := (List.getElem?_eq_some_iff.1 hi).1
    rw [Nat.zero_add, ho.cellAt i (by omega), List.getElem?_map, hi]
    rfl
theorem LLIn.els {w : World} {p : Option Addr} {ls : List LEl} (h : LLIn w p ls) : ∀ a ∈ ls, LIn w a.p a.l ∧ a.l.length ≤ a.c := fun a ha => by
  obtain ⟨b, o, _, hat⟩ := h (List.length_pos_of_mem ha)
  obtain ⟨i, hi⟩ := List.getElem?_of_mem ha
  exact (hat i a hi).2
theorem rotLL (k c kk b o : Nat) (ls : List LEl) (w : World) (h : LLAt w b o ls) (hk : ls.length = k) (hkk : kk < k) (hn : k ≤ 1000) (g c' : Nat) (h0 : w.cell? ⟨g, 0, none⟩ = some (.slice (some ⟨b, o + kk, none⟩) (k - kk) (c - kk))) (h1 : w.cell? ⟨g, 1, none⟩ = some (.slice (some ⟨b, o, none⟩) kk c)) :
    Calls Tryz.prog 25 #[.slice (some ⟨g, 0, none⟩) 2 c'] w fun e w' => ∃ p5 c5, e = .returned (.slice p5 k c5) ∧ LLIn w' p5 (ls.drop kk ++ ls.take kk) ∧ Below w.heap.size w w' := by
  have hA : LLIn w (some ⟨b, o + kk, none⟩) (ls.drop kk) := fun _ => ⟨b, o + kk, rfl, fun i a hi => by rw [List.getElem?_drop] at hi; rw [Nat.add_assoc]; exact h _ a hi⟩
  have hC : LLIn w (some ⟨b, o, none⟩) (ls.take kk) := fun _ => ⟨b, o, rfl, fun i a hi => by
    have h2 := (List.getElem?_eq_some_iff.1 hi).1
    rw [List.length_take] at h2
    rw [List.getElem?_take_of_lt (by omega)] at hi
    exact h _ a hi⟩
  have okA := segL (c := c - kk) hA (show (ls.drop kk).length = k - kk by rw [List.length_drop, hk]) (fun e => by cases e)
  have okC := segL (c := c) hC (show (ls.take kk).length = kk by rw [List.length_take, hk]; omega) (fun e => by cases e)
  refine (concatLL [⟨some ⟨b, o + kk, none⟩, k - kk, c - kk, (ls.drop kk).map LEl.v⟩, ⟨some ⟨b, o, none⟩, kk, c, (ls.take kk).map LEl.v⟩] 2 rfl (by decide) (by simp [sumG]; omega) g c' w fun i s hi => ?_).mono ?_
  · match i, hi with
    | 0, hi => obtain rfl := Option.some.inj hi
               exact ⟨h0, okA⟩
    | 1, hi => obtain rfl := Option.some.inj hi
               exact ⟨h1, okC⟩
  · rintro e w' ⟨v, rfl, hown, hB⟩
    have e1 : sumG [(⟨some ⟨b, o + kk, none⟩, k - kk, c - kk, (ls.drop kk).map LEl.v⟩ : Seg), ⟨some ⟨b, o, none⟩, kk, c, (ls.take kk).map LEl.v⟩] = k := by simp [sumG]; omega
    have e2 : catG [(⟨some ⟨b, o + kk, none⟩, k - kk, c - kk, (ls.drop kk).map LEl.v⟩ : Seg), ⟨some ⟨b, o, none⟩, kk, c, (ls.take kk).map LEl.v⟩] = (ls.drop kk ++ ls.take kk).map LEl.v := by simp [catG]
    rw [e1, e2] at hown
    obtain ⟨p5, c5, rfl⟩ : ∃ p c, v = .slice p k c := by
      rcases hown.2 with ⟨e, h0⟩ | ⟨g5, c5, _, e, _⟩
      · exact ⟨none, 0, by rw [e, h0]⟩
      · exact ⟨_, c5, e⟩
    refine ⟨p5, c5, rfl, LLIn.row hown fun a ha => ?_, hB⟩
    have hm : a ∈ ls := by
      rcases List.mem_append.1 ha with ha | ha
      · exact List.mem_of_mem_drop ha
      · exact List.mem_of_mem_take ha
    have hl : LLIn w (some ⟨b, o, none⟩) ls := fun _ => ⟨b, o, rfl, h⟩
    exact (hl.below hB).els a hm
theorem cloneRow (B : Nat) (p : Option Addr) (n c : Nat) (ts : List Adr) (w : World) (h : BRow w B (.slice p n c) ts) (hn : n ≤ 1000) (hB : B ≤ w.heap.size) :
    Calls Tryz.prog 33 #[.slice p n c] w fun e w' => ∃ p' c', e = .returned (.slice p' n c') ∧ BRow w' B (.slice p' n c') ts ∧ (∀ g, (Value.slice p' n c').ownBlock = some g → w.heap.size ≤ g ∧ g < w'.heap.size) ∧ Below w.heap.size w w' := by
  obtain ⟨us, hok, hul, hP⟩ := segB h
  have hun : us.length = n := hok.1
  refine (cloneBB p n c us w hok (by omega)).mono ?_
  rintro e w' ⟨v, rfl, ho, hb⟩
  obtain ⟨p', c', rfl⟩ : ∃ p c, v = .slice p n c := by
    rcases ho.2 with ⟨e, h0⟩ | ⟨g5, c5, _, e, _⟩
    · exact ⟨none, 0, by rw [e, h0]⟩
    · exact ⟨_, c5, e⟩
  refine ⟨p', c', rfl, ⟨us, hul, ?_, fun i u x h1 h2 => (hP i u x h1 h2).below hb⟩, fun g hg => ho.lt g hg, hb⟩
  rw [← hul, hun]
  refine ⟨ho.1, ?_⟩
  rcases ho.2 with h | ⟨g, cap, cur, hv, hg, r⟩
  · exact .inl h
  · exact .inr ⟨g, cap, cur, hv, Nat.le_trans hB hg, r⟩
theorem list_same {w : World} {p : Option Addr} {S T : List Adr} (h : S.map addrB = T.map addrB) (hT : ListIn w p T) : ListIn w p S := fun i hs hi => by
  have hl : S.length = T.length := by have := congrArg List.length h; simpa using this
  have hlt := (List.getElem?_eq_some_iff.1 hi).1
  obtain ⟨t, ht⟩ : ∃ t, T[i]? = some t := ⟨_, List.getElem?_eq_getElem (by omega)⟩
  have he : addrB hs = addrB t := by
    have h2 : (S.map addrB)[i]? = (T.map addrB)[i]? := by rw [h]
    rw [List.getElem?_map, List.getElem?_map, hi, ht] at h2
    simpa using h2
  rw [he]
  exact hT i t ht
theorem BRow.keep {w w' : World} {B : Nat} {v : Value} {ts : List Adr} {r : Option Nat} {B2 n2 : Nat} {v2 : Value} {us : List Value} (h : BRow w B v ts) (ho : w.ownsRow B2 23 1 v2 n2 us) (hg : w.grownBy w' r) (hr : r = v2.ownBlock) (hne : v.ownBlock = none ∨ v.ownBlock ≠ r) : BRow w' B v ts := by
  subst hr
  have hK : Kept 23 w w' := Kept.row ho hg
  exact RowP.moved h (fun _ hh => hh.kept hg hne) fun _ _ hm => hK.bv (by decide) hm
end Go.Proofs.YtapkmoakbfpkeaaGreatDoor
namespace Go.Proofs.YtapkmoakbfpkeaaGreatDoor
open Go Go.RowKit Go.Proofs Go.Sort
set_option maxHeartbeats 16000000 in
set_option maxRecDepth 100000 in
theorem lawGroups (f : List Int → List Int) (hf : ShaIs f) (p : Option Addr) (c k : Nat) (ls : List LEl) (hk : ls.length = k) (hkc : k ≤ c) (hcm : c ≤ 9223372036854775807 ∧ (p = none → c = 0)) (by_ : Int) (hby : 0 ≤ by_ ∧ by_ < 256) (w : World) (hb : LLIn w p ls) (hT : Tab w) (hE : ErrV w) :
    Calls Tryz.prog 7 #[.slice p k c, .int .u8 by_] w fun e w' => e = .returned (.bool true) ∧ Below w.heap.size w w' := by
  have HB := Lib.hid (And.intro hb (And.intro hf (And.intro hT (And.intro hk (And.intro hE (And.intro (show k ≤ 9223372036854775807 by omega) hcm.2))))))
  have awake : ∀ (wx : World), Below w.heap.size w wx → Calls Tryz.prog 13 #[] wx fun e w' => e = .returned (.bool true) ∧ Below w.heap.size w w' := fun wx hx => (addrAwake f hf wx (hT.below hx)).mono fun e w' ⟨he, hB⟩ => ⟨he, hx.trans (hB.mono hx.size)⟩
  have HW := Lib.hid awake
  obtain ⟨bn, rfl⟩ : ∃ n : Nat, by_ = (n : Int) := ⟨by_.toNat, by omega⟩
  have hbn : bn < 256 := by omega
  have hbw : IntKind.i64.wrap (bn : Int) = (bn : Int) := by rw [IntKind.wrap_i64]; omega
  clear hb hf hT hk hE awake hby
  go_enter Tryz.func7, Tryz.ntmps7
  go_wp2_with fail
  refine (zzFits3 p c k ls HB.out.2.2.2.1 w HB.out.1).mono ?_
  rintro e w1 ⟨r, rfl, hB1⟩
  have H1 := Lib.hid hB1
  clear hB1
  cases r with
  | false =>
    go_wp2_with fail
    go_ret
    exact ⟨rfl, H1.out⟩
  | true =>
    go_wp2_with fail
    refine (addrShortL p c k ls HB.out.2.2.2.1 HB.out.2.2.2.2.2.1 w1 (HB.out.1.below H1.out)).mono ?_
    rintro e w2 ⟨r, rfl, hB2, hr⟩
    have H2 := Lib.hid (And.intro (H1.out.trans (hB2.mono H1.out.size)) hr)
    clear hB2 hr
    cases r with
    | false =>
      go_wp2_with fail
      refine (HW.out _ H2.out.1).mono ?_
      rintro e w3 ⟨rfl, hB3⟩
      go_wp2_with fail
      go_ret
      exact ⟨rfl, hB3⟩
    | true =>
      obtain ⟨hk60, hsh⟩ := H2.out.2 rfl
      have HS := Lib.hid hsh
      clear hsh
      go_wp2_with fail
      refine (specInfos f HB.out.2.1 p c k ls HB.out.2.2.2.1 (by omega) HS.out w2 (HB.out.1.below H2.out.1)).mono ?_
      rintro e w3 ⟨pb, nb, cb, ok, J, hJn, rfl, hrJ, htJ, hB3⟩
      have hw3 := H2.out.1.trans (hB3.mono H2.out.1.size)
      have H3 := Lib.hid (And.intro hrJ (And.intro htJ (And.intro hw3 (And.intro hJn hB3.size))))
      clear hrJ htJ hw3 hB3 hJn
      cases ok with
      | false =>
        go_wp2_with fail
        refine (HW.out _ H3.out.2.2.1).mono ?_
        rintro e w4 ⟨rfl, hB4⟩
        go_wp2_with fail
        go_ret
        exact ⟨rfl, hB4⟩
      | true =>
        go_wp2_with fail
        have hseg := segL (HB.out.1.below H3.out.2.2.1) HB.out.2.2.2.1 HB.out.2.2.2.2.2.2
        refine (cloneLL p k c (ls.map LEl.v) w3 hseg (by omega)).mono ?_
        rintro e w4 ⟨v4, rfl, ho4, hB4⟩
        obtain ⟨p4, c4, rfl⟩ : ∃ p c, v4 = .slice p k c := by
          rcases ho4.2 with ⟨e, h0⟩ | ⟨g5, c5, _, e, _⟩
          · exact ⟨none, 0, by rw [e, h0]⟩
          · exact ⟨_, c5, e⟩
        have H4 := Lib.hid (And.intro hB4 (H3.out.2.2.1.trans (hB4.mono H3.out.2.2.1.size)))
        clear hseg ho4 hB4
        go_upto_if 34 with fail
        go_cut [7] (fun tv wx => ∃ (pt : Option Addr) (ct : Nat) (M : List LEl), tv = .slice pt k ct ∧ Hid (LLIn wx pt M ∧ (∃ j, M = ls.drop j ++ ls.take j) ∧ Below w4.heap.size w4 wx))
        case first =>
          by_cases hk0 : 0 < k
          · have hd0 : decide (0 < k) = true := by rw [decide_eq_true_iff]; exact hk0
            obtain ⟨kk, hkk⟩ : ∃ kk, kk = bn % k := ⟨_, rfl⟩
            have hkl : kk < k := by rw [hkk]; exact Nat.mod_lt _ hk0
            have hkm : (bn : Int) % (k : Int) = (kk : Int) := by rw [hkk]; omega
            obtain ⟨b, o, rfl, hat⟩ := HB.out.1 (by rw [HB.out.2.2.2.1]; exact hk0)
            have hckk : ¬ (c = kk) := by omega
            have hkle : kk ≤ k := by omega
            have hkcc : kk ≤ c := by omega
            have hb5 : Below w4.heap.size w4 (w4.drew.alloc (.cells #[.slice (some ⟨b, o + kk, none⟩) (k - kk) (c - kk), .slice (some ⟨b, o, none⟩) kk c] 42)) := ((Below.refl _ _).drew).alloc (Nat.le_refl _) _
            have hrot := rotLL k c kk b o ls _ ((hat.below H4.out.2).below hb5) HB.out.2.2.2.1 hkl (by omega) w4.heap.size 2 (World.cell?_alloc_mark w4.drew _ _ _ 0) (World.cell?_alloc_mark w4.drew _ _ _ 1)
            have HR := Lib.hid (And.intro hrot hb5)
            clear hrot hb5 hat hkk
            go_upto_region 11 with fail
            go_region_law (go_simp; go_at_call 25; refine HR.out.1.mono ?_; rintro e w5 ⟨p5, c5, rfl, hl5, hB5⟩)
            all_goals
              go_wp2_with fail
              go_meet
              case rel => exact ⟨p5, c5, _, rfl, hl5, ⟨kk, rfl⟩, HR.out.2.trans (hB5.mono HR.out.2.size)⟩
          · have hd0 : decide (0 < k) = false := by rw [decide_eq_false_iff_not]; exact hk0
            go_wp2_with fail
            go_meet
            case rel =>
              obtain rfl : ls = [] := List.length_eq_zero_iff.1 (by rw [HB.out.2.2.2.1]; omega)
              exact ⟨p4, c4, [], rfl, fun h => by simp at h, ⟨0, rfl⟩, Below.refl _ _⟩
        case rest =>
          obtain ⟨pt, ct, M, rfl, hC⟩ := hcut
          have hw5 : Below w.heap.size w wc := H4.out.2.trans (hC.out.2.2.mono H4.out.2.size)
          obtain ⟨j, hMj⟩ := hC.out.2.1
          have hMk : M.length = k := by rw [hMj, List.length_append, List.length_drop, List.length_take, HB.out.2.2.2.1]; omega
          have hMin : ∀ a ∈ M, a ∈ ls := fun a ha => by
            rw [hMj] at ha
            rcases List.mem_append.1 ha with ha | ha
            · exact List.mem_of_mem_drop ha
            · exact List.mem_of_mem_take ha
          have hsM : ∀ a ∈ M, Short a := fun a ha => HS.out a (hMin a ha)
          have HM := Lib.hid (And.intro hw5 (And.intro hMj (And.intro hMk hsM)))
          clear hw5 hMj hMk hMin hsM
          go_wp2_with fail
          refine (addrList f HB.out.2.1 pt ct k M HM.out.2.2.1 (by omega) HM.out.2.2.2 wc hC.out.1).mono ?_
          rintro e w6 ⟨v, rfl, hrow, hB6⟩
          obtain ⟨p6, c6, rfl, _⟩ := RowP.slice hrow
          have hal : (adrs f M).length = k := by unfold adrs; rw [List.length_map]; exact HM.out.2.2.1
          rw [hal] at hrow ⊢
          have hw6 := HM.out.1.trans (hB6.mono HM.out.1.size)
          have hokL : ∀ x ∈ adrs f ls, AdrOk x := adrs_ok HB.out.2.1 HB.out.1 HS.out
          have hokM : ∀ x ∈ adrs f M, AdrOk x := adrs_ok HB.out.2.1 hC.out.1 HM.out.2.2.2
          have hin := implTold (adrs f M) hokM p6 k c6 w6 hal (by omega) (BRow.list hrow) (HB.out.2.2.1.below hw6) (HB.out.2.2.2.2.1.below hw6)
          have H6 := Lib.hid (And.intro hin (And.intro hw6 (And.intro hal (And.intro hokL hB6))))
          clear hin hw6 hal hrow hB6 hokL hokM
          go_wp2_with fail
          refine H6.out.1.mono ?_
          rintro e w7 ⟨va, ok', I, rfl, hrI, htI, hB7⟩
          have hLA : adrs f ls = adrs f (ls.take j) ++ adrs f (ls.drop j) := by unfold adrs; rw [← List.map_append, List.take_append_drop]
          have hMA : adrs f M = adrs f (ls.drop j) ++ adrs f (ls.take j) := by unfold adrs; rw [HM.out.2.1, List.map_append]
          obtain ⟨h6, hJ⟩ : (∀ hs ∈ adrs f ls, ends6 hs) ∧ IsInfos (adrs f ls) J := by
            rcases H3.out.2.1 with ⟨_, a, b⟩ | ⟨h, _⟩
            · exact ⟨a, b⟩
            · cases h
          obtain ⟨rfl, hI⟩ : ok' = true ∧ IsInfos (adrs f M) I := by
            rcases htI with ⟨a, _, b⟩ | ⟨_, ⟨x, hx, hn⟩, _⟩
            · exact ⟨a, b⟩
            · refine absurd (h6 x ?_) hn
              rw [hMA] at hx
              rw [hLA]
              exact List.mem_append.2 (List.mem_append.1 hx).symm
          rw [hLA] at hJ
          rw [hMA] at hI
          obtain ⟨hlen, hrot⟩ := infos_rot hJ hI
          have hokJ : ∀ x ∈ J, ∀ t ∈ x.2, AdrOk t := fun x hx t ht => adr_ways H6.out.2.2.2.1 (id := x.1) (by rw [hLA]; exact (hJ.2 x.1 x.2).1 hx) t ht
          have hJl : ∀ x ∈ J, x.2.length ≤ k := fun x hx => by
            have h1 := Fof_len (adrs f ls) x.1
            rw [hLA, (hJ.2 x.1 x.2).1 hx, ← hLA] at h1
            simpa [adrs, HB.out.2.2.2.1] using h1
          have hw7 := H6.out.2.1.trans (hB7.mono H6.out.2.1.size)
          have hb67 := H6.out.2.2.2.2.trans (hB7.mono H6.out.2.2.2.2.size)
          have hb47 := hC.out.2.2.trans (hb67.mono hC.out.2.2.size)
          have hb37 : Below w3.heap.size w3 w7 := H4.out.1.trans (hb47.mono H4.out.1.size)
          obtain ⟨pa, ca, rfl, _⟩ := RowQ.slice hrI
          rw [hlen, H3.out.2.2.2.1] at hrI ⊢
          have hrJ := RowQ.below H3.out.1 hb37 (fun _ _ h => h.below hb37)
          have hIl : I.length = nb := by rw [hlen, H3.out.2.2.2.1]
          have hnb : nb ≤ 60 := by
            have h := (H3.out.2.1.len).1
            rw [H3.out.2.2.2.1] at h
            simp [adrs, HB.out.2.2.2.1] at h
            omega
          have hB26 : w6.heap.size ≤ w7.heap.size := hB7.size
          have hB27 : w2.heap.size ≤ w7.heap.size := Nat.le_trans H3.out.2.2.2.2 hb37.size
          have H7 := Lib.hid (And.intro hrI (And.intro hrJ (And.intro hw7 (And.intro hIl (And.intro hrot (And.intro hokJ hJl))))))
          clear hrI hrJ hw7 hIl hrot hokJ hJl hb37 hb47 hb67 hlen hI hJ h6 hMA hLA htI hB7
          go_wp2_with fail
          go_loopg [65] nb (fun gk iv wr => ∃ (ds rs : List (List Int × List Adr)), I = ds ++ rs ∧ gk = rs.length ∧ iv = .int .i64 (ds.length : Int) ∧ Hid (Below w7.heap.size w7 wr))
          case atStart => exact ⟨[], I, rfl, H7.out.2.2.2.1.symm, rfl, Below.refl _ _⟩
          case round =>
            obtain ⟨ds, rs, hds, rfl, rfl, hJ⟩ := hrel
            cases rs with
            | nil =>
              have hlt : ds.length = nb := by rw [← H7.out.2.2.2.1, hds, List.append_nil]
              have hl2 : decide (ds.length < nb) = false := by rw [decide_eq_false_iff_not, hlt]; omega
              clear hds hlt
              go_wp2_with (go_at_call 13; refine (HW.out _ (H7.out.2.2.1.trans (hJ.out.mono H7.out.2.2.1.size))).mono ?_; rintro e wd ⟨rfl, hbD⟩)
              go_ret
              exact ⟨rfl, hbD⟩
            | cons r rs =>
              have hlt : ds.length < nb := by rw [← H7.out.2.2.2.1, hds]; simp
              have hl2 : decide (ds.length < nb) = true := by rw [decide_eq_true_iff]; omega
              obtain ⟨ga, rfl⟩ : ∃ g, pa = some ⟨g, 0, none⟩ := by
                rcases RowQ.form H7.out.1 with ⟨_, e⟩ | ⟨g, c', e, _⟩
                · rw [hds] at e; simp at e
                · injection e with e; exact ⟨g, e⟩
              obtain ⟨y, hy⟩ : ∃ y, J[ds.length]? = some y := ⟨_, List.getElem?_eq_getElem (by rw [H3.out.2.2.2.1]; exact hlt)⟩
              obtain ⟨gb, rfl⟩ : ∃ g, pb = some ⟨g, 0, none⟩ := by
                rcases RowQ.form H7.out.2.1 with ⟨_, e⟩ | ⟨g, c', e, _⟩
                · rw [e] at hy; simp at hy
                · injection e with e; exact ⟨g, e⟩
              obtain ⟨hid, hpm⟩ := H7.out.2.2.2.2.1 ds.length y r hy (by rw [hds]; simp)
              obtain ⟨id, ts⟩ := r
              obtain ⟨id', us⟩ := y
              obtain rfl : id = id' := hid
              replace hpm : ts.Perm us := hpm
              have hok2 : ∀ t ∈ us, AdrOk t := H7.out.2.2.2.2.2.1 (id, us) (List.mem_of_getElem? hy)
              have hul : us.length ≤ k := H7.out.2.2.2.2.2.2 (id, us) (List.mem_of_getElem? hy)
              have htl : ts.length = us.length := hpm.length_eq
              obtain ⟨⟨a1, a2⟩, ⟨ha0, ha1⟩, hpa⟩ := RowQ.at H7.out.1 ds.length (id, ts) (by rw [hds]; simp)
              obtain ⟨⟨b1, b2⟩, ⟨hb0, hb1⟩, hpb⟩ := RowQ.at H7.out.2.1 ds.length (id, us) hy
              obtain ⟨g1, c1, cs1, rfl, _, _, hbs1⟩ : BV _ _ a1 id := hpa.1
              obtain ⟨g3, c3, cs3, rfl, _, _, hbs3⟩ : BV _ _ b1 id := hpb.1
              have hra : BRow w7 w6.heap.size a2 ts := hpa.2
              have hrb : BRow w7 w2.heap.size b2 us := hpb.2
              obtain ⟨p2, c2, rfl, _⟩ := RowP.slice hra
              obtain ⟨p4, d4, rfl, _⟩ := RowP.slice hrb
              replace ha0 := cB hJ.out ha0
              replace ha1 := cB hJ.out ha1
              replace hb0 := cB hJ.out hb0
              replace hb1 := cB hJ.out hb1
              obtain ⟨K, hK⟩ : ∃ K, K = id.length := ⟨_, rfl⟩
              obtain ⟨n, hn⟩ : ∃ K, K = us.length := ⟨_, rfl⟩
              rw [htl] at ha1 hra
              obtain ⟨W1, hW1⟩ : ∃ W, W = wr.alloc (.cells #[.slice (some ⟨g1, 0, none⟩) K c1, .slice p2 n c2] 32) := ⟨_, rfl⟩
              have hbr : Below wr.heap.size wr W1 := by rw [hW1]; exact (Below.refl _ _).alloc (Nat.le_refl _) _
              have x0 : W1.cell? ⟨wr.heap.size, 0, none⟩ = some (.slice (some ⟨g1, 0, none⟩) K c1) := by rw [hW1]; exact World.cell?_alloc_mark wr _ _ _ 0
              have x1 : W1.cell? ⟨wr.heap.size, 1, none⟩ = some (.slice p2 n c2) := by rw [hW1]; exact World.cell?_alloc_mark wr _ _ _ 1
              rw [← hK] at ha0 hb0
              rw [← hn] at ha1 hb1 hra hrb hul
              have y0 := cB hbr hb0
              have y1 := cB hbr hb1
              have hb71 := hJ.out.trans (hbr.mono hJ.out.size)
              have hC2 := Lib.hid (And.intro (hra.below hb71) (And.intro (hrb.below hb71) (And.intro hb71 (And.intro (hbs1.below hb71) (And.intro (hbs3.below hb71) (And.intro hds (And.intro hpm (And.intro hok2 (And.intro hK hn)))))))))
              have hB26' : w6.heap.size ≤ W1.heap.size := Nat.le_trans hB26 hb71.size
              have hB27' : w2.heap.size ≤ W1.heap.size := Nat.le_trans hB27 hb71.size
              clear hra hrb hb71 hbs1 hbs3 hpa hpb hds hbr hpm hok2 hK hn hy htl
              go_upto_region 18 with fail
              rw [← hW1]
              obtain ⟨X, hX⟩ : ∃ X, X = wr.heap.size := ⟨_, rfl⟩
              rw [← hX] at x0 x1 ⊢
              clear hX hW1
              go_cut [90] (fun t wx => t = .bool false ∧ Hid (Below W1.heap.size W1 wx))
              case first =>
                go_region_held_law (fun w' => w'.cell? ⟨X, 0, none⟩ = some (.slice (some ⟨g1, 0, none⟩) K c1) ∧ w'.cell? ⟨X, 1, none⟩ = some (.slice p2 n c2) ∧ w'.cell? ⟨gb, ds.length * 2, none⟩ = some (.slice (some ⟨g3, 0, none⟩) K c3) ∧ w'.cell? ⟨gb, ds.length * 2 + 1, none⟩ = some (.slice p4 n d4))
                  (first | exact ⟨x0, x1, y0, y1⟩ | exact ⟨cB hbX x0, cB hbX x1, cB hbX y0, cB hbX y1⟩)
                  (first
                    | (go_at_call 17; refine (equalSame g1 c1 K g3 c3 id W1.drew hC2.out.2.2.2.2.2.2.2.2.1.symm (hC2.out.2.2.2.1.below ((Below.refl W1.heap.size W1).drew)) (hC2.out.2.2.2.2.1.below ((Below.refl W1.heap.size W1).drew))).mono ?_; rintro e wy ⟨rfl, rfl⟩; have hbX := (Below.refl W1.heap.size W1).drew))
                all_goals
                  go_wp2_with fail
                  go_meet
                  case rel => exact ⟨rfl, hbX⟩
              case rest =>
                obtain ⟨rfl, hX1⟩ := hcut
                have x2 := cB hX1.out x1
                have y2 := cB hX1.out y1
                have hra2 := hC2.out.1.below hX1.out
                have hrb2 := hC2.out.2.1.below hX1.out
                have hzc := hX1.out.size
                have hca : ∀ wx, Below wc.heap.size wc wx → Calls Tryz.prog 33 #[.slice p2 n c2] wx fun e w' => ∃ p' c', e = .returned (.slice p' n c') ∧ BRow w' w6.heap.size (.slice p' n c') ts ∧ (∀ g, (Value.slice p' n c').ownBlock = some g → wx.heap.size ≤ g ∧ g < w'.heap.size) ∧ Below wx.heap.size wx w' := fun wx hx => cloneRow w6.heap.size p2 n c2 ts wx (hra2.below hx) (by omega) (by have := hx.size; omega)
                have hcb : ∀ wx, Below wc.heap.size wc wx → Calls Tryz.prog 33 #[.slice p4 n d4] wx fun e w' => ∃ p' c', e = .returned (.slice p' n c') ∧ BRow w' w2.heap.size (.slice p' n c') us ∧ (∀ g, (Value.slice p' n c').ownBlock = some g → wx.heap.size ≤ g ∧ g < w'.heap.size) ∧ Below wx.heap.size wx w' := fun wx hx => cloneRow w2.heap.size p4 n d4 us wx (hrb2.below hx) (by omega) (by have := hx.size; omega)
                have HCL := Lib.hid (And.intro hca hcb)
                clear hca hcb hra2 hrb2 x0 x1 y0 y1 ha0 ha1 hb0 hb1
                go_upto_region 20 with fail
                go_cut [13, 14] (fun ta tb wx => ∃ (q1 : Option Addr) (e1 : Nat) (q2 : Option Addr) (e2 : Nat), ta = .slice q1 n e1 ∧ tb = .slice q2 n e2 ∧ Hid (BRow wx w6.heap.size (.slice q1 n e1) ts ∧ BRow wx w2.heap.size (.slice q2 n e2) us ∧ (∀ g, (Value.slice q1 n e1).ownBlock = some g → (Value.slice q2 n e2).ownBlock ≠ some g) ∧ Below wc.heap.size wc wx ∧ (∀ g, (Value.slice q1 n e1).ownBlock = some g → wc.heap.size ≤ g) ∧ (∀ g, (Value.slice q2 n e2).ownBlock = some g → wc.heap.size ≤ g)))
                case first =>
                  go_region_held_law (fun w' => w'.cell? ⟨X, 1, none⟩ = some (.slice p2 n c2) ∧ w'.cell? ⟨gb, ds.length * 2 + 1, none⟩ = some (.slice p4 n d4))
                    (first | exact ⟨x2, y2⟩ | exact ⟨cB hbX x2, cB hbX y2⟩)
                    (first
                      | (go_at_call 33; refine (HCL.out.1 _ ((Below.refl wc.heap.size wc).drew)).mono ?_; rintro e wa ⟨q1, e1, rfl, hr1, hf1, hb1⟩; have hbX := ((Below.refl wc.heap.size wc).drew).trans (hb1.mono (Nat.le_refl wc.heap.size)))
                      | (go_at_call 33; refine (HCL.out.2 _ ((Below.refl wc.heap.size wc).drew)).mono ?_; rintro e wb ⟨q2, e2, rfl, hr2, hf2, hb2⟩; have hbX := ((Below.refl wc.heap.size wc).drew).trans (hb2.mono (Nat.le_refl wc.heap.size)))
                      | (go_at_call 33; refine (HCL.out.1 _ hbX).mono ?_; rintro e wa ⟨q1, e1, rfl, hr1, hf1, hb1⟩; have hbY := hbX.trans (hb1.mono hbX.size); have hbX := hbY)
                      | (go_at_call 33; refine (HCL.out.2 _ hbX).mono ?_; rintro e wb ⟨q2, e2, rfl, hr2, hf2, hb2⟩; have hbY := hbX.trans (hb2.mono hbX.size); have hbX := hbY))
                  all_goals
                    go_wp2_with fail
                    go_meet
                    case rel =>
                      first
                        | exact ⟨q1, e1, q2, e2, rfl, rfl, hr1.below hb2, hr2, fun g hg hg2 => absurd ((hf1 g hg).2) (by have := (hf2 g hg2).1; omega), hbX, fun g hg => (hf1 g hg).1, fun g hg => Nat.le_trans hb1.size (hf2 g hg).1⟩
                        | exact ⟨q1, e1, q2, e2, rfl, rfl, hr1, hr2.below hb1, fun g hg hg2 => absurd ((hf2 g hg2).2) (by have := (hf1 g hg).1; omega), hbX, fun g hg => Nat.le_trans hb2.size (hf1 g hg).1, fun g hg => (hf2 g hg).1⟩
                case rest =>
                  obtain ⟨q1, e1, q2, e2, rfl, rfl, hX2⟩ := hcut
                  have hts8 : ∀ x ∈ us, U8 (addrB x) := fun x hx => addrB_u8 x (hC2.out.2.2.2.2.2.2.2.1 x hx).2.1
                  have hua8 : ∀ x ∈ ts, U8 (addrB x) := fun x hx => hts8 x (hC2.out.2.2.2.2.2.2.1.mem_iff.1 hx)
                  have hnu : us.length = n := hC2.out.2.2.2.2.2.2.2.2.2.symm
                  have hnt : ts.length = n := hC2.out.2.2.2.2.2.2.1.length_eq.trans hnu
                  have hzd := hX2.out.2.2.2.1.size
                  have hsa := sortRows wc w6.heap.size e1 n q1 ts hnt (by omega) hX2.out.1 hua8 (by omega)
                  have HSA := Lib.hid (And.intro hsa (And.intro hts8 (And.intro hnu hnt)))
                  clear hsa hts8 hua8 hnu hnt
                  go_wp2_with fail
                  refine HSA.out.1.mono ?_
                  rintro e wd ⟨rfl, S1, hp1, hs1, hr1, hbd, hgd⟩
                  obtain ⟨vs1, _, ho1, _⟩ := (_root_.id hX2.out.1)
                  have hb2d : BRow wd w2.heap.size (.slice q2 n e2) us := hX2.out.2.1.keep ho1 hgd rfl (by
                    cases hq : (Value.slice q2 n e2).ownBlock with
                    | none => exact .inl rfl
                    | some g => exact .inr fun e => hX2.out.2.2.1 g e.symm hq)
                  have hb1X := hC2.out.2.2.1.trans (hX1.out.mono hC2.out.2.2.1.size)
                  have hb2X := hb1X.trans (hX2.out.2.2.2.1.mono hb1X.size)
                  have hbdX : Below w7.heap.size w7 wd := Below.grown hb2X hgd hb2X.size fun g hg => Nat.le_trans hb1X.size (hX2.out.2.2.2.2.1 g hg)
                  have hze := hgd.size
                  have hsb := sortRows wd w2.heap.size e2 n q2 us HSA.out.2.2.1 (by omega) hb2d HSA.out.2.1 (by omega)
                  obtain ⟨vs2, _, ho2, _⟩ := (_root_.id hb2d)
                  have HSB := Lib.hid (And.intro hsb (And.intro hp1 (And.intro hs1 (And.intro hr1 (And.intro ho2 hbdX)))))
                  clear hsb hp1 hs1 hr1 hbd hgd ho1 hb2d ho2 hbdX hb1X hb2X
                  go_wp2_with fail
                  refine HSB.out.1.mono ?_
                  rintro e we ⟨rfl, S2, hp2, hs2, hr2, hbe, hge⟩
                  have hS : S1.map addrB = S2.map addrB := srt_eq HSB.out.2.2.1 hs2 ((HSB.out.2.1.trans (hC2.out.2.2.2.2.2.2.1.trans hp2.symm)).map addrB)
                  have hr1e : BRow we w6.heap.size (.slice q1 n e1) S1 := HSB.out.2.2.2.1.keep HSB.out.2.2.2.2.1 hge rfl (by
                    cases hq : (Value.slice q1 n e1).ownBlock with
                    | none => exact .inl rfl
                    | some g => exact .inr fun e => hX2.out.2.2.1 g hq e.symm)
                  have hbeX : Below w7.heap.size w7 we := Below.grown HSB.out.2.2.2.2.2 hge HSB.out.2.2.2.2.2.size fun g hg => Nat.le_trans (Nat.le_trans hC2.out.2.2.1.size hX1.out.size) (hX2.out.2.2.2.2.2 g hg)
                  have heq := equalRows q1 q2 n e1 e2 S1 we (HSB.out.2.1.length_eq.trans HSA.out.2.2.2) (by omega) (BRow.list hr1e) (list_same hS (BRow.list hr2))
                  have HE := Lib.hid (And.intro heq hbeX)
                  clear heq hbeX hr1e hS hp2 hs2 hr2 hbe hge
                  go_wp2_with fail
                  refine HE.out.1.mono ?_
                  rintro e wg ⟨rfl, rfl⟩
                  go_wp2_with fail
                  go_roundg rs.length
                  case measure => simp
                  case rel => exact ⟨ds ++ [(id, ts)], rs, by rw [hC2.out.2.2.2.2.2.1, List.append_assoc]; rfl, rfl, by simp, HE.out.2⟩
end Go.Proofs.YtapkmoakbfpkeaaGreatDoor
