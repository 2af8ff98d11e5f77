/- base58: NewAlphabet: the alphabet's block. -/
import Derived.Test.YtapkmoakbfpkeaaGreatDoorA6
import Derived.Handy
import Derived.Laws.CopyOwn
import Derived.Deep.OwnRows
import Derived.Lib.BufferWrite
namespace Go.Proofs.YtapkmoakbfpkeaaGreatDoor
open Go Go.RowKit Go.Proofs Go.Sort

section
variable {P : Program}
/-- A row of cells within a block read as an array. -/
theorem run_loadVar_at (w : World) (g o : Nat) (ty : TypeId) (cs : Array Value) (d : TypeDesc) (hc : ∀ j v, cs.toList[j]? = some v → w.cell? ⟨g, o + j, none⟩ = some v)
    (hu : P.underlying ty = some d) (hd : (match d with | .struct _ | .array _ _ => true | _ => false) = true) (hi : (P.info? ty).map (·.size) = some cs.size) :
    (loadVar ty ⟨g, o, none⟩).run P w = .ok (.agg cs) w := by
  have hl : (loadCells ⟨g, o, none⟩ cs.toList.length).run P w = .ok cs.toList.toArray w :=
    run_loadCells_list (P := P) w ⟨g, o, none⟩ cs.toList (fun j v hv => by
      rw [Lib.add_plain]
      exact hc j v hv)
  cases hq : P.info? ty with
  | none => simp [hq] at hi
  | some i =>
    have hs : i.size = cs.size := by simpa [hq] using hi
    have hagg : (isAgg ty).run P w = .ok true w := by
      unfold isAgg
      rw [Sem.run_bind, run_underlying hu w]
      cases d <;> simp_all
    simp only [Array.length_toList, Array.toArray_toList] at hl
    simp [loadVar, Sem.run_bind, hagg, sizeOf, typeInfo, hq, hs, hl]

theorem wpList_load_at {ops : Array Oper} {rest : List Oper} {o : Oper} {a : Act} {w : World} {Q : Exit → Act → World → Prop} (hgd : o.guard = none) (ty : TypeId) (x : Operand) (ho : o.op = .load ty x)
    (g off : Nat) (hx : a.eval x = .pointer (some ⟨g, off, none⟩)) (cs : Array Value) (d : TypeDesc) (hc : ∀ j v, cs.toList[j]? = some v → w.cell? ⟨g, off + j, none⟩ = some v)
    (hu : P.underlying ty = some d) (hd : (match d with | .struct _ | .array _ _ => true | _ => false) = true) (hi : (P.info? ty).map (·.size) = some cs.size)
    (h : wpList P ops Q rest (a.put o.dst (.agg cs)) w) : wpList P ops Q (o :: rest) a w :=
  wpList_plain hgd fun K hK => by
    unfold Oper.wp execOp
    simp only [ho, hx, Instr.loadAt, Instr.sureAddr, Sem.run_bind, Sem.run_pure, Result.andThen_ok, run_loadVar_at w g off ty cs d hc hu hd hi]
    exact hK _ _ h

theorem run_index_agg (w : World) (t e : TypeId) (n : Nat) (cs : Array Value) (k : IntKind) (i : Nat) (v : Value) (h : P.underlying t = some (.array n e)) (hs : ∀ w, (sizeOf e).run P w = .ok 1 w) (ha : ∀ w, (isAgg e).run P w = .ok false w)
    (hi : i < n) (hv : cs[i]? = some v) : (Instr.index t (.agg cs) (.int k (i : Int))).run P w = .ok v w := by
  have hn : (0 : Int) ≤ (i : Int) ∧ (i : Int) < (n : Int) := by omega
  simp [Instr.index, run_underlying h, asIntOf, hn, hs, part, ha, hv, go_sem]
  intro h'
  omega
end

def btc : ByteArray := ⟨#[49, 50, 51, 52, 53, 54, 55, 56, 57, 65, 66, 67, 68, 69, 70, 71, 72, 74, 75, 76, 77, 78, 80, 81, 82, 83, 84, 85, 86, 87, 88, 89, 90, 97, 98, 99, 100, 101, 102, 103, 104, 105, 106, 107, 109, 110, 111, 112, 113, 114, 115, 116, 117, 118, 119, 120, 121, 122]⟩
/-- The alphabet's characters. -/
def bt (j : Nat) : Int := ((btc.data.toList.getD j 0).toNat : Int)
theorem bt_bd (j : Nat) (h : j < 58) : 0 ≤ bt j ∧ bt j < 128 :=
  (by decide +kernel : ∀ n : Fin 58, 0 ≤ bt n.val ∧ bt n.val < 128) ⟨j, h⟩

/-- The alphabet's block: 128 cells of 'decode', then the 58 characters. -/
def AlphaF (f : Nat → Value) : Prop := ∀ j, j < 58 → f (128 + j) = .int .u8 (bt j)
def AlphaAt (w : World) (g : Nat) : Prop := ∃ f, w.rowIs g 248 186 f ∧ AlphaF f

theorem copied (w : World) : ∃ W1, (Builtin.copy_ #[23, 9] 3 #[.slice (some ⟨w.heap.size, 128, none⟩) 58 58, .string btc]).run Tryz.prog (w.alloc (.cells Tryz.zeroCells248 248)) = .ok (goInt 58) W1 ∧
    AlphaAt W1 w.heap.size ∧ Below w.heap.size w W1 := by
  have hz : Tryz.zeroCells248.size = 186 := by decide +kernel
  have hb : btc.size = 58 := rfl
  have h := Lib.run_copy_row_string (P := Tryz.prog) (w.alloc (.cells Tryz.zeroCells248 248)) 23 9 3 5 w.heap.size 128 58 58 btc _ _ Tryz.underlying23 (by kernel_rfl) (heap_alloc_new w _) (by rw [hb]; exact Nat.le_refl _) (by rw [hz, hb]; exact Nat.le_refl _)
  have hl : (Tryz.zeroCells248.toList.take 128).length = 128 := by rw [List.length_take, Array.length_toList, hz]; rfl
  have hbl : (Lib.byteCells btc.data.toList).length = 58 := by rw [Lib.byteCells_length]; rfl
  have htl : (Tryz.zeroCells248.toList.drop (128 + btc.size)).length = 0 := by rw [List.length_drop, Array.length_toList, hz]; rfl
  refine ⟨_, h, ⟨fun i => (Tryz.zeroCells248.toList.take 128 ++ Lib.byteCells btc.data.toList ++ Tryz.zeroCells248.toList.drop (128 + btc.size)).getD i undef, ⟨_, setRow_heap _ _ _ _ _ _ (heap_alloc_new w _), ?_, fun i hi => ?_⟩, fun j hj => ?_⟩, ?_⟩
  · rw [List.size_toArray, List.length_append, List.length_append, hl, hbl, htl]
  · simp only [List.getElem?_toArray, List.getD_eq_getElem?_getD]
    rw [List.getElem?_eq_getElem (by rw [List.length_append, List.length_append, hl, hbl, htl]; omega)]
    rfl
  · show List.getD _ (128 + j) undef = _
    rw [List.getD_eq_getElem?_getD, List.getElem?_append_left (by rw [List.length_append, hl, hbl]; omega), List.getElem?_append_right (by rw [hl]; omega), hl, show 128 + j - 128 = j by omega]
    have hj2 : j < btc.data.size := hj
    simp [Lib.byteCells, bt, Array.getElem?_eq_getElem hj2]
  · exact Go.below_setRow ((Below.refl _ _).alloc (Nat.le_refl _) _) (Nat.le_refl _) _

set_option maxHeartbeats 800000 in
set_option maxRecDepth 100000 in
theorem newAlphabet (w : World) : Calls Tryz.prog 212 #[.string btc] w fun e w' => e = .returned (.pointer (some ⟨w.heap.size, 0, none⟩)) ∧ AlphaAt w' w.heap.size ∧ Below w.heap.size w w' := by
  obtain ⟨W1, hcp, hA1, hB1⟩ := copied w
  have hbn : ((btc.size : Int) != 58) = false := rfl
  have HA := Lib.hid hA1
  have HB := Lib.hid hB1
  clear hA1 hB1
  obtain ⟨g, hg⟩ : ∃ g, g = w.heap.size := ⟨_, rfl⟩
  rw [← hg] at HA
  go_enter Tryz.func212, Tryz.ntmps212
  go_wp2_with fail
  have HG := Lib.hid hg
  rw [← hg]
  clear hg hcp
  go_loopg [18] 128 (fun gk i wr => ∃ k : Nat, k ≤ 128 ∧ gk + k = 128 ∧ i = .int .i64 k ∧ Hid (AlphaAt wr g) ∧ Hid (Below w.heap.size w wr))
  case atStart => exact ⟨0, by omega, by omega, rfl, HA, HB⟩
  case round =>
    obtain ⟨k, hk, hgk, rfl, hA, hB⟩ := hrel
    have HGK := Lib.hid hgk
    clear hgk HA HB
    by_cases hlt : k < 128
    · obtain ⟨f, hr, hf⟩ := hA.out
      have hc := hr.cell (i := k) (by omega)
      have hfz := hr.frozen k
      have HR := Lib.hid hr
      have HF := Lib.hid hf
      clear hr hf hA
      go_wp2_with fail
      go_roundg (gk - 1)
      case measure => have := HGK.out; omega
      case rel => have := HGK.out; exact ⟨k + 1, by omega, by omega, by go_num, ⟨_, HR.out.set k _, fun j hj => by rw [if_neg (by omega)]; exact HF.out j hj⟩, hB.out.setCell (by rw [← HG.out]; exact Nat.le_refl _) _⟩
    · clear HGK
      obtain ⟨cs, hcs, hcv⟩ : ∃ cs : Array Value, cs.size = 58 ∧ ∀ j, j < 58 → cs[j]? = some (.int .u8 (bt j)) := ⟨((List.range 58).map fun j => Value.int .u8 (bt j)).toArray, by simp, fun j hj => by simp [hj]⟩
      have hix : ∀ (k : Nat), k < 58 → ∀ w, (Instr.index 246 (.agg cs) (.int .i64 (k : Int))).run Tryz.prog w = .ok (.int .u8 (bt k)) w := fun k hk w => run_index_agg w _ 5 58 cs .i64 k _ Tryz.underlying246 (fun w => by kernel_rfl) (fun w => by kernel_rfl) hk (hcv k hk)
      have HIX := Lib.hid hix
      have HCS := Lib.hid (And.intro hcs hcv)
      clear hix hcs hcv
      go_wp2_with (refine wpList_load_at rfl 246 _ rfl g 128 rfl cs _ ?hc Tryz.underlying246 rfl (by rw [HCS.out.1]; kernel_rfl) ?_)
      case hc =>
        intro j v hj
        obtain ⟨f, hr, hf⟩ := hA.out
        have hj58 : j < 58 := by have := (List.getElem?_eq_some_iff.1 hj).1; rw [Array.length_toList, HCS.out.1] at this; exact this
        rw [hr.cell (by omega), hf j hj58]
        have := HCS.out.2 j hj58
        rw [Array.getElem?_toList] at hj
        rw [← this]; exact hj
      go_loopg [31] 58 (fun gk i wr => ∃ k : Nat, k ≤ 58 ∧ gk + k = 58 ∧ i = .int .i64 k ∧ Hid (AlphaAt wr g) ∧ Hid (Below w.heap.size w wr))
      case atStart => exact ⟨0, by omega, by omega, rfl, hA, hB⟩
      case round =>
        clear hA hB
        obtain ⟨k, hk, hgk, rfl, hA, hB⟩ := hrel
        have HGK := Lib.hid hgk
        clear hgk
        by_cases hlt : k < 58
        · obtain ⟨f, hr, hf⟩ := hA.out
          have hx := HIX.out k hlt
          have hbd := bt_bd k hlt
          obtain ⟨x, hxe⟩ : ∃ x, x = bt k := ⟨_, rfl⟩
          rw [← hxe] at hx hbd
          clear hxe
          have hc := hr.cell (i := x.toNat) (by omega)
          have hfz := hr.frozen x.toNat
          have HR := Lib.hid hr
          have HF := Lib.hid hf
          clear hr hf hA
          go_wp2_with fail
          go_roundg (gk - 1)
          case measure => have := HGK.out; omega
          case rel => have := HGK.out; exact ⟨k + 1, by omega, by omega, by go_num, ⟨_, HR.out.set x.toNat _, fun j hj => by rw [if_neg (by omega)]; exact HF.out j hj⟩, hB.out.setCell (by rw [← HG.out]; exact Nat.le_refl _) _⟩
        · go_wp2_with fail
          go_ret
          rw [← HG.out]
          exact ⟨rfl, hA.out, by have := hB.out; rwa [← HG.out] at this⟩

set_option maxRecDepth 100000 in
theorem btcAlphabet (w : World) : Calls Tryz.prog 194 #[] w fun e w' => e = .returned (.pointer (some ⟨w.heap.size, 0, none⟩)) ∧ AlphaAt w' w.heap.size ∧ Below w.heap.size w w' := by
  go_enter Tryz.func194, Tryz.ntmps194
  go_wp2_with fail
  refine (newAlphabet _).mono ?_
  rintro e w1 ⟨rfl, hA, hB⟩
  have HA := Lib.hid hA
  have HB := Lib.hid hB
  clear hA hB
  go_wp2_with fail
  go_ret
  exact ⟨rfl, HA.out, HB.out⟩
end Go.Proofs.YtapkmoakbfpkeaaGreatDoor
