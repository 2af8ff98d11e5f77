/- shaBlock: its words. -/
import Derived.Test.YtapkmoakbfpkeaaGreatDoorS3
namespace Go.Proofs.YtapkmoakbfpkeaaGreatDoor
open Go Go.RowKit Go.Proofs Go.Sort
theorem cBelow {w w' : World} {a : Addr} {v : Value} (hb : Below w.heap.size w w') (h : w.cell? a = some v) : w'.cell? a = some v := by
  rw [hb.cell (World.block_lt_of_cell? w _ h)]; exact h
theorem below_drewN {B : Nat} {a w : World} (h : Below B a w) (n : Nat) : Below B a (w.drewN n) := ⟨h.os, h.tape, h.output, h.size, h.block⟩
/-- The i-th word of a block, in the walk's spelling. -/
def wordOf (xs : List Int) (i : Nat) : Int := bits .or .u32 (bits .or .u32 (bits .or .u32 (xs.getD (4 * i) 0 % 4294967296 * 16777216 % 4294967296) (xs.getD (4 * i + 1) 0 % 4294967296 * 65536 % 4294967296)) (xs.getD (4 * i + 2) 0 % 4294967296 * 256 % 4294967296)) (xs.getD (4 * i + 3) 0 % 4294967296)
/-- The i-th word of the schedule. -/
def mixW (a b x y : Int) : Int := (a + b + bits .xor .u32 (bits .xor .u32 (turnI x 7) (turnI x 18)) (x / 8) + bits .xor .u32 (bits .xor .u32 (turnI y 17) (turnI y 19)) (y / 1024)) % 4294967296
def wS (xs : List Int) (i : Nat) : Int := if i < 16 then wordOf xs i else mixW (wS xs (i - 16)) (wS xs (i - 7)) (wS xs (i - 15)) (wS xs (i - 2))
termination_by i
decreasing_by all_goals omega
theorem wS_lo (xs : List Int) (i : Nat) (h : i < 16) : wS xs i = wordOf xs i := by rw [wS, if_pos h]
theorem wS_hi (xs : List Int) (i : Nat) (h : 16 ≤ i) : wS xs i = mixW (wS xs (i - 16)) (wS xs (i - 7)) (wS xs (i - 15)) (wS xs (i - 2)) := by rw [wS, if_neg (by omega)]
/-- Eight words as an array. -/
def arr8 (f : Nat → Int) : Array Value := #[.int .u32 (f 0), .int .u32 (f 1), .int .u32 (f 2), .int .u32 (f 3), .int .u32 (f 4), .int .u32 (f 5), .int .u32 (f 6), .int .u32 (f 7)]
theorem lt8 {j : Nat} (h : j < 8) : j = 0 ∨ j = 1 ∨ j = 2 ∨ j = 3 ∨ j = 4 ∨ j = 5 ∨ j = 6 ∨ j = 7 := by omega
theorem arr8_at (f : Nat → Int) (j : Nat) (h : j < 8) : (arr8 f)[j]? = some (.int .u32 (f j)) := by
  rcases lt8 h with rfl | rfl | rfl | rfl | rfl | rfl | rfl | rfl <;> rfl

/-- The world of shaBlock: its argument's words, its result's, the schedule. -/
def SB (w : World) (hs W : Nat → Int) (wr : World) : Prop :=
  wr.rowIs w.heap.size 134 8 (fun j => .int .u32 (hs j)) ∧ wr.rowIs (w.heap.size + 1) 134 8 (fun _ => .int .u32 0) ∧ wr.rowIs (w.heap.size + 1 + 1) 190 64 (fun j => .int .u32 (W j)) ∧ Below w.heap.size w wr
theorem SB.drewN {w wr : World} {hs W : Nat → Int} (h : SB w hs W wr) (n : Nat) : SB w hs W (wr.drewN n) := ⟨h.1, h.2.1, h.2.2.1, below_drewN h.2.2.2 n⟩
theorem SB.alloc {w wr : World} {hs W : Nat → Int} (h : SB w hs W wr) (o : Obj) : SB w hs W (wr.alloc o) := ⟨h.1.alloc o, h.2.1.alloc o, h.2.2.1.alloc o, h.2.2.2.alloc h.2.2.2.size _⟩
theorem SB.setW {w wr : World} {hs W : Nat → Int} (h : SB w hs W wr) (i : Nat) (x : Int) : SB w hs (fun j => if j = i then x else W j) (wr.setCell ⟨w.heap.size + 1 + 1, i, none⟩ (.int .u32 x)) :=
  ⟨h.1.setOther (by show _ ≠ w.heap.size + 1 + 1; omega) _, h.2.1.setOther (by show _ ≠ w.heap.size + 1 + 1; omega) _, (h.2.2.1.set i _).congr (fun j _ => by
    show (if j = i then _ else _) = Value.int .u32 (if j = i then x else W j)
    by_cases e : j = i
    · rw [if_pos e, if_pos e]
    · rw [if_neg e, if_neg e]), h.2.2.2.setCell (by show _ ≤ w.heap.size + 1 + 1; omega) _⟩
theorem SB.congr {w wr : World} {hs W W' : Nat → Int} (h : SB w hs W wr) (e : ∀ j, j < 64 → W j = W' j) : SB w hs W' wr := ⟨h.1, h.2.1, h.2.2.1.congr (fun j hj => by rw [e j hj]), h.2.2.2⟩
theorem SB.setFar {w wr : World} {hs W : Nat → Int} (h : SB w hs W wr) {a : Addr} (ha : w.heap.size + 1 + 1 < a.block) (x : Value) : SB w hs W (wr.setCell a x) :=
  ⟨h.1.setOther (by omega) _, h.2.1.setOther (by omega) _, h.2.2.1.setOther (by omega) _, h.2.2.2.setCell (by omega) _⟩
theorem SB.start (w : World) (hs : Nat → Int) (z8 z64 : Array Value) (h8 : z8 = #[.int .u32 0, .int .u32 0, .int .u32 0, .int .u32 0, .int .u32 0, .int .u32 0, .int .u32 0, .int .u32 0]) (hz : z64 = Array.replicate 64 (.int .u32 0)) :
    SB w hs (fun _ => 0) (((w.alloc (.cells (arr8 hs) 134)).alloc (.cells z8 134)).alloc (.cells z64 190)) := by
  have hn : z64.size = 64 := by rw [hz, Array.size_replicate]
  have h64 : ∀ j, j < 64 → z64[j]? = some (.int .u32 0) := fun j hj => by rw [hz, Array.getElem?_replicate, if_pos hj]
  subst h8
  refine ⟨((World.rowIs_alloc w (arr8 hs) _ (fun j => .int .u32 (hs j)) (fun j hj => arr8_at hs j hj)).alloc _).alloc _, ?_, ?_, ((((Below.refl _ w).alloc (Nat.le_refl _) _).alloc (by simp) _).alloc (by simp; omega) _)⟩
  · have h := (World.rowIs_alloc (w.alloc (.cells (arr8 hs) 134)) #[.int .u32 0, .int .u32 0, .int .u32 0, .int .u32 0, .int .u32 0, .int .u32 0, .int .u32 0, .int .u32 0] 134 (fun _ => .int .u32 0) (fun j hj => by rcases lt8 hj with rfl | rfl | rfl | rfl | rfl | rfl | rfl | rfl <;> rfl)).alloc (.cells z64 190)
    rw [World.size_alloc] at h
    exact h
  · have h := World.rowIs_alloc ((w.alloc (.cells (arr8 hs) 134)).alloc (.cells #[.int .u32 0, .int .u32 0, .int .u32 0, .int .u32 0, .int .u32 0, .int .u32 0, .int .u32 0, .int .u32 0] 134)) z64 190 (fun _ => .int .u32 0) (fun j hj => h64 j (by omega))
    rw [World.size_alloc, World.size_alloc, hn] at h
    exact h
/-- The third loop: the eight words behind i rounds. -/
def oneE (V : Nat → Int) (k x : Int) : Int := V 7 + bits .xor .u32 (bits .xor .u32 (turnI (V 4) 6) (turnI (V 4) 11)) (turnI (V 4) 25) + bits .xor .u32 (bits .and .u32 (V 4) (V 5)) (bits .and .u32 (bits .xor .u32 IntKind.u32.max (V 4)) (V 6)) + k + x
def twoE (V : Nat → Int) : Int := bits .xor .u32 (bits .xor .u32 (turnI (V 0) 2) (turnI (V 0) 13)) (turnI (V 0) 22) + bits .xor .u32 (bits .xor .u32 (bits .and .u32 (V 0) (V 1)) (bits .and .u32 (V 0) (V 2))) (bits .and .u32 (V 1) (V 2))
def stepV (V : Nat → Int) (k x : Int) : Nat → Int := fun j => if j = 0 then (oneE V k x + twoE V) % 4294967296 else if j = 4 then (V 3 + oneE V k x) % 4294967296 else V (j - 1)
def vS (xs : List Int) (hs : Nat → Int) : Nat → Nat → Int
  | 0 => hs
  | i + 1 => stepV (vS xs hs i) (keyI i) (wS xs i)
def SC (w : World) (hs W : Nat → Int) (N : Nat) (V : Nat → Int) (wr : World) : Prop :=
  SB w hs W wr ∧ wr.rowIs (N + 1) 190 64 (fun j => .int .u32 (keyI j)) ∧ wr.rowIs (N + 1 + 1) 134 8 (fun j => .int .u32 (V j))
theorem SC.drewN {w wr : World} {hs W V : Nat → Int} {N : Nat} (h : SC w hs W N V wr) (n : Nat) : SC w hs W N V (wr.drewN n) := ⟨h.1.drewN n, h.2.1, h.2.2⟩
theorem SC.fv {w wr : World} {hs W V : Nat → Int} {N : Nat} (h : SC w hs W N V wr) (j : Nat) (hj : j < 8) : wr.cell? ⟨N + 1 + 1, j, none⟩ = some (.int .u32 (V j)) := h.2.2.cell hj
theorem SC.ff {w wr : World} {hs W V : Nat → Int} {N : Nat} (h : SC w hs W N V wr) (j : Nat) : wr.frozen? ⟨N + 1 + 1, j, none⟩ = false := h.2.2.frozen j
theorem SC.fk {w wr : World} {hs W V : Nat → Int} {N : Nat} (h : SC w hs W N V wr) (j : Nat) (hj : j < 64) : wr.cell? ⟨N + 1, j, none⟩ = some (.int .u32 (keyI j)) := h.2.1.cell hj
theorem SC.fw {w wr : World} {hs W V : Nat → Int} {N : Nat} (h : SC w hs W N V wr) (j : Nat) (hj : j < 64) : wr.cell? ⟨w.heap.size + 1 + 1, j, none⟩ = some (.int .u32 (W j)) := h.1.2.2.1.cell hj
theorem SC.congrV {w wr : World} {hs W V V' : Nat → Int} {N : Nat} (h : SC w hs W N V wr) (e : ∀ j, j < 8 → V j = V' j) : SC w hs W N V' wr := ⟨h.1, h.2.1, h.2.2.congr fun j hj => by rw [e j hj]⟩
theorem SB.congrH {w wr : World} {hs hs' W : Nat → Int} (h : SB w hs W wr) (e : ∀ j, j < 8 → hs j = hs' j) : SB w hs' W wr := ⟨h.1.congr (fun j hj => by rw [e j hj]), h.2.1, h.2.2.1, h.2.2.2⟩
theorem SC.set1 {w wr : World} {hs W V : Nat → Int} {N : Nat} (h : SC w hs W N V wr) (hN : w.heap.size + 1 + 1 < N) (i : Nat) (x : Int) : SC w hs W N (fun j => if j = i then x else V j) (wr.setCell ⟨N + 1 + 1, i, none⟩ (.int .u32 x)) :=
  ⟨h.1.setFar (by show _ < N + 1 + 1; omega) _, h.2.1.setOther (by show _ ≠ N + 1 + 1; omega) _, (h.2.2.set i _).congr (fun j _ => by
    show (if j = i then _ else _) = Value.int .u32 (if j = i then x else V j)
    by_cases e : j = i
    · rw [if_pos e, if_pos e]
    · rw [if_neg e, if_neg e])⟩
theorem SC.setH {w wr : World} {hs W V : Nat → Int} {N : Nat} (h : SC w hs W N V wr) (hN : w.heap.size + 1 + 1 < N) (i : Nat) (x : Int) : SC w (fun j => if j = i then x else hs j) W N V (wr.setCell ⟨w.heap.size, i, none⟩ (.int .u32 x)) :=
  ⟨⟨(h.1.1.set i _).congr (fun j _ => by
    show (if j = i then _ else _) = Value.int .u32 (if j = i then x else hs j)
    by_cases e : j = i
    · rw [if_pos e, if_pos e]
    · rw [if_neg e, if_neg e]), h.1.2.1.setOther (by show _ ≠ w.heap.size; omega) _, h.1.2.2.1.setOther (by show _ ≠ w.heap.size; omega) _, h.1.2.2.2.setCell (Nat.le_refl _) _⟩, h.2.1.setOther (by show _ ≠ w.heap.size; omega) _, h.2.2.setOther (by show _ ≠ w.heap.size; omega) _⟩
theorem SC.congrH {w wr : World} {hs hs' W V : Nat → Int} {N : Nat} (h : SC w hs W N V wr) (e : ∀ j, j < 8 → hs j = hs' j) : SC w hs' W N V wr := ⟨h.1.congrH e, h.2⟩
theorem SC.fh {w wr : World} {hs W V : Nat → Int} {N : Nat} (h : SC w hs W N V wr) (j : Nat) (hj : j < 8) : wr.cell? ⟨w.heap.size, j, none⟩ = some (.int .u32 (hs j)) := h.1.1.cell hj
/-- Eight words, loaded. -/
theorem loadVar8 {wr : World} {b : Nat} {f : Nat → Int} (h : wr.rowIs b 134 8 (fun j => .int .u32 (f j))) : (loadVar 134 ⟨b, 0, none⟩).run Tryz.prog wr = .ok (.agg (arr8 f)) wr := by
  obtain ⟨c, hb, hn, hc⟩ := h
  have hca : c = arr8 f := by
    apply Array.ext_getElem?
    intro j
    by_cases hj : j < 8
    · rw [hc j hj, arr8_at f j hj]
    · rw [Array.getElem?_eq_none (by omega), Array.getElem?_eq_none (by show 8 ≤ j; omega)]
  subst hca
  exact run_loadVar_row _ _ 134 134 (arr8 f) (0, 0) _ hb Tryz.underlying134 rfl (show (Tryz.prog.info? 134).map (·.size) = some 8 by kernel_rfl)
/-- The result's words, stored. -/
theorem stored8 {wr : World} {b : Nat} {f g : Nat → Int} (h : wr.rowIs b 134 8 (fun j => .int .u32 (f j))) :
    ((((((((wr.setCell ⟨b, 0, none⟩ (.int .u32 (g 0))).setCell ⟨b, 1, none⟩ (.int .u32 (g 1))).setCell ⟨b, 2, none⟩ (.int .u32 (g 2))).setCell ⟨b, 3, none⟩ (.int .u32 (g 3))).setCell ⟨b, 4, none⟩ (.int .u32 (g 4))).setCell ⟨b, 5, none⟩ (.int .u32 (g 5))).setCell ⟨b, 6, none⟩ (.int .u32 (g 6))).setCell ⟨b, 7, none⟩ (.int .u32 (g 7))).rowIs b 134 8 (fun j => .int .u32 (g j)) :=
  ((((((((h.set 0 _).set 1 _).set 2 _).set 3 _).set 4 _).set 5 _).set 6 _).set 7 _).congr fun j hj => by
    rcases lt8 hj with rfl | rfl | rfl | rfl | rfl | rfl | rfl | rfl <;> rfl
/-- A block's words behind it. -/
def blkV (xs : List Int) (hs : Nat → Int) : Nat → Int := fun j => (hs j + vS xs hs 64 j) % 4294967296
theorem SC.start {w W2 : World} {hs W : Nat → Int} (h : SB w hs W W2) :
    SC w hs W W2.heap.size hs (((W2.alloc (.cells keyA 190)).alloc (.cells keyA 190)).alloc (.cells (arr8 hs) 134)) := by
  refine ⟨((h.alloc _).alloc _).alloc _, ?_, ?_⟩
  · have h := (World.rowIs_alloc (W2.alloc (.cells keyA 190)) keyA 190 (fun j => .int .u32 (keyI j)) (fun j hj => keyA_at j (by rw [← keyA_size]; exact hj))).alloc (.cells (arr8 hs) 134)
    rw [World.size_alloc, keyA_size] at h
    exact h
  · have h := World.rowIs_alloc ((W2.alloc (.cells keyA 190)).alloc (.cells keyA 190)) (arr8 hs) 134 (fun j => .int .u32 (hs j)) (fun j hj => arr8_at hs j hj)
    rw [World.size_alloc, World.size_alloc] at h
    exact h
end Go.Proofs.YtapkmoakbfpkeaaGreatDoor
