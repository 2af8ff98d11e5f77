/- base58: what Encode hands back, to the letter. base58: the alphabet's block, both ways. base58, read: the plain law; the runes of a text of characters below 128. '[]rune(s)' of characters below 128. base58: the walk of FastBase58DecodingAlphabet. base58: Encode and Decode, whole. base58: how the text of an ID begins. FromB58String at the text of an ID. p2pStB at the text of an ID. The text of a peer's ID. The protocol p2p by its name. ProtocolWithName at p2p. -/
import Derived.Test.YtapkmoakbfpkeaaGreatDoorB3
import Derived.StillTailTactics
import Derived.Test.YtapkmoakbfpkeaaGreatDoorB1
import Derived.Test.YtapkmoakbfpkeaaGreatDoorC1
import Derived.Laws.RangeString
import Derived.Deep.DeepCutAuto
import Derived.Laws.BitsLemmas
import Derived.Laws.Bits64
import Derived.Test.YtapkmoakbfpkeaaGreatDoorA5
import Derived.Test.YtapkmoakbfpkeaaGreatDoorZC
import Derived.Test.YtapkmoakbfpkeaaGreatDoorA2
import Derived.Test.YtapkmoakbfpkeaaGreatDoorA3
namespace Go.Proofs.YtapkmoakbfpkeaaGreatDoor
open Go Go.RowKit Go.Proofs Go.Sort
/-- The number of some bytes, the highest first. -/
def val (xs : List Int) : Nat := xs.foldl (fun a x => 256 * a + x.toNat) 0
theorem val_snoc (xs : List Int) (x : Int) : val (xs ++ [x]) = 256 * val xs + x.toNat := by simp [val]
theorem val_take (xs : List Int) (i : Nat) (h : i < xs.length) : val (xs.take (i + 1)) = 256 * val (xs.take i) + (xs.getD i 0).toNat := by
  rw [List.take_succ_eq_append_getElem h, val_snoc]
  simp [List.getD, List.getElem?_eq_getElem h]
theorem val_zeros (xs : List Int) : ∀ i, (∀ t, t < i → xs.getD t 0 = 0) → i ≤ xs.length → val (xs.take i) = 0
  | 0, _, _ => by simp [val]
  | i + 1, h, hl => by rw [val_take xs i (by omega), val_zeros xs i (fun t ht => h t (by omega)) (by omega), h i (by omega)]; rfl
/-- The number of some digits, the highest first. -/
def val58 (D : List Nat) : Nat := D.foldl (fun a d => 58 * a + d) 0
theorem fold58 : ∀ (D : List Nat) (a : Nat), D.foldl (fun a d => 58 * a + d) a = a * 58 ^ D.length + val58 D
  | [], a => by simp [val58]
  | d :: D, a => by
    have h1 := fold58 D (58 * a + d)
    have h2 := fold58 D (58 * 0 + d)
    show D.foldl _ (58 * a + d) = a * 58 ^ (D.length + 1) + D.foldl _ (58 * 0 + d)
    have e : a * (58 ^ D.length * 58) = 58 * a * 58 ^ D.length := by rw [Nat.mul_comm (58 ^ D.length) 58, ← Nat.mul_assoc, Nat.mul_comm a 58]
    rw [h1, h2, Nat.pow_succ, e, Nat.add_mul, Nat.mul_zero, Nat.zero_add]
    omega
/-- The digits of e below m, the highest first. -/
def digs (e : Nat → Nat) (m : Nat) : List Nat := (List.range m).map fun t => e (m - 1 - t)
theorem digs_succ (e : Nat → Nat) (m : Nat) : digs e (m + 1) = e m :: digs e m := by
  unfold digs
  rw [List.range_succ_eq_map, List.map_cons, List.map_map]
  congr 1
  refine List.map_congr_left fun t _ => ?_
  show e (m + 1 - 1 - (t + 1)) = _
  rw [show m + 1 - 1 - (t + 1) = m - 1 - t by omega]
theorem val58_digs (e : Nat → Nat) : ∀ m, val58 (digs e m) = B58.le e m
  | 0 => rfl
  | m + 1 => by
    have hl : (digs e m).length = m := by simp [digs]
    rw [digs_succ]
    show (digs e m).foldl _ (58 * 0 + e m) = B58.le e m + e m * 58 ^ m
    rw [fold58, val58_digs e m, hl, Nat.mul_zero, Nat.zero_add]
    omega
theorem InAt.val {w : World} {p sz z k c x i : Nat} {h : Int} {e0 e : Nat → Nat} {wr w0 : World} (a : InAt w p sz z k c x e0 e wr) (a0 : OutAt w p sz z i h e0 w0) (hk : k ≤ sz) (hc : c = 0) (hj : (sz : Int) - 1 - k ≤ h) : B58.le e sz = 256 * B58.le e0 sz + x := by
  have z0 : ∀ t, k ≤ t → t < sz → e0 t = 0 := fun t h1 h2 => a0.zer t h2 (by omega)
  have e1 := B58.le_zeros hk z0
  have e2 := B58.le_zeros (e := e) hk (fun t h1 h2 => by rw [a.same t h1]; exact z0 t h1 h2)
  have s := a.sum
  rw [hc, e1] at s
  rw [e1, e2]
  omega
/-- The buffer while the result is written: a zeros ahead, k digits' characters. -/
structure FinX (w : World) (p sz z : Nat) (e : Nat → Nat) (j a k : Nat) (G : Nat → Nat) (wr : World) : Prop where
  row : wr.rowIs p 5 (sz * 2 + z) (fun i => .int .u8 (G i : Nat))
  dig : ∀ i, sz + z ≤ i → i < sz * 2 + z → G i = e (2 * sz + z - 1 - i)
  zer : ∀ i, i < a → (G i : Int) = bt 0
  out : ∀ t, t < k → (G (z + t) : Int) = bt (e (sz - 1 - (j + t)))
  below : Below p w wr
def FinY (w : World) (p sz z : Nat) (e : Nat → Nat) (j a k : Nat) (wr : World) : Prop := ∃ G, FinX w p sz z e j a k G wr
theorem OutAt.finx {w : World} {p sz z i : Nat} {h : Int} {e : Nat → Nat} {wr : World} (a : OutAt w p sz z i h e wr) (j : Nat) : FinY w p sz z e j 0 0 wr :=
  ⟨fun i => if i < sz + z then 0 else e (2 * sz + z - 1 - i), a.row, fun i h1 h2 => by simp only [if_neg (show ¬ i < sz + z by omega)], fun i h => absurd h (Nat.not_lt_zero _), fun i h => absurd h (Nat.not_lt_zero _), a.below⟩
theorem FinX.setz {w : World} {p sz z j a : Nat} {e G : Nat → Nat} {wr : World} (A : FinX w p sz z e j a 0 G wr) (ha : a < z) : FinY w p sz z e j (a + 1) 0 (wr.setCell ⟨p, a, none⟩ (.int .u8 (bt 0))) := by
  have hb := bt_bd 0 (by omega)
  refine ⟨fun i => if i = a then (bt 0).toNat else G i, (A.row.set _ _).congr fun i _ => ?_, fun i h1 h2 => ?_, fun i hi => ?_, fun i h => absurd h (Nat.not_lt_zero _), A.below.setCell (Nat.le_refl _) _⟩
  · by_cases h : i = a
    · simp only [if_pos h]; exact int_eq (by omega)
    · simp only [if_neg h]
  · simp only [if_neg (show ¬ i = a by omega)]; exact A.dig i h1 h2
  · by_cases h : i = a
    · simp only [if_pos h]; omega
    · simp only [if_neg h]; exact A.zer i (by omega)
theorem FinX.setd {w : World} {p sz z j k : Nat} {e G : Nat → Nat} {wr : World} (A : FinX w p sz z e j z k G wr) (hk : j + k < sz) (d : Nat) (hd : d = e (sz - 1 - (j + k))) (h58 : d < 58) : FinY w p sz z e j z (k + 1) (wr.setCell ⟨p, z + k, none⟩ (.int .u8 (bt d))) := by
  have hb := bt_bd d h58
  refine ⟨fun i => if i = z + k then (bt d).toNat else G i, (A.row.set _ _).congr fun i _ => ?_, fun i h1 h2 => ?_, fun i hi => ?_, fun t ht => ?_, A.below.setCell (Nat.le_refl _) _⟩
  · by_cases h : i = z + k
    · simp only [if_pos h]; exact int_eq (by omega)
    · simp only [if_neg h]
  · simp only [if_neg (show ¬ i = z + k by omega)]; exact A.dig i h1 h2
  · simp only [if_neg (show ¬ i = z + k by omega)]; exact A.zer i hi
  · by_cases h : t = k
    · subst h; simp only [if_pos]; rw [← hd]; omega
    · simp only [if_neg (show ¬ z + t = z + k by omega)]; exact A.out t (by omega)
theorem FinY.drewN {w : World} {p sz z j a k : Nat} {e : Nat → Nat} {wr : World} (A : FinY w p sz z e j a k wr) (q : Nat) : FinY w p sz z e j a k (wr.drewN q) := by
  obtain ⟨G, h⟩ := A
  exact ⟨G, h.row, h.dig, h.zer, h.out, below_drewN h.below q⟩
/-- z ones, then the digits' characters. -/
def text58 (z : Nat) (D : List Nat) : List Int := List.replicate z (bt 0) ++ D.map bt
/-- How many zeros stand ahead of a number's bytes, and its digits. -/
def Digs (xs : List Int) (z : Nat) (D : List Nat) : Prop := (∀ d ∈ D, d < 58) ∧ D.head? ≠ some 0 ∧ val58 D = val xs ∧ z ≤ xs.length ∧ (∀ i, i < z → xs.getD i 0 = 0) ∧ (z < xs.length → xs.getD z 0 ≠ 0) ∧ D.length ≤ 200
def Enc58 (xs : List Int) (w : World) (e : Ending) (w' : World) : Prop := ∃ z D, e = .returned (.string (strOfNums (text58 z D))) ∧ Digs xs z D ∧ Below w.heap.size w w'
theorem le_zero : ∀ k, B58.le (fun _ => 0) k = 0
  | 0 => rfl
  | k + 1 => by unfold B58.le; rw [le_zero k, Nat.zero_mul]
/-- At the outer loop's head, with the number so far. -/
def OutV (xs : List Int) (w : World) (p sz z i : Nat) (h : Int) (wr : World) : Prop := ∃ e, OutAt w p sz z i h e wr ∧ B58.le e sz = val (xs.take i)
set_option maxHeartbeats 3200000 in
set_option maxRecDepth 100000 in
theorem fast58X (b o n c g : Nat) (xs : List Int) (w : World) (hx : xs.length = n) (hn : n ≤ 130) (hb : ∀ x ∈ xs, 0 ≤ x ∧ x < 256) (hc : ∀ i, i < n → w.cell? ⟨b, o + i, none⟩ = some (.int .u8 (xs.getD i 0))) (hA : AlphaAt w g) :
    Calls Tryz.prog 193 #[.slice (some ⟨b, o, none⟩) n c, .pointer (some ⟨g, 0, none⟩)] w (Enc58 xs w) := by
  obtain ⟨f, hr, hf⟩ := hA
  have hz : w.cell? ⟨g, 128, none⟩ = some (.int .u8 (bt 0)) := by rw [hr.cell (by omega), show (128 : Nat) = 128 + 0 by rfl, hf 0 (by omega)]
  have HC := Lib.hid hc
  have HX := Lib.hid hx
  have HR := Lib.hid (And.intro hr hf)
  clear hc hx hr hf
  go_enter Tryz.func193, Tryz.ntmps193
  go_upto_block 0 with fail
  clear hz
  go_cut [9] (fun zc wx => ∃ z : Nat, z ≤ n ∧ zc = .int .i64 z ∧ ((∀ i, i < z → xs.getD i 0 = 0) ∧ (z < n → xs.getD z 0 ≠ 0)) ∧ Dr w wx)
  case first =>
    go_wp2_with fail
    go_loopg [9] n (fun gk i wr => ∃ k : Nat, k ≤ n ∧ gk + k = n ∧ i = .int .i64 k ∧ (∀ i, i < k → xs.getD i 0 = 0) ∧ Dr w wr)
    case atStart => exact ⟨0, by omega, by omega, rfl, fun i h => absurd h (Nat.not_lt_zero _), 0, rfl⟩
    case round =>
      obtain ⟨z, hz, hgk, rfl, hzz, q, rfl⟩ := hrel
      have HZZ := Lib.hid hzz
      clear hzz
      have HGK := Lib.hid hgk
      clear hgk
      by_cases hlt : z < n
      · have hcl := HC.out z hlt
        obtain ⟨x, hxe⟩ : ∃ x, x = xs.getD z 0 := ⟨_, rfl⟩
        rw [← hxe] at hcl
        have HXE := Lib.hid hxe
        clear hxe
        by_cases hx0 : x = 0
        · subst hx0
          go_wp2_with fail
          go_roundg (gk - 1)
          case measure => have := HGK.out; omega
          case rel => have := HGK.out; exact ⟨z + 1, by omega, by omega, by go_num, fun i hi => (by by_cases e : i = z; exact (by rw [e]; exact HXE.out.symm); exact HZZ.out i (by omega)), q, rfl⟩
        · have hxn : (x == 0) = false := by simpa using hx0
          go_wp2_with fail
          go_meet
          exact ⟨z, hz, rfl, ⟨HZZ.out, fun _ => by rw [← HXE.out]; exact hx0⟩, q, rfl⟩
      · go_wp2_with fail
        go_meet
        exact ⟨z, hz, rfl, ⟨HZZ.out, fun h => absurd h hlt⟩, q, rfl⟩
  case rest =>
    obtain ⟨z, hz, rfl, hzz, q, rfl⟩ := hcut
    have HZZ := Lib.hid hzz
    clear hzz
    obtain ⟨sz, hsz⟩ : ∃ sz : Nat, ((n : Int) - z) * 138 / 100 + 1 = (sz : Int) := ⟨(((n : Int) - z) * 138 / 100 + 1).toNat, by omega⟩
    have hs1 : 138 * (n - z) < 100 * sz := by omega
    have hs2 : 1 ≤ sz ∧ sz ≤ 181 := by omega
    have hmk : ∀ w, (Instr.makeSlice 23 (.int .i64 ((sz : Int) * 2 + z)) (.int .i64 ((sz : Int) * 2 + z))).run Tryz.prog w = .ok (.slice (some ⟨w.heap.size, 0, none⟩) (sz * 2 + z) (sz * 2 + z)) (w.alloc (.cells (madeCells #[.int .u8 0] (sz * 2 + z)) 5)) := fun w => by
      have := mkBytes (sz * 2 + z) (by omega) w
      rw [show ((sz * 2 + z : Nat) : Int) = (sz : Int) * 2 + z by omega] at this
      exact this
    go_wp2_with fail
    have hrow : Hid (OutV xs w w.heap.size sz z z ((sz : Int) - 1) ((w.alloc (.cells (madeCells #[.int .u8 0] (sz * 2 + z)) 5)).drewN q)) := by
      refine ⟨fun _ => 0, ⟨fun t _ => by decide, fun _ _ _ => rfl, ?_, ?_, below_drewN ((Below.refl _ _).alloc (Nat.le_refl _) _) _⟩, ?_⟩
      · rw [Nat.sub_self]
        have : ∀ k, B58.le (fun _ => 0) k = 0 := fun k => by induction k with
          | zero => rfl
          | succ k ih => unfold B58.le; rw [ih, Nat.zero_mul]
        rw [this]; decide
      · exact World.rowIs.congr (World.rowIs_made w (.int .u8 0) _ _) fun i hi => by unfold Bf; split <;> rfl
      · rw [val_zeros xs z HZZ.out.1 (by rw [HX.out]; exact hz)]
        exact le_zero sz
    obtain ⟨W0, hW0⟩ : ∃ W0, W0 = (w.alloc (.cells (madeCells #[.int .u8 0] (sz * 2 + z)) 5)).drewN q := ⟨_, rfl⟩
    rw [← hW0] at hrow
    rw [← hW0]
    obtain ⟨p, hp⟩ : ∃ p, p = w.heap.size := ⟨_, rfl⟩
    rw [← hp] at hrow
    rw [← hp]
    have HP := Lib.hid hp
    have HSZ := Lib.hid hsz
    clear hW0 hp hmk hsz
    go_loopg [7, 10] (n - z) (fun gk i h wr => ∃ (k : Nat) (hh : Int), z ≤ k ∧ k ≤ n ∧ gk + k = n ∧ -1 ≤ hh ∧ hh < sz ∧ i = .int .i64 k ∧ h = .int .i64 hh ∧ Hid (OutV xs w p sz z k hh wr))
    case atStart => exact ⟨z, _, Nat.le_refl _, hz, by omega, by omega, by omega, rfl, rfl, hrow⟩
    case round =>
      obtain ⟨i, hh, hzi, hin, hgk, hh1, hh2, rfl, rfl, hO⟩ := hrel
      have HGK := Lib.hid hgk
      clear hgk hrow
      by_cases hlt : i < n
      · obtain ⟨e0, hE, hEV⟩ := hO.out
        have hcl : wr.cell? ⟨b, o + i, none⟩ = some (.int .u8 (xs.getD i 0)) := by
          have h0 := HC.out i hlt
          exact (hE.below.cell (by rw [HP.out]; exact World.block_lt_of_cell? _ _ h0)).trans h0
        have hxb : 0 ≤ xs.getD i 0 ∧ xs.getD i 0 < 256 := by
          have e : xs.getD i 0 = xs[i]'(by rw [HX.out]; exact hlt) := by simp [List.getD, List.getElem?_eq_getElem (show i < xs.length by rw [HX.out]; exact hlt)]
          rw [e]; exact hb _ (List.getElem_mem _)
        obtain ⟨x, hxe⟩ : ∃ x : Nat, xs.getD i 0 = (x : Int) := ⟨(xs.getD i 0).toNat, by omega⟩
        rw [hxe] at hcl hxb
        have HVX := Lib.hid (And.intro hxe hEV)
        clear hxe hEV
        have hd8 : decide ((i : Int) < n) = true := decide_eq_true (by omega)
        have HE := Lib.hid hE
        clear hE hO
        go_wp2_with fail
        obtain ⟨gO, rfl⟩ : ∃ m, m = gk := ⟨_, rfl⟩
        obtain ⟨wo, rfl⟩ : ∃ wo, wo = wr := ⟨_, rfl⟩
        go_loopg [11, 8] sz (fun gk cc j wr => ∃ (k c : Nat) (e : Nat → Nat), k ≤ sz ∧ gk + k = sz ∧ c ≤ 255 ∧ cc = .int .u32 c ∧ j = .int .i64 ((sz : Int) - 1 - k) ∧ Hid (InAt w p sz z k c x e0 e wr))
        case atStart => exact ⟨0, x, e0, by omega, by omega, by omega, rfl, by simp, ⟨HE.out.dig, fun _ _ => rfl, by simp [B58.le]; omega, HE.out.row, HE.out.below⟩⟩
        case round =>
          obtain ⟨k, c, e, hk, hgk, hc255, rfl, rfl, hI⟩ := hrel
          have HGJ := Lib.hid hgk
          clear hgk
          by_cases hcond : hh < (sz : Int) - 1 - k ∨ 0 < c
          · have hks : k < sz := by
              rcases Nat.lt_or_ge k sz with h | h
              · exact h
              · obtain rfl : k = sz := by omega
                rcases hcond with h | h
                · omega
                · have hE := HE.out
                  have hs := hI.out.sum
                  rw [Nat.sub_self] at hs
                  have := B58.no_carry e c _ k (by omega) (B58.next_lt _ x (i - z) k hE.lt (by omega) (B58.room (i - z + 1) k (by omega)))
                  omega
            have hd := hI.out.dig k hks
            have hcl := hI.out.row.cell (i := sz + z + (sz - 1 - k)) (by omega)
            rw [Bf_at _ _ _ _ hks] at hcl
            have hfz := hI.out.row.frozen (sz + z + (sz - 1 - k))
            have hst := hI.out.step hks
            have HST := Lib.hid hst
            obtain ⟨d, hde⟩ : ∃ d, d = e k := ⟨_, rfl⟩
            rw [← hde] at hd hcl
            have HDE := Lib.hid hde
            clear hst hde
            have hj : ((sz : Int) - 1 - k) = ((sz - 1 - k : Nat) : Int) := by omega
            have HCO := Lib.hid hcond
            clear hcond
            by_cases hlt2 : hh < ((sz - 1 - k : Nat) : Int)
            · go_wp2_with fail
              go_roundg (gk - 1)
              case measure => have := HGJ.out; omega
              case rel =>
                have := HGJ.out
                refine ⟨k + 1, (c + 256 * d) / 58, B58.up e k ((c + 256 * d) % 58), by omega, by omega, B58.carry_le c d hc255 hd, int_eq (by omega), int_eq (by omega), ?_⟩
                have h := HST.out
                rw [← HDE.out, show (((c + 256 * d) % 58 : Nat) : Int) = ((c : Int) + 256 * d) % 58 by omega] at h
                exact h
            · have hc1 : 0 < c := by have := HCO.out; omega
              have hcn : ((c : Int) != 0) = true := by simp; omega
              go_wp2_with fail
              go_roundg (gk - 1)
              case measure => have := HGJ.out; omega
              case rel =>
                have := HGJ.out
                refine ⟨k + 1, (c + 256 * d) / 58, B58.up e k ((c + 256 * d) % 58), by omega, by omega, B58.carry_le c d hc255 hd, int_eq (by omega), int_eq (by omega), ?_⟩
                have h := HST.out
                rw [← HDE.out, show (((c + 256 * d) % 58 : Nat) : Int) = ((c : Int) + 256 * d) % 58 by omega] at h
                exact h
          · have hc0 : c = 0 := by omega
            subst hc0
            have hnl : ¬ hh < (sz : Int) - 1 - k := fun h => hcond (.inl h)
            clear hcond
            go_wp2_with fail
            go_roundg (gO - 1)
            case measure => have := HGK.out; omega
            case rel => have := HGK.out; exact ⟨i + 1, (sz : Int) - 1 - k, by omega, by omega, by omega, by omega, by omega, by go_num, rfl, (show OutV xs w p sz z (i + 1) ((sz : Int) - 1 - k) wr from ⟨e, hI.out.done HE.out hk (by omega) hzi rfl (by omega), (by rw [hI.out.val HE.out hk rfl (by omega), HVX.out.2, val_take xs i (by rw [HX.out]; exact hlt), HVX.out.1]; simp)⟩)⟩
      · obtain ⟨e, hE, hEV⟩ := hO.out
        have hiN : i = n := by omega
        have HE := Lib.hid hE
        have HV := Lib.hid (show B58.le e sz = val xs by rw [hEV, hiN, List.take_of_length_le (by rw [HX.out]; exact Nat.le_refl _)])
        clear hE hO HGK hEV hiN
        go_upto_block 6 with fail
        go_cut [8] (fun j wx => ∃ jj : Nat, jj ≤ sz ∧ j = .int .i64 jj ∧ ((∀ t, t < jj → e (sz - 1 - t) = 0) ∧ (jj < sz → e (sz - 1 - jj) ≠ 0)) ∧ Dr wr wx)
        case first =>
          go_wp2_with fail
          obtain ⟨wo, rfl⟩ : ∃ wo, wo = wr := ⟨_, rfl⟩
          go_loopg [8] sz (fun gk j wx => ∃ k : Nat, k ≤ sz ∧ gk + k = sz ∧ j = .int .i64 k ∧ (∀ t, t < k → e (sz - 1 - t) = 0) ∧ Dr wo wx)
          case atStart => exact ⟨0, by omega, by omega, rfl, fun i h => absurd h (Nat.not_lt_zero _), 0, rfl⟩
          case round =>
            obtain ⟨k, hk, hgk, rfl, hjz, q, rfl⟩ := hrel
            have HJZ := Lib.hid hjz
            clear hjz
            have HGK := Lib.hid hgk
            clear hgk
            by_cases hlt : k < sz
            · have hcl := HE.out.row.cell (i := sz + z + k) (by omega)
              have e1 := Bf_at sz z e (sz - 1 - k) (by omega)
              rw [show sz - 1 - (sz - 1 - k) = k by omega] at e1
              rw [e1] at hcl
              clear e1
              obtain ⟨d, hde⟩ : ∃ d, d = e (sz - 1 - k) := ⟨_, rfl⟩
              rw [← hde] at hcl
              have HDE := Lib.hid hde
              clear hde
              by_cases hd : d = 0
              · subst hd
                go_wp2_with fail
                go_roundg (gk - 1)
                case measure => have := HGK.out; omega
                case rel => have := HGK.out; exact ⟨k + 1, by omega, by omega, by go_num, fun t ht => (by by_cases e2 : t = k; exact (by rw [e2]; exact HDE.out.symm); exact HJZ.out t (by omega)), q, rfl⟩
              · have hdn : ((d : Int) == 0) = false := by simp; omega
                go_wp2_with fail
                go_meet
                exact ⟨k, hk, rfl, ⟨HJZ.out, fun _ => by rw [← HDE.out]; exact hd⟩, q, rfl⟩
            · go_wp2_with fail
              go_meet
              exact ⟨k, hk, rfl, ⟨HJZ.out, fun h => absurd h hlt⟩, q, rfl⟩
        case rest =>
          obtain ⟨j, hj, rfl, hjz, q1, rfl⟩ := hcut
          have HJZ := Lib.hid hjz
          clear hjz
          have HDG := Lib.hid HE.out.dig
          have hF : Hid (FinY w p sz z e j 0 0 (wr.drewN q1)) := (HE.out.finx j).drewN q1
          go_upto_if 112 with fail
          go_cut [] (fun wx => Hid (FinY w p sz z e j z 0 wx))
          case first =>
            by_cases hz0 : z = 0
            · subst hz0
              go_wp2_with fail
              go_meet
              exact hF
            · have hzn : ((z : Int) != 0) = true := by simp; omega
              go_wp2_with fail
              go_loopg [7] z (fun gk i wx => ∃ k : Nat, k ≤ z ∧ gk + k = z ∧ i = .int .i64 k ∧ Hid (FinY w p sz z e j k 0 wx))
              case atStart => exact ⟨0, by omega, by omega, rfl, hF⟩
              case round =>
                obtain ⟨k, hk, hgk, rfl, hF⟩ := hrel
                have HGK := Lib.hid hgk
                clear hgk
                by_cases hlt : k < z
                · obtain ⟨G, hG⟩ := hF.out
                  have hcl := hG.row.cell (i := k) (by omega)
                  have hfz := hG.row.frozen k
                  have HG := Lib.hid hG
                  have hb0 := bt_bd 0 (by omega)
                  obtain ⟨x0, hx0⟩ : ∃ x0, x0 = bt 0 := ⟨_, rfl⟩
                  clear hG hF
                  go_wp2_with fail
                  go_roundg (gk - 1)
                  case measure => have := HGK.out; omega
                  case rel => have := HGK.out; exact ⟨k + 1, by omega, by omega, by go_num, HG.out.setz hlt⟩
                · obtain rfl : k = z := by omega
                  go_wp2_with fail
                  go_meet
                  exact hF
          case rest =>
            clear hF HE
            go_wp2_with fail
            go_loopg [8, 7] (sz - j) (fun gk jv iv wx => ∃ k : Nat, j ≤ k ∧ k ≤ sz ∧ gk + k = sz ∧ jv = .int .i64 k ∧ iv = .int .i64 ((z : Int) + ((k : Int) - j)) ∧ Hid (FinY w p sz z e j z (k - j) wx))
            case atStart => exact ⟨j, Nat.le_refl _, hj, by omega, rfl, int_eq (by omega), (by rw [Nat.sub_self]; exact hcut)⟩
            case round =>
              obtain ⟨k, hjk, hk, hgk, rfl, rfl, hF⟩ := hrel
              have HGK := Lib.hid hgk
              clear hgk
              by_cases hlt : k < sz
              · obtain ⟨G, hG⟩ := hF.out
                have hcl := hG.row.cell (i := sz + z + k) (by omega)
                have hdg := hG.dig (sz + z + k) (by omega) (by omega)
                rw [show 2 * sz + z - 1 - (sz + z + k) = sz - 1 - k by omega] at hdg
                have hd58 := HDG.out (sz - 1 - k) (by omega)
                rw [← hdg] at hd58
                obtain ⟨d, hde⟩ : ∃ d, d = G (sz + z + k) := ⟨_, rfl⟩
                simp only [← hde] at hcl
                rw [← hde] at hdg hd58
                have HDD := Lib.hid hdg
                replace hdg := hd58
                clear hde hd58
                have hca : wr.cell? ⟨g, 128 + d, none⟩ = some (.int .u8 (bt d)) := by
                  have h0 := HR.out.1.cell (i := 128 + d) (by omega)
                  rw [HR.out.2 d hdg] at h0
                  exact (hG.below.cell (by rw [HP.out]; exact HR.out.1.lt)).trans h0
                have hiz : (z : Int) + ((k : Int) - j) = ((z + (k - j) : Nat) : Int) := by omega
                have hfz := hG.row.frozen (z + (k - j))
                have hcz := hG.row.cell (i := z + (k - j)) (by omega)
                have hbd := bt_bd d hdg
                have HG := Lib.hid hG
                clear hG hF
                rw [hiz]
                clear hiz
                go_wp2_with fail
                go_region
                go_wp2_with fail
                go_roundg (gk - 1)
                case measure => have := HGK.out; omega
                case rel => have := HGK.out; exact ⟨k + 1, by omega, by omega, by omega, by go_num, int_eq (by omega), (by rw [show k + 1 - j = (k - j) + 1 by omega]; exact (HG.out.setd (by omega) d (by rw [show j + (k - j) = k by omega]; exact HDD.out) hdg).drewN 1)⟩
              · obtain ⟨G, hG⟩ := hF.out
                have hcv := run_convert_bytes_arg (P := Tryz.prog) (w := wr) 23 5 Tryz.underlying23 Tryz.underlying5 p 0 (sz - j + z) (sz * 2 + z) ((List.range (sz - j + z)).map fun i => (G i : Int)) (by simp) (fun i hi => by
                  rw [Nat.zero_add, hG.row.cell (by omega)]
                  simp [List.getD, hi]) 9 Tryz.underlying9
                have hke : k = sz := by omega
                have HG := Lib.hid hG
                clear hG hF
                go_wp2_with fail
                go_ret
                have hlst : ((List.range (sz - j + z)).map fun i => (G i : Int)) = text58 z (digs e (sz - j)) := by
                  unfold text58
                  refine List.ext_getElem? fun t => ?_
                  by_cases h1 : t < z
                  · rw [List.getElem?_append_left (by simpa using h1), List.getElem?_replicate, if_pos h1, List.getElem?_map, List.getElem?_range (by omega)]
                    simp [HG.out.zer t h1]
                  · rw [List.getElem?_append_right (by simpa using Nat.not_lt.1 h1), List.length_replicate]
                    by_cases h2 : t < sz - j + z
                    · have h3 := HG.out.out (t - z) (by omega)
                      rw [show z + (t - z) = t by omega] at h3
                      rw [List.getElem?_map, List.getElem?_range h2, List.getElem?_map]
                      unfold digs
                      rw [List.getElem?_map, List.getElem?_range (by omega)]
                      simp only [Option.map_some]
                      rw [h3, show sz - 1 - (j + (t - z)) = sz - j - 1 - (t - z) by omega]
                    · rw [List.getElem?_eq_none (by simp; omega), List.getElem?_eq_none (by simp [digs]; omega)]
                refine ⟨z, digs e (sz - j), by rw [hlst]; rfl, ⟨fun d hd => ?_, ?_, ?_, by rw [HX.out]; exact hz, HZZ.out.1, by rw [HX.out]; exact HZZ.out.2, by simp [digs]; omega⟩, by rw [← HP.out]; exact HG.out.below⟩
                · unfold digs at hd
                  obtain ⟨t, ht, rfl⟩ := List.mem_map.1 hd
                  exact HDG.out _ (by have := List.mem_range.1 ht; omega)
                · by_cases hjs : j < sz
                  · obtain ⟨m, hm⟩ : ∃ m, sz - j = m + 1 := ⟨sz - j - 1, by omega⟩
                    rw [hm, digs_succ]
                    have := HJZ.out.2 hjs
                    rw [show sz - 1 - j = m by omega] at this
                    simpa using this
                  · rw [show sz - j = 0 by omega]
                    simp [digs]
                · rw [val58_digs, ← HV.out]
                  exact (B58.le_zeros (by omega) fun t h1 h2 => by
                    have := HJZ.out.1 (sz - 1 - t) (by omega)
                    rwa [show sz - 1 - (sz - 1 - t) = t by omega] at this).symm
end Go.Proofs.YtapkmoakbfpkeaaGreatDoor
namespace Go.Proofs.YtapkmoakbfpkeaaGreatDoor
open Go Go.RowKit Go.Proofs Go.Sort
theorem bt_inj (j k : Nat) (hj : j < 58) (hk : k < 58) (h : bt j = bt k) : j = k :=
  (by decide +kernel : ∀ a b : Fin 58, bt a.val = bt b.val → a.val = b.val) ⟨j, hj⟩ ⟨k, hk⟩ h
/-- The alphabet's block: the characters, and k digits by their characters. -/
def AlphaX (w : World) (g k : Nat) : Prop := ∃ f, w.rowIs g 248 186 f ∧ AlphaF f ∧ ∀ j, j < k → f (bt j).toNat = .int .i8 (j : Int)
theorem AlphaAt.x {w : World} {g : Nat} (h : AlphaAt w g) : AlphaX w g 0 := by
  obtain ⟨f, h1, h2⟩ := h
  exact ⟨f, h1, h2, fun j hj => absurd hj (Nat.not_lt_zero _)⟩
theorem AlphaX.at {w : World} {g k : Nat} (h : AlphaX w g k) : AlphaAt w g := by
  obtain ⟨f, h1, h2, _⟩ := h
  exact ⟨f, h1, h2⟩
set_option maxHeartbeats 800000 in
set_option maxRecDepth 100000 in
theorem newAlphabetX (w : World) : Calls Tryz.prog 212 #[.string btc] w fun e w' => e = .returned (.pointer (some ⟨w.heap.size, 0, none⟩)) ∧ AlphaX w' w.heap.size 58 ∧ Below w.heap.size w w' := by
  obtain ⟨W1, hcp, hA1, hB1⟩ := copied w
  have hbn : ((btc.size : Int) != 58) = false := rfl
  have HA := Lib.hid hA1
  have HB := Lib.hid hB1
  clear hA1 hB1
  obtain ⟨g, hg⟩ : ∃ g, g = w.heap.size := ⟨_, rfl⟩
  rw [← hg] at HA
  go_enter Tryz.func212, Tryz.ntmps212
  go_wp2_with fail
  have HG := Lib.hid hg
  rw [← hg]
  clear hg hcp
  go_loopg [18] 128 (fun gk i wr => ∃ k : Nat, k ≤ 128 ∧ gk + k = 128 ∧ i = .int .i64 k ∧ Hid (AlphaAt wr g) ∧ Hid (Below w.heap.size w wr))
  case atStart => exact ⟨0, by omega, by omega, rfl, HA, HB⟩
  case round =>
    obtain ⟨k, hk, hgk, rfl, hA, hB⟩ := hrel
    have HGK := Lib.hid hgk
    clear hgk HA HB
    by_cases hlt : k < 128
    · obtain ⟨f, hr, hf⟩ := hA.out
      have hc := hr.cell (i := k) (by omega)
      have hfz := hr.frozen k
      have HR := Lib.hid hr
      have HF := Lib.hid hf
      clear hr hf hA
      go_wp2_with fail
      go_roundg (gk - 1)
      case measure => have := HGK.out; omega
      case rel => have := HGK.out; exact ⟨k + 1, by omega, by omega, by go_num, ⟨_, HR.out.set k _, fun j hj => by rw [if_neg (by omega)]; exact HF.out j hj⟩, hB.out.setCell (by rw [← HG.out]; exact Nat.le_refl _) _⟩
    · clear HGK
      obtain ⟨cs, hcs, hcv⟩ : ∃ cs : Array Value, cs.size = 58 ∧ ∀ j, j < 58 → cs[j]? = some (.int .u8 (bt j)) := ⟨((List.range 58).map fun j => Value.int .u8 (bt j)).toArray, by simp, fun j hj => by simp [hj]⟩
      have hix : ∀ (k : Nat), k < 58 → ∀ w, (Instr.index 246 (.agg cs) (.int .i64 (k : Int))).run Tryz.prog w = .ok (.int .u8 (bt k)) w := fun k hk w => run_index_agg w _ 5 58 cs .i64 k _ Tryz.underlying246 (fun w => by kernel_rfl) (fun w => by kernel_rfl) hk (hcv k hk)
      have HIX := Lib.hid hix
      have HCS := Lib.hid (And.intro hcs hcv)
      clear hix hcs hcv
      go_wp2_with (refine wpList_load_at rfl 246 _ rfl g 128 rfl cs _ ?hc Tryz.underlying246 rfl (by rw [HCS.out.1]; kernel_rfl) ?_)
      case hc =>
        intro j v hj
        obtain ⟨f, hr, hf⟩ := hA.out
        have hj58 : j < 58 := by have := (List.getElem?_eq_some_iff.1 hj).1; rw [Array.length_toList, HCS.out.1] at this; exact this
        rw [hr.cell (by omega), hf j hj58]
        have := HCS.out.2 j hj58
        rw [Array.getElem?_toList] at hj
        rw [← this]; exact hj
      go_loopg [31] 58 (fun gk i wr => ∃ k : Nat, k ≤ 58 ∧ gk + k = 58 ∧ i = .int .i64 k ∧ Hid (AlphaX wr g k) ∧ Hid (Below w.heap.size w wr))
      case atStart => exact ⟨0, by omega, by omega, rfl, hA.out.x, hB⟩
      case round =>
        clear hA hB
        obtain ⟨k, hk, hgk, rfl, hA, hB⟩ := hrel
        have HGK := Lib.hid hgk
        clear hgk
        by_cases hlt : k < 58
        · obtain ⟨f, hr, hf, hd⟩ := hA.out
          have hx := HIX.out k hlt
          have hbd := bt_bd k hlt
          obtain ⟨x, hxe⟩ : ∃ x, x = bt k := ⟨_, rfl⟩
          rw [← hxe] at hx hbd
          have HXE := Lib.hid hxe
          clear hxe
          have hc := hr.cell (i := x.toNat) (by omega)
          have hfz := hr.frozen x.toNat
          have HR := Lib.hid hr
          have HF := Lib.hid (And.intro hf hd)
          clear hr hf hA hd
          go_wp2_with fail
          go_roundg (gk - 1)
          case measure => have := HGK.out; omega
          case rel => have := HGK.out; exact ⟨k + 1, by omega, by omega, by go_num, ⟨_, HR.out.set x.toNat _, fun j hj => by simp only [if_neg (show ¬ 128 + j = x.toNat by omega)]; exact HF.out.1 j hj, fun j hj => (by
            by_cases e : j = k
            · simp only [e, ← HXE.out, if_pos]
            · have hne : ¬ (bt j).toNat = x.toNat := fun e2 => e (bt_inj j k (by omega) hlt (by
                have h0 := HXE.out
                have h1 := bt_bd j (by omega)
                have h2 := bt_bd k hlt
                omega))
              simp only [if_neg hne]
              exact HF.out.2 j (by omega))⟩, hB.out.setCell (by rw [← HG.out]; exact Nat.le_refl _) _⟩
        · obtain rfl : k = 58 := by omega
          go_wp2_with fail
          go_ret
          rw [← HG.out]
          exact ⟨rfl, hA.out, by have := hB.out; rwa [← HG.out] at this⟩

set_option maxRecDepth 100000 in
theorem btcAlphabetX (w : World) : Calls Tryz.prog 194 #[] w fun e w' => e = .returned (.pointer (some ⟨w.heap.size, 0, none⟩)) ∧ AlphaX w' w.heap.size 58 ∧ Below w.heap.size w w' := by
  go_enter Tryz.func194, Tryz.ntmps194
  go_wp2_with fail
  refine (newAlphabetX _).mono ?_
  rintro e w1 ⟨rfl, hA, hB⟩
  have HA := Lib.hid hA
  have HB := Lib.hid hB
  clear hA hB
  go_wp2_with fail
  go_ret
  exact ⟨rfl, HA.out, HB.out⟩
end Go.Proofs.YtapkmoakbfpkeaaGreatDoor
namespace B32
/-- The number that the first k digits at base b give, the lowest one first. -/
def le (b : Nat) (e : Nat → Nat) : Nat → Nat
  | 0 => 0
  | k + 1 => le b e k + e k * b ^ k
theorem le_congr {b : Nat} {e f : Nat → Nat} : ∀ {k : Nat}, (∀ t, t < k → e t = f t) → le b e k = le b f k
  | 0, _ => rfl
  | k + 1, h => by
    unfold le
    rw [le_congr (k := k) (fun t ht => h t (by omega)), h k (by omega)]
theorem le_mono {b : Nat} {e : Nat → Nat} {n : Nat} : ∀ {m : Nat}, n ≤ m → le b e n ≤ le b e m
  | 0, h => by obtain rfl : n = 0 := by omega
               exact Nat.le_refl _
  | m + 1, h => by
    by_cases hk : n = m + 1
    · rw [hk]; exact Nat.le_refl _
    · exact Nat.le_trans (le_mono (m := m) (by omega)) (Nat.le_add_right _ _)
def up (e : Nat → Nat) (k v : Nat) : Nat → Nat := fun t => if t = k then v else e t
theorem le_up {b : Nat} {e : Nat → Nat} {k v : Nat} : le b (up e k v) k = le b e k := le_congr fun t ht => by unfold up; rw [if_neg (by omega)]
/-- One step: the digits times q, with what is carried. -/
theorem step (b q : Nat) (old e : Nat → Nat) (k c N : Nat) (size : Nat) (hk : k < size) (he : ∀ t, k ≤ t → e t = old t)
    (h : le b e k + c * b ^ k + q * (le b old size - le b old k) = N) :
    le b (up e k ((c + q * e k) % b)) (k + 1) + (c + q * e k) / b * b ^ (k + 1) + q * (le b old size - le b old (k + 1)) = N := by
  have h1 : le b (up e k ((c + q * e k) % b)) (k + 1) = le b e k + (c + q * e k) % b * b ^ k := by
    show le b _ k + up e k _ k * b ^ k = _
    rw [le_up]
    unfold up
    rw [if_pos rfl]
  have h2 : le b old (k + 1) = le b old k + old k * b ^ k := rfl
  have h3 := le_mono (b := b) (e := old) (n := k + 1) (m := size) (by omega)
  rw [he k (Nat.le_refl _)] at h1 ⊢
  rw [h1]
  have h4 : (c + q * old k) / b * b ^ (k + 1) = b * ((c + q * old k) / b) * b ^ k := by
    rw [Nat.pow_succ, Nat.mul_comm (b ^ k) b, ← Nat.mul_assoc, Nat.mul_comm _ b]
  have h5 : (c + q * old k) % b * b ^ k + b * ((c + q * old k) / b) * b ^ k = c * b ^ k + q * (old k * b ^ k) := by
    rw [← Nat.add_mul, Nat.mod_add_div, Nat.add_mul, Nat.mul_assoc]
  have h6 : q * (le b old size - le b old k) = q * (old k * b ^ k) + q * (le b old size - le b old (k + 1)) := by
    rw [← Nat.mul_add]
    congr 1
    omega
  rw [h4]
  omega
theorem le_lt (b : Nat) (e : Nat → Nat) : ∀ n, (∀ t, t < n → e t < b) → le b e n < b ^ n
  | 0, _ => by simp [le]
  | n + 1, h => by
    have h1 := le_lt b e n fun t ht => h t (by omega)
    have h2 : e n + 1 ≤ b := h n (by omega)
    have h3 : (e n + 1) * b ^ n ≤ b * b ^ n := Nat.mul_le_mul_right _ h2
    rw [Nat.add_mul, Nat.one_mul] at h3
    show le b e n + e n * b ^ n < b ^ (n + 1)
    rw [Nat.pow_succ, Nat.mul_comm (b ^ n) b]
    omega
end B32
namespace Go.Proofs.YtapkmoakbfpkeaaGreatDoor
open Go Go.RowKit Go.Proofs Go.Sort
theorem fold256 : ∀ (xs : List Int) (a : Nat), xs.foldl (fun a x => 256 * a + x.toNat) a = a * 256 ^ xs.length + val xs
  | [], a => by simp [val]
  | x :: xs, a => by
    have h1 := fold256 xs (256 * a + x.toNat)
    have h2 := fold256 xs (256 * 0 + x.toNat)
    show xs.foldl _ (256 * a + x.toNat) = a * 256 ^ (xs.length + 1) + xs.foldl _ (256 * 0 + x.toNat)
    have e : a * (256 ^ xs.length * 256) = 256 * a * 256 ^ xs.length := by rw [Nat.mul_comm (256 ^ xs.length) 256, ← Nat.mul_assoc, Nat.mul_comm a 256]
    rw [h1, h2, Nat.pow_succ, e, Nat.add_mul, Nat.mul_zero, Nat.zero_add]
    omega
theorem val_cons (x : Int) (xs : List Int) : val (x :: xs) = x.toNat * 256 ^ xs.length + val xs := by
  show xs.foldl _ (256 * 0 + x.toNat) = _
  rw [fold256, Nat.mul_zero, Nat.zero_add]
theorem val_lt : ∀ (xs : List Int), U8 xs → val xs < 256 ^ xs.length
  | [], _ => by simp [val]
  | x :: xs, h => by
    have h1 := val_lt xs fun y hy => h y (by simp [hy])
    have h2 := h x (by simp)
    have h3 : (x.toNat + 1) * 256 ^ xs.length ≤ 256 * 256 ^ xs.length := Nat.mul_le_mul_right _ (by omega)
    rw [Nat.add_mul, Nat.one_mul] at h3
    rw [val_cons, List.length_cons, Nat.pow_succ, Nat.mul_comm _ 256]
    omega
/-- Bytes of one length are told by their number. -/
theorem val_inj : ∀ (xs ys : List Int), U8 xs → U8 ys → xs.length = ys.length → val xs = val ys → xs = ys
  | [], [], _, _, _, _ => rfl
  | [], _ :: _, _, _, h, _ => by simp at h
  | _ :: _, [], _, _, h, _ => by simp at h
  | x :: xs, y :: ys, hx, hy, hl, hv => by
    have hl2 : xs.length = ys.length := by simpa using hl
    have h1 := val_lt xs fun a ha => hx a (by simp [ha])
    have h2 := val_lt ys fun a ha => hy a (by simp [ha])
    have bx := hx x (by simp)
    have by_ := hy y (by simp)
    rw [val_cons, val_cons, ← hl2] at hv
    rw [← hl2] at h2
    have hxy : x.toNat = y.toNat := by
      rcases Nat.lt_trichotomy x.toNat y.toNat with h | h | h
      · have h3 : (x.toNat + 1) * 256 ^ xs.length ≤ y.toNat * 256 ^ xs.length := Nat.mul_le_mul_right _ h
        rw [Nat.add_mul, Nat.one_mul] at h3
        omega
      · exact h
      · have h3 : (y.toNat + 1) * 256 ^ xs.length ≤ x.toNat * 256 ^ xs.length := Nat.mul_le_mul_right _ h
        rw [Nat.add_mul, Nat.one_mul] at h3
        omega
    rw [hxy] at hv
    rw [show x = y by omega, val_inj xs ys (fun a ha => hx a (by simp [ha])) (fun a ha => hy a (by simp [ha])) hl2 (by omega)]
theorem val_zeros_app (k : Nat) (xs : List Int) : val (List.replicate k 0 ++ xs) = val xs := by
  induction k with
  | zero => rfl
  | succ k ih =>
    rw [List.replicate_succ, List.cons_append, val_cons, ih]
    simp
theorem val_pos_ge (xs : List Int) (z : Nat) (hz : z < xs.length) (hu : U8 xs) (h0 : ∀ i, i < z → xs.getD i 0 = 0) (h1 : xs.getD z 0 ≠ 0) : 256 ^ (xs.length - z - 1) ≤ val xs := by
  have hs : xs = List.replicate z 0 ++ xs.drop z := by
    refine List.ext_getElem? fun t => ?_
    by_cases ht : t < z
    · rw [List.getElem?_append_left (by simpa using ht), List.getElem?_replicate, if_pos ht]
      have := h0 t ht
      rw [List.getD_eq_getElem?_getD, List.getElem?_eq_getElem (show t < xs.length by omega)] at this
      rw [List.getElem?_eq_getElem (show t < xs.length by omega)]
      simpa using this
    · rw [List.getElem?_append_right (by simpa using Nat.not_lt.1 ht), List.length_replicate, List.getElem?_drop, show z + (t - z) = t by omega]
  have h2 : val xs = val (xs.drop z) := by
    have := val_zeros_app z (xs.drop z)
    rwa [← hs] at this
  have hb := hu xs[z] (List.getElem_mem hz)
  rw [List.getD_eq_getElem?_getD, List.getElem?_eq_getElem hz] at h1
  simp at h1
  rw [h2, List.drop_eq_getElem_cons hz, val_cons, List.length_drop]
  have h3 : 1 * 256 ^ (xs.length - (z + 1)) ≤ xs[z].toNat * 256 ^ (xs.length - (z + 1)) := Nat.mul_le_mul_right _ (by omega)
  rw [show xs.length - z - 1 = xs.length - (z + 1) by omega]
  omega
theorem val58_lt (D : List Nat) (h : ∀ d ∈ D, d < 58) : val58 D < 58 ^ D.length := by
  induction D with
  | nil => simp [val58]
  | cons d D ih =>
    have h1 := ih fun x hx => h x (by simp [hx])
    have h2 : d + 1 ≤ 58 := h d (by simp)
    have h3 : (d + 1) * 58 ^ D.length ≤ 58 * 58 ^ D.length := Nat.mul_le_mul_right _ h2
    have h4 : val58 (d :: D) = d * 58 ^ D.length + val58 D := by
      show D.foldl _ (58 * 0 + d) = _
      rw [fold58, Nat.mul_zero, Nat.zero_add]
    rw [Nat.add_mul, Nat.one_mul] at h3
    rw [h4, List.length_cons, Nat.pow_succ, Nat.mul_comm _ 58]
    omega
/-- There are at least as many digits as bytes. -/
theorem Digs.len {xs : List Int} {z : Nat} {D : List Nat} (h : Digs xs z D) (hu : U8 xs) : xs.length ≤ z + D.length := by
  obtain ⟨h1, _, h3, h4, h5, h6, _⟩ := h
  by_cases hz : z < xs.length
  · have a := val_pos_ge xs z hz hu h5 (h6 hz)
    have b := val58_lt D h1
    rw [h3] at b
    have c : 256 ^ (xs.length - z - 1) < 256 ^ D.length := Nat.lt_of_le_of_lt a (Nat.lt_of_lt_of_le b (Nat.pow_le_pow_left (by decide) _))
    have d := (Nat.pow_lt_pow_iff_right (show 1 < 256 by decide)).1 c
    omega
  · omega
/-- As many bytes as there are digits, of that number: zeros, then xs. -/
theorem Digs.bytes {xs B : List Int} {z : Nat} {D : List Nat} (h : Digs xs z D) (hu : U8 xs) (hB : U8 B) (hl : B.length = z + D.length) (hv : val B = val xs) : B = List.replicate (z + D.length - xs.length) 0 ++ xs := by
  have hx := h.len hu
  refine val_inj _ _ hB (fun y hy => ?_) (by simp; omega) (by rw [val_zeros_app, hv])
  rcases List.mem_append.1 hy with hy | hy
  · have := List.eq_of_mem_replicate hy
    omega
  · exact hu y hy
end Go.Proofs.YtapkmoakbfpkeaaGreatDoor
namespace Go.Proofs.YtapkmoakbfpkeaaGreatDoor
open Go Go.RowKit Go.Proofs Go.Sort
def U7 (xs : List Int) : Prop := ∀ x ∈ xs, 0 ≤ x ∧ x < 128
theorem U7.u8 {xs : List Int} (h : U7 xs) : U8 xs := fun x hx => by have := h x hx; omega
theorem runes_low (xs : List Int) (h : U7 xs) : ∀ (b i : Nat) (acc : Array Value), i + b = xs.length → Conv.runesFrom (strOfNums xs) b i acc = acc ++ ((xs.drop i).map (Value.int .i32)).toArray
  | 0, i, acc, hi => by
    rw [List.drop_of_length_le (by omega)]
    simp [Conv.runesFrom]
  | b + 1, i, acc, hi => by
    have hl : i < (strOfNums xs).size := by rw [strOfNums_size]; omega
    have hl2 : i < (strOfNums xs).data.size := hl
    have hb := strOf_byte xs h.u8 i hl2
    have e : xs.getD i 0 = xs[i]'(by omega) := by simp [List.getD, List.getElem?_eq_getElem (show i < xs.length by omega)]
    have hx := h (xs[i]'(by omega)) (List.getElem_mem _)
    have hd := decode_ascii (strOfNums xs) i hl (by
      show ((strOfNums xs).data[i]).toNat < 128
      rw [e] at hb
      omega)
    unfold Conv.runesFrom
    rw [if_pos hl]
    simp only [hd]
    rw [runes_low xs h b (i + 1) _ (by omega), List.drop_eq_getElem_cons (show i < xs.length by omega)]
    have e2 : (Int.ofNat ((strOfNums xs)[i]'hl).toNat : Int) = xs[i]'(by omega) := by
      rw [← e, ← hb]; rfl
    rw [e2, List.map_cons]
    apply Array.ext'
    simp only [Array.toList_append, Array.toList_push, List.append_assoc, List.singleton_append]
theorem convRunes (w : World) (xs : List Int) (hu : U7 xs) (hl : xs.length ≤ 1000000) : ∃ c W, (convert 9 408 (.string (strOfNums xs))).run Tryz.prog w = .ok (.slice (some ⟨w.heap.size, 0, none⟩) xs.length c) W ∧
    (∀ i, i < xs.length → W.cell? ⟨w.heap.size, i, none⟩ = some (.int .i32 (xs.getD i 0))) ∧ xs.length ≤ c ∧ c ≤ 9223372036854775807 ∧ Below w.heap.size w W ∧ W.heap.size = w.heap.size + 1 := by
  have hr := runes_low xs hu (strOfNums xs).size 0 #[] (by rw [strOfNums_size]; omega)
  have hz : (Conv.runesFrom (strOfNums xs) (strOfNums xs).size 0 #[]).size = xs.length := by rw [hr]; simp
  have h := run_runes_of_string (P := Tryz.prog) w 9 408 21 (strOfNums xs) Tryz.underlying9 Tryz.underlying408 Tryz.underlying21 (by rw [hz]; omega)
  rw [hz] at h
  refine ⟨_, _, h, ?_, grownCap_ge _ _ _ _, grownCap_le_maxLen _ _ _ _ (by unfold maxLen; omega), ((Below.refl _ _).drew).alloc (Nat.le_refl _) _, by simp⟩
  intro i hi
  refine (World.cell?_alloc_mark w.drew _ _ _ i).trans ?_
  rw [hr, Array.getElem?_append_left (by simp; omega)]
  simp [List.getD, hi]
theorem text58_u7 {xs : List Int} {z : Nat} {D : List Nat} (h : Digs xs z D) : U7 (text58 z D) := fun x hx => by
  rcases List.mem_append.1 hx with hx | hx
  · rw [List.eq_of_mem_replicate hx]; exact bt_bd 0 (by omega)
  · obtain ⟨d, hd, rfl⟩ := List.mem_map.1 hx
    exact bt_bd d (h.1 d hd)
/-- The digits of the text, zeros ahead. -/
def allD (z : Nat) (D : List Nat) : List Nat := List.replicate z 0 ++ D
theorem text58_all (z : Nat) (D : List Nat) : text58 z D = (allD z D).map bt := by
  unfold text58 allD
  rw [List.map_append, List.map_replicate]
theorem val58_cons (d : Nat) (D : List Nat) : val58 (d :: D) = d * 58 ^ D.length + val58 D := by
  show D.foldl _ (58 * 0 + d) = _
  rw [fold58, Nat.mul_zero, Nat.zero_add]
theorem val58_all (z : Nat) (D : List Nat) : val58 (allD z D) = val58 D := by
  unfold allD
  induction z with
  | zero => rfl
  | succ z ih => rw [List.replicate_succ, List.cons_append, val58_cons, ih]; simp
theorem val58_snoc (D : List Nat) (d : Nat) : val58 (D ++ [d]) = 58 * val58 D + d := by simp [val58]
theorem val58_take (L : List Nat) (i : Nat) (h : i < L.length) : val58 (L.take (i + 1)) = 58 * val58 (L.take i) + L.getD i 0 := by
  rw [List.take_succ_eq_append_getElem h, val58_snoc]
  simp [List.getD, List.getElem?_eq_getElem h]
end Go.Proofs.YtapkmoakbfpkeaaGreatDoor
namespace Go.Proofs.YtapkmoakbfpkeaaGreatDoor
open Go Go.RowKit Go.Proofs Go.Sort
theorem convRunesF (xs : List Int) (hu : U7 xs) (hl : xs.length ≤ 1000000) : ∃ (cF : World → Nat) (WF : World → World), (∀ w, (convert 9 408 (.string (strOfNums xs))).run Tryz.prog w = .ok (.slice (some ⟨w.heap.size, 0, none⟩) xs.length (cF w)) (WF w)) ∧
    ∀ w, (∀ i, i < xs.length → (WF w).cell? ⟨w.heap.size, i, none⟩ = some (.int .i32 (xs.getD i 0))) ∧ xs.length ≤ cF w ∧ cF w ≤ 9223372036854775807 ∧ Below w.heap.size w (WF w) ∧ (WF w).heap.size = w.heap.size + 1 :=
  ⟨fun w => (convRunes w xs hu hl).choose, fun w => (convRunes w xs hu hl).choose_spec.choose, fun w => (convRunes w xs hu hl).choose_spec.choose_spec.1, fun w => (convRunes w xs hu hl).choose_spec.choose_spec.2⟩
/-- How many bytes the highest word bears, and its mask. -/
def MaskOk (B zn : Nat) : Prop := (B = 4 ∧ zn = 0) ∨ (B = 1 ∧ zn = 4294967040) ∨ (B = 2 ∧ zn = 4294901760) ∨ (B = 3 ∧ zn = 4278190080)
def Dec58 (xs : List Int) (w : World) (e : Ending) (w' : World) : Prop := ∃ g o c, e = .returned (.tuple #[.slice (some ⟨g, o, none⟩) xs.length c, .nilIface]) ∧ Bs w' g o xs ∧ (w.heap.size ≤ g ∧ xs.length ≤ c ∧ c ≤ 9223372036854775807) ∧ Below w.heap.size w w'
theorem mkU32 (n : Nat) (h : n ≤ 1000) (w : World) : (Instr.makeSlice 362 (.int .i64 (n : Int)) (.int .i64 (n : Int))).run Tryz.prog w = .ok (.slice (some ⟨w.heap.size, 0, none⟩) n n) (w.alloc (.cells (madeCells #[.int .u32 0] n) 133)) :=
  run_make_row' 362 133 (.int .u32 0) 4 Tryz.underlying362 (by kernel_rfl) rfl .i64 .i64 n (by omega) (by omega) w
theorem top_lt (e : Nat → Nat) (n m B : Nat) (hn : 0 < n) (hB : 4 * n + B = m + 4) (h : B32.le 4294967296 e n < 256 ^ m) : e (n - 1) < 2 ^ (8 * B) := by
  obtain ⟨q, rfl⟩ : ∃ q, n = q + 1 := ⟨n - 1, by omega⟩
  have h1 : B32.le 4294967296 e q + e q * 4294967296 ^ q < 256 ^ m := h
  have h2 : (256 : Nat) ^ m = 2 ^ (8 * B) * 4294967296 ^ q := by
    rw [show m = B + 4 * q by omega, Nat.pow_add, show (4294967296 : Nat) = 256 ^ 4 by decide, ← Nat.pow_mul, show (256 : Nat) = 2 ^ 8 by decide, ← Nat.pow_mul, ← Nat.pow_mul]
  rw [Nat.add_sub_cancel]
  rcases Nat.lt_or_ge (e q) (2 ^ (8 * B)) with h3 | h3
  · exact h3
  · have h4 : 2 ^ (8 * B) * 4294967296 ^ q ≤ e q * 4294967296 ^ q := Nat.mul_le_mul_right _ h3
    omega
theorem room32 (n m : Nat) (h : m ≤ 4 * n) : (256 : Nat) ^ m ≤ 4294967296 ^ n := by
  rw [show (4294967296 : Nat) = 256 ^ 4 by decide, ← Nat.pow_mul]
  exact Nat.pow_le_pow_right (by decide) h
theorem no_carry32 (l c n N : Nat) (h : l + c * 4294967296 ^ n = N) (hN : N < 4294967296 ^ n) : c = 0 := by
  rcases Nat.eq_zero_or_pos c with h0 | h0
  · exact h0
  · have : 1 * 4294967296 ^ n ≤ c * 4294967296 ^ n := Nat.mul_le_mul_right _ h0
    omega
theorem val58_take_lt (L : List Nat) (k m : Nat) (h : ∀ d ∈ L, d < 58) (hl : L.length = m) (hk : k ≤ m) : val58 (L.take k) < 256 ^ m := by
  have h1 := val58_lt (L.take k) fun d hd => h d (List.mem_of_mem_take hd)
  have h2 : (L.take k).length ≤ m := by rw [List.length_take]; omega
  exact Nat.lt_of_lt_of_le h1 (Nat.le_trans (Nat.pow_le_pow_left (by decide) _) (Nat.pow_le_pow_right (by decide) h2))
/-- The byte at a place of a number of m bytes, the highest first. -/
def byteAt (V m p : Nat) : Nat := V / 256 ^ (m - 1 - p) % 256
theorem byteAt_lt (V m p : Nat) : byteAt V m p < 256 := Nat.mod_lt _ (by decide)
theorem le_div (b : Nat) (e : Nat → Nat) (hb : 0 < b) : ∀ (n t : Nat), t < n → (∀ i, i < n → e i < b) → B32.le b e n / b ^ t % b = e t
  | 0, t, h, _ => by omega
  | n + 1, t, h, he => by
    have hlt := B32.le_lt b e n fun i hi => he i (by omega)
    show (B32.le b e n + e n * b ^ n) / b ^ t % b = e t
    by_cases htn : t = n
    · subst htn
      rw [Nat.add_mul_div_right _ _ (Nat.pow_pos hb), Nat.div_eq_of_lt hlt, Nat.zero_add, Nat.mod_eq_of_lt (he t (by omega))]
    · obtain ⟨s, rfl⟩ : ∃ s, n = t + (s + 1) := ⟨n - t - 1, by omega⟩
      have e1 : e (t + (s + 1)) * b ^ (t + (s + 1)) = (e (t + (s + 1)) * b ^ s * b) * b ^ t := by
        rw [show t + (s + 1) = s + 1 + t by omega, Nat.pow_add, Nat.pow_succ]
        simp only [Nat.mul_assoc]
      rw [e1, Nat.add_mul_div_right _ _ (Nat.pow_pos hb), Nat.add_mul_mod_self_right]
      exact le_div b e hb (t + (s + 1)) t (by omega) fun i hi => he i (by omega)
/-- A byte of a word is a byte of the number. -/
theorem word_byte (e : Nat → Nat) (n m j r p : Nat) (he : ∀ i, i < n → e i < 4294967296) (hj : j < n) (hr : r < 4) (hp : 4 * (n - 1 - j) + r = m - 1 - p) : e (n - 1 - j) / 256 ^ r % 256 = byteAt (B32.le 4294967296 e n) m p := by
  have h := le_div 4294967296 e (by decide) n (n - 1 - j) (by omega) he
  unfold byteAt
  rw [← hp, ← h, Nat.pow_add, Nat.pow_mul, ← Nat.div_div_eq_div_mul, show (256 : Nat) ^ 4 = 4294967296 by decide]
  generalize B32.le 4294967296 e n / 4294967296 ^ (n - 1 - j) = Q
  have h4 : r = 0 ∨ r = 1 ∨ r = 2 ∨ r = 3 := by omega
  rcases h4 with rfl | rfl | rfl | rfl
  · simp only [Nat.pow_zero, Nat.div_one]; omega
  · simp only [Nat.pow_one]; omega
  · show Q % 4294967296 / 65536 % 256 = Q / 65536 % 256; omega
  · show Q % 4294967296 / 16777216 % 256 = Q / 16777216 % 256; omega
/-- The bytes written so far. -/
structure BytesAt (w : World) (Bb Ob m n : Nat) (e : Nat → Nat) (cnt : Nat) (wr : World) : Prop where
  row : wr.rowIs Bb 5 ((m + 3) * 3) (fun i => .int .u8 ((if i < cnt then byteAt (B32.le 4294967296 e n) m i else 0 : Nat) : Int))
  words : wr.rowIs Ob 133 n (fun i => .int .u32 (e (n - 1 - i) : Nat))
  below : Below w.heap.size w wr
theorem BytesAt.put {w wr : World} {Bb Ob m n cnt : Nat} {e : Nat → Nat} (h : BytesAt w Bb Ob m n e cnt wr) (hne : Bb < Ob) (hB : w.heap.size ≤ Bb) (v : Nat) (hv : v = byteAt (B32.le 4294967296 e n) m cnt) : BytesAt w Bb Ob m n e (cnt + 1) (wr.setCell ⟨Bb, cnt, none⟩ (.int .u8 (v : Int))) where
  row := (h.row.set _ _).congr fun i hi => by
    by_cases h1 : i = cnt
    · simp only [if_pos h1, if_pos (show i < cnt + 1 by omega)]
      rw [hv, h1]
    · simp only [if_neg h1]
      by_cases h2 : i < cnt
      · simp only [if_pos h2, if_pos (show i < cnt + 1 by omega)]
      · simp only [if_neg h2, if_neg (show ¬ i < cnt + 1 by omega)]
  words := h.words.setOther (by show Ob ≠ Bb; omega) _
  below := h.below.setCell hB _
theorem val_bytes (V m : Nat) : ∀ k, k ≤ m → val ((List.range k).map fun i => ((byteAt V m i : Nat) : Int)) = V / 256 ^ (m - k) % 256 ^ k
  | 0, _ => by simp [val, Nat.mod_one]
  | k + 1, h => by
    rw [List.range_succ, List.map_append, List.map_cons, List.map_nil, val_snoc, val_bytes V m k (by omega)]
    unfold byteAt
    rw [show m - 1 - k = m - (k + 1) by omega, show m - k = m - (k + 1) + 1 by omega, Nat.pow_succ, ← Nat.div_div_eq_div_mul, Int.toNat_natCast]
    generalize V / 256 ^ (m - (k + 1)) = Q
    rw [Nat.pow_succ, Nat.mul_comm (256 ^ k) 256, Nat.mod_mul]
    omega
theorem bytes_are {xs : List Int} {z m : Nat} {D : List Nat} (h : Digs xs z D) (hu : U8 xs) (hm : z + D.length = m) : (List.range m).map (fun i => ((byteAt (val xs) m i : Nat) : Int)) = List.replicate (m - xs.length) 0 ++ xs := by
  have hx := h.len hu
  have hv : val xs < 256 ^ m := Nat.lt_of_lt_of_le (val_lt xs hu) (Nat.pow_le_pow_right (by decide) (by omega))
  rw [← hm]
  refine h.bytes hu (fun y hy => ?_) (by simp) ?_
  · obtain ⟨i, _, rfl⟩ := List.mem_map.1 hy
    have := byteAt_lt (val xs) (z + D.length) i
    omega
  · rw [val_bytes _ _ _ (Nat.le_refl _), Nat.sub_self, Nat.pow_zero, Nat.div_one, Nat.mod_eq_of_lt (by rw [hm]; exact hv)]
theorem Digs.none {xs : List Int} {z : Nat} {D : List Nat} (h : Digs xs z D) (hz : z = xs.length) : D = [] := by
  obtain ⟨_, h0, hv, _, hzz, _, _⟩ := h
  have hv0 := val_zeros xs z hzz (by omega)
  rw [hz, List.take_length] at hv0
  rw [hv0] at hv
  cases D with
  | nil => rfl
  | cons d D =>
    have hd : d ≠ 0 := by simpa using h0
    rw [val58_cons] at hv
    have h1 : 1 * 58 ^ D.length ≤ d * 58 ^ D.length := Nat.mul_le_mul_right _ (by omega)
    have h2 : 0 < 58 ^ D.length := Nat.pow_pos (by decide)
    omega
theorem wraps_u32_32 (n : Int) (h₀ : 0 ≤ n) (h₁ : n < 2 ^ 32) : IntKind.u32.wrap n = n := by rw [IntKind.wrap_u32]; omega
theorem wraps_u64_63' (n : Int) (h₀ : 0 ≤ n) (h₁ : n < 2 ^ 63) : IntKind.u64.wrap n = n := by rw [IntKind.wrap_u64]; omega
theorem and_hi (y c : Nat) (hy : y < 4294967296) (hc : c < 64) : bits .and .u32 (((y : Int) * 58 + (c : Int)) / 4294967296) 63 = (((c + 58 * y) / 4294967296 : Nat) : Int) := by
  have h := bits_mask .u32 32 (by decide) wraps_u32_32 6 (by decide) (((y : Int) * 58 + (c : Int)) / 4294967296) (by omega) (by omega)
  have e : ((2 : Int) ^ 6 - 1) = 63 := by decide
  have e2 : ((2 : Int) ^ 6) = 64 := by decide
  rw [e, e2] at h
  rw [h]
  omega
theorem and_lo (y c : Nat) (hy : y < 4294967296) (hc : c < 64) : bits .and .u64 ((y : Int) * 58 + (c : Int)) 4294967295 = (((c + 58 * y) % 4294967296 : Nat) : Int) := by
  have h := bits_mask .u64 63 (by decide) wraps_u64_63' 32 (by decide) ((y : Int) * 58 + (c : Int)) (by omega) (by omega)
  have e : ((2 : Int) ^ 32 - 1) = 4294967295 := by decide
  have e2 : ((2 : Int) ^ 32) = 4294967296 := by decide
  rw [e, e2] at h
  rw [h]
  omega
theorem and_low (v k a : Nat) (hv : v < 2 ^ k) (ha : (2 ^ k - 1) &&& a = 0) : v &&& a = 0 := by
  have e : v = v &&& (2 ^ k - 1) := by rw [Nat.and_two_pow_sub_one_eq_mod, Nat.mod_eq_of_lt hv]
  rw [e, Nat.and_assoc, ha, Nat.and_zero]
theorem and_mask (v B zn : Nat) (h : MaskOk B zn) (hv : v < 2 ^ (8 * B)) : bits .and .u32 (v : Int) (zn : Int) = 0 := by
  have key : v < 4294967296 ∧ zn < 4294967296 ∧ v &&& zn = 0 := by
    rcases h with ⟨rfl, rfl⟩ | ⟨rfl, rfl⟩ | ⟨rfl, rfl⟩ | ⟨rfl, rfl⟩
    · exact ⟨by simpa using hv, by decide, Nat.and_zero v⟩
    · exact ⟨Nat.lt_trans hv (by decide), by decide, and_low v 8 _ hv (by decide)⟩
    · exact ⟨Nat.lt_trans hv (by decide), by decide, and_low v 16 _ hv (by decide)⟩
    · exact ⟨Nat.lt_trans hv (by decide), by decide, and_low v 24 _ hv (by decide)⟩
  have h2 := (bits_nat .u32 32 (by decide) wraps_u32_32 v zn (by omega) (by omega)).1
  rw [key.2.2] at h2
  simpa using h2
/-- The words, the highest first, in block Ob; all else below it as in W. -/
structure WordsAt (W : World) (Ob n : Nat) (e : Nat → Nat) (wr : World) : Prop where
  row : wr.rowIs Ob 133 n (fun i => .int .u32 (e (n - 1 - i) : Nat))
  lt : ∀ t, t < n → e t < 4294967296
  below : Below Ob W wr
theorem WordsAt.put {W wr : World} {Ob n t jj v : Nat} {e : Nat → Nat} (h : WordsAt W Ob n e wr) (hj : jj = n - 1 - t) (ht : t < n) (hv : v < 4294967296) : WordsAt W Ob n (B32.up e t v) (wr.setCell ⟨Ob, jj, none⟩ (.int .u32 (v : Int))) where
  row := (h.row.set _ _).congr fun i hi => by
    unfold B32.up
    by_cases hi2 : i = jj
    · simp only [if_pos hi2, if_pos (show n - 1 - i = t by omega)]
    · simp only [if_neg hi2, if_neg (show ¬ n - 1 - i = t by omega)]
  lt := fun i hi => by
    unfold B32.up
    split
    · exact hv
    · exact h.lt i hi
  below := h.below.setCell (Nat.le_refl _) _
theorem _root_.B32.le_zero (b : Nat) : ∀ k, B32.le b (fun _ => 0) k = 0
  | 0 => rfl
  | k + 1 => by unfold B32.le; rw [B32.le_zero b k, Nat.zero_mul]
set_option maxHeartbeats 3200000 in
set_option maxRecDepth 100000 in
theorem dec58 (g m z : Nat) (D : List Nat) (xs : List Int) (w : World) (hd : Digs xs z D) (hu : U8 xs) (hm : (allD z D).length = m) (hm0 : 0 < m) (hm1 : m ≤ 400) (hA : AlphaX w g 58) :
    Calls Tryz.prog 381 #[.string (strOfNums (text58 z D)), .pointer (some ⟨g, 0, none⟩)] w (Dec58 xs w) := by
  have hu7 := text58_u7 hd
  have hlen : (text58 z D).length = m := by rw [text58_all, List.length_map, hm]
  obtain ⟨cF, WF, hcv, hW⟩ := convRunesF (text58 z D) hu7 (by omega)
  have hsz : (strOfNums (text58 z D)).size = m := by rw [strOfNums_size, hlen]
  rw [hlen] at hcv hW
  obtain ⟨S, hS⟩ : ∃ S, S = strOfNums (text58 z D) := ⟨_, rfl⟩
  rw [← hS] at hcv hsz ⊢
  obtain ⟨fA, hrA, hfA, hdA⟩ := hA
  have hz0 : w.cell? ⟨g, 128, none⟩ = some (.int .u8 (bt 0)) := by rw [hrA.cell (by omega), show (128 : Nat) = 128 + 0 by rfl, hfA 0 (by omega)]
  rw [show bt 0 = 49 by decide +kernel] at hz0
  obtain ⟨n, hn⟩ : ∃ n, n = (m + 3) / 4 := ⟨_, rfl⟩
  have hni : ((m : Int) + 3) / 4 = (n : Int) := by omega
  have hmk1 : ∀ w, (Instr.makeSlice 23 (.int .i64 (((m : Int) + 3) * 3)) (.int .i64 (((m : Int) + 3) * 3))).run Tryz.prog w = .ok (.slice (some ⟨w.heap.size, 0, none⟩) ((m + 3) * 3) ((m + 3) * 3)) (w.alloc (.cells (madeCells #[.int .u8 0] ((m + 3) * 3)) 5)) := fun w => by
    have h := run_make_row' (P := Tryz.prog) 23 5 (.int .u8 0) 1 Tryz.underlying23 (by kernel_rfl) rfl .i64 .i64 ((m + 3) * 3) (by omega) (by omega) w
    rw [show (((m + 3) * 3 : Nat) : Int) = ((m : Int) + 3) * 3 by omega] at h
    exact h
  have hmk2 := fun w => mkU32 n (by omega) w
  have HX := Lib.hid (And.intro hd (And.intro hu (And.intro hu7 (And.intro hlen (And.intro hW (And.intro hrA (And.intro hfA hdA)))))))
  have HN := Lib.hid hn
  clear hd hu hu7 hlen hW hS hrA hfA hdA hn
  go_enter Tryz.func381, Tryz.ntmps381
  go_upto_region 9 with fail
  obtain ⟨cR, hcR⟩ : ∃ c, c = cF w := ⟨_, rfl⟩
  obtain ⟨W0, hW0⟩ : ∃ W, W = WF w := ⟨_, rfl⟩
  obtain ⟨R, hR⟩ : ∃ R, R = w.heap.size := ⟨_, rfl⟩
  have h0 := HX.out.2.2.2.2.1 w
  rw [← hcR, ← hW0, ← hR] at h0
  rw [← hcR, ← hW0, ← hR]
  obtain ⟨r0, _, _, hb0, hsz0⟩ := h0
  have hg0 : W0.cell? ⟨g, 128, none⟩ = some (.int .u8 49) := cB (by rw [hR] at hb0; exact hb0) hz0
  have H0 := Lib.hid (And.intro r0 (And.intro hb0 (And.intro hsz0 hR)))
  clear hcR hW0 hR r0 hb0 hsz0 hcv hz0
  rw [hni]
  go_upto_region 10 with fail
  obtain ⟨Bb, hBb⟩ : ∃ R, R = W0.heap.size := ⟨_, rfl⟩
  obtain ⟨W1, hW1⟩ : ∃ W, W = W0.alloc (.cells (madeCells #[.int .u8 0] ((m + 3) * 3)) 5) := ⟨_, rfl⟩
  have hb1 : Below W0.heap.size W0 W1 := by rw [hW1]; exact (Below.refl _ _).alloc (Nat.le_refl _) _
  have hrow1 : W1.rowIs Bb 5 ((m + 3) * 3) (fun _ => .int .u8 0) := by rw [hW1, hBb]; exact World.rowIs_made W0 _ _ _
  have hz1 : W1.heap.size = Bb + 1 := by rw [hW1, hBb]; simp
  have hg1 := cB hb1 hg0
  rw [← hBb, ← hW1]
  have H1 := Lib.hid (And.intro hb1 (And.intro hrow1 (And.intro hz1 hBb)))
  clear hb1 hrow1 hz1 hBb hW1 hg0
  go_upto_if 51 with fail
  go_cut [7, 14] (fun zm bl wx => ∃ (B zn : Nat), bl = .int .i64 (B : Int) ∧ zm = .int .u32 (zn : Int) ∧ (MaskOk B zn ∧ 4 * n + B = m + 4) ∧ wx = W1)
  case first =>
    have h4 : m % 4 = 0 ∨ m % 4 = 1 ∨ m % 4 = 2 ∨ m % 4 = 3 := by omega
    have hN := HN.out
    rcases h4 with h4 | h4 | h4 | h4
    · have hm4 : (m : Int) % 4 = 0 := by omega
      have HE := Lib.hid (show 4 * n + 4 = m + 4 by omega)
      clear h4 hN
      go_wp2_with fail
      go_meet
      case rel => exact ⟨4, 0, rfl, rfl, ⟨.inl ⟨rfl, rfl⟩, HE.out⟩, rfl⟩
    · have hm4 : (m : Int) % 4 = 1 := by omega
      have HE := Lib.hid (show 4 * n + 1 = m + 4 by omega)
      clear h4 hN
      go_wp2_with fail
      go_meet
      case rel => exact ⟨1, 4294967040, by rw [hm4]; rfl, rfl, ⟨.inr (.inl ⟨rfl, rfl⟩), HE.out⟩, rfl⟩
    · have hm4 : (m : Int) % 4 = 2 := by omega
      have HE := Lib.hid (show 4 * n + 2 = m + 4 by omega)
      clear h4 hN
      go_wp2_with fail
      go_meet
      case rel => exact ⟨2, 4294901760, by rw [hm4]; rfl, rfl, ⟨.inr (.inr (.inl ⟨rfl, rfl⟩)), HE.out⟩, rfl⟩
    · have hm4 : (m : Int) % 4 = 3 := by omega
      have HE := Lib.hid (show 4 * n + 3 = m + 4 by omega)
      clear h4 hN
      go_wp2_with fail
      go_meet
      case rel => exact ⟨3, 4278190080, by rw [hm4]; rfl, rfl, ⟨.inr (.inr (.inr ⟨rfl, rfl⟩)), HE.out⟩, rfl⟩
  case rest =>
    obtain ⟨B, zn, rfl, rfl, hMB, rfl⟩ := hcut
    have HM := Lib.hid hMB
    clear hMB
    go_upto_region 16 with fail
    obtain ⟨Ob, hOb⟩ : ∃ R, R = wc.heap.size := ⟨_, rfl⟩
    obtain ⟨W3, hW3⟩ : ∃ W, W = wc.alloc (.cells (madeCells #[.int .u32 0] n) 133) := ⟨_, rfl⟩
    have hb3 : Below wc.heap.size wc W3 := by rw [hW3]; exact (Below.refl _ _).alloc (Nat.le_refl _) _
    have hrow3 : W3.rowIs Ob 133 n (fun _ => .int .u32 0) := by rw [hW3, hOb]; exact World.rowIs_made wc _ _ _
    rw [← hOb, ← hW3]
    have hb03 := H1.out.1.trans (hb3.mono H1.out.1.size)
    have hB3 : W3.rowIs Bb 5 ((m + 3) * 3) (fun _ => .int .u8 0) := H1.out.2.1.of_block (hb3.block Bb H1.out.2.1.lt)
    have hlenD := HX.out.2.2.2.1
    have hcells : ∀ i, i < m → W3.cell? ⟨R, i, none⟩ = some (.int .i32 (bt ((allD z D).getD i 0))) := fun i hi => by
      have h := cB hb03 (H0.out.1 i hi)
      rw [h, text58_all, List.getD_eq_getElem?_getD, List.getElem?_map, List.getElem?_eq_getElem (show i < (allD z D).length by omega), List.getD_eq_getElem?_getD, List.getElem?_eq_getElem (show i < (allD z D).length by omega)]
      rfl
    have hw0 : Below w.heap.size w W0 := by have h := H0.out.2.1; rw [H0.out.2.2.2] at h; exact h
    have hw3 : Below w.heap.size w W3 := hw0.trans (hb03.mono hw0.size)
    have hgw := HX.out.2.2.2.2.2.1.lt
    have hne : g < R ∧ R < Bb ∧ Bb < Ob ∧ w.heap.size ≤ R ∧ w.heap.size ≤ Bb ∧ w.heap.size ≤ Ob := by
      have h1 := H0.out.2.2.1
      have h2 := H0.out.2.2.2
      have h3 := H1.out.2.2.1
      have h4 := H1.out.2.2.2
      omega
    have H3 := Lib.hid (And.intro hcells (And.intro hrow3 (And.intro hB3 (And.intro hw3 hne))))
    clear hcells hrow3 hB3 hw3 hw0 hne hgw hb03 hb3 hW3 hOb hlenD
    go_upto_block 0 with fail
    go_cut [9] (fun zc wx => zc = .int .i64 (z : Int) ∧ Dr W3 wx)
    case first =>
      go_wp2_with fail
      have hzm : z ≤ m := by rw [← hm]; simp [allD]
      go_loopg [9, 17] m (fun gk zc i wr => ∃ k : Nat, k ≤ z ∧ gk + k = m ∧ zc = .int .i64 k ∧ i = .int .i64 k ∧ Dr W3 wr)
      case atStart => exact ⟨0, by omega, by omega, rfl, rfl, 0, rfl⟩
      case round =>
        obtain ⟨k, hk, hgk, rfl, rfl, q, rfl⟩ := hrel
        have HGK := Lib.hid hgk
        clear hgk
        by_cases hlt : k < m
        · have hcl : (W3.drewN q).cell? ⟨R, k, none⟩ = some (.int .i32 (bt ((allD z D).getD k 0))) := H3.out.1 k hlt
          by_cases hkz : k < z
          · have e1 : bt ((allD z D).getD k 0) = 49 := by
              have e2 : (allD z D).getD k 0 = 0 := by
                unfold allD
                rw [List.getD_eq_getElem?_getD, List.getElem?_append_left (by simpa using hkz), List.getElem?_replicate, if_pos hkz]
                rfl
              rw [e2]; decide +kernel
            rw [e1] at hcl
            clear e1
            go_wp2_with fail
            go_roundg (gk - 1)
            case measure => have := HGK.out; omega
            case rel => have := HGK.out; exact ⟨k + 1, by omega, by omega, by go_num, by go_num, q, rfl⟩
          · obtain rfl : k = z := by omega
            have e1 : (bt ((allD k D).getD k 0) == 49) = false := by
              have hd0 := HX.out.1.2.1
              have hd58 := HX.out.1.1
              have e2 : (allD k D).getD k 0 = D.getD 0 0 := by
                unfold allD
                rw [List.getD_eq_getElem?_getD, List.getElem?_append_right (by simp), List.length_replicate, Nat.sub_self, ← List.getD_eq_getElem?_getD]
              rw [e2]
              cases D with
              | nil => simp [allD] at hm; omega
              | cons d D =>
                have h1 : d ≠ 0 := by simpa using hd0
                have h2 := hd58 d (by simp)
                show (bt d == 49) = false
                rw [beq_eq_false_iff_ne]
                intro e
                exact h1 (bt_inj d 0 h2 (by omega) (by rw [e]; decide +kernel))
            obtain ⟨x0, hx0⟩ : ∃ x, x = bt ((allD k D).getD k 0) := ⟨_, rfl⟩
            rw [← hx0] at hcl e1
            clear hx0
            go_wp2_with fail
            go_meet
            exact ⟨rfl, q, rfl⟩
        · obtain rfl : k = z := by omega
          go_wp2_with fail
          go_meet
          exact ⟨rfl, q, rfl⟩
    case rest =>
      obtain ⟨rfl, q0, rfl⟩ := hcut
      obtain ⟨W4, hW4⟩ : ∃ W, W = W3.drewN q0 := ⟨_, rfl⟩
      have h4c : ∀ i, i < m → W4.cell? ⟨R, i, none⟩ = some (.int .i32 (bt ((allD z D).getD i 0))) := fun i hi => by rw [hW4]; exact H3.out.1 i hi
      have h4o : W4.rowIs Ob 133 n (fun _ => .int .u32 0) := by rw [hW4]; exact H3.out.2.1
      have h4b : W4.rowIs Bb 5 ((m + 3) * 3) (fun _ => .int .u8 0) := by rw [hW4]; exact H3.out.2.2.1
      have h4w : Below w.heap.size w W4 := by rw [hW4]; exact below_drewN H3.out.2.2.2.1 _
      have h4g : W4.rowIs g 248 186 fA := HX.out.2.2.2.2.2.1.of_block (h4w.block g HX.out.2.2.2.2.2.1.lt)
      rw [← hW4]
      have H4 := Lib.hid (And.intro h4c (And.intro h4o (And.intro h4b (And.intro h4w (And.intro h4g H3.out.2.2.2.2)))))
      clear h4c h4o h4b h4w h4g hW4 H3
      go_wp2_with fail
      go_loopg [75] m (fun gk iv wr => ∃ k : Nat, k ≤ m ∧ gk + k = m ∧ iv = .int .i64 k ∧ Hid (∃ e : Nat → Nat, WordsAt W4 Ob n e wr ∧ B32.le 4294967296 e n = val58 ((allD z D).take k)))
      case atStart => exact ⟨0, by omega, by omega, rfl, fun _ => 0, ⟨H4.out.2.1, fun _ _ => by decide, Below.refl _ _⟩, by rw [B32.le_zero]; simp [val58]⟩
      case round =>
        obtain ⟨k, hk, hgk, rfl, hO⟩ := hrel
        have HGK := Lib.hid hgk
        clear hgk
        by_cases hlt : k < m
        · obtain ⟨e0, hE, hEV⟩ := hO.out
          have hcl : wr.cell? ⟨R, k, none⟩ = some (.int .i32 (bt ((allD z D).getD k 0))) := (hE.below.cell (show R < Ob by have := H4.out.2.2.2.2.2; omega)).trans (H4.out.1 k hlt)
          obtain ⟨d, hd⟩ : ∃ d, d = (allD z D).getD k 0 := ⟨_, rfl⟩
          have hd58 : d < 58 := by
            rw [hd, List.getD_eq_getElem?_getD, List.getElem?_eq_getElem (show k < (allD z D).length by omega)]
            have hmem : (allD z D)[k] ∈ allD z D := List.getElem_mem _
            rcases List.mem_append.1 hmem with h | h
            · have := List.eq_of_mem_replicate h
              simp only [Option.getD_some]
              omega
            · exact HX.out.1.1 _ h
          rw [← hd] at hcl
          have hbd := bt_bd d hd58
          have hgr := H4.out.2.2.2.2.1.of_block (hE.below.block g (by have := H4.out.2.2.2.2.2; omega))
          have hca := hgr.cell (i := (bt d).toNat) (by omega)
          rw [HX.out.2.2.2.2.2.2.2 d hd58] at hca
          obtain ⟨x, hx⟩ : ∃ x, x = bt d := ⟨_, rfl⟩
          rw [← hx] at hcl hbd hca
          have hd1 : ((d : Int) == -1) = false := by rw [beq_eq_false_iff_ne]; omega
          have hx127 : ¬ (127 < x) := by omega
          have HE := Lib.hid (And.intro hE (And.intro hEV hd))
          clear hE hEV hd hx hgr hO
          go_wp2_with fail
          obtain ⟨gO, rfl⟩ : ∃ m, m = gk := ⟨_, rfl⟩
          obtain ⟨wo, rfl⟩ : ∃ wo, wo = wr := ⟨_, rfl⟩
          go_loopg [8, 20] n (fun gk cc j wr => ∃ (t c : Nat) (e : Nat → Nat), t ≤ n ∧ gk + t = n ∧ c < 64 ∧ cc = .int .u32 c ∧ j = .int .i64 ((n : Int) - 1 - t) ∧ Hid (WordsAt W4 Ob n e wr ∧ (∀ i, t ≤ i → e i = e0 i) ∧ B32.le 4294967296 e t + c * 4294967296 ^ t + 58 * (B32.le 4294967296 e0 n - B32.le 4294967296 e0 t) = 58 * B32.le 4294967296 e0 n + d))
          case atStart => exact ⟨0, d, e0, by omega, by omega, by omega, rfl, by simp, HE.out.1, fun _ _ => rfl, by simp [B32.le]; omega⟩
          case round =>
            obtain ⟨t, c, e, ht, hgk, hc64, rfl, rfl, hI⟩ := hrel
            have HGJ := Lib.hid hgk
            clear hgk
            by_cases htn : t < n
            · have hj : ((n : Int) - 1 - t) = ((n - 1 - t : Nat) : Int) := by omega
              have hcl2 := hI.out.1.row.cell (i := n - 1 - t) (by omega)
              rw [show n - 1 - (n - 1 - t) = t by omega] at hcl2
              have hfz2 := hI.out.1.row.frozen (n - 1 - t)
              have he32 := hI.out.1.lt t htn
              obtain ⟨y, hy⟩ : ∃ y, y = e t := ⟨_, rfl⟩
              rw [← hy] at hcl2 he32
              have HY := Lib.hid hy
              clear hy hcl hca
              have hq1 := and_hi y c he32 hc64
              have hq2 := and_lo y c he32 hc64
              rw [hj]
              obtain ⟨jj, hjj⟩ : ∃ j, j = n - 1 - t := ⟨_, rfl⟩
              rw [← hjj] at hcl2 hfz2 ⊢
              have hjn : jj < n := by omega
              have HJJ := Lib.hid hjj
              clear hjj hj
              go_wp2_with fail
              go_roundg (gk - 1)
              case measure => have := HGJ.out; omega
              case rel =>
                have := HGJ.out
                have hjj2 := HJJ.out
                have hst := B32.step 4294967296 58 e0 e t c _ n htn hI.out.2.1 hI.out.2.2
                rw [← HY.out] at hst
                refine ⟨t + 1, (c + 58 * y) / 4294967296, B32.up e t ((c + 58 * y) % 4294967296), by omega, by omega, by omega, int_eq (by omega), int_eq (by omega), ?_, fun i hi => ?_, hst⟩
                · have hp := hI.out.1.put HJJ.out htn (Nat.mod_lt (c + 58 * y) (show 0 < 4294967296 by decide))
                  rw [show (((c + 58 * y) % 4294967296 : Nat) : Int) = ((c : Int) + 58 * y) % 4294967296 by omega] at hp
                  exact hp
                · unfold B32.up
                  rw [if_neg (by omega)]
                  exact hI.out.2.1 i (by omega)
            · obtain rfl : n = t := by omega
              have hsum := hI.out.2.2
              rw [Nat.sub_self, Nat.mul_zero, Nat.add_zero] at hsum
              have hvk : 58 * B32.le 4294967296 e0 n + d = val58 ((allD z D).take (k + 1)) := by rw [val58_take _ k (by omega), ← HE.out.2.2, ← HE.out.2.1]
              have hall : ∀ d ∈ allD z D, d < 58 := fun d hd => by
                rcases List.mem_append.1 hd with h | h
                · have := List.eq_of_mem_replicate h
                  omega
                · exact HX.out.1.1 _ h
              have hlt1 := val58_take_lt (allD z D) (k + 1) m hall hm (by omega)
              rw [← hvk] at hlt1
              have hMB := HM.out.2
              have hB4 : 1 ≤ B ∧ B ≤ 4 := by rcases HM.out.1 with ⟨h, _⟩ | ⟨h, _⟩ | ⟨h, _⟩ | ⟨h, _⟩ <;> omega
              obtain rfl : c = 0 := no_carry32 _ c n _ hsum (Nat.lt_of_lt_of_le hlt1 (room32 n m (by omega)))
              rw [Nat.zero_mul, Nat.add_zero] at hsum
              have hn0 : 0 < n := by omega
              have htop := top_lt e n m B hn0 hMB (by rw [hsum]; exact hlt1)
              have hcl0 := hI.out.1.row.cell (i := 0) hn0
              rw [Nat.sub_zero] at hcl0
              have hmask := and_mask (e (n - 1)) B zn HM.out.1 htop
              obtain ⟨y, hy⟩ : ∃ y, y = e (n - 1) := ⟨_, rfl⟩
              rw [← hy] at hcl0 hmask
              have HS := Lib.hid (hsum.trans hvk)
              clear hy hsum hvk hall hlt1 hMB hB4 htop hcl hca
              go_wp2_with fail
              go_roundg (gO - 1)
              case measure => have := HGK.out; omega
              case rel => have := HGK.out; exact ⟨k + 1, by omega, by omega, by go_num, e, hI.out.1, HS.out⟩
        · obtain rfl : m = k := by omega
          obtain ⟨e, hE, hEV⟩ := hO.out
          have hV : B32.le 4294967296 e n = val xs := by
            rw [hEV, List.take_of_length_le (by omega), val58_all, HX.out.1.2.2.1]
          have H5 := Lib.hid (And.intro hE hV)
          clear hE hEV hV hO HGK
          go_upto_block 6 with fail
          have hMB := HM.out.2
          have hB4 : 1 ≤ B ∧ B ≤ 4 := by rcases HM.out.1 with ⟨h, _⟩ | ⟨h, _⟩ | ⟨h, _⟩ | ⟨h, _⟩ <;> omega
          have hst : BytesAt w Bb Ob m n e 0 wr := ⟨H4.out.2.2.1.of_block (H5.out.1.below.block Bb (by have := H4.out.2.2.2.2.2; omega)), H5.out.1.row, H4.out.2.2.2.1.trans (H5.out.1.below.mono (by have := H4.out.2.2.2.2.2; omega))⟩
          have HST := Lib.hid hst
          clear hst
          go_cut [22] (fun ct wx => ct = .int .i64 (m : Int) ∧ Hid (BytesAt w Bb Ob m n e m wx))
          case first =>
            go_wp2_with fail
            go_loopg [21, 22, 14] n (fun gk jv ct bl wr => ∃ (j cnt L : Nat), j ≤ n ∧ gk + j = n ∧ jv = .int .i64 j ∧ ct = .int .i64 cnt ∧ bl = .int .i64 L ∧ (1 ≤ L ∧ L ≤ 4 ∧ cnt + L + 4 * (n - 1 - j) = m + (if j = n then L else 0) ∧ (0 < j → L = 4)) ∧ Hid (BytesAt w Bb Ob m n e cnt wr))
            case atStart => exact ⟨0, 0, B, by omega, by omega, rfl, rfl, rfl, ⟨hB4.1, hB4.2, by rw [if_neg (by omega)]; omega, fun h => absurd h (Nat.lt_irrefl 0)⟩, HST.out⟩
            case round =>
              obtain ⟨j, cnt, L, hj, hgk, rfl, rfl, rfl, hL, hS⟩ := hrel
              have HGK := Lib.hid hgk
              clear hgk
              by_cases hlt : j < n
              · have hl4 := hL.2.2.2
                have hl2 : cnt + L + 4 * (n - 1 - j) = m := by have := hL.2.2.1; rw [if_neg (by omega)] at this; omega
                have hL1 := hL.1
                have hL2 := hL.2.1
                have HL := Lib.hid (And.intro hl2 hl4)
                clear hL hl2 hl4
                go_wp2_with fail
                obtain ⟨gO, rfl⟩ : ∃ m, m = gk := ⟨_, rfl⟩
                obtain ⟨wo, rfl⟩ : ∃ wo, wo = wr := ⟨_, rfl⟩
                go_loopg [22, 23] L (fun gk ct mv wr => ∃ (r cn : Nat), r ≤ L ∧ gk = r ∧ ct = .int .i64 cn ∧ mv = .int .u8 (if r = 0 then 248 else ((r : Int) - 1) * 8) ∧ Hid (cn + r = cnt + L ∧ BytesAt w Bb Ob m n e cn wr))
                case atStart => exact ⟨L, cnt, Nat.le_refl _, rfl, rfl, by rw [if_neg (by omega)], rfl, hS.out⟩
                case round =>
                  obtain ⟨r, cn, hr, hgr, rfl, rfl, hT⟩ := hrel
                  have HGR := Lib.hid hgr
                  clear hgr
                  by_cases hr0 : r = 0
                  · subst hr0
                    have hT1 : cn = cnt + L := by have := hT.out.1; omega
                    have HT := Lib.hid hT.out.2
                    clear hT
                    by_cases hj0 : j = 0
                    · subst hj0
                      go_wp2_with fail
                      go_roundg (gO - 1)
                      case measure => have := HGK.out; omega
                      case rel =>
                        have := HGK.out
                        refine ⟨1, cn, 4, by omega, by omega, rfl, rfl, rfl, ⟨by omega, by omega, ?_, fun _ => rfl⟩, HT.out⟩
                        have h := HL.out.1
                        split <;> omega
                    · have hjz : ((j : Int) == 0) = false := by rw [beq_eq_false_iff_ne]; omega
                      go_wp2_with fail
                      go_roundg (gO - 1)
                      case measure => have := HGK.out; omega
                      case rel =>
                        have := HGK.out
                        have h := HL.out.1
                        have h4 := HL.out.2 (by omega)
                        refine ⟨j + 1, cn, L, by omega, by omega, by go_num, rfl, rfl, ⟨by omega, by omega, ?_, fun _ => h4⟩, HT.out⟩
                        split <;> omega
                  · obtain ⟨r, rfl⟩ : ∃ q, r = q + 1 := ⟨r - 1, by omega⟩
                    have hT1 := hT.out.1
                    have hw := hT.out.2.words.cell (i := j) hlt
                    have hrowc := hT.out.2.row.cell (i := cn) (by have := HL.out.1; omega)
                    have hrowf := hT.out.2.row.frozen cn
                    have hwb := word_byte e n m j r cn H5.out.1.lt hlt (by omega) (by have := HL.out.1; omega)
                    have hy32 := H5.out.1.lt (n - 1 - j) (by omega)
                    have hcn : cn < (m + 3) * 3 := by have := HL.out.1; omega
                    have hT' := Lib.hid (And.intro hT.out.2 hT1)
                    obtain ⟨y, hy⟩ : ∃ y, y = e (n - 1 - j) := ⟨_, rfl⟩
                    rw [← hy] at hw hwb hy32
                    have HWB := Lib.hid hwb
                    clear hT hwb hy hT1
                    rw [if_neg hr0]
                    have h4 : r = 0 ∨ r = 1 ∨ r = 2 ∨ r = 3 := by omega
                    rcases h4 with rfl | rfl | rfl | rfl
                    · go_wp2_with fail
                      go_roundg 0
                      case measure => have := HGR.out; omega
                      case rel =>
                        have hp := hT'.out.1.put (by have := H4.out.2.2.2.2.2; omega) (by have := H4.out.2.2.2.2.2; omega) _ HWB.out
                        rw [show ((y / 256 ^ 0 % 256 : Nat) : Int) = (y : Int) % 256 by omega] at hp
                        exact ⟨0, cn + 1, by omega, rfl, by go_num, (by first | rfl | simp), by have := hT'.out.2; omega, hp⟩
                    · go_wp2_with fail
                      go_roundg 1
                      case measure => have := HGR.out; omega
                      case rel =>
                        have hp := hT'.out.1.put (by have := H4.out.2.2.2.2.2; omega) (by have := H4.out.2.2.2.2.2; omega) _ HWB.out
                        rw [show ((y / 256 ^ 1 % 256 : Nat) : Int) = (y : Int) / 256 % 256 by omega] at hp
                        exact ⟨1, cn + 1, by omega, rfl, by go_num, (by first | rfl | simp), by have := hT'.out.2; omega, hp⟩
                    · go_wp2_with fail
                      go_roundg 2
                      case measure => have := HGR.out; omega
                      case rel =>
                        have hp := hT'.out.1.put (by have := H4.out.2.2.2.2.2; omega) (by have := H4.out.2.2.2.2.2; omega) _ HWB.out
                        rw [show ((y / 256 ^ 2 % 256 : Nat) : Int) = (y : Int) / 65536 % 256 by omega] at hp
                        exact ⟨2, cn + 1, by omega, rfl, by go_num, (by first | rfl | simp), by have := hT'.out.2; omega, hp⟩
                    · go_wp2_with fail
                      go_roundg 3
                      case measure => have := HGR.out; omega
                      case rel =>
                        have hp := hT'.out.1.put (by have := H4.out.2.2.2.2.2; omega) (by have := H4.out.2.2.2.2.2; omega) _ HWB.out
                        rw [show ((y / 256 ^ 3 % 256 : Nat) : Int) = (y : Int) / 16777216 by omega] at hp
                        exact ⟨3, cn + 1, by omega, rfl, by go_num, (by first | rfl | simp), by have := hT'.out.2; omega, hp⟩
              · obtain rfl : n = j := by omega
                have hcm : cnt = m := by have := hL.2.2.1; rw [if_pos rfl] at this; omega
                subst hcm
                go_wp2_with fail
                go_meet
                exact ⟨rfl, hS.out⟩
          case rest =>
            obtain ⟨rfl, hY⟩ := hcut
            have hmz : z + D.length = m := by rw [← hm]; simp [allD]
            have hba := bytes_are HX.out.1 HX.out.2.1 hmz
            have hxl := HX.out.1.len HX.out.2.1
            rw [hmz] at hxl
            have hbyte : ∀ i, i < m → ((byteAt (val xs) m i : Nat) : Int) = (List.replicate (m - xs.length) 0 ++ xs).getD i 0 := fun i hi => by
              rw [← hba, List.getD_eq_getElem?_getD, List.getElem?_map, List.getElem?_range hi]
              rfl
            have hzl : z ≤ xs.length := HX.out.1.2.2.2.1
            have hzz := HX.out.1.2.2.2.2.1
            have hznz := HX.out.1.2.2.2.2.2.1
            obtain ⟨P, hP⟩ : ∃ P, P = m - xs.length := ⟨_, rfl⟩
            rw [← hP] at hbyte
            have hrow : ∀ i, i < (m + 3) * 3 → ∃ v : Nat, v < 256 ∧ wc.cell? ⟨Bb, i, none⟩ = some (.int .u8 (v : Int)) ∧ (i < P + z → v = 0) ∧ (i = P + z → z < xs.length → v ≠ 0) ∧ (z = xs.length → v = 0) ∧ (P ≤ i → i < m → (v : Int) = xs.getD (i - P) 0) := fun i hi => by
              have hc := hY.out.row.cell hi
              rw [H5.out.2] at hc
              by_cases him : i < m
              · have hb := hbyte i him
                have hval : ∀ (q : Nat), i = P + q → (List.replicate P 0 ++ xs).getD i 0 = xs.getD q 0 := fun q hq => by
                  rw [List.getD_eq_getElem?_getD, List.getElem?_append_right (by simp; omega), List.length_replicate, hq, Nat.add_sub_cancel_left, ← List.getD_eq_getElem?_getD]
                have hlow : i < P → (List.replicate P (0 : Int) ++ xs).getD i 0 = 0 := fun hq => by
                  rw [List.getD_eq_getElem?_getD, List.getElem?_append_left (by simpa using hq), List.getElem?_replicate, if_pos hq]; rfl
                rw [if_pos him] at hc
                refine ⟨_, byteAt_lt _ _ _, hc, fun h => ?_, fun h h2 => ?_, fun h => ?_, fun h1 _ => ?_⟩
                · by_cases hq : i < P
                  · have := hlow hq; omega
                  · have e1 := hval (i - P) (by omega)
                    have e2 := hzz (i - P) (by omega)
                    omega
                · have e1 := hval z (by omega)
                  have e2 := hznz h2
                  omega
                · by_cases hq : i < P
                  · have := hlow hq; omega
                  · have e1 := hval (i - P) (by omega)
                    have e2 := hzz (i - P) (by omega)
                    omega
                · rw [hb, hval (i - P) (by omega)]
              · rw [if_neg him] at hc
                exact ⟨0, by decide, hc, fun _ => rfl, fun h h2 => by omega, fun _ => rfl, fun _ h => absurd h him⟩
            have HR := Lib.hid (And.intro hrow (And.intro hY.out.below (And.intro hzl (And.intro hxl hP))))
            have hPm : P + xs.length = m := by omega
            clear hba hbyte hzz hznz hrow hxl hP
            go_wp2_with fail
            go_loopg [162] ((m + 3) * 3) (fun gk iv wr => ∃ k : Nat, k ≤ (m + 3) * 3 ∧ (z < xs.length → k ≤ P + z) ∧ gk + k = (m + 3) * 3 ∧ iv = .int .i64 k ∧ Dr wc wr)
            case atStart => exact ⟨0, by omega, fun _ => by omega, by omega, rfl, 0, rfl⟩
            case round =>
              obtain ⟨k, hk, hkz, hgk, rfl, q, rfl⟩ := hrel
              have HGK := Lib.hid hgk
              clear hgk
              by_cases hlt : k < (m + 3) * 3
              · obtain ⟨v, hv256, hc, z1, z2, z3, z4⟩ := HR.out.1 k hlt
                have hcl : (wc.drewN q).cell? ⟨Bb, k, none⟩ = some (.int .u8 (v : Int)) := hc
                by_cases hv0 : v = 0
                · subst hv0
                  have HZ := Lib.hid (And.intro hkz z2)
                  clear hkz z1 z2 z3 z4 hc hv256
                  go_wp2_with fail
                  go_roundg (gk - 1)
                  case measure => have := HGK.out; omega
                  case rel =>
                    have := HGK.out
                    exact ⟨k + 1, by omega, fun h => (by
                      have h1 := HZ.out.1 h
                      have h2 : k ≠ P + z := fun e => HZ.out.2 e h rfl
                      omega), by omega, by go_num, q, rfl⟩
                · have hzL : z < xs.length := by
                    rcases Nat.lt_or_ge z xs.length with h | h
                    · exact h
                    · exact absurd (z3 (by omega)) hv0
                  have hkP : k = P + z := by
                    have h1 := hkz hzL
                    have h2 : ¬ k < P + z := fun h => hv0 (z1 h)
                    omega
                  have hsub : (k : Int) - (z : Int) = (P : Int) := by omega
                  have hv1 : 0 < v := by omega
                  have hmp : m - P = xs.length := by omega
                  have hPm2 : P ≤ m := by omega
                  have hm3 : m ≤ (m + 3) * 3 := by omega
                  have hP3 : ¬ ((m + 3) * 3 = P) := by omega
                  have HKP := Lib.hid hkP
                  clear hkP
                  clear hkz z1 z2 z3 z4 hc
                  go_wp2_with fail
                  go_ret2
                  refine ⟨Bb, P, (m + 3) * 3 - P, rfl, fun i hi => ?_, ⟨H4.out.2.2.2.2.2.2.2.2.2.1, by omega, by omega⟩, below_drewN HR.out.2.1 q⟩
                  obtain ⟨v', _, hc', _, _, _, z4'⟩ := HR.out.1 (P + i) (by omega)
                  have h3 := z4' (by omega) (by omega)
                  rw [show P + i - P = i by omega] at h3
                  rw [h3] at hc'
                  exact hc'
              · have hzL : z = xs.length := by
                  rcases Nat.lt_or_ge z xs.length with h | h
                  · have := hkz h; omega
                  · have := HR.out.2.2.1; omega
                have hD := HX.out.1.none hzL
                have hmL : m = xs.length := by rw [← hmz, hD, hzL]; simp
                have hm3 : m ≤ (m + 3) * 3 := by omega
                clear hkz
                go_wp2_with fail
                go_ret2
                refine ⟨Bb, 0, (m + 3) * 3, by rw [hmL]; rfl, fun i hi => ?_, ⟨H4.out.2.2.2.2.2.2.2.2.2.1, by omega, by omega⟩, below_drewN HR.out.2.1 q⟩
                obtain ⟨v', _, hc', _, _, _, z4'⟩ := HR.out.1 i (by omega)
                have h3 := z4' (by omega) (by omega)
                rw [show i - P = i by omega] at h3
                rw [← h3, Nat.zero_add]
                exact hc'
end Go.Proofs.YtapkmoakbfpkeaaGreatDoor
namespace Go.Proofs.YtapkmoakbfpkeaaGreatDoor
open Go Go.RowKit Go.Proofs Go.Sort
set_option maxRecDepth 100000 in
theorem fast58EX (b o n c : Nat) (xs : List Int) (w : World) (hx : xs.length = n) (hn : n ≤ 130) (hb : ∀ x ∈ xs, 0 ≤ x ∧ x < 256) (hc : ∀ i, i < n → w.cell? ⟨b, o + i, none⟩ = some (.int .u8 (xs.getD i 0))) :
    Calls Tryz.prog 147 #[.slice (some ⟨b, o, none⟩) n c] w (Enc58 xs w) := by
  have HC := Lib.hid hc
  have HX := Lib.hid hx
  clear hc hx
  go_enter Tryz.func147, Tryz.ntmps147
  go_wp2_with fail
  refine (btcAlphabet _).mono ?_
  rintro e w1 ⟨rfl, hA, hB⟩
  have HA := Lib.hid hA
  have HB := Lib.hid hB
  clear hA hB
  go_wp2_with fail
  refine (fast58X b o n c _ xs _ HX.out hn hb (fun i hi => cB HB.out (HC.out i hi)) HA.out).mono ?_
  rintro e w2 ⟨z, D, rfl, hs, hb2⟩
  have HS := Lib.hid (And.intro hs hb2)
  clear hs hb2
  go_wp2_with fail
  go_ret
  exact ⟨z, D, rfl, HS.out.1, HB.out.trans (HS.out.2.mono HB.out.size)⟩
set_option maxRecDepth 100000 in
theorem encode58X (b o n c : Nat) (xs : List Int) (w : World) (hx : xs.length = n) (hn : n ≤ 130) (hb : ∀ x ∈ xs, 0 ≤ x ∧ x < 256) (hc : ∀ i, i < n → w.cell? ⟨b, o + i, none⟩ = some (.int .u8 (xs.getD i 0))) :
    Calls Tryz.prog 131 #[.slice (some ⟨b, o, none⟩) n c] w (Enc58 xs w) := by
  have H := Lib.hid (fast58EX b o n c xs w hx hn hb hc)
  clear hc hx
  go_enter Tryz.func131, Tryz.ntmps131
  go_wp2_with fail
  refine H.out.mono ?_
  rintro e w2 ⟨z, D, rfl, hs, hb2⟩
  have HS := Lib.hid (And.intro hs hb2)
  clear hs hb2
  go_wp2_with fail
  go_ret
  exact ⟨z, D, rfl, HS.out.1, HS.out.2⟩
set_option maxRecDepth 100000 in
theorem fast58D (m z : Nat) (D : List Nat) (xs : List Int) (w : World) (hd : Digs xs z D) (hu : U8 xs) (hm : (allD z D).length = m) (hm0 : 0 < m) (hm1 : m ≤ 400) :
    Calls Tryz.prog 401 #[.string (strOfNums (text58 z D))] w (Dec58 xs w) := by
  have HX := Lib.hid (And.intro hd (And.intro hu hm))
  obtain ⟨S, hS⟩ : ∃ S, S = strOfNums (text58 z D) := ⟨_, rfl⟩
  rw [← hS]
  have HSS := Lib.hid hS
  clear hd hu hm hS
  go_enter Tryz.func401, Tryz.ntmps401
  go_wp2_with fail
  refine (btcAlphabetX _).mono ?_
  rintro e w1 ⟨rfl, hA, hB⟩
  have HA := Lib.hid hA
  have HB := Lib.hid hB
  clear hA hB
  go_wp2_with fail
  rw [HSS.out]
  refine (dec58 _ m z D xs _ HX.out.1 HX.out.2.1 HX.out.2.2 hm0 hm1 HA.out).mono ?_
  rintro e w2 ⟨g, o, c, rfl, h1, h2, h3⟩
  have HS := Lib.hid (And.intro h1 (And.intro h2 h3))
  clear h1 h2 h3
  go_wp2_with fail
  go_ret2
  exact ⟨g, o, c, rfl, HS.out.1, ⟨Nat.le_trans HB.out.size HS.out.2.1.1, HS.out.2.1.2⟩, HB.out.trans (HS.out.2.2.mono HB.out.size)⟩
set_option maxRecDepth 100000 in
theorem decode58 (m z : Nat) (D : List Nat) (xs : List Int) (w : World) (hd : Digs xs z D) (hu : U8 xs) (hm : (allD z D).length = m) (hm0 : 0 < m) (hm1 : m ≤ 400) :
    Calls Tryz.prog 347 #[.string (strOfNums (text58 z D))] w (Dec58 xs w) := by
  have H := Lib.hid (fast58D m z D xs w hd hu hm hm0 hm1)
  obtain ⟨S, hS⟩ : ∃ S, S = strOfNums (text58 z D) := ⟨_, rfl⟩
  rw [← hS] at H ⊢
  clear hd hu hm hS
  go_enter Tryz.func347, Tryz.ntmps347
  go_wp2_with fail
  refine H.out.mono ?_
  rintro e w2 ⟨g, o, c, rfl, h1, h2, h3⟩
  have HS := Lib.hid (And.intro h1 (And.intro h2 h3))
  clear h1 h2 h3
  go_wp2_with fail
  go_ret2
  exact ⟨g, o, c, rfl, HS.out.1, HS.out.2.1, HS.out.2.2⟩
end Go.Proofs.YtapkmoakbfpkeaaGreatDoor
namespace Go.Proofs.YtapkmoakbfpkeaaGreatDoor
open Go Go.RowKit Go.Proofs Go.Sort
theorem lo_qm : 1378 * 58 ^ 44 ≤ 18 * 256 ^ 33 + 32 * 256 ^ 32 := by decide +kernel
theorem hi_qm : 18 * 256 ^ 33 + 33 * 256 ^ 32 ≤ 1379 * 58 ^ 44 := by decide +kernel
/-- The text of a sha256 ID begins with "Qm". -/
theorem Digs.qm {t : List Int} {z : Nat} {D : List Nat} (h : Digs (18 :: 32 :: t) z D) (hl : t.length = 32) (hu : U8 t) : z = 0 ∧ ∃ T, D = 23 :: 44 :: T := by
  obtain ⟨h1, h2, h3, _, h5, _, _⟩ := h
  have hz : z = 0 := by
    rcases Nat.eq_zero_or_pos z with h | h
    · exact h
    · have := h5 0 h
      simp at this
  refine ⟨hz, ?_⟩
  have ht := val_lt t hu
  rw [hl] at ht
  rw [val_cons, val_cons, List.length_cons, hl] at h3
  have hv : val58 D = 18 * 256 ^ 33 + 32 * 256 ^ 32 + val t := by rw [h3, Nat.add_assoc]; rfl
  have lo := lo_qm
  have hi := hi_qm
  have hN1 : 1378 * 58 ^ 44 ≤ val58 D := by rw [hv]; exact Nat.le_trans lo (Nat.le_add_right _ _)
  have hN2 : val58 D < 1379 * 58 ^ 44 := by
    rw [hv]
    refine Nat.lt_of_lt_of_le ?_ hi
    have e : 33 * 256 ^ 32 = 32 * 256 ^ 32 + 256 ^ 32 := by rw [show 33 = 32 + 1 by rfl, Nat.add_mul, Nat.one_mul]
    rw [e, ← Nat.add_assoc]
    exact Nat.add_lt_add_left ht _
  match D, h1, h2, hN1, hN2 with
  | [], _, _, hN1, _ => exact absurd hN1 (by decide +kernel)
  | [d], h1, _, hN1, _ =>
    have hd := h1 d (by simp)
    have e : val58 [d] = d := by simp [val58]
    rw [e] at hN1
    have : (58 : Nat) ≤ 1378 * 58 ^ 44 := by decide +kernel
    omega
  | d0 :: d1 :: T, h1, h2, hN1, hN2 =>
    have b0 := h1 d0 (by simp)
    have b1 := h1 d1 (by simp)
    have hn0 : d0 ≠ 0 := by simpa using h2
    have hT := val58_lt T fun x hx => h1 x (by simp [hx])
    have e : val58 (d0 :: d1 :: T) = (d0 * 58 + d1) * 58 ^ T.length + val58 T := by
      rw [val58_cons, val58_cons, List.length_cons, Nat.pow_succ, Nat.mul_comm (58 ^ T.length) 58, ← Nat.mul_assoc, ← Nat.add_assoc, ← Nat.add_mul]
    rw [e] at hN1 hN2
    obtain ⟨M, hM⟩ : ∃ M, M = d0 * 58 + d1 := ⟨_, rfl⟩
    rw [← hM] at hN1 hN2
    have hM1 : 58 ≤ M ∧ M < 3364 := by omega
    have hk : T.length = 44 := by
      rcases Nat.lt_trichotomy T.length 44 with h | h | h
      · have a : (M + 1) * 58 ^ T.length ≤ 3364 * 58 ^ 43 := Nat.mul_le_mul (by omega) (Nat.pow_le_pow_right (by decide) (by omega))
        rw [Nat.add_mul, Nat.one_mul] at a
        have b : 3364 * 58 ^ 43 ≤ 1378 * 58 ^ 44 := by decide +kernel
        omega
      · exact h
      · have a : 58 * 58 ^ 45 ≤ M * 58 ^ T.length := Nat.mul_le_mul hM1.1 (Nat.pow_le_pow_right (by decide) (by omega))
        have b : 1379 * 58 ^ 44 ≤ 58 * 58 ^ 45 := by decide +kernel
        omega
    rw [hk] at hN1 hN2 hT
    have hMM : M = 1378 := by
      rcases Nat.lt_trichotomy M 1378 with h | h | h
      · have a : (M + 1) * 58 ^ 44 ≤ 1378 * 58 ^ 44 := Nat.mul_le_mul_right _ h
        rw [Nat.add_mul, Nat.one_mul] at a
        omega
      · exact h
      · have a : 1379 * 58 ^ 44 ≤ M * 58 ^ 44 := Nat.mul_le_mul_right _ h
        omega
    exact ⟨T, by rw [show d0 = 23 by omega, show d1 = 44 by omega]⟩
end Go.Proofs.YtapkmoakbfpkeaaGreatDoor
namespace Go.Proofs.YtapkmoakbfpkeaaGreatDoor
open Go Go.RowKit Go.Proofs Go.Sort
set_option maxRecDepth 100000 in
theorem fromB58 (m z : Nat) (D : List Nat) (xs : List Int) (x y : Int) (w : World) (hd : Digs xs z D) (hu : U8 xs) (hm : (allD z D).length = m) (hm0 : 0 < m) (hm1 : m ≤ 400) (h0 : 0 ≤ x) (hx : x < 128) (hy0 : 0 ≤ y) (hy : y < 128) (hny : (xs.length : Int) = y + 2) (hcx : xs.getD 0 0 = x) (hcy : xs.getD 1 0 = y) :
    Calls Tryz.prog 285 #[.string (strOfNums (text58 z D))] w (Dec58 xs w) := by
  have H := Lib.hid (decode58 m z D xs w hd hu hm hm0 hm1)
  have HN := Lib.hid (And.intro hny (And.intro hcx hcy))
  obtain ⟨S, hS⟩ : ∃ S, S = strOfNums (text58 z D) := ⟨_, rfl⟩
  rw [← hS] at H ⊢
  clear hd hu hm hS hny hcx hcy
  go_enter Tryz.func285, Tryz.ntmps285
  go_wp2_with fail
  refine H.out.mono ?_
  rintro e w1 ⟨g, o, c, rfl, h1, h2, h3⟩
  have HS := Lib.hid (And.intro h1 (And.intro h2 h3))
  clear h1 h2 h3
  obtain ⟨n, hn⟩ : ∃ n, n = xs.length := ⟨_, rfl⟩
  have HL := Lib.hid hn
  rw [← hn]
  clear hn
  go_wp2_with fail
  refine (CastMh g o n c x y _ (by rw [HL.out]; exact HS.out.2.1.2.1) HS.out.2.1.2.2 h0 hx hy0 hy (by rw [HL.out]; exact HN.out.1) (by have := HS.out.1 0 (by have := HN.out.1; omega); rw [HN.out.2.1] at this; simpa using this) (by have := HS.out.1 1 (by have := HN.out.1; omega); rw [HN.out.2.2] at this; simpa using this)).mono ?_
  rintro e w2 ⟨rfl, hb2⟩
  have HB := Lib.hid hb2
  clear hb2
  go_wp2_with fail
  go_ret2
  exact ⟨g, o, c, by rw [HL.out]; rfl, HS.out.1.below HB.out, HS.out.2.1, HS.out.2.2.trans (HB.out.mono HS.out.2.2.size)⟩
end Go.Proofs.YtapkmoakbfpkeaaGreatDoor
namespace Go.Proofs.YtapkmoakbfpkeaaGreatDoor
open Go Go.RowKit Go.Proofs Go.Sort
set_option maxRecDepth 100000 in
theorem p2pStBX (m z : Nat) (D : List Nat) (xs : List Int) (x y : Int) (w : World) (hd : Digs xs z D) (hu : U8 xs) (hm : (allD z D).length = m) (hm0 : 0 < m) (hm1 : m ≤ 400) (hx : x = 0 ∨ (x = 18 ∧ y = 32)) (hy0 : 0 ≤ y) (hy : y < 128) (hny : (xs.length : Int) = y + 2) (hcx : xs.getD 0 0 = x) (hcy : xs.getD 1 0 = y)
    (bq : Bool) (hq : Lib.hasPrefix (strOfNums (text58 z D)).data.toList [81, 109] = bq) (h1 : bq = false → Lib.hasPrefix (strOfNums (text58 z D)).data.toList [49] = true) :
    Calls Tryz.prog 248 #[.string (strOfNums (text58 z D))] w (Dec58 xs w) := by
  have hx0 : 0 ≤ x ∧ x < 128 := by rcases hx with h | ⟨h, _⟩ <;> omega
  have H := Lib.hid (fromB58 m z D xs x y w hd hu hm hm0 hm1 hx0.1 hx0.2 hy0 hy hny hcx hcy)
  have HN := Lib.hid (And.intro hny (And.intro hcx (And.intro hcy hx)))
  obtain ⟨S, hS⟩ : ∃ S, S = strOfNums (text58 z D) := ⟨_, rfl⟩
  rw [← hS] at H hq h1 ⊢
  clear hd hu hm hS hny hcx hcy hx hx0
  cases bq with
  | true =>
    clear h1
    go_enter Tryz.func248, Tryz.ntmps248
    go_wp2_with (go_at_call 284; refine (Tryz.strings_HasPrefix _ _ _).mono ?_; rintro e w' ⟨rfl, rfl⟩; simp only [hq])
    refine H.out.mono ?_
    rintro e w1 ⟨g, o, c, rfl, k1, k2, k3⟩
    have HS := Lib.hid (And.intro k1 (And.intro k2 k3))
    clear k1 k2 k3
    obtain ⟨n, hn⟩ : ∃ n, n = xs.length := ⟨_, rfl⟩
    have HL := Lib.hid hn
    rw [← hn]
    clear hn
    go_wp2_with (go_at_call 250; refine (p2pVal_ok g o n c x y _ (by rw [HL.out]; exact HS.out.2.1.2.1) HS.out.2.1.2.2 HN.out.2.2.2 hy0 hy (by rw [HL.out]; exact HN.out.1) (by have := HS.out.1 0 (by have := HN.out.1; omega); rw [HN.out.2.1] at this; simpa using this) (by have := HS.out.1 1 (by have := HN.out.1; omega); rw [HN.out.2.2.1] at this; simpa using this)).mono ?_; rintro e w2 ⟨rfl, hb2⟩)
    go_ret2
    exact ⟨g, o, c, by rw [HL.out]; rfl, HS.out.1.below hb2, HS.out.2.1, HS.out.2.2.trans (hb2.mono HS.out.2.2.size)⟩
  | false =>
    have h2 := h1 rfl
    clear h1
    go_enter Tryz.func248, Tryz.ntmps248
    go_wp2_with (go_at_call 284; refine (Tryz.strings_HasPrefix _ _ _).mono ?_; rintro e w' ⟨rfl, rfl⟩; simp only [hq, h2])
    refine H.out.mono ?_
    rintro e w1 ⟨g, o, c, rfl, k1, k2, k3⟩
    have HS := Lib.hid (And.intro k1 (And.intro k2 k3))
    clear k1 k2 k3
    obtain ⟨n, hn⟩ : ∃ n, n = xs.length := ⟨_, rfl⟩
    have HL := Lib.hid hn
    rw [← hn]
    clear hn
    go_wp2_with (go_at_call 250; refine (p2pVal_ok g o n c x y _ (by rw [HL.out]; exact HS.out.2.1.2.1) HS.out.2.1.2.2 HN.out.2.2.2 hy0 hy (by rw [HL.out]; exact HN.out.1) (by have := HS.out.1 0 (by have := HN.out.1; omega); rw [HN.out.2.1] at this; simpa using this) (by have := HS.out.1 1 (by have := HN.out.1; omega); rw [HN.out.2.2.1] at this; simpa using this)).mono ?_; rintro e w2 ⟨rfl, hb2⟩)
    go_ret2
    exact ⟨g, o, c, by rw [HL.out]; rfl, HS.out.1.below hb2, HS.out.2.1, HS.out.2.2.trans (hb2.mono HS.out.2.2.size)⟩
end Go.Proofs.YtapkmoakbfpkeaaGreatDoor
namespace Go.Proofs.YtapkmoakbfpkeaaGreatDoor
open Go Go.RowKit Go.Proofs Go.Sort
set_option maxRecDepth 100000 in
theorem idString (xs : List Int) (hu : U8 xs) (hn : xs.length ≤ 130) (w : World) : Calls Tryz.prog 95 #[.string (strOfNums xs)] w (Enc58 xs w) := by
  obtain ⟨cF, WF, hcv, hW⟩ := convIDBF xs hu (by omega)
  have HW := Lib.hid (And.intro hW hu)
  obtain ⟨S, hS⟩ : ∃ S, S = strOfNums xs := ⟨_, rfl⟩
  rw [← hS] at hcv ⊢
  clear hW hS hu
  go_enter Tryz.func95, Tryz.ntmps95
  go_wp2_with fail
  obtain ⟨hbv, hb⟩ := HW.out.1 w
  obtain ⟨g, c, cs, e, _, _, hbs⟩ := hbv
  injection e with e1 _ e3
  injection e1 with e1
  injection e1 with e1
  subst e1
  refine (encode58X w.heap.size 0 xs.length (cF w) xs (WF w) rfl hn HW.out.2 hbs).mono ?_
  rintro e w2 ⟨z, D, rfl, hs, hb2⟩
  have HS := Lib.hid (And.intro hs (hb.trans (hb2.mono hb.size)))
  clear hs hb2
  go_wp2_with fail
  go_ret
  exact ⟨z, D, rfl, HS.out.1, HS.out.2⟩
end Go.Proofs.YtapkmoakbfpkeaaGreatDoor
namespace Go.Proofs.YtapkmoakbfpkeaaGreatDoor
open Go Go.RowKit Go.Proofs Go.Sort
set_option maxRecDepth 100000 in
theorem zzNamed_p2p (w : World) : Calls Tryz.prog 142 #[.string ⟨#[112, 50, 112]⟩] w fun e w' => e = .returned (.agg #[.string ⟨#[112, 50, 112]⟩, .int .i64 421, .slice (some ⟨w.heap.size + 2, 0, none⟩) 2 2, .int .i64 (-1), .bool false, .iface 253 (.agg #[.func (Fn.func 248) #[] #[], .func (Fn.func 249) #[] #[], .func (Fn.func 250) #[] #[]])]) ∧
    w' = ((w.alloc (.cells #[.string ⟨#[112, 50, 112]⟩, .int .i64 421, .slice (some ⟨w.heap.size + 2, 0, none⟩) 2 2, .int .i64 (-1), .bool false, .iface 253 (.agg #[.func (Fn.func 248) #[] #[], .func (Fn.func 249) #[] #[], .func (Fn.func 250) #[] #[]])] 144)).alloc (.cells #[.string ⟨#[112, 50, 112]⟩, .int .i64 421, .slice (some ⟨w.heap.size + 2, 0, none⟩) 2 2, .int .i64 (-1), .bool false, .iface 253 (.agg #[.func (Fn.func 248) #[] #[], .func (Fn.func 249) #[] #[], .func (Fn.func 250) #[] #[]])] 144)).alloc (.cells #[.int .u8 165, .int .u8 3] 5) := by
  go_enter Tryz.func142, Tryz.ntmps142
  go_wp2_with (go_at_call 179; refine (protoP2P_any _).mono ?_; rintro e w' ⟨rfl, rfl⟩)
  refine bodyPost_ret (v := .agg #[.string ⟨#[112, 50, 112]⟩, .int .i64 421, .slice (some ⟨w.heap.size + 2, 0, none⟩) 2 2, .int .i64 (-1), .bool false, .iface 253 (.agg #[.func (Fn.func 248) #[] #[], .func (Fn.func 249) #[] #[], .func (Fn.func 250) #[] #[]])]) (by simp [results, Tryz.results142, go_sem]) rfl ⟨rfl, ?_⟩
  simp
end Go.Proofs.YtapkmoakbfpkeaaGreatDoor
namespace Go.Proofs.YtapkmoakbfpkeaaGreatDoor
open Go Go.RowKit Go.Proofs Go.Sort
set_option maxRecDepth 100000 in
theorem pwn_p2p (w : World) : Calls Tryz.prog 129 #[.string ⟨#[112, 50, 112]⟩] w fun e w' => ∃ a, e = .returned (.agg (p2pP.cells a)) ∧ VRow w' a p2pP.vc ∧ w.heap.size ≤ a ∧ Below w.heap.size w w' := by
  go_enter Tryz.func129, Tryz.ntmps129
  go_wp2_with (go_at_call 142; refine (zzNamed_p2p _).mono ?_; rintro e w' ⟨rfl, rfl⟩)
  refine bodyPost_ret (v := .agg (p2pP.cells (w.heap.size + 3))) (by simp [results, Tryz.results129, go_sem, Prot.cells, p2pP]) rfl ⟨_, rfl, ?_, by omega, ?_⟩
  · exact VRow.at (vc := p2pP.vc) (by simp)
  · exact ((((Below.refl _ _).alloc (Nat.le_refl _) _).alloc (by simp) _).alloc (by simp; omega) _).alloc (by simp; omega) _
end Go.Proofs.YtapkmoakbfpkeaaGreatDoor
