/- base58: the walk of FastBase58EncodingAlphabet: some string comes back. -/
import Derived.Test.YtapkmoakbfpkeaaGreatDoorB1
import Derived.StillTailTactics
namespace B58
/-- The number that the first k digits give, the lowest one first. -/
def le (e : Nat → Nat) : Nat → Nat
  | 0 => 0
  | k + 1 => le e k + e k * 58 ^ k
theorem le_congr {e f : Nat → Nat} : ∀ {k : Nat}, (∀ t, t < k → e t = f t) → le e k = le f k
  | 0, _ => rfl
  | k + 1, h => by
    unfold le
    rw [le_congr (k := k) (fun t ht => h t (by omega)), h k (by omega)]
theorem le_zeros {e : Nat → Nat} {k : Nat} : ∀ {n : Nat}, k ≤ n → (∀ t, k ≤ t → t < n → e t = 0) → le e n = le e k
  | 0, h, _ => by obtain rfl : k = 0 := by omega
                  rfl
  | n + 1, h, hz => by
    by_cases hk : k = n + 1
    · rw [hk]
    · show le e n + e n * 58 ^ n = _
      rw [hz n (by omega) (by omega), le_zeros (n := n) (by omega) (fun t a b => hz t a (by omega))]
      omega
/-- One step of the inner loop. -/
def up (e : Nat → Nat) (k v : Nat) : Nat → Nat := fun t => if t = k then v else e t
theorem le_up {e : Nat → Nat} {k v : Nat} : le (up e k v) k = le e k := le_congr fun t ht => by unfold up; rw [if_neg (by omega)]
theorem step (old e : Nat → Nat) (k c N : Nat) (size : Nat) (hk : k < size) (he : ∀ t, k ≤ t → e t = old t)
    (h : le e k + c * 58 ^ k + 256 * (le old size - le old k) = N) (hle : ∀ n, n ≤ size → le old n ≤ le old size) :
    le (up e k ((c + 256 * e k) % 58)) (k + 1) + (c + 256 * e k) / 58 * 58 ^ (k + 1) + 256 * (le old size - le old (k + 1)) = N := by
  have h1 : le (up e k ((c + 256 * e k) % 58)) (k + 1) = le e k + (c + 256 * e k) % 58 * 58 ^ k := by
    show le _ k + up e k _ k * 58 ^ k = _
    rw [le_up]
    unfold up
    rw [if_pos rfl]
  have h2 : le old (k + 1) = le old k + old k * 58 ^ k := rfl
  have h3 := hle (k + 1) (by omega)
  rw [he k (Nat.le_refl _)] at h1 ⊢
  rw [h1]
  have h4 : (c + 256 * old k) / 58 * 58 ^ (k + 1) = 58 * ((c + 256 * old k) / 58) * 58 ^ k := by
    rw [Nat.pow_succ]
    rw [Nat.mul_comm (58 ^ k) 58, ← Nat.mul_assoc, Nat.mul_comm _ 58]
  have h5 : (c + 256 * old k) % 58 * 58 ^ k + 58 * ((c + 256 * old k) / 58) * 58 ^ k = c * 58 ^ k + 256 * (old k * 58 ^ k) := by
    rw [← Nat.add_mul, Nat.mod_add_div, Nat.add_mul, Nat.mul_assoc]
  rw [h4]
  omega
theorem le_mono {e : Nat → Nat} {n : Nat} : ∀ {m : Nat}, n ≤ m → le e n ≤ le e m
  | 0, h => by obtain rfl : n = 0 := by omega
               exact Nat.le_refl _
  | m + 1, h => by
    by_cases hk : n = m + 1
    · rw [hk]; exact Nat.le_refl _
    · exact Nat.le_trans (le_mono (m := m) (by omega)) (Nat.le_add_right _ _)
theorem carry_le (c d : Nat) (hc : c ≤ 255) (hd : d < 58) : (c + 256 * d) / 58 ≤ 255 := by omega
theorem pow_le_of_pow {a b : Nat} (h : a ^ 100 ≤ b ^ 100) : a ≤ b := by
  by_cases hb : a ≤ b
  · exact hb
  · exact absurd h (Nat.not_le.2 (Nat.pow_lt_pow_left (by omega) (by decide)))
theorem base : 256 ^ 100 ≤ 58 ^ 138 := by decide +kernel
theorem room (m size : Nat) (h : 138 * m ≤ 100 * size) : 256 ^ m ≤ 58 ^ size := by
  apply pow_le_of_pow
  rw [← Nat.pow_mul, ← Nat.pow_mul, Nat.mul_comm m 100, Nat.pow_mul]
  refine Nat.le_trans (Nat.pow_le_pow_left base m) ?_
  rw [← Nat.pow_mul, Nat.mul_comm size 100]
  exact Nat.pow_le_pow_right (by decide) h
/-- At the array's end nothing is carried on. -/
theorem no_carry (e : Nat → Nat) (c N size : Nat) (h : le e size + c * 58 ^ size = N) (hN : N < 58 ^ size) : c = 0 := by
  rcases Nat.eq_zero_or_pos c with h0 | h0
  · exact h0
  · have : 1 * 58 ^ size ≤ c * 58 ^ size := Nat.mul_le_mul_right _ h0
    omega
theorem next_lt (V b m size : Nat) (hV : V < 256 ^ m) (hb : b < 256) (h : 256 ^ (m + 1) ≤ 58 ^ size) : 256 * V + b < 58 ^ size := by
  have : 256 ^ (m + 1) = 256 * 256 ^ m := by rw [Nat.pow_succ, Nat.mul_comm]
  omega
end B58

namespace Go.Proofs.YtapkmoakbfpkeaaGreatDoor
open Go Go.RowKit Go.Proofs Go.Sort

theorem mkBytes (n : Nat) (h : n ≤ 1000) (w : World) : (Instr.makeSlice 23 (.int .i64 (n : Int)) (.int .i64 (n : Int))).run Tryz.prog w = .ok (.slice (some ⟨w.heap.size, 0, none⟩) n n) (w.alloc (.cells (madeCells #[.int .u8 0] n) 5)) :=
  run_make_row' 23 5 (.int .u8 0) 1 Tryz.underlying23 (by kernel_rfl) rfl .i64 .i64 n (by omega) (by omega) w

/-- The buffer's cells: zeros ahead, then the digits, the highest one first. -/
def Bf (sz z : Nat) (e : Nat → Nat) (i : Nat) : Value := .int .u8 ((if i < sz + z then 0 else e (2 * sz + z - 1 - i) : Nat) : Int)
theorem Bf_at (sz z : Nat) (e : Nat → Nat) (k : Nat) (hk : k < sz) : Bf sz z e (sz + z + (sz - 1 - k)) = .int .u8 (e k : Nat) := by
  unfold Bf
  rw [if_neg (by omega), show 2 * sz + z - 1 - (sz + z + (sz - 1 - k)) = k by omega]
/-- What holds at the outer loop's head. -/
structure OutAt (w : World) (p sz z i : Nat) (h : Int) (e : Nat → Nat) (wr : World) : Prop where
  dig : ∀ t, t < sz → e t < 58
  zer : ∀ t, t < sz → (sz : Int) - 1 - t ≤ h → e t = 0
  lt : B58.le e sz < 256 ^ (i - z)
  row : wr.rowIs p 5 (sz * 2 + z) (Bf sz z e)
  below : Below p w wr
def Out (w : World) (p sz z i : Nat) (h : Int) (wr : World) : Prop := ∃ e, OutAt w p sz z i h e wr
/-- .. and at the inner loop's. -/
structure InAt (w : World) (p sz z k c x : Nat) (e0 e : Nat → Nat) (wr : World) : Prop where
  dig : ∀ t, t < sz → e t < 58
  same : ∀ t, k ≤ t → e t = e0 t
  sum : B58.le e k + c * 58 ^ k + 256 * (B58.le e0 sz - B58.le e0 k) = 256 * B58.le e0 sz + x
  row : wr.rowIs p 5 (sz * 2 + z) (Bf sz z e)
  below : Below p w wr
theorem InAt.step {w : World} {p sz z k c x : Nat} {e0 e : Nat → Nat} {wr : World} (h : InAt w p sz z k c x e0 e wr) (hk : k < sz) :
    InAt w p sz z (k + 1) ((c + 256 * e k) / 58) x e0 (B58.up e k ((c + 256 * e k) % 58)) (wr.setCell ⟨p, sz + z + (sz - 1 - k), none⟩ (.int .u8 ((c + 256 * e k) % 58 : Nat))) where
  dig := fun t ht => by unfold B58.up; split; · exact Nat.mod_lt _ (by decide)
                        · exact h.dig t ht
  same := fun t ht => by unfold B58.up; rw [if_neg (by omega)]; exact h.same t (by omega)
  sum := B58.step e0 e k c _ sz hk h.same h.sum (fun n hn => B58.le_mono hn)
  row := (h.row.set _ _).congr fun i hi => by
    by_cases hi2 : i = sz + z + (sz - 1 - k)
    · rw [if_pos hi2, hi2, Bf_at _ _ _ _ hk]; unfold B58.up; rw [if_pos rfl]
    · rw [if_neg hi2]; unfold Bf B58.up
      by_cases h3 : i < sz + z
      · rw [if_pos h3, if_pos h3]
      · rw [if_neg h3, if_neg h3, if_neg (by omega)]
  below := h.below.setCell (Nat.le_refl _) _
theorem InAt.done {w : World} {p sz z k c x i : Nat} {h : Int} {e0 e : Nat → Nat} {wr w0 : World} (a : InAt w p sz z k c x e0 e wr) (a0 : OutAt w p sz z i h e0 w0) (hk : k ≤ sz) (hx : x < 256) (hi : z ≤ i) (hc : c = 0) (hj : (sz : Int) - 1 - k ≤ h) :
    OutAt w p sz z (i + 1) ((sz : Int) - 1 - k) e wr where
  dig := a.dig
  zer := fun t ht h' => by rw [a.same t (by omega)]; exact a0.zer t ht (by omega)
  lt := by
    have z0 : ∀ t, k ≤ t → t < sz → e0 t = 0 := fun t h1 h2 => a0.zer t h2 (by omega)
    have e1 := B58.le_zeros hk z0
    have e2 := B58.le_zeros (e := e) hk (fun t h1 h2 => by rw [a.same t h1]; exact z0 t h1 h2)
    have s := a.sum
    rw [hc, e1] at s
    have l := a0.lt
    rw [show i + 1 - z = (i - z) + 1 by omega, Nat.pow_succ]
    rw [e1] at l
    rw [e2]
    omega
  row := a.row
  below := a.below

/-- The buffer behind the reckoning: bytes, and digits in its second half. -/
structure FinAt (w : World) (p sz z : Nat) (G : Nat → Nat) (wr : World) : Prop where
  row : wr.rowIs p 5 (sz * 2 + z) (fun i => .int .u8 (G i : Nat))
  byte : ∀ i, G i < 256
  dig : ∀ i, sz + z ≤ i → G i < 58
  below : Below p w wr
def Fin58 (w : World) (p sz z : Nat) (wr : World) : Prop := ∃ G, FinAt w p sz z G wr
theorem OutAt.fin {w : World} {p sz z i : Nat} {h : Int} {e : Nat → Nat} {wr : World} (a : OutAt w p sz z i h e wr) (hs : 1 ≤ sz) : Fin58 w p sz z wr :=
  ⟨fun i => if i < sz + z then 0 else e (2 * sz + z - 1 - i), a.row, fun i => by
    by_cases hi : i < sz + z
    · simp only [if_pos hi]; omega
    · simp only [if_neg hi]; have := a.dig (2 * sz + z - 1 - i) (by omega); omega, fun i hi => by
    simp only [if_neg (show ¬ i < sz + z by omega)]; exact a.dig _ (by omega), a.below⟩
theorem FinAt.set {w : World} {p sz z : Nat} {G : Nat → Nat} {wr : World} (a : FinAt w p sz z G wr) (k : Nat) (x : Int) (hk : k < sz + z) (hx : 0 ≤ x ∧ x < 256) : Fin58 w p sz z (wr.setCell ⟨p, k, none⟩ (.int .u8 x)) :=
  ⟨fun i => if i = k then x.toNat else G i, (a.row.set _ _).congr fun i _ => by
    by_cases h : i = k
    · simp only [if_pos h]; exact int_eq (by omega)
    · simp only [if_neg h], fun i => by
    by_cases h : i = k
    · simp only [if_pos h]; omega
    · simp only [if_neg h]; exact a.byte i, fun i hi => by
    simp only [if_neg (show ¬ i = k by omega)]; exact a.dig i hi, a.below.setCell (Nat.le_refl _) _⟩

theorem Fin58.drewN {w : World} {p sz z : Nat} {wr : World} (a : Fin58 w p sz z wr) (q : Nat) : Fin58 w p sz z (wr.drewN q) := by
  obtain ⟨G, hG⟩ := a
  exact ⟨G, hG.row, hG.byte, hG.dig, below_drewN hG.below q⟩

set_option maxHeartbeats 3200000 in
set_option maxRecDepth 100000 in
theorem fast58 (b o n c g : Nat) (xs : List Int) (w : World) (hx : xs.length = n) (hn : n ≤ 130) (hb : ∀ x ∈ xs, 0 ≤ x ∧ x < 256) (hc : ∀ i, i < n → w.cell? ⟨b, o + i, none⟩ = some (.int .u8 (xs.getD i 0))) (hA : AlphaAt w g) :
    Calls Tryz.prog 193 #[.slice (some ⟨b, o, none⟩) n c, .pointer (some ⟨g, 0, none⟩)] w (SomeStr w) := by
  obtain ⟨f, hr, hf⟩ := hA
  have hz : w.cell? ⟨g, 128, none⟩ = some (.int .u8 (bt 0)) := by rw [hr.cell (by omega), show (128 : Nat) = 128 + 0 by rfl, hf 0 (by omega)]
  have HC := Lib.hid hc
  have HX := Lib.hid hx
  have HR := Lib.hid (And.intro hr hf)
  clear hc hx hr hf
  go_enter Tryz.func193, Tryz.ntmps193
  go_upto_block 0 with fail
  clear hz
  go_cut [9] (fun zc wx => ∃ z : Nat, z ≤ n ∧ zc = .int .i64 z ∧ Dr w wx)
  case first =>
    go_wp2_with fail
    go_loopg [9] n (fun gk i wr => ∃ k : Nat, k ≤ n ∧ gk + k = n ∧ i = .int .i64 k ∧ Dr w wr)
    case atStart => exact ⟨0, by omega, by omega, rfl, 0, rfl⟩
    case round =>
      obtain ⟨z, hz, hgk, rfl, q, rfl⟩ := hrel
      have HGK := Lib.hid hgk
      clear hgk
      by_cases hlt : z < n
      · have hcl := HC.out z hlt
        obtain ⟨x, hxe⟩ : ∃ x, x = xs.getD z 0 := ⟨_, rfl⟩
        rw [← hxe] at hcl
        clear hxe
        by_cases hx0 : x = 0
        · subst hx0
          go_wp2_with fail
          go_roundg (gk - 1)
          case measure => have := HGK.out; omega
          case rel => have := HGK.out; exact ⟨z + 1, by omega, by omega, by go_num, q, rfl⟩
        · have hxn : (x == 0) = false := by simpa using hx0
          go_wp2_with fail
          go_meet
          exact ⟨z, hz, rfl, q, rfl⟩
      · go_wp2_with fail
        go_meet
        exact ⟨z, hz, rfl, q, rfl⟩
  case rest =>
    obtain ⟨z, hz, rfl, q, rfl⟩ := hcut
    obtain ⟨sz, hsz⟩ : ∃ sz : Nat, ((n : Int) - z) * 138 / 100 + 1 = (sz : Int) := ⟨(((n : Int) - z) * 138 / 100 + 1).toNat, by omega⟩
    have hs1 : 138 * (n - z) < 100 * sz := by omega
    have hs2 : 1 ≤ sz ∧ sz ≤ 181 := by omega
    have hmk : ∀ w, (Instr.makeSlice 23 (.int .i64 ((sz : Int) * 2 + z)) (.int .i64 ((sz : Int) * 2 + z))).run Tryz.prog w = .ok (.slice (some ⟨w.heap.size, 0, none⟩) (sz * 2 + z) (sz * 2 + z)) (w.alloc (.cells (madeCells #[.int .u8 0] (sz * 2 + z)) 5)) := fun w => by
      have := mkBytes (sz * 2 + z) (by omega) w
      rw [show ((sz * 2 + z : Nat) : Int) = (sz : Int) * 2 + z by omega] at this
      exact this
    go_wp2_with fail
    have hrow : Hid (Out w w.heap.size sz z z ((sz : Int) - 1) ((w.alloc (.cells (madeCells #[.int .u8 0] (sz * 2 + z)) 5)).drewN q)) := by
      refine ⟨fun _ => 0, fun t _ => by decide, fun _ _ _ => rfl, ?_, ?_, below_drewN ((Below.refl _ _).alloc (Nat.le_refl _) _) _⟩
      · rw [Nat.sub_self]
        have : ∀ k, B58.le (fun _ => 0) k = 0 := fun k => by induction k with
          | zero => rfl
          | succ k ih => unfold B58.le; rw [ih, Nat.zero_mul]
        rw [this]; decide
      · exact World.rowIs.congr (World.rowIs_made w (.int .u8 0) _ _) fun i hi => by unfold Bf; split <;> rfl
    obtain ⟨W0, hW0⟩ : ∃ W0, W0 = (w.alloc (.cells (madeCells #[.int .u8 0] (sz * 2 + z)) 5)).drewN q := ⟨_, rfl⟩
    rw [← hW0] at hrow
    rw [← hW0]
    obtain ⟨p, hp⟩ : ∃ p, p = w.heap.size := ⟨_, rfl⟩
    rw [← hp] at hrow
    rw [← hp]
    have HP := Lib.hid hp
    have HSZ := Lib.hid hsz
    clear hW0 hp hmk hsz
    go_loopg [7, 10] (n - z) (fun gk i h wr => ∃ (k : Nat) (hh : Int), z ≤ k ∧ k ≤ n ∧ gk + k = n ∧ -1 ≤ hh ∧ hh < sz ∧ i = .int .i64 k ∧ h = .int .i64 hh ∧ Hid (Out w p sz z k hh wr))
    case atStart => exact ⟨z, _, Nat.le_refl _, hz, by omega, by omega, by omega, rfl, rfl, hrow⟩
    case round =>
      obtain ⟨i, hh, hzi, hin, hgk, hh1, hh2, rfl, rfl, hO⟩ := hrel
      have HGK := Lib.hid hgk
      clear hgk hrow
      by_cases hlt : i < n
      · obtain ⟨e0, hE⟩ := hO.out
        have hcl : wr.cell? ⟨b, o + i, none⟩ = some (.int .u8 (xs.getD i 0)) := by
          have h0 := HC.out i hlt
          exact (hE.below.cell (by rw [HP.out]; exact World.block_lt_of_cell? _ _ h0)).trans h0
        have hxb : 0 ≤ xs.getD i 0 ∧ xs.getD i 0 < 256 := by
          have e : xs.getD i 0 = xs[i]'(by rw [HX.out]; exact hlt) := by simp [List.getD, List.getElem?_eq_getElem (show i < xs.length by rw [HX.out]; exact hlt)]
          rw [e]; exact hb _ (List.getElem_mem _)
        obtain ⟨x, hxe⟩ : ∃ x : Nat, xs.getD i 0 = (x : Int) := ⟨(xs.getD i 0).toNat, by omega⟩
        rw [hxe] at hcl hxb
        clear hxe
        have hd8 : decide ((i : Int) < n) = true := decide_eq_true (by omega)
        have HE := Lib.hid hE
        clear hE hO
        go_wp2_with fail
        obtain ⟨gO, rfl⟩ : ∃ m, m = gk := ⟨_, rfl⟩
        obtain ⟨wo, rfl⟩ : ∃ wo, wo = wr := ⟨_, rfl⟩
        go_loopg [11, 8] sz (fun gk cc j wr => ∃ (k c : Nat) (e : Nat → Nat), k ≤ sz ∧ gk + k = sz ∧ c ≤ 255 ∧ cc = .int .u32 c ∧ j = .int .i64 ((sz : Int) - 1 - k) ∧ Hid (InAt w p sz z k c x e0 e wr))
        case atStart => exact ⟨0, x, e0, by omega, by omega, by omega, rfl, by simp, ⟨HE.out.dig, fun _ _ => rfl, by simp [B58.le]; omega, HE.out.row, HE.out.below⟩⟩
        case round =>
          obtain ⟨k, c, e, hk, hgk, hc255, rfl, rfl, hI⟩ := hrel
          have HGJ := Lib.hid hgk
          clear hgk
          by_cases hcond : hh < (sz : Int) - 1 - k ∨ 0 < c
          · have hks : k < sz := by
              rcases Nat.lt_or_ge k sz with h | h
              · exact h
              · obtain rfl : k = sz := by omega
                rcases hcond with h | h
                · omega
                · have hE := HE.out
                  have hs := hI.out.sum
                  rw [Nat.sub_self] at hs
                  have := B58.no_carry e c _ k (by omega) (B58.next_lt _ x (i - z) k hE.lt (by omega) (B58.room (i - z + 1) k (by omega)))
                  omega
            have hd := hI.out.dig k hks
            have hcl := hI.out.row.cell (i := sz + z + (sz - 1 - k)) (by omega)
            rw [Bf_at _ _ _ _ hks] at hcl
            have hfz := hI.out.row.frozen (sz + z + (sz - 1 - k))
            have hst := hI.out.step hks
            have HST := Lib.hid hst
            obtain ⟨d, hde⟩ : ∃ d, d = e k := ⟨_, rfl⟩
            rw [← hde] at hd hcl
            have HDE := Lib.hid hde
            clear hst hde
            have hj : ((sz : Int) - 1 - k) = ((sz - 1 - k : Nat) : Int) := by omega
            have HCO := Lib.hid hcond
            clear hcond
            by_cases hlt2 : hh < ((sz - 1 - k : Nat) : Int)
            · go_wp2_with fail
              go_roundg (gk - 1)
              case measure => have := HGJ.out; omega
              case rel =>
                have := HGJ.out
                refine ⟨k + 1, (c + 256 * d) / 58, B58.up e k ((c + 256 * d) % 58), by omega, by omega, B58.carry_le c d hc255 hd, int_eq (by omega), int_eq (by omega), ?_⟩
                have h := HST.out
                rw [← HDE.out, show (((c + 256 * d) % 58 : Nat) : Int) = ((c : Int) + 256 * d) % 58 by omega] at h
                exact h
            · have hc1 : 0 < c := by have := HCO.out; omega
              have hcn : ((c : Int) != 0) = true := by simp; omega
              go_wp2_with fail
              go_roundg (gk - 1)
              case measure => have := HGJ.out; omega
              case rel =>
                have := HGJ.out
                refine ⟨k + 1, (c + 256 * d) / 58, B58.up e k ((c + 256 * d) % 58), by omega, by omega, B58.carry_le c d hc255 hd, int_eq (by omega), int_eq (by omega), ?_⟩
                have h := HST.out
                rw [← HDE.out, show (((c + 256 * d) % 58 : Nat) : Int) = ((c : Int) + 256 * d) % 58 by omega] at h
                exact h
          · have hc0 : c = 0 := by omega
            subst hc0
            have hnl : ¬ hh < (sz : Int) - 1 - k := fun h => hcond (.inl h)
            clear hcond
            go_wp2_with fail
            go_roundg (gO - 1)
            case measure => have := HGK.out; omega
            case rel => have := HGK.out; exact ⟨i + 1, (sz : Int) - 1 - k, by omega, by omega, by omega, by omega, by omega, by go_num, rfl, (show Out w p sz z (i + 1) ((sz : Int) - 1 - k) wr from ⟨e, hI.out.done HE.out hk (by omega) hzi rfl (by omega)⟩)⟩
      · obtain ⟨e, hE⟩ := hO.out
        have HE := Lib.hid hE
        clear hE hO HGK
        go_upto_block 6 with fail
        go_cut [8] (fun j wx => ∃ jj : Nat, jj ≤ sz ∧ j = .int .i64 jj ∧ Dr wr wx)
        case first =>
          go_wp2_with fail
          obtain ⟨wo, rfl⟩ : ∃ wo, wo = wr := ⟨_, rfl⟩
          go_loopg [8] sz (fun gk j wx => ∃ k : Nat, k ≤ sz ∧ gk + k = sz ∧ j = .int .i64 k ∧ Dr wo wx)
          case atStart => exact ⟨0, by omega, by omega, rfl, 0, rfl⟩
          case round =>
            obtain ⟨k, hk, hgk, rfl, q, rfl⟩ := hrel
            have HGK := Lib.hid hgk
            clear hgk
            by_cases hlt : k < sz
            · have hcl := HE.out.row.cell (i := sz + z + k) (by omega)
              have e1 := Bf_at sz z e (sz - 1 - k) (by omega)
              rw [show sz - 1 - (sz - 1 - k) = k by omega] at e1
              rw [e1] at hcl
              clear e1
              obtain ⟨d, hde⟩ : ∃ d, d = e (sz - 1 - k) := ⟨_, rfl⟩
              rw [← hde] at hcl
              clear hde
              by_cases hd : d = 0
              · subst hd
                go_wp2_with fail
                go_roundg (gk - 1)
                case measure => have := HGK.out; omega
                case rel => have := HGK.out; exact ⟨k + 1, by omega, by omega, by go_num, q, rfl⟩
              · have hdn : ((d : Int) == 0) = false := by simp; omega
                go_wp2_with fail
                go_meet
                exact ⟨k, hk, rfl, q, rfl⟩
            · go_wp2_with fail
              go_meet
              exact ⟨k, hk, rfl, q, rfl⟩
        case rest =>
          obtain ⟨j, hj, rfl, q1, rfl⟩ := hcut
          have hF : Hid (Fin58 w p sz z (wr.drewN q1)) := by
            obtain ⟨G, hG⟩ := HE.out.fin hs2.1
            exact ⟨G, ⟨hG.row, hG.byte, hG.dig, below_drewN hG.below _⟩⟩
          go_upto_if 112 with fail
          go_cut [] (fun wx => Hid (Fin58 w p sz z wx))
          case first =>
            by_cases hz0 : z = 0
            · subst hz0
              go_wp2_with fail
              go_meet
              exact hF
            · have hzn : ((z : Int) != 0) = true := by simp; omega
              go_wp2_with fail
              go_loopg [7] z (fun gk i wx => ∃ k : Nat, k ≤ z ∧ gk + k = z ∧ i = .int .i64 k ∧ Hid (Fin58 w p sz z wx))
              case atStart => exact ⟨0, by omega, by omega, rfl, hF⟩
              case round =>
                obtain ⟨k, hk, hgk, rfl, hF⟩ := hrel
                have HGK := Lib.hid hgk
                clear hgk
                by_cases hlt : k < z
                · obtain ⟨G, hG⟩ := hF.out
                  have hcl := hG.row.cell (i := k) (by omega)
                  have hfz := hG.row.frozen k
                  have HG := Lib.hid hG
                  have hb0 := bt_bd 0 (by omega)
                  obtain ⟨x0, hx0⟩ : ∃ x0, x0 = bt 0 := ⟨_, rfl⟩
                  clear hG hF
                  go_wp2_with fail
                  go_roundg (gk - 1)
                  case measure => have := HGK.out; omega
                  case rel => have := HGK.out; exact ⟨k + 1, by omega, by omega, by go_num, HG.out.set k _ (by omega) (by omega)⟩
                · go_wp2_with fail
                  go_meet
                  exact hF
          case rest =>
            clear hF HE
            go_wp2_with fail
            go_loopg [8, 7] (sz - j) (fun gk jv iv wx => ∃ k : Nat, j ≤ k ∧ k ≤ sz ∧ gk + k = sz ∧ jv = .int .i64 k ∧ iv = .int .i64 ((z : Int) + ((k : Int) - j)) ∧ Hid (Fin58 w p sz z wx))
            case atStart => exact ⟨j, Nat.le_refl _, hj, by omega, rfl, int_eq (by omega), hcut⟩
            case round =>
              obtain ⟨k, hjk, hk, hgk, rfl, rfl, hF⟩ := hrel
              have HGK := Lib.hid hgk
              clear hgk
              by_cases hlt : k < sz
              · obtain ⟨G, hG⟩ := hF.out
                have hcl := hG.row.cell (i := sz + z + k) (by omega)
                have hdg := hG.dig (sz + z + k) (by omega)
                obtain ⟨d, hde⟩ : ∃ d, d = G (sz + z + k) := ⟨_, rfl⟩
                simp only [← hde] at hcl
                rw [← hde] at hdg
                clear hde
                have hca : wr.cell? ⟨g, 128 + d, none⟩ = some (.int .u8 (bt d)) := by
                  have h0 := HR.out.1.cell (i := 128 + d) (by omega)
                  rw [HR.out.2 d hdg] at h0
                  exact (hG.below.cell (by rw [HP.out]; exact HR.out.1.lt)).trans h0
                have hiz : (z : Int) + ((k : Int) - j) = ((z + (k - j) : Nat) : Int) := by omega
                have hfz := hG.row.frozen (z + (k - j))
                have hcz := hG.row.cell (i := z + (k - j)) (by omega)
                have hbd := bt_bd d hdg
                have HG := Lib.hid hG
                clear hG hF
                rw [hiz]
                clear hiz
                go_wp2_with fail
                go_region
                go_wp2_with fail
                go_roundg (gk - 1)
                case measure => have := HGK.out; omega
                case rel => have := HGK.out; exact ⟨k + 1, by omega, by omega, by omega, by go_num, int_eq (by omega), (HG.out.set (z + (k - j)) (bt d) (by omega) (by omega)).drewN 1⟩
              · obtain ⟨G, hG⟩ := hF.out
                have hcv := run_convert_bytes_arg (P := Tryz.prog) (w := wr) 23 5 Tryz.underlying23 Tryz.underlying5 p 0 (sz - j + z) (sz * 2 + z) ((List.range (sz - j + z)).map fun i => (G i : Int)) (by simp) (fun i hi => by
                  rw [Nat.zero_add, hG.row.cell (by omega)]
                  simp [List.getD, hi]) 9 Tryz.underlying9
                have hbw := hG.below
                have HB := Lib.hid hbw
                have HP2 := HP
                clear hG hF hbw
                go_wp2_with fail
                go_ret
                exact ⟨_, rfl, by rw [strOfNums_size, List.length_map, List.length_range]; omega, by rw [← HP.out]; exact HB.out⟩
end Go.Proofs.YtapkmoakbfpkeaaGreatDoor
