/- addrAwake. -/
import Derived.Test.YtapkmoakbfpkeaaGreatDoorE3
namespace Go.Proofs.YtapkmoakbfpkeaaGreatDoor
open Go Go.RowKit Go.Proofs Go.Sort

theorem convMark (x : Value) (w : World) : (convert 23 23 (.slice (some ⟨w.heap.size, 0, none⟩) 1 1)).run Tryz.prog (w.alloc (.cells #[x] 5)) = .ok (.slice (some ⟨w.heap.size, 0, none⟩) 1 1) (w.alloc (.cells #[x] 5 (1, 2))) := by
  have hsh : (w.alloc (.cells #[x] 5)).shape? w.heap.size = some (5, 1) := by
    unfold World.shape?
    rw [heap_alloc_new]
    rfl
  have hfr : (w.alloc (.cells #[x] 5)).freeze ⟨w.heap.size, 1, none⟩ 1 = w.alloc (.cells #[x] 5 (1, 2)) := by
    have hm : ∀ (a : Array Obj) (x : Obj) (f : Obj → Obj), (a.push x).modify a.size f = a.push (f x) := by
      intro a x f
      apply Array.ext
      · simp
      · intro i h1 h2
        simp only [Array.getElem_modify, Array.getElem_push]
        split <;> split <;> simp_all <;> omega
    unfold World.freeze World.alloc
    simp only [hm]
    rfl
  simp [convert, run_underlying Tryz.underlying23, run_underlying Tryz.underlying5, markStringish, hsh, hfr]
theorem sl_blockF {w : World} {g n : Nat} {fr : Nat × Nat} {t : TypeId} {xs : List Int} (cs : Array Value) (hg : w.heap[g]? = some (.cells cs t fr)) (hc : cs = (xs.map (Value.int .u8)).toArray) (hn : xs.length = n) : (Sl.mk (some ⟨g, 0, none⟩) n n xs).Ok w := by
  subst hc
  refine ⟨hn, fun _ => ⟨g, 0, rfl, fun i hi => ?_⟩, fun h => by simp at h⟩
  have hn' : n = xs.length := hn.symm
  subst hn'
  have hi' : i < xs.length := hi
  simp [World.cell?, hg, List.getD, hi']
theorem ownsRow_bs {w : World} {B n : Nat} {v : Value} {xs : List Int} (h : w.ownsRow B 5 1 v n (xs.map (Value.int .u8))) (hn : 0 < n) : ∃ g c, v = .slice (some ⟨g, 0, none⟩) n c ∧ Bs w g 0 xs := by
  have hl : xs.length = n := by have := h.1; simpa using this
  have h0 := h
  rcases h.2 with ⟨_, h1⟩ | ⟨g, cap, cur, rfl, _⟩
  · omega
  · exact ⟨g, cap, rfl, ownsBytes h0 hl⟩
/-- The three parts of addrAwake. -/
def awakeL (n : Nat) : List HIn := [⟨0, some ⟨n, 0, none⟩, 4, 4, [10, 0, 0, 1]⟩, ⟨1, some ⟨n + 1, 0, none⟩, 2, 2, [0, 80]⟩, ⟨6, some ⟨n + 1 + 1, 0, none⟩, 1, 1, [107]⟩]
theorem awake_at (w : World) : HAt ((((w.alloc (.cells #[.int .u8 10, .int .u8 0, .int .u8 0, .int .u8 1] 5)).alloc (.cells #[.int .u8 0, .int .u8 80] 5)).alloc (.cells #[.int .u8 107] 5 (1, 2))).alloc (.cells #[.int .u8 0, .slice (some ⟨w.heap.size, 0, none⟩) 4 4, .int .u8 1, .slice (some ⟨w.heap.size + 1, 0, none⟩) 2 2, .int .u8 6, .slice (some ⟨w.heap.size + 1 + 1, 0, none⟩) 1 1] 29)) (w.heap.size + 1 + 1 + 1) 0 (awakeL w.heap.size) := fun i h hi => by
  have b3 : ∀ (w : World) o1 o2 o3 o4, ((((w.alloc o1).alloc o2).alloc o3).alloc o4).heap[w.heap.size]? = some o1 := fun w o1 o2 o3 o4 => (Below.heap_alloc _ _ _ (by simp; omega)).trans ((Below.heap_alloc _ _ _ (by simp; omega)).trans (heap2 w o1 o2))
  have b2 : ∀ (w : World) o2 o3 o4, (((w.alloc o2).alloc o3).alloc o4).heap[w.heap.size]? = some o2 := fun w o2 o3 o4 => (Below.heap_alloc _ _ _ (by simp; omega)).trans (heap2 w o2 o3)
  match i, hi with
  | 0, hi =>
    obtain rfl := Option.some.inj hi
    exact ⟨by go_simp, by go_simp; rfl, (show (0 : Int) ≤ 0 ∧ (0 : Int) < 256 by decide), sl_blockF _ (b3 w _ _ _ _) rfl rfl, (show U8 [10, 0, 0, 1] by unfold U8; decide), (show (4 : Nat) ≤ 100 by decide)⟩
  | 1, hi =>
    obtain rfl := Option.some.inj hi
    exact ⟨by go_simp, by go_simp; rfl, (show (0 : Int) ≤ 1 ∧ (1 : Int) < 256 by decide), sl_blockF _ (by have h := b2 (w.alloc (.cells #[.int .u8 10, .int .u8 0, .int .u8 0, .int .u8 1] 5)); simp only [World.size_alloc] at h; exact h _ _ _) rfl rfl, (show U8 [0, 80] by unfold U8; decide), (show (2 : Nat) ≤ 100 by decide)⟩
  | 2, hi =>
    obtain rfl := Option.some.inj hi
    exact ⟨by go_simp, by go_simp; rfl, (show (0 : Int) ≤ 6 ∧ (6 : Int) < 256 by decide), sl_blockF _ (by have h := heap2 ((w.alloc (.cells #[.int .u8 10, .int .u8 0, .int .u8 0, .int .u8 1] 5)).alloc (.cells #[.int .u8 0, .int .u8 80] 5)); simp only [World.size_alloc] at h; exact h _ _) rfl rfl, (show U8 [107] by unfold U8; decide), (show (1 : Nat) ≤ 100 by decide)⟩
theorem awake_bytes (f : List Int → List Int) (n : Nat) : (awakeL n).map (hopOf f) = [(0, [10, 0, 0, 1]), (1, [0, 80])] ++ [(6, [0, 1, 107])] := by
  unfold awakeL
  simp only [List.map_cons, List.map_nil]
  rw [hopOf0 f 0 _ (by decide), hopOf1 f 1 _ (by decide), hopOf6 f 6 _ (by decide)]
  simp [idB, fillB]

theorem equalSame (g1 c1 n g2 c2 : Nat) (xs : List Int) (w : World) (hn : xs.length = n) (h1 : Bs w g1 0 xs) (h2 : Bs w g2 0 xs) : Calls Tryz.prog 17 #[.slice (some ⟨g1, 0, none⟩) n c1, .slice (some ⟨g2, 0, none⟩) n c2] w fun e w' => e = .returned (.bool true) ∧ w' = w := by
  refine (Tryz.bytes_Equal_all _ _ n c1 n c2 xs xs w hn hn (fun _ => ⟨g1, 0, rfl, fun i hi => h1 i (by omega)⟩) (fun _ => ⟨g2, 0, rfl, fun i hi => h2 i (by omega)⟩)).mono ?_
  rintro e w1 ⟨rfl, hw⟩
  refine ⟨?_, hw⟩
  rw [beq_self_eq_true]
theorem bs_block (w : World) (cs : Array Value) (xs : List Int) (hc : cs = (xs.map (Value.int .u8)).toArray) : Bs (w.alloc (.cells cs 5)) w.heap.size 0 xs := fun i hi => by
  subst hc
  rw [Nat.zero_add]
  refine (World.cell?_alloc_mark w _ _ _ i).trans ?_
  simp [List.getD, hi]

set_option maxRecDepth 100000 in
theorem addrAwake (f : List Int → List Int) (hf : ShaIs f) (w : World) (hT : Tab w) : Calls Tryz.prog 13 #[] w fun e w' => e = .returned (.bool true) ∧ Below w.heap.size w w' := by
  have HF := Lib.hid (And.intro hf hT)
  clear hf hT
  have hcm := convMark (.int .u8 107) ((w.alloc (.cells #[.int .u8 10, .int .u8 0, .int .u8 0, .int .u8 1] 5)).alloc (.cells #[.int .u8 0, .int .u8 80] 5))
  simp only [World.size_alloc] at hcm
  go_enter Tryz.func13, Tryz.ntmps13
  go_wp2_with fail
  refine (addrOfB f HF.out.1 (awakeL w.heap.size) 3 rfl (by omega) _ 0 3 _ (awake_at w)).mono ?_
  rintro e w1 ⟨v, rfl, hown, hB⟩
  rw [awake_bytes] at hown
  obtain ⟨g, c, rfl, hbs⟩ := ownsRow_bs hown (by decide)
  have hBw : Below w.heap.size w w1 := ((((Below.refl _ _).alloc (Nat.le_refl _) _ |>.alloc (by simp) _).alloc (by simp; omega) _).alloc (by simp; omega) _).trans (hB.mono (by simp; omega))
  have hoks : ∀ x ∈ ([(0, [10, 0, 0, 1]), (1, [0, 80])] ++ [(6, [0, 1, 107])] : List Hop), HopOk x := fun x hx => by
    rw [← awake_bytes f 0] at hx
    obtain ⟨y, hy, rfl⟩ := List.mem_map.1 hx
    refine hopOf_ok f HF.out.1 y ?_
    unfold awakeL at hy
    rcases List.mem_cons.1 hy with rfl | hy
    · exact (show U8 [10, 0, 0, 1] by unfold U8; decide)
    · rcases List.mem_cons.1 hy with rfl | hy
      · exact (show U8 [0, 80] by unfold U8; decide)
      · obtain rfl := List.mem_singleton.1 hy
        exact (show U8 [107] by unfold U8; decide)
  have hsp := implSplit6 [(0, [10, 0, 0, 1]), (1, [0, 80])] (6, [0, 1, 107]) (by simp) hoks rfl (by decide) g 0 _ c w1 rfl hbs (HF.out.2.below hBw)
  have HS := Lib.hid (And.intro hsp hBw)
  clear hsp hown hB hbs hBw hoks hcm
  obtain ⟨L, hL⟩ : ∃ L, L = (addrB ([(0, [10, 0, 0, 1]), (1, [0, 80])] ++ [(6, [0, 1, 107])])).length := ⟨_, rfl⟩
  rw [← hL] at HS ⊢
  clear hL
  go_wp2_with fail
  refine HS.out.1.mono ?_
  rintro e w2 ⟨g1, c1, g2, c2, rfl, hb1, hb2, hB⟩
  have e1 : addrB [(0, [10, 0, 0, 1]), (1, [0, 80])] = [4, 10, 0, 0, 1, 6, 0, 80] := by rfl
  rw [e1] at hb1 ⊢
  have H2 := Lib.hid (And.intro hb1 (And.intro hb2 (HS.out.2.trans (hB.mono HS.out.2.size))))
  clear hb1 hb2 hB
  go_wp2_with fail
  refine (equalSame g1 c1 8 w2.heap.size 8 [4, 10, 0, 0, 1, 6, 0, 80] _ rfl (H2.out.1.below ((Below.refl _ _).alloc (Nat.le_refl _) _)) (bs_block w2 _ _ rfl)).mono ?_
  rintro e w3 ⟨rfl, rfl⟩
  go_wp2_with fail
  refine (equalSame g2 c2 3 (w2.heap.size + 1) 3 [0, 1, 107] _ rfl (H2.out.2.1.below (((Below.refl _ _).alloc (Nat.le_refl _) _).alloc (by simp) _)) (by have h := bs_block (w2.alloc (.cells #[.int .u8 4, .int .u8 10, .int .u8 0, .int .u8 0, .int .u8 1, .int .u8 6, .int .u8 0, .int .u8 80] 5)) #[.int .u8 0, .int .u8 1, .int .u8 107] [0, 1, 107] rfl; simp only [World.size_alloc] at h; exact h)).mono ?_
  rintro e w3 ⟨rfl, rfl⟩
  go_wp2_with fail
  go_ret
  exact ⟨rfl, (H2.out.2.2.alloc H2.out.2.2.size _).alloc (by have := H2.out.2.2.size; simp; omega) _⟩
end Go.Proofs.YtapkmoakbfpkeaaGreatDoor
