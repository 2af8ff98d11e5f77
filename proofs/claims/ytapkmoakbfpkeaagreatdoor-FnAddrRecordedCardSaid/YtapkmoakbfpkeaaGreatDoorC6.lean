/- readMultiaddr at the bytes of parts. -/
import Derived.Test.YtapkmoakbfpkeaaGreatDoorC5
import Derived.Deep.AppendLies
namespace Go.Proofs.YtapkmoakbfpkeaaGreatDoor
open Go Go.RowKit Go.Proofs Go.Sort

abbrev Hop := Nat × List Int
def HopOk (h : Hop) : Prop := h.1 < 8 ∧ ValOk h.1 h.2 ∧ U8 h.2
/-- An address's bytes. -/
def addrB (hs : List Hop) : List Int := hs.flatMap fun h => hopB h.1 h.2
theorem addrB_append (xs ys : List Hop) : addrB (xs ++ ys) = addrB xs ++ addrB ys := List.flatMap_append
theorem addrB_cons (h : Hop) (ys : List Hop) : addrB (h :: ys) = hopB h.1 h.2 ++ addrB ys := List.flatMap_cons
theorem hopB_pos (h : Hop) (hk : h.1 < 8) : 1 ≤ (hopB h.1 h.2).length := by
  rw [hop_len]
  have : 1 ≤ hopS h.1 := by
    rcases kinds h.1 hk with e | e | e | e | e | e | e | e <;> rw [e] <;> decide
  omega
theorem hopB_le (h : Hop) (hh : HopOk h) : (hopB h.1 h.2).length ≤ 123 := by
  rw [hop_len]
  have := hopS_le h.1 hh.1
  have := valLen h.1 hh.1 h.2 hh.2.1
  omega
theorem addrB_le : ∀ (hs : List Hop), (∀ h ∈ hs, HopOk h) → (addrB hs).length ≤ 123 * hs.length
  | [], _ => Nat.zero_le _
  | h :: t, hh => by
    rw [addrB_cons, List.length_append, List.length_cons]
    have := hopB_le h (hh h (by simp))
    have := addrB_le t (fun x hx => hh x (by simp [hx]))
    omega

/-- A protocol lies in block q. -/
def ProtB (w : World) (p : Prot) (q : Nat) : Prop := ∃ a, w.heap[q]? = some (.cells (p.cells a) 144 (0, 0)) ∧ VRow w a p.vc
theorem ProtB.lt {w : World} {p : Prot} {q : Nat} (h : ProtB w p q) : q < w.heap.size := by
  obtain ⟨a, h1, _⟩ := h
  exact (Array.getElem?_eq_some_iff.1 h1).1
theorem ProtB.below {w w' : World} {p : Prot} {q : Nat} (h : ProtB w p q) (hb : Below w.heap.size w w') : ProtB w' p q := by
  obtain ⟨a, h1, h2⟩ := h
  exact ⟨a, (hb.block q (Array.getElem?_eq_some_iff.1 h1).1).trans h1, h2.below hb h2.lt⟩
theorem ownsRow_below {w w' : World} {base : Nat} {e : TypeId} {size : Nat} {v : Value} {n : Nat} {xs : List Value} (h : w.ownsRow base e size v n xs) (hb : Below w.heap.size w w') : w'.ownsRow base e size v n xs := by
  obtain ⟨h1, h2⟩ := h
  refine ⟨h1, ?_⟩
  rcases h2 with h2 | ⟨g, cap, cur, hv, hg, hh, r⟩
  · exact Or.inl h2
  · exact Or.inr ⟨g, cap, cur, hv, hg, (hb.block g (Array.getElem?_eq_some_iff.1 hh).1).trans hh, r⟩
theorem ProtB.grown {w w' : World} {p : Prot} {q : Nat} {base size n : Nat} {v : Value} {xs : List Value} (h : ProtB w p q) (ho : w.ownsRow base 138 size v n xs) (hg : w.grownBy w' v.ownBlock) : ProtB w' p q := by
  obtain ⟨a, h1, h2⟩ := h
  have far : ∀ (k : Nat) (cs : Array Value) (t : TypeId), w.heap[k]? = some (Obj.cells cs t (0, 0)) → t ≠ 138 → w'.heap[k]? = w.heap[k]? := fun k cs t hk ht => by
    refine hg.block k (Array.getElem?_eq_some_iff.1 hk).1 fun e => ?_
    rcases ho.2 with ⟨hv, _⟩ | ⟨g, cap, cur, hv, _, hh, _⟩
    · rw [hv] at e; cases e
    · rw [hv] at e
      have : k = g := Option.some.inj e
      subst this
      have e2 := Option.some.inj (hk.symm.trans hh)
      injection e2 with _ e3
      exact ht e3
  exact ⟨a, (far q _ _ h1 (by decide)).trans h1, (far a _ _ h2 (by decide)).trans h2⟩

/-- A part's three cells. -/
def compCells (h : Hop) (q : Nat) : List Value := [.string (strOfNums (hopB h.1 h.2)), .pointer (some ⟨q, 0, none⟩), .int .i64 (hopS h.1)]
def compsOf (hs : List Hop) (qs : List Nat) : List Value := (hs.zip qs).flatMap fun x => compCells x.1 x.2
/-- The slice v is the address of the parts hs. -/
def MA (w : World) (B : Nat) (v : Value) (hs : List Hop) : Prop :=
  ∃ qs : List Nat, qs.length = hs.length ∧ w.ownsRow B 138 3 v hs.length (compsOf hs qs) ∧ ∀ x ∈ hs.zip qs, ProtB w (protOf x.1.1) x.2 ∧ B ≤ x.2
theorem MA.below {w w' : World} {B : Nat} {v : Value} {hs : List Hop} (h : MA w B v hs) (hb : Below w.heap.size w w') : MA w' B v hs := by
  obtain ⟨qs, h1, h2, h3⟩ := h
  exact ⟨qs, h1, ownsRow_below h2 hb, fun x hx => ⟨(h3 x hx).1.below hb, (h3 x hx).2⟩⟩
theorem MA.nil (w : World) (B : Nat) : MA w B (.slice none 0 0) [] := ⟨[], rfl, World.ownsRow_nil _ _ _ _, fun x hx => by cases hx⟩
theorem zip_snoc {α β : Type} (xs : List α) (ys : List β) (h : ys.length = xs.length) (x : α) (y : β) : (xs ++ [x]).zip (ys ++ [y]) = xs.zip ys ++ [(x, y)] := by
  rw [List.zip_append h.symm]; rfl
theorem MA.push {w w' : World} {B : Nat} {v v' : Value} {hs : List Hop} {qs : List Nat} (h1 : qs.length = hs.length) (h2 : w.ownsRow B 138 3 v hs.length (compsOf hs qs)) (h3 : ∀ x ∈ hs.zip qs, ProtB w (protOf x.1.1) x.2 ∧ B ≤ x.2)
    (hg : w.grownBy w' v.ownBlock) (h : Hop) (q : Nat) (hq : ProtB w (protOf h.1) q) (hB : B ≤ q) (ho : w'.ownsRow B 138 3 v' (hs.length + 1) (compsOf hs qs ++ compCells h q)) : MA w' B v' (hs ++ [h]) := by
  refine ⟨qs ++ [q], by simp [h1], ?_, fun x hx => ?_⟩
  · unfold compsOf at ho ⊢
    rw [zip_snoc _ _ h1, List.flatMap_append, List.length_append]
    simpa using ho
  · rw [zip_snoc _ _ h1] at hx
    rcases List.mem_append.1 hx with hx | hx
    · exact ⟨(h3 x hx).1.grown h2 hg, (h3 x hx).2⟩
    · rw [List.mem_singleton] at hx
      subst hx
      exact ⟨hq.grown h2 hg, hB⟩

/-- What stands behind the parts: nothing, or a code of none. -/
def Tail (tl : List Int) : Prop := tl = [] ∨ ∃ x, tl = [x] ∧ NoCode x
/-- What readMultiaddr hands back. -/
def RM (hs : List Hop) (tl : List Int) (w : World) (e : Ending) (w' : World) : Prop :=
  Below w.heap.size w w' ∧ ((tl = [] ∧ ∃ v, e = .returned (.tuple #[.int .i64 (addrB hs).length, v, .nilIface]) ∧ MA w' w.heap.size v hs) ∨
    (tl ≠ [] ∧ ∃ T a, e = .returned (.tuple #[.int .i64 0, .slice none 0 0, .iface T (.pointer (some a))])))
theorem infoComp : (Tryz.prog.info? 138).map (fun i => (i.zero, i.size, i.bytes)) = some (some (.agg #[.string ⟨#[]⟩, .pointer none, .int .i64 0]), 3, 32) := by kernel_rfl

set_option maxHeartbeats 1600000 in
set_option maxRecDepth 100000 in
theorem readMA (hs : List Hop) (hh : ∀ h ∈ hs, HopOk h) (hl : hs.length ≤ 1000) (tl : List Int) (htl : Tail tl) (b o N c : Nat) (w : World) (hN : N = (addrB hs ++ tl).length) (hN0 : 0 < N) (hNc : N ≤ c) (hcm : c ≤ 9223372036854775807) (hb : Bs w b o (addrB hs ++ tl)) (hT : Tab w) :
    Calls Tryz.prog 110 #[.slice (some ⟨b, o, none⟩) N c] w (RM hs tl w) := by
  have HN := Lib.hid hN
  have HB := Lib.hid (And.intro hb hT)
  have hN0b : ((N : Int) == 0) = false := by rw [beq_eq_false_iff_ne]; omega
  clear hN hb hT
  go_enter Tryz.func110, Tryz.ntmps110
  go_wp2_with fail
  obtain ⟨i0, hi, hz0, hz1, hz2⟩ := info_parts infoComp
  go_loopg [0, 5, 6, 7] hs.length (fun gk bv rv nv pv wr => ∃ (ds rs : List Hop) (p : Addr) (n' c' : Nat), hs = ds ++ rs ∧ gk = rs.length ∧ bv = .slice (some p) n' c' ∧ n' = (addrB rs ++ tl).length ∧ n' ≤ c' ∧ c' ≤ 9223372036854775807 ∧
    (0 < n' → p = ⟨b, o + (addrB ds).length, none⟩) ∧ nv = .int .i64 (addrB ds).length ∧ pv = .bool false ∧ Hid (MA wr w.heap.size rv ds) ∧ Hid (Below w.heap.size w wr))
  case atStart => exact ⟨[], hs, _, N, c, rfl, rfl, rfl, HN.out, hNc, hcm, fun _ => by simp [addrB], rfl, rfl, MA.nil _ _, Below.refl _ _⟩
  case round =>
    obtain ⟨ds, rs, p, n', c', hds, rfl, rfl, hn', hnc', hcm', hp, rfl, rfl, hM, hBw⟩ := hrel
    cases rs with
    | nil =>
      rcases htl with rfl | ⟨x, rfl, hx⟩
      · obtain rfl : n' = 0 := by simpa [addrB] using hn'
        have HD := Lib.hid hds
        clear hn' hp hds
        go_wp2_with fail
        go_ret3
        refine ⟨hBw.out, .inl ⟨rfl, _, ret3 (int_eq (by rw [HD.out, List.append_nil])) rfl rfl, ?_⟩⟩
        rw [HD.out, List.append_nil]; exact hM.out
      · obtain rfl : n' = 1 := by simpa [addrB] using hn'
        obtain rfl := hp (by decide)
        have hcx : wr.cell? ⟨b, o + (addrB ds).length, none⟩ = some (.int .u8 x) := by
          have h1 := HB.out.1 (addrB ds).length (by rw [hds, List.append_nil, List.length_append]; simp)
          refine cB hBw.out (h1.trans ?_)
          rw [hds, List.append_nil]
          simp [List.getD]
        have hrn := readCompNone x hx b (o + (addrB ds).length) 1 c' wr (by omega) (by omega) hcx
        have HRN := Lib.hid hrn
        have HD := Lib.hid hds
        clear hn' hp hds hcx hrn
        go_wp2_with fail
        refine HRN.out.mono ?_
        rintro e w1 ⟨T, a, rfl, hb1⟩
        have HB1 := Lib.hid hb1
        clear hb1
        go_wp2_with fail
        go_ret3
        exact ⟨hBw.out.trans (HB1.out.mono hBw.out.size), .inr ⟨by simp, T, a, rfl⟩⟩
    | cons h rs =>
      have hh0 : HopOk h := hh h (by rw [hds]; simp)
      rw [addrB_cons, List.append_assoc, List.length_append] at hn'
      have hpos := hopB_pos h hh0.1
      obtain rfl := hp (by omega)
      have hbh : Bs wr b (o + (addrB ds).length) (hopB h.1 h.2 ++ (addrB rs ++ tl)) := by
        have h1 := HB.out.1
        rw [hds, addrB_append, addrB_cons, List.append_assoc, List.append_assoc] at h1
        exact fun i hi => cB hBw.out (h1.right i hi)
      have hrc := readComp h.1 hh0.1 h.2 hh0.2.1 hh0.2.2 (addrB rs ++ tl) b (o + (addrB ds).length) n' c' wr hn' hnc' (by
        have := addrB_le hs hh
        have h2 : (addrB (h :: rs)).length ≤ (addrB hs).length := by rw [hds, addrB_append, List.length_append]; omega
        rw [addrB_cons, List.length_append] at h2
        have h3 : tl.length ≤ 1 := by rcases htl with rfl | ⟨x, rfl, _⟩ <;> simp
        rw [List.length_append] at hn'
        omega) hcm' hbh (HB.out.2.below hBw.out)
      obtain ⟨L, hL⟩ : ∃ L, L = (hopB h.1 h.2).length := ⟨_, rfl⟩
      obtain ⟨D, hD⟩ : ∃ D, D = (addrB ds).length := ⟨_, rfl⟩
      have hLn : L ≤ n' := by omega
      have hL1 : 1 ≤ L := by omega
      have hD1 : D ≤ 123000 := by
        have := addrB_le hs hh
        have h2 : (addrB ds).length ≤ (addrB hs).length := by rw [hds, addrB_append, List.length_append]; omega
        omega
      have hL2 : L ≤ 123 := by rw [hL]; exact hopB_le h hh0
      rw [← hD] at hrc ⊢
      have HRC := Lib.hid hrc
      have HE := Lib.hid (And.intro hds (And.intro hn' (And.intro hL hD)))
      clear hrc hds hn' hL hD hp hbh hpos
      go_wp2_with fail
      refine HRC.out.mono ?_
      rintro e w1 ⟨r, q, a, rfl, hC, hr, hq, ha, hb1⟩
      rw [← HE.out.2.2.1]
      obtain ⟨qs, h1, h2, h3⟩ := hM.out
      have c0 : w1.cell? ⟨r, 0, none⟩ = some (.string (strOfNums (hopB h.1 h.2))) := by rw [cell_of_row w1 r 0 _ _ (0, 0) hC.comp]; rfl
      have c1 : w1.cell? ⟨r, 1, none⟩ = some (.pointer (some ⟨q, 0, none⟩)) := by rw [cell_of_row w1 r 1 _ _ (0, 0) hC.comp]; rfl
      have c2 : w1.cell? ⟨r, 2, none⟩ = some (.int .i64 (hopS h.1)) := by rw [cell_of_row w1 r 2 _ _ (0, 0) hC.comp]; rfl
      have d4 : w1.cell? ⟨q, 4, none⟩ = some (.bool false) := by
        rw [cell_of_row w1 q 4 _ _ (0, 0) hC.prot]
        have : (protOf h.1).path = false := by rcases kinds h.1 hh0.1 with e | e | e | e | e | e | e | e <;> rw [e] <;> rfl
        show some (Value.bool (protOf h.1).path) = _
        rw [this]
      have h2w := ownsRow_below h2 hb1
      have hbq : ProtB w1 (protOf h.1) q := ⟨a, hC.prot, hC.vcode⟩
      have hBw1 : Below w.heap.size w w1 := hBw.out.trans (hb1.mono hBw.out.size)
      have HQ := Lib.hid (And.intro h1 (And.intro (fun x hx => (⟨(h3 x hx).1.below hb1, (h3 x hx).2⟩ : ProtB w1 (protOf x.1.1) x.2 ∧ w.heap.size ≤ x.2)) (And.intro hbq (And.intro (Nat.le_trans hBw.out.size hq) hBw1))))
      have HO := Lib.hid h2w
      clear h1 h2 h3 h2w hbq hBw1 hC hr hq ha hb1
      have hcc : ∀ u ∈ compCells h q, u.oneCell' = true := fun u hu => by
        simp only [compCells, List.mem_cons, List.mem_nil_iff, or_false] at hu
        rcases hu with rfl | rfl | rfl <;> rfl
      have hll : ds.length + 1 ≤ maxLen ∧ (ds.length + 1) * 32 ≤ 140737488355328 ∧ w.heap.size ≤ (w1.alloc (.cells (compCells h q).toArray 138)).heap.size := by
        have h1 : ds.length ≤ hs.length := by rw [HE.out.1, List.length_append]; omega
        have h2 := HQ.out.2.2.2.2.size
        refine ⟨by unfold maxLen; omega, by omega, by simp only [World.size_alloc]; omega⟩
      have HCC := Lib.hid hcc
      have HLL := Lib.hid hll
      clear hcc hll
      by_cases hcap : L = c'
      · subst hcap
        go_wp2_with (at_builtin; refine wpList_append_own _ rfl _ _ 76 rfl w.heap.size 138 i0 _ 3 32 Tryz.underlying76 hi hz0 hz1 hz2 rfl (by decide) _ _ _ rfl (HO.out.alloc _) ⟨w1.heap.size, 0, none⟩ 1 1 (compCells h q) rfl rfl (World.news_of_block (heap_alloc_new _ _)) HCC.out HLL.out.1 HLL.out.2.1 HLL.out.2.2 ?_)
        intro v' w2 hown' hgrow _
        have hgb : Below w.heap.size w w2 := (HQ.out.2.2.2.2.alloc HQ.out.2.2.2.2.size _).grown hgrow (by simp only [World.size_alloc]; have := HQ.out.2.2.2.2.size; omega) (fun k hk => (HO.out.lt k hk).1)
        have hma : MA w2 w.heap.size v' (ds ++ [h]) := MA.push HQ.out.1 (HO.out.alloc _) (fun x hx => ⟨(HQ.out.2.1 x hx).1.below ((Below.refl _ _).alloc (Nat.le_refl _) _), (HQ.out.2.1 x hx).2⟩) hgrow h q (HQ.out.2.2.1.below ((Below.refl _ _).alloc (Nat.le_refl _) _)) HQ.out.2.2.2.1 hown'
        have HMA := Lib.hid hma
        have HGB := Lib.hid hgb
        clear hgb hma hown' hgrow
        go_wp2_with fail
        go_roundg rs.length
        case measure => simp
        case rel => exact ⟨ds ++ [h], rs, _, 0, 0, by rw [HE.out.1, List.append_assoc]; rfl, rfl, rfl, by have := HE.out.2.1; have := HE.out.2.2.1; omega, by omega, by omega, fun hpos => by omega, by rw [addrB_append, List.length_append, ← HE.out.2.2.2, show (addrB [h]).length = L by rw [HE.out.2.2.1]; simp [addrB]]; go_num, rfl, HMA.out, HGB.out⟩
      · have hcl : L < c' := by omega
        go_wp2_with (at_builtin; refine wpList_append_own _ rfl _ _ 76 rfl w.heap.size 138 i0 _ 3 32 Tryz.underlying76 hi hz0 hz1 hz2 rfl (by decide) _ _ _ rfl (HO.out.alloc _) ⟨w1.heap.size, 0, none⟩ 1 1 (compCells h q) rfl rfl (World.news_of_block (heap_alloc_new _ _)) HCC.out HLL.out.1 HLL.out.2.1 HLL.out.2.2 ?_)
        intro v' w2 hown' hgrow _
        have hgb : Below w.heap.size w w2 := (HQ.out.2.2.2.2.alloc HQ.out.2.2.2.2.size _).grown hgrow (by simp only [World.size_alloc]; have := HQ.out.2.2.2.2.size; omega) (fun k hk => (HO.out.lt k hk).1)
        have hma : MA w2 w.heap.size v' (ds ++ [h]) := MA.push HQ.out.1 (HO.out.alloc _) (fun x hx => ⟨(HQ.out.2.1 x hx).1.below ((Below.refl _ _).alloc (Nat.le_refl _) _), (HQ.out.2.1 x hx).2⟩) hgrow h q (HQ.out.2.2.1.below ((Below.refl _ _).alloc (Nat.le_refl _) _)) HQ.out.2.2.2.1 hown'
        have HMA := Lib.hid hma
        have HGB := Lib.hid hgb
        clear hgb hma hown' hgrow
        go_wp2_with fail
        go_roundg rs.length
        case measure => simp
        case rel => exact ⟨ds ++ [h], rs, _, n' - L, _, by rw [HE.out.1, List.append_assoc]; rfl, rfl, rfl, by have := HE.out.2.1; have := HE.out.2.2.1; omega, by omega, by omega, fun hpos => by rw [addrB_append, List.length_append, ← HE.out.2.2.2, show (addrB [h]).length = L by rw [HE.out.2.2.1]; simp [addrB], ← Nat.add_assoc], by rw [addrB_append, List.length_append, ← HE.out.2.2.2, show (addrB [h]).length = L by rw [HE.out.2.2.1]; simp [addrB]]; go_num, rfl, HMA.out, HGB.out⟩
end Go.Proofs.YtapkmoakbfpkeaaGreatDoor
