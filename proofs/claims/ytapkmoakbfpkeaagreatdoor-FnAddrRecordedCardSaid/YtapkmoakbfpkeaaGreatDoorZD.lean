/- Lists of addresses in parts: zzFits3, addrShort, addrList. slices.Grow, slices.Concat at lists of slices. The law FnAddrTwice. bytes.Compare; where a peer stands among the peers; one address more. The closure by which spec.AddrInfos seeks a peer; slices.BinarySearchFunc by it. spec.AddrInfo. slices.Insert of one peer. slices.Insert of one peer in the midst. slices.Insert of one peer, wherever. spec.AddrInfos. spec.AddrInfos: the walk. -/
import Derived.Test.YtapkmoakbfpkeaaGreatDoorZC
import Derived.Test.YtapkmoakbfpkeaaGreatDoorE5
import Derived.Test.YtapkmoakbfpkeaaGreatDoorE4
import Derived.Lib.BytesEntry
import Derived.Shelf.Spec.SlicesInsertGrow
namespace Go.Proofs.YtapkmoakbfpkeaaGreatDoor
open Go Go.RowKit Go.Proofs Go.Sort
/-- A list of parts, as an element of a list. -/
structure LEl where
  p : Option Addr
  c : Nat
  l : List HIn
def LEl.v (a : LEl) : Value := .slice a.p a.l.length a.c
def LLAt (w : World) (b o : Nat) (ls : List LEl) : Prop := ∀ i a, ls[i]? = some a → w.cell? ⟨b, o + i, none⟩ = some a.v ∧ LIn w a.p a.l ∧ a.l.length ≤ a.c
def LLIn (w : World) (p : Option Addr) (ls : List LEl) : Prop := 0 < ls.length → ∃ b o, p = some ⟨b, o, none⟩ ∧ LLAt w b o ls
theorem LLAt.below {w w' : World} {b o : Nat} {ls : List LEl} (h : LLAt w b o ls) (hb : Below w.heap.size w w') : LLAt w' b o ls := fun i a hi => ⟨cB hb (h i a hi).1, (h i a hi).2.1.below hb, (h i a hi).2.2⟩
theorem LLIn.below {w w' : World} {p : Option Addr} {ls : List LEl} (h : LLIn w p ls) (hb : Below w.heap.size w w') : LLIn w' p ls := fun hl => by
  obtain ⟨b, o, hp, ha⟩ := h hl
  exact ⟨b, o, hp, ha.below hb⟩
set_option maxRecDepth 100000 in
theorem zzFits3 (p : Option Addr) (c k : Nat) (ls : List LEl) (hk : ls.length = k) (w : World) (hb : LLIn w p ls) : Calls Tryz.prog 22 #[.slice p k c] w (SomeBool w) := by
  have HB := Lib.hid (And.intro hb hk)
  clear hb hk
  go_enter Tryz.func22, Tryz.ntmps22
  go_wp2_with fail
  · go_ret
    exact ⟨_, rfl, Below.refl _ _⟩
  · go_loopg [10] k (fun gk iv wr => ∃ (ds rs : List LEl), ls = ds ++ rs ∧ gk = rs.length ∧ iv = .int .i64 (ds.length : Int) ∧ Hid (Below w.heap.size w wr))
    case atStart => exact ⟨[], ls, rfl, HB.out.2.symm, rfl, Below.refl _ _⟩
    case round =>
      obtain ⟨ds, rs, hds, rfl, rfl, hI⟩ := hrel
      cases rs with
      | nil =>
        have hlt : ds.length = k := by rw [← HB.out.2, hds, List.append_nil]
        have hl2 : decide (ds.length < k) = false := by rw [decide_eq_false_iff_not, hlt]; omega
        clear hds hlt
        go_wp2_with fail
        go_ret
        exact ⟨_, rfl, hI.out⟩
      | cons r rs =>
        have hlt : ds.length < k := by rw [← HB.out.2, hds]; simp
        have hl2 : decide (ds.length < k) = true := by rw [decide_eq_true_iff]; omega
        obtain ⟨b, o, rfl, ha⟩ := HB.out.1 (by rw [hds, List.length_append, List.length_cons]; omega)
        obtain ⟨hc0, hli, _⟩ := ha ds.length r (by rw [hds]; simp)
        replace hc0 := cB hI.out hc0
        obtain ⟨q, c', l⟩ := r
        have HD := Lib.hid (And.intro hds (hli.below hI.out))
        clear hds hli ha
        obtain ⟨m, hm⟩ : ∃ m, m = l.length := ⟨_, rfl⟩
        replace hc0 : wr.cell? ⟨b, o + ds.length, none⟩ = some (.slice q m c') := by rw [hm]; exact hc0
        have HM := Lib.hid hm
        clear hm
        go_wp2_with fail
        refine (zzFits1 q c' m l HM.out.symm wr HD.out.2).mono ?_
        rintro e w1 ⟨r, rfl, hB⟩
        have HO := Lib.hid (hI.out.trans (hB.mono hI.out.size))
        clear hB hc0
        cases r with
        | true =>
          go_wp2_with fail
          go_roundg rs.length
          case measure => simp
          case rel => exact ⟨ds ++ [⟨q, c', l⟩], rs, by rw [HD.out.1, List.append_assoc]; rfl, rfl, by simp, HO.out⟩
        | false =>
          go_wp2_with fail
          go_ret
          exact ⟨_, rfl, HO.out⟩
/-- No list is empty or long. -/
def Short (a : LEl) : Prop := 0 < a.l.length ∧ a.l.length ≤ 20 ∧ ∀ h ∈ a.l, h.s.n ≤ 100
def ShortQ (k : Nat) (ls : List LEl) (w : World) (e : Ending) (w' : World) : Prop := ∃ r, e = .returned (.bool r) ∧ Below w.heap.size w w' ∧ (r = true → k ≤ 60 ∧ ∀ a ∈ ls, Short a)
set_option maxHeartbeats 1600000 in
set_option maxRecDepth 100000 in
theorem addrShortL (p : Option Addr) (c k : Nat) (ls : List LEl) (hk : ls.length = k) (hkm : k ≤ 9223372036854775807) (w : World) (hb : LLIn w p ls) : Calls Tryz.prog 12 #[.slice p k c] w (ShortQ k ls w) := by
  have HB := Lib.hid (And.intro hb hk)
  clear hb hk
  go_enter Tryz.func12, Tryz.ntmps12
  go_wp2_with fail
  go_loopg [9] k (fun gk iv wr => ∃ (ds rs : List LEl), ls = ds ++ rs ∧ gk = rs.length ∧ iv = .int .i64 (ds.length : Int) ∧ Hid (Below w.heap.size w wr ∧ ∀ a ∈ ds, Short a))
  case atStart => exact ⟨[], ls, rfl, HB.out.2.symm, rfl, Below.refl _ _, fun a ha => by cases ha⟩
  case round =>
    obtain ⟨ds, rs, hds, rfl, rfl, hI⟩ := hrel
    cases rs with
    | nil =>
      have hlt : ds.length = k := by rw [← HB.out.2, hds, List.append_nil]
      have hl2 : decide (ds.length < k) = false := by rw [decide_eq_false_iff_not, hlt]; omega
      have HD := Lib.hid (show ls = ds by rw [hds, List.append_nil])
      clear hds hlt
      go_wp2_with fail
      go_ret
      refine ⟨_, rfl, hI.out.1, fun h => ⟨?_, by rw [HD.out]; exact hI.out.2⟩⟩
      have h1 := of_decide_eq_true h
      omega
    | cons r rs =>
      have hlt : ds.length < k := by rw [← HB.out.2, hds]; simp
      have hl2 : decide (ds.length < k) = true := by rw [decide_eq_true_iff]; omega
      obtain ⟨b, o, rfl, ha⟩ := HB.out.1 (by rw [hds, List.length_append, List.length_cons]; omega)
      obtain ⟨hc0, hli, _⟩ := ha ds.length r (by rw [hds]; simp)
      replace hc0 := cB hI.out.1 hc0
      obtain ⟨q, c', l⟩ := r
      have HD := Lib.hid (And.intro hds (hli.below hI.out.1))
      clear hds hli ha
      obtain ⟨m, hm⟩ : ∃ m, m = l.length := ⟨_, rfl⟩
      replace hc0 : wr.cell? ⟨b, o + ds.length, none⟩ = some (.slice q m c') := by rw [hm]; exact hc0
      have HM := Lib.hid hm
      clear hm
      have hwr : wrap64 ((ds.length : Int) + 1) = (ds.length : Int) + 1 := by unfold wrap64; omega
      by_cases hkk : 0 < m ∧ m ≤ 20
      · have HK := Lib.hid hkk
        have ht1 : ((m : Int) == 0) = false := by rw [beq_eq_false_iff_ne]; omega
        have ht2 : decide (20 < (m : Int)) = false := by rw [decide_eq_false_iff_not]; omega
        clear hkk
        obtain ⟨W0, hW0⟩ : ∃ W, W = wr := ⟨_, rfl⟩
        rw [← hW0] at hI HD hc0 ⊢
        clear hW0 wr
        go_wp2_with fail
        go_loopg [23] m (fun gk iv wr => ∃ (es ss : List HIn), l = es ++ ss ∧ gk = ss.length ∧ iv = .int .i64 (es.length : Int) ∧ Hid (Below W0.heap.size W0 wr ∧ ∀ h ∈ es, h.s.n ≤ 100))
        case atStart => exact ⟨[], l, rfl, HM.out, rfl, Below.refl _ _, fun h hh => by cases hh⟩
        case round =>
          obtain ⟨es, ss, hes, rfl, rfl, hJ⟩ := hrel
          cases ss with
          | nil =>
            have hlt : es.length = m := by rw [HM.out, hes, List.append_nil]
            have hl2 : decide (es.length < m) = false := by rw [decide_eq_false_iff_not, hlt]; omega
            have HE := Lib.hid (show l = es by rw [hes, List.append_nil])
            clear hes hlt
            go_wp2_with fail
            go_roundg rs.length
            case measure => simp
            case rel => exact ⟨ds ++ [⟨q, c', l⟩], rs, by rw [HD.out.1, List.append_assoc]; rfl, rfl, by simp, hI.out.1.trans (hJ.out.1.mono hI.out.1.size), fun a ha => by
              rcases List.mem_append.1 ha with ha | ha
              · exact hI.out.2 a ha
              · obtain rfl := List.mem_singleton.1 ha
                exact ⟨by show 0 < l.length; rw [← HM.out]; exact HK.out.1, by show l.length ≤ 20; rw [← HM.out]; exact HK.out.2, by show ∀ h ∈ l, _; rw [HE.out]; exact hJ.out.2⟩⟩
          | cons r ss =>
            have hlt : es.length < m := by rw [HM.out, hes]; simp
            have hl2 : decide (es.length < m) = true := by rw [decide_eq_true_iff]; omega
            obtain ⟨b2, o2, rfl, ha⟩ := HD.out.2 (by show 0 < l.length; rw [← HM.out]; exact HK.out.1)
            obtain ⟨hd0, hd1, hok⟩ := ha es.length r (by show l[es.length]? = _; rw [hes]; simp)
            replace hd0 := cB hJ.out.1 hd0
            replace hd1 := cB hJ.out.1 hd1
            obtain ⟨K, p2, m2, c2, xs⟩ := r
            have HE := Lib.hid hes
            clear hes hok ha
            replace hd0 : wr.cell? ⟨b2, o2 + es.length * 2, none⟩ = some (.int .u8 K) := hd0
            replace hd1 : wr.cell? ⟨b2, o2 + es.length * 2 + 1, none⟩ = some (.slice p2 m2 c2) := hd1
            have hk20 := HK.out.2
            by_cases hm : m2 ≤ 100
            · have hm1 : decide (100 < m2) = false := by rw [decide_eq_false_iff_not]; omega
              have hm2 : decide (100 < (m2 : Int)) = false := by rw [decide_eq_false_iff_not]; omega
              go_wp2_with fail
              go_roundg ss.length
              case measure => simp
              case rel => exact ⟨es ++ [⟨K, p2, m2, c2, xs⟩], ss, by rw [HE.out, List.append_assoc]; rfl, rfl, by simp, hJ.out.1.alloc hJ.out.1.size _, fun h hh => by
                rcases List.mem_append.1 hh with hh | hh
                · exact hJ.out.2 h hh
                · obtain rfl := List.mem_singleton.1 hh
                  exact hm⟩
            · have hm1 : decide (100 < m2) = true := by rw [decide_eq_true_iff]; omega
              have hm2 : decide (100 < (m2 : Int)) = true := by rw [decide_eq_true_iff]; omega
              have hBB := hI.out.1.trans (hJ.out.1.mono hI.out.1.size)
              go_wp2_with fail
              go_ret
              exact ⟨_, rfl, hBB.alloc hBB.size _, fun h => by cases h⟩
      · by_cases hk0 : m = 0
        · subst hk0
          go_wp2_with fail
          go_ret
          exact ⟨_, rfl, hI.out.1, fun h => by cases h⟩
        · have ht1 : ((m : Int) == 0) = false := by rw [beq_eq_false_iff_ne]; omega
          have ht2 : decide (20 < (m : Int)) = true := by rw [decide_eq_true_iff]; omega
          clear hkk
          go_wp2_with fail
          go_ret
          exact ⟨_, rfl, hI.out.1, fun h => by cases h⟩
/-- The addresses of lists of parts. -/
def adrs (f : List Int → List Int) (ls : List LEl) : List Adr := ls.map fun a => a.l.map (hopOf f)
theorem infoBs : (Tryz.prog.info? 23).map (fun i => (i.zero, i.size, i.bytes)) = some (some (.slice none 0 0), 1, 24) := by kernel_rfl
theorem LEl.at {w : World} {a : LEl} (hl : LIn w a.p a.l) (hs : Short a) : ∃ b o, a.p = some ⟨b, o, none⟩ ∧ HAt w b o a.l := by
  obtain ⟨b, o, hp, hat⟩ := hl hs.1
  exact ⟨b, o, hp, fun i h hi => ⟨(hat i h hi).1, (hat i h hi).2.1, (hat i h hi).2.2.1, (hat i h hi).2.2.2.1, (hat i h hi).2.2.2.2, hs.2.2 h (List.mem_of_getElem? hi)⟩⟩
theorem adr_ok {f : List Int → List Int} (hf : ShaIs f) {w : World} {a : LEl} (hl : LIn w a.p a.l) (hs : Short a) : AdrOk (a.l.map (hopOf f)) := by
  obtain ⟨b, o, _, hat⟩ := LEl.at hl hs
  exact ⟨fun e => by have h1 := congrArg List.length e; have := hs.1; rw [List.length_map] at h1; simp at h1; rw [h1] at this; simp at this, hat.oks f hf, by have := hs.2.1; rw [List.length_map]; omega⟩
theorem adrs_ok {f : List Int → List Int} (hf : ShaIs f) {w : World} {p : Option Addr} {ls : List LEl} (hl : LLIn w p ls) (hs : ∀ a ∈ ls, Short a) : ∀ x ∈ adrs f ls, AdrOk x := fun x hx => by
  obtain ⟨a, ha, rfl⟩ := List.mem_map.1 hx
  obtain ⟨i, hi⟩ := List.getElem?_of_mem ha
  obtain ⟨b, o, _, hat⟩ := hl (List.length_pos_of_mem ha)
  exact adr_ok hf (hat i a hi).2.1 (hs a ha)
set_option maxRecDepth 100000 in
theorem addrList (f : List Int → List Int) (hf : ShaIs f) (p : Option Addr) (c k : Nat) (ls : List LEl) (hk : ls.length = k) (hk1 : k ≤ 1000) (hs : ∀ a ∈ ls, Short a) (w : World) (hb : LLIn w p ls) :
    Calls Tryz.prog 24 #[.slice p k c] w fun e w' => ∃ v, e = .returned v ∧ BRow w' w.heap.size v (adrs f ls) ∧ Below w.heap.size w w' := by
  have HB := Lib.hid (And.intro hb (And.intro hk (And.intro hs hf)))
  clear hb hk hs hf
  go_enter Tryz.func24, Tryz.ntmps24
  go_wp2_with fail
  go_loopg [3, 8] k (fun gk sv iv wr => ∃ (ds rs : List LEl), ls = ds ++ rs ∧ gk = rs.length ∧ iv = .int .i64 (ds.length : Int) ∧ Hid (BRow wr w.heap.size sv (adrs f ds) ∧ Below w.heap.size w wr))
  case atStart => exact ⟨[], ls, rfl, HB.out.2.1.symm, rfl, RowP.nil _ _ _ _, Below.refl _ _⟩
  case round =>
    obtain ⟨ds, rs, hds, rfl, rfl, hI⟩ := hrel
    cases rs with
    | nil =>
      have hlt : ds.length = k := by rw [← HB.out.2.1, hds, List.append_nil]
      have hl2 : decide (ds.length < k) = false := by rw [decide_eq_false_iff_not, hlt]; omega
      have HD := Lib.hid (show ls = ds by rw [hds, List.append_nil])
      clear hds hlt
      go_wp2_with fail
      go_ret
      exact ⟨_, rfl, by rw [HD.out]; exact hI.out.1, hI.out.2⟩
    | cons r rs =>
      have hlt : ds.length < k := by rw [← HB.out.2.1, hds]; simp
      have hl2 : decide (ds.length < k) = true := by rw [decide_eq_true_iff]; omega
      obtain ⟨b, o, rfl, ha⟩ := HB.out.1 (by rw [hds, List.length_append, List.length_cons]; omega)
      obtain ⟨hc0, hli, hlc⟩ := ha ds.length r (by rw [hds]; simp)
      have hsr := HB.out.2.2.1 r (by rw [hds]; simp)
      replace hc0 := cB hI.out.2 hc0
      obtain ⟨b2, o2, hp2, hat⟩ := LEl.at hli hsr
      have hok := adr_ok HB.out.2.2.2 hli hsr
      obtain ⟨q, c', l⟩ := r
      obtain rfl : q = _ := hp2
      have hao := addrOfB f HB.out.2.2.2 l l.length rfl (by have := hsr.2.1; show l.length ≤ 100; have h3 : l.length ≤ 20 := this; omega) b2 o2 c' wr (hat.below hI.out.2)
      obtain ⟨us, hul, huo, huP⟩ := hI.out.1
      have HD := Lib.hid (And.intro hds (And.intro hao (And.intro hok (And.intro hul (And.intro huo huP)))))
      clear hds hli ha hsr hat hlc hok hao hul huo huP
      obtain ⟨m, hm⟩ : ∃ m, m = l.length := ⟨_, rfl⟩
      replace hc0 : wr.cell? ⟨b, o + ds.length, none⟩ = some (.slice (some ⟨b2, o2, none⟩) m c') := by rw [hm]; exact hc0
      rw [← hm] at HD
      clear hm
      go_wp2_with fail
      refine HD.out.2.1.mono ?_
      rintro e w1 ⟨v, rfl, hown, hB⟩
      have hbv : BV w1 wr.heap.size v (addrB (l.map (hopOf f))) := BV.own hown (fun e => by
        have := addrB_pos _ HD.out.2.2.1.2.1 HD.out.2.2.1.1
        rw [e] at this; simp at this)
      obtain ⟨g1, c1, cs1, rfl, hbv2⟩ := id hbv
      have H1 := Lib.hid (And.intro hbv (And.intro hB (ownsRow_below HD.out.2.2.2.2.1 hB)))
      clear hown hbv hB hbv2
      obtain ⟨N, hN⟩ : ∃ N, N = (addrB (l.map (hopOf f))).length := ⟨_, rfl⟩
      rw [← hN] at H1 ⊢
      clear hN
      go_wp2_with (at_builtin; refine wpAppN 30 23 1 _ 24 Tryz.underlying30 infoBs rfl (by decide) (by decide) rfl _ _ rfl w.heap.size _ (adrs f ds).length us rfl H1.out.2.2 [.slice (some ⟨g1, 0, none⟩) N c1] rfl (fun u hu => by simp at hu; subst hu; rfl) rfl (by unfold adrs; rw [List.length_map]; omega) (Nat.le_trans hI.out.2.size H1.out.2.1.size) ?_)
      intro v' w2 ho2 hg2 _
      have H2 := Lib.hid (And.intro ho2 hg2)
      clear ho2 hg2
      go_wp2_with fail
      go_roundg rs.length
      case measure => simp
      case rel =>
        obtain ⟨ho2, hg2⟩ := H2.out
        obtain ⟨hbv, hB, huo2⟩ := H1.out
        obtain ⟨hds, _, _, hul, _, huP⟩ := HD.out
        have hK2 : Kept 23 w1 w2 := Kept.row huo2 hg2
        refine ⟨ds ++ [⟨some ⟨b2, o2, none⟩, c', l⟩], rs, by rw [hds, List.append_assoc]; rfl, rfl, by simp, ?_, grown_below (hI.out.2.trans (hB.mono hI.out.2.size)) huo2 hg2 (Nat.le_trans hI.out.2.size hB.size)⟩
        show BRow w2 w.heap.size v' (adrs f (ds ++ [⟨some ⟨b2, o2, none⟩, c', l⟩]))
        unfold adrs
        rw [List.map_append]
        exact RowP.push hul huP ho2 (fun u x h => hK2.bv (by decide) (h.below hB)) (hK2.bv (by decide) (hbv.mono hI.out.2.size))
end Go.Proofs.YtapkmoakbfpkeaaGreatDoor
namespace Go.Proofs.YtapkmoakbfpkeaaGreatDoor
open Go Go.RowKit Go.Proofs Go.Sort
/-- A slice of one-cell elements, and its cells. -/
structure Seg where
  p : Option Addr
  n : Nat
  c : Nat
  us : List Value
def Seg.v (s : Seg) : Value := .slice s.p s.n s.c
def Seg.Ok (s : Seg) (w : World) : Prop := s.us.length = s.n ∧ (∀ j u, s.us[j]? = some u → ∃ b o, s.p = some ⟨b, o, none⟩ ∧ w.cell? ⟨b, o + j, none⟩ = some u) ∧ (s.p = none → s.n = 0 ∧ s.c = 0) ∧ ∀ u ∈ s.us, u.oneCell' = true
def sumG (l : List Seg) : Nat := (l.map (·.n)).sum
def catG (l : List Seg) : List Value := (l.map (·.us)).flatten
def SegAt (w : World) (b : Nat) (l : List Seg) : Prop := ∀ i s, l[i]? = some s → w.cell? ⟨b, i, none⟩ = some s.v ∧ s.Ok w
theorem Seg.Ok.below {s : Seg} {w w' : World} (h : s.Ok w) (hb : Below w.heap.size w w') : s.Ok w' := ⟨h.1, fun j u hj => by
  obtain ⟨b, o, hp, hc⟩ := h.2.1 j u hj
  exact ⟨b, o, hp, cB hb hc⟩, h.2.2⟩
theorem catG_len (l : List Seg) (h : ∀ s ∈ l, s.us.length = s.n) : (catG l).length = sumG l := by
  induction l with
  | nil => rfl
  | cons s l ih =>
    have h1 := ih fun x hx => h x (List.mem_cons_of_mem _ hx)
    have h2 := h s List.mem_cons_self
    simp only [catG, sumG, List.map_cons, List.flatten_cons, List.length_append, List.sum_cons] at h1 ⊢
    omega
/-- append of whatever slice onto a row of the call's own, one cell an element. -/
theorem wpAppG1 (S T : TypeId) (z : Value) (byt : Nat) (hS : Tryz.prog.underlying S = some (.slice T)) (hinf : (Tryz.prog.info? T).map (fun i => (i.zero, i.size, i.bytes)) = some (some z, 1, byt)) (hzs : z.cells.size = 1) (hby : byt ≤ 100)
    {ops : Array Oper} {rest : List Oper} {o : Oper} {a : Act} {w : World} {Q : Exit → Act → World → Prop} (hgd : o.guard = none) (s x : Operand)
    (ho : o.op = .call { callee := .builtin .append, args := #[s, x], argTypes := #[S, S] }) (base : Nat) (v : Value) (n : Nat) (us : List Value) (hs : a.eval s = v) (hown : w.ownsRow base T 1 v n us)
    (p : Option Addr) (m c : Nat) (ys : List Value) (hx : a.eval x = .slice p m c) (hok : (Seg.mk p m c ys).Ok w) (hN : n + m ≤ 1000000) (hbase : base ≤ w.heap.size)
    (h : ∀ v' w', w'.ownsRow base T 1 v' (n + m) (us ++ ys) → w.grownBy w' v.ownBlock → wpList Tryz.prog ops Q rest (a.put o.dst v') w') : wpList Tryz.prog ops Q (o :: rest) a w := by
  obtain ⟨h1, h2, h3, h4⟩ := hok
  obtain ⟨i0, hi, hz0, hz1, hz2⟩ := info_parts hinf
  cases p with
  | none =>
    obtain ⟨rfl, rfl⟩ : m = 0 ∧ c = 0 := h3 rfl
    obtain rfl : ys = [] := List.eq_nil_of_length_eq_zero h1
    refine wpList_append_own_none hgd s x S ho base T i0 1 hS hi v n _ hs hown hx ?_
    exact h v w (by rw [List.append_nil]; exact hown) ⟨rfl, rfl, rfl, Nat.le_refl _, fun _ _ _ => rfl⟩
  | some ad =>
    refine wpList_append_own w hgd s x S ho base T i0 z 1 byt hS hi hz0 hz1 hz2 hzs (by decide) v n us hs hown ad m c ys hx (by rw [show ys.length = m from h1]; omega) (fun j u hj => ?_) h4 (by unfold maxLen; omega) (Nat.le_trans (Nat.mul_le_mul_left _ hby) (by omega)) hbase fun v' w' q1 q2 _ => h v' w' q1 q2
    obtain ⟨b, o', hp, hc⟩ := h2 j u hj
    obtain rfl : ad = ⟨b, o', none⟩ := Option.some.inj hp
    rw [Lib.add_plain]
    exact hc
theorem infoLs : (Tryz.prog.info? 22).map (fun i => (i.zero, i.size, i.bytes)) = some (some (.slice none 0 0), 1, 24) := by kernel_rfl
set_option maxRecDepth 100000 in
theorem growLL0 (w : World) : Calls Tryz.prog 54 #[.slice none 0 0, .int .i64 0] w fun e w' => e = .returned (.slice none 0 0) ∧ w' = w := by
  go_enter Tryz.func54, Tryz.ntmps54
  go_wp2_with fail
  go_ret
  exact ⟨rfl, rfl⟩
set_option maxRecDepth 100000 in
theorem growLL (n : Nat) (h0 : 0 < n) (hn : n ≤ 100000) (w : World) : Calls Tryz.prog 54 #[.slice none 0 0, .int .i64 (n : Int)] w fun e w' => ∃ v, e = .returned v ∧ w'.ownsRow w.heap.size 22 1 v 0 [] ∧ Below w.heap.size w w' := by
  have hmk : ∀ w, (Instr.makeSlice 42 (.int .i64 (n : Int)) (.int .i64 (n : Int))).run Tryz.prog w = .ok (.slice (some ⟨w.heap.size, 0, none⟩) n n) (w.alloc (.cells (madeCells #[.slice none 0 0] n) 22)) :=
    fun w => run_make_row' 42 22 (.slice none 0 0) 24 Tryz.underlying42 (by kernel_rfl) rfl .i64 .i64 n (by omega) (by omega) w
  have hn2 : (n : Int) ≤ 100000 := by omega
  have hby : Tryz.t22.bytes = 24 := by kernel_rfl
  have f1 : ¬ (281474976710656 < (n : Int) * (Tryz.t22.bytes : Int)) := by rw [hby]; omega
  have f2 : ¬ (281474976710656 < Builtin.nextslicecap n 0 * Tryz.t22.bytes) := by rw [hby, nextslicecap_zero h0]; omega
  have f3 : ¬ (n = 0) := by omega
  have hn3 : decide (0 < (n : Int)) = true := by simp; omega
  go_enter Tryz.func54, Tryz.ntmps54
  go_wp2_with fail
  go_ret
  · refine ⟨_, rfl, ⟨by simp, .inr ⟨w.heap.size, _, _, rfl, Nat.le_refl _, heap_alloc_new _ _, Nat.zero_le _, grownCap_le_maxLen w n 0 _ (by unfold maxLen; omega), ?_, by simp⟩⟩, ?_⟩
    · have := grownCap_ge w n 0 22
      unfold grownCap at this
      simp [Builtin.zeroCells]
      omega
    · exact ((Below.refl _ w).alloc (Nat.le_refl _) _).drew
set_option maxHeartbeats 1600000 in
set_option maxRecDepth 100000 in
theorem concatLL (l : List Seg) (k : Nat) (hk : l.length = k) (hk1 : k ≤ 20) (hs : sumG l ≤ 10000) (b c : Nat) (w : World) (hb : SegAt w b l) : Calls Tryz.prog 25 #[.slice (some ⟨b, 0, none⟩) k c] w fun e w' => ∃ v, e = .returned v ∧ w'.ownsRow w.heap.size 22 1 v (sumG l) (catG l) ∧ Below w.heap.size w w' := by
  have HB := Lib.hid (And.intro hb (And.intro hk hs))
  clear hb hk hs
  go_enter Tryz.func25, Tryz.ntmps25
  go_wp2_with fail
  go_loopg [3, 11] k (fun gk sv iv wr => ∃ (ds rs : List Seg), l = ds ++ rs ∧ gk = rs.length ∧ sv = .int .i64 (sumG ds : Int) ∧ iv = .int .i64 (ds.length : Int) ∧ w = wr)
  case atStart => exact ⟨[], l, rfl, HB.out.2.1.symm, rfl, rfl, rfl⟩
  case round =>
    obtain ⟨ds, rs, hds, rfl, rfl, rfl, rfl⟩ := hrel
    cases rs with
    | nil =>
      have hlt : ds.length = k := by rw [← HB.out.2.1, hds, List.append_nil]
      have hsd : sumG ds ≤ 10000 := by have := HB.out.2.2; rw [hds, List.append_nil] at this; exact this
      have hl2 : decide (ds.length < k) = false := by rw [decide_eq_false_iff_not, hlt]; omega
      have hg : Calls Tryz.prog 54 #[.slice none 0 0, .int .i64 (sumG ds : Int)] w fun e w' => ∃ v, e = .returned v ∧ w'.ownsRow w.heap.size 22 1 v 0 [] ∧ Below w.heap.size w w' := by
        by_cases h0 : sumG ds = 0
        · rw [h0]
          refine (growLL0 w).mono ?_
          rintro e w' ⟨rfl, rfl⟩
          exact ⟨_, rfl, World.ownsRow_nil _ _ _ _, Below.refl _ _⟩
        · exact growLL _ (by omega) (by omega) w
      have HG := Lib.hid hg
      clear hds hlt hg
      go_wp2_with fail
      refine HG.out.mono ?_
      rintro e w1 ⟨v, rfl, hown, hB⟩
      have HO := Lib.hid (And.intro hown hB)
      clear hown hB hl2 hsd HG
      obtain ⟨N, hN⟩ : ∃ N : Int, N = (sumG ds : Int) := ⟨_, rfl⟩
      obtain ⟨M, hM⟩ : ∃ N : Nat, N = ds.length := ⟨_, rfl⟩
      rw [← hN, ← hM]
      clear hN hM ds
      go_wp2_with fail
      go_loopg [6, 27] k (fun gk sv iv wr => ∃ (ds rs : List Seg), l = ds ++ rs ∧ gk = rs.length ∧ iv = .int .i64 (ds.length : Int) ∧ Hid (wr.ownsRow w.heap.size 22 1 sv (sumG ds) (catG ds) ∧ Below w.heap.size w wr))
      case atStart => exact ⟨[], l, rfl, HB.out.2.1.symm, rfl, HO⟩
      case round =>
        obtain ⟨ds, rs, hds, rfl, rfl, hI⟩ := hrel
        cases rs with
        | nil =>
          have HD := Lib.hid hds
          have hlt : ds.length = k := by rw [← HB.out.2.1, hds, List.append_nil]
          have hl2 : decide (ds.length < k) = false := by rw [decide_eq_false_iff_not, hlt]; omega
          clear hds hlt
          go_wp2_with fail
          go_ret
          have hdl : l = ds := by rw [HD.out, List.append_nil]
          exact ⟨_, rfl, by have h := hI.out.1; rw [← hdl] at h; exact h, hI.out.2⟩
        | cons r rs =>
          have hlt : ds.length < k := by rw [← HB.out.2.1, hds]; simp
          have hl2 : decide (ds.length < k) = true := by rw [decide_eq_true_iff]; omega
          obtain ⟨hc, hok⟩ := HB.out.1 ds.length r (by rw [hds]; simp)
          have hsum : sumG ds + r.n ≤ 10000 := by have := HB.out.2.2; rw [hds] at this; simp [sumG] at this; simp [sumG]; omega
          have hc2 : wr.cell? ⟨b, ds.length, none⟩ = some (.slice r.p r.n r.c) := cB hI.out.2 hc
          have HD := Lib.hid (And.intro hds hok)
          clear hds hok hc
          obtain ⟨p, n, c', us⟩ := r
          replace hc : wr.cell? ⟨b, ds.length, none⟩ = some (.slice p n c') := hc2
          replace hsum : sumG ds + n ≤ 10000 := hsum
          clear hc2
          go_wp2_with (at_builtin; refine wpAppG1 42 22 _ 24 Tryz.underlying42 infoLs rfl (by decide) rfl _ _ rfl w.heap.size _ _ (catG ds) rfl hI.out.1 p n c' us rfl (HD.out.2.below hI.out.2) (by omega) hI.out.2.size ?_)
          intro v' w' hown' hgrow
          have HO' := Lib.hid (And.intro hown' (grown_below hI.out.2 hI.out.1 hgrow hI.out.2.size))
          clear hown' hgrow
          go_wp2_with fail
          go_roundg rs.length
          case measure => simp
          case rel => exact ⟨ds ++ [⟨p, n, c', us⟩], rs, by rw [HD.out.1, List.append_assoc]; rfl, rfl, by simp, by show _ ∧ _; have h := HO'.out; simp only [sumG, catG, List.map_append, List.sum_append, List.flatten_append] at h ⊢; simpa using h⟩
    | cons r rs =>
      have hlt : ds.length < k := by rw [← HB.out.2.1, hds]; simp
      have hl2 : decide (ds.length < k) = true := by rw [decide_eq_true_iff]; omega
      obtain ⟨hc, hok⟩ := HB.out.1 ds.length r (by rw [hds]; simp)
      have hsum : sumG ds + r.n ≤ 10000 := by have := HB.out.2.2; rw [hds] at this; simp [sumG] at this; simp [sumG]; omega
      obtain ⟨p, n, c', us⟩ := r
      replace hc : w.cell? ⟨b, ds.length, none⟩ = some (.slice p n c') := hc
      replace hsum : sumG ds + n ≤ 10000 := hsum
      have HD := Lib.hid hds
      clear hds hok
      go_wp2_with fail
      go_roundg rs.length
      case measure => simp
      case rel => exact ⟨ds ++ [⟨p, n, c', us⟩], rs, by rw [HD.out, List.append_assoc]; rfl, rfl, by simp [sumG], by simp, rfl⟩

set_option maxRecDepth 100000 in
theorem growBB0 (w : World) : Calls Tryz.prog 55 #[.slice none 0 0, .int .i64 0] w fun e w' => e = .returned (.slice none 0 0) ∧ w' = w := by
  go_enter Tryz.func55, Tryz.ntmps55
  go_wp2_with fail
  go_ret
  exact ⟨rfl, rfl⟩
set_option maxRecDepth 100000 in
theorem growBB (n : Nat) (h0 : 0 < n) (hn : n ≤ 100000) (w : World) : Calls Tryz.prog 55 #[.slice none 0 0, .int .i64 (n : Int)] w fun e w' => ∃ v, e = .returned v ∧ w'.ownsRow w.heap.size 23 1 v 0 [] ∧ Below w.heap.size w w' := by
  have hmk : ∀ w, (Instr.makeSlice 30 (.int .i64 (n : Int)) (.int .i64 (n : Int))).run Tryz.prog w = .ok (.slice (some ⟨w.heap.size, 0, none⟩) n n) (w.alloc (.cells (madeCells #[.slice none 0 0] n) 23)) :=
    fun w => run_make_row' 30 23 (.slice none 0 0) 24 Tryz.underlying30 (by kernel_rfl) rfl .i64 .i64 n (by omega) (by omega) w
  have hn2 : (n : Int) ≤ 100000 := by omega
  have hby : Tryz.t23.bytes = 24 := by kernel_rfl
  have f1 : ¬ (281474976710656 < (n : Int) * (Tryz.t23.bytes : Int)) := by rw [hby]; omega
  have f2 : ¬ (281474976710656 < Builtin.nextslicecap n 0 * Tryz.t23.bytes) := by rw [hby, nextslicecap_zero h0]; omega
  have f3 : ¬ (n = 0) := by omega
  have hn3 : decide (0 < (n : Int)) = true := by simp; omega
  go_enter Tryz.func55, Tryz.ntmps55
  go_wp2_with fail
  go_ret
  · refine ⟨_, rfl, ⟨by simp, .inr ⟨w.heap.size, _, _, rfl, Nat.le_refl _, heap_alloc_new _ _, Nat.zero_le _, grownCap_le_maxLen w n 0 _ (by unfold maxLen; omega), ?_, by simp⟩⟩, ?_⟩
    · have := grownCap_ge w n 0 23
      unfold grownCap at this
      simp [Builtin.zeroCells]
      omega
    · exact ((Below.refl _ w).alloc (Nat.le_refl _) _).drew
set_option maxHeartbeats 1600000 in
set_option maxRecDepth 100000 in
theorem concatBB (l : List Seg) (k : Nat) (hk : l.length = k) (hk1 : k ≤ 20) (hs : sumG l ≤ 10000) (b c : Nat) (w : World) (hb : SegAt w b l) : Calls Tryz.prog 27 #[.slice (some ⟨b, 0, none⟩) k c] w fun e w' => ∃ v, e = .returned v ∧ w'.ownsRow w.heap.size 23 1 v (sumG l) (catG l) ∧ Below w.heap.size w w' := by
  have HB := Lib.hid (And.intro hb (And.intro hk hs))
  clear hb hk hs
  go_enter Tryz.func27, Tryz.ntmps27
  go_wp2_with fail
  go_loopg [3, 11] k (fun gk sv iv wr => ∃ (ds rs : List Seg), l = ds ++ rs ∧ gk = rs.length ∧ sv = .int .i64 (sumG ds : Int) ∧ iv = .int .i64 (ds.length : Int) ∧ w = wr)
  case atStart => exact ⟨[], l, rfl, HB.out.2.1.symm, rfl, rfl, rfl⟩
  case round =>
    obtain ⟨ds, rs, hds, rfl, rfl, rfl, rfl⟩ := hrel
    cases rs with
    | nil =>
      have hlt : ds.length = k := by rw [← HB.out.2.1, hds, List.append_nil]
      have hsd : sumG ds ≤ 10000 := by have := HB.out.2.2; rw [hds, List.append_nil] at this; exact this
      have hl2 : decide (ds.length < k) = false := by rw [decide_eq_false_iff_not, hlt]; omega
      have hg : Calls Tryz.prog 55 #[.slice none 0 0, .int .i64 (sumG ds : Int)] w fun e w' => ∃ v, e = .returned v ∧ w'.ownsRow w.heap.size 23 1 v 0 [] ∧ Below w.heap.size w w' := by
        by_cases h0 : sumG ds = 0
        · rw [h0]
          refine (growBB0 w).mono ?_
          rintro e w' ⟨rfl, rfl⟩
          exact ⟨_, rfl, World.ownsRow_nil _ _ _ _, Below.refl _ _⟩
        · exact growBB _ (by omega) (by omega) w
      have HG := Lib.hid hg
      clear hds hlt hg
      go_wp2_with fail
      refine HG.out.mono ?_
      rintro e w1 ⟨v, rfl, hown, hB⟩
      have HO := Lib.hid (And.intro hown hB)
      clear hown hB hl2 hsd HG
      obtain ⟨N, hN⟩ : ∃ N : Int, N = (sumG ds : Int) := ⟨_, rfl⟩
      obtain ⟨M, hM⟩ : ∃ N : Nat, N = ds.length := ⟨_, rfl⟩
      rw [← hN, ← hM]
      clear hN hM ds
      go_wp2_with fail
      go_loopg [6, 27] k (fun gk sv iv wr => ∃ (ds rs : List Seg), l = ds ++ rs ∧ gk = rs.length ∧ iv = .int .i64 (ds.length : Int) ∧ Hid (wr.ownsRow w.heap.size 23 1 sv (sumG ds) (catG ds) ∧ Below w.heap.size w wr))
      case atStart => exact ⟨[], l, rfl, HB.out.2.1.symm, rfl, HO⟩
      case round =>
        obtain ⟨ds, rs, hds, rfl, rfl, hI⟩ := hrel
        cases rs with
        | nil =>
          have HD := Lib.hid hds
          have hlt : ds.length = k := by rw [← HB.out.2.1, hds, List.append_nil]
          have hl2 : decide (ds.length < k) = false := by rw [decide_eq_false_iff_not, hlt]; omega
          clear hds hlt
          go_wp2_with fail
          go_ret
          have hdl : l = ds := by rw [HD.out, List.append_nil]
          exact ⟨_, rfl, by have h := hI.out.1; rw [← hdl] at h; exact h, hI.out.2⟩
        | cons r rs =>
          have hlt : ds.length < k := by rw [← HB.out.2.1, hds]; simp
          have hl2 : decide (ds.length < k) = true := by rw [decide_eq_true_iff]; omega
          obtain ⟨hc, hok⟩ := HB.out.1 ds.length r (by rw [hds]; simp)
          have hsum : sumG ds + r.n ≤ 10000 := by have := HB.out.2.2; rw [hds] at this; simp [sumG] at this; simp [sumG]; omega
          have hc2 : wr.cell? ⟨b, ds.length, none⟩ = some (.slice r.p r.n r.c) := cB hI.out.2 hc
          have HD := Lib.hid (And.intro hds hok)
          clear hds hok hc
          obtain ⟨p, n, c', us⟩ := r
          replace hc : wr.cell? ⟨b, ds.length, none⟩ = some (.slice p n c') := hc2
          replace hsum : sumG ds + n ≤ 10000 := hsum
          clear hc2
          go_wp2_with (at_builtin; refine wpAppG1 30 23 _ 24 Tryz.underlying30 infoBs rfl (by decide) rfl _ _ rfl w.heap.size _ _ (catG ds) rfl hI.out.1 p n c' us rfl (HD.out.2.below hI.out.2) (by omega) hI.out.2.size ?_)
          intro v' w' hown' hgrow
          have HO' := Lib.hid (And.intro hown' (grown_below hI.out.2 hI.out.1 hgrow hI.out.2.size))
          clear hown' hgrow
          go_wp2_with fail
          go_roundg rs.length
          case measure => simp
          case rel => exact ⟨ds ++ [⟨p, n, c', us⟩], rs, by rw [HD.out.1, List.append_assoc]; rfl, rfl, by simp, by show _ ∧ _; have h := HO'.out; simp only [sumG, catG, List.map_append, List.sum_append, List.flatten_append] at h ⊢; simpa using h⟩
    | cons r rs =>
      have hlt : ds.length < k := by rw [← HB.out.2.1, hds]; simp
      have hl2 : decide (ds.length < k) = true := by rw [decide_eq_true_iff]; omega
      obtain ⟨hc, hok⟩ := HB.out.1 ds.length r (by rw [hds]; simp)
      have hsum : sumG ds + r.n ≤ 10000 := by have := HB.out.2.2; rw [hds] at this; simp [sumG] at this; simp [sumG]; omega
      obtain ⟨p, n, c', us⟩ := r
      replace hc : w.cell? ⟨b, ds.length, none⟩ = some (.slice p n c') := hc
      replace hsum : sumG ds + n ≤ 10000 := hsum
      have HD := Lib.hid hds
      clear hds hok
      go_wp2_with fail
      go_roundg rs.length
      case measure => simp
      case rel => exact ⟨ds ++ [⟨p, n, c', us⟩], rs, by rw [HD.out, List.append_assoc]; rfl, rfl, by simp [sumG], by simp, rfl⟩
end Go.Proofs.YtapkmoakbfpkeaaGreatDoor
namespace Go.Proofs.YtapkmoakbfpkeaaGreatDoor
open Go Go.RowKit Go.Proofs Go.Sort
theorem segB {w : World} {B n c : Nat} {p : Option Addr} {ts : List Adr} (h : BRow w B (.slice p n c) ts) : ∃ us, (Seg.mk p n c us).Ok w ∧ us.length = ts.length ∧ ∀ (i : Nat) u x, us[i]? = some u → ts[i]? = some x → BV w B u (addrB x) := by
  rcases RowP.form h with ⟨e, rfl⟩ | ⟨g, c', e, hc, _⟩
  · injection e with e1 e2 e3
    subst e1 e2 e3
    exact ⟨[], ⟨rfl, fun j u hj => by simp at hj, fun _ => ⟨rfl, rfl⟩, fun u hu => by cases hu⟩, rfl, fun i u x hi => by simp at hi⟩
  · injection e with e1 e2 e3
    subst e1 e2 e3
    obtain ⟨us, hl, hown, hP⟩ := h
    refine ⟨us, ⟨hl, fun j u hj => ⟨g, 0, rfl, ?_⟩, fun e => by simp at e, fun u hu => ?_⟩, hl, hP⟩
    · have hj2 : j < us.length := (List.getElem?_eq_some_iff.1 hj).1
      show w.cell? ⟨g, 0 + j, none⟩ = some u
      rw [Nat.zero_add]
      exact (hown.cellAt j (by omega)).trans hj
    · obtain ⟨i, hi⟩ := List.getElem?_of_mem (show u ∈ us from hu)
      have hj2 := (List.getElem?_eq_some_iff.1 hi).1
      exact (hP i u _ hi (List.getElem?_eq_getElem (by omega))).one
theorem twiceBB (B n c : Nat) (p : Option Addr) (ts : List Adr) (w : World) (h : BRow w B (.slice p n c) ts) (hn : n ≤ 1000) (g c' : Nat) (h0 : w.cell? ⟨g, 0, none⟩ = some (.slice p n c)) (h1 : w.cell? ⟨g, 1, none⟩ = some (.slice p n c)) :
    Calls Tryz.prog 27 #[.slice (some ⟨g, 0, none⟩) 2 c'] w fun e w' => ∃ p5 c5, e = .returned (.slice p5 (n + n) c5) ∧ ListIn w' p5 (ts ++ ts) ∧ Below w.heap.size w w' := by
  obtain ⟨us, hok, hul, hP⟩ := segB h
  have hun : us.length = n := hok.1
  refine (concatBB [⟨p, n, c, us⟩, ⟨p, n, c, us⟩] 2 rfl (by decide) (by simp [sumG]; omega) g c' w fun i s hi => ?_).mono ?_
  · match i, hi with
    | 0, hi => obtain rfl : (⟨p, n, c, us⟩ : Seg) = s := by simpa using hi
               exact ⟨h0, hok⟩
    | 1, hi => obtain rfl : (⟨p, n, c, us⟩ : Seg) = s := by simpa using hi
               exact ⟨h1, hok⟩
  · rintro e w' ⟨v, rfl, hown, hB⟩
    have e1 : sumG [⟨p, n, c, us⟩, ⟨p, n, c, us⟩] = n + n := by simp [sumG]
    have e2 : catG [⟨p, n, c, us⟩, ⟨p, n, c, us⟩] = us ++ us := by simp [catG]
    rw [e1, e2] at hown
    have hPP : ∀ (i : Nat) u x, (us ++ us)[i]? = some u → (ts ++ ts)[i]? = some x → BV w' B u (addrB x) := fun i u x h1 h2 => by
      by_cases hi : i < us.length
      · rw [List.getElem?_append_left hi] at h1
        rw [List.getElem?_append_left (by omega)] at h2
        exact (hP i u x h1 h2).below hB
      · rw [List.getElem?_append_right (by omega)] at h1 h2
        rw [← hul] at h2
        exact (hP _ u x h1 h2).below hB
    rcases id hown.2 with ⟨rfl, h0⟩ | ⟨g5, c5, cur, rfl, _⟩
    · rw [h0]
      exact ⟨none, 0, rfl, fun i hs hi => by
        have := (List.getElem?_eq_some_iff.1 hi).1
        simp at this
        omega, hB⟩
    · refine ⟨_, c5, rfl, fun i hs hi => ?_, hB⟩
      have hi2 : i < us.length + us.length := by have := (List.getElem?_eq_some_iff.1 hi).1; simp at this; omega
      obtain ⟨u, hu⟩ : ∃ u, (us ++ us)[i]? = some u := ⟨_, List.getElem?_eq_getElem (by simp; omega)⟩
      obtain ⟨g6, c6, cs, e6, _, _, hb⟩ := hPP i _ hs hu hi
      exact ⟨g5, g6, 0, c6, rfl, by rw [hown.cellAt i (by omega), hu, e6], hb⟩
theorem segL {w : World} {k c : Nat} {p : Option Addr} {ls : List LEl} (h : LLIn w p ls) (hk : ls.length = k) (hpn : p = none → c = 0) : (Seg.mk p k c (ls.map LEl.v)).Ok w := by
  refine ⟨by show (ls.map LEl.v).length = k; simp [hk], fun j u hj => ?_, fun e => ⟨?_, hpn e⟩, fun u hu => ?_⟩
  · replace hj : (ls.map LEl.v)[j]? = some u := hj
    rw [List.getElem?_map] at hj
    obtain ⟨a, ha, rfl⟩ := Option.map_eq_some_iff.1 hj
    obtain ⟨b, o, rfl, hat⟩ := h (by have := (List.getElem?_eq_some_iff.1 ha).1; omega)
    exact ⟨b, o, rfl, (hat j a ha).1⟩
  · show k = 0
    rcases Nat.eq_zero_or_pos k with h0 | h0
    · exact h0
    · obtain ⟨b, o, e2, _⟩ := h (by omega)
      rw [show p = none from e] at e2
      cases e2
  · obtain ⟨a, _, rfl⟩ := List.mem_map.1 (show u ∈ ls.map LEl.v from hu)
    rfl
theorem twiceLL (k c : Nat) (p : Option Addr) (ls : List LEl) (w : World) (h : LLIn w p ls) (hk : ls.length = k) (hpn : p = none → c = 0) (hn : k ≤ 1000) (g c' : Nat) (h0 : w.cell? ⟨g, 0, none⟩ = some (.slice p k c)) (h1 : w.cell? ⟨g, 1, none⟩ = some (.slice p k c)) :
    Calls Tryz.prog 25 #[.slice (some ⟨g, 0, none⟩) 2 c'] w fun e w' => ∃ p5 c5, e = .returned (.slice p5 (k + k) c5) ∧ LLIn w' p5 (ls ++ ls) ∧ Below w.heap.size w w' := by
  have hok := segL h hk hpn
  refine (concatLL [⟨p, k, c, ls.map LEl.v⟩, ⟨p, k, c, ls.map LEl.v⟩] 2 rfl (by decide) (by simp [sumG]; omega) g c' w fun i s hi => ?_).mono ?_
  · match i, hi with
    | 0, hi => obtain rfl : (⟨p, k, c, ls.map LEl.v⟩ : Seg) = s := by simpa using hi
               exact ⟨h0, hok⟩
    | 1, hi => obtain rfl : (⟨p, k, c, ls.map LEl.v⟩ : Seg) = s := by simpa using hi
               exact ⟨h1, hok⟩
  · rintro e w' ⟨v, rfl, hown, hB⟩
    have e1 : sumG [⟨p, k, c, ls.map LEl.v⟩, ⟨p, k, c, ls.map LEl.v⟩] = k + k := by simp [sumG]
    have e2 : catG [⟨p, k, c, ls.map LEl.v⟩, ⟨p, k, c, ls.map LEl.v⟩] = (ls ++ ls).map LEl.v := by simp [catG]
    rw [e1, e2] at hown
    have h' := h.below hB
    rcases id hown.2 with ⟨rfl, h0⟩ | ⟨g5, c5, cur, rfl, _⟩
    · rw [h0]
      exact ⟨none, 0, rfl, fun hl => by simp at hl; omega, hB⟩
    · refine ⟨_, c5, rfl, fun hl => ⟨g5, 0, rfl, fun i a hi => ?_⟩, hB⟩
      have hi2 := (List.getElem?_eq_some_iff.1 hi).1
      rw [List.length_append] at hi2
      have hm : a ∈ ls := by
        have := List.mem_of_getElem? hi
        simpa using this
      obtain ⟨j, hj⟩ := List.getElem?_of_mem hm
      obtain ⟨b, o, rfl, hat⟩ := h' (List.length_pos_of_mem hm)
      refine ⟨?_, (hat j a hj).2⟩
      rw [Nat.zero_add, hown.cellAt i (by omega), List.getElem?_map, hi]
      rfl
/-- What addresses tell: the peers, or nothing. -/
def Told (L : List Adr) (ok : Bool) (I : List (List Int × List Adr)) : Prop := (ok = true ∧ (∀ hs ∈ L, ends6 hs) ∧ IsInfos L I) ∨ (ok = false ∧ (∃ hs ∈ L, ¬ ends6 hs) ∧ I = [])
theorem Told.one {L : List Adr} {ok ok' : Bool} {I I' : List (List Int × List Adr)} (h : Told L ok I) (h' : Told L ok' I') : ok' = ok ∧ I' = I := by
  rcases h with ⟨rfl, a1, a2⟩ | ⟨rfl, ⟨x, a1, a2⟩, a3⟩ <;> rcases h' with ⟨rfl, b1, b2⟩ | ⟨rfl, ⟨y, b1, b2⟩, b3⟩
  · exact ⟨rfl, infos_eq b2 a2⟩
  · exact absurd (a1 y b1) b2
  · exact absurd (b1 x a1) a2
  · exact ⟨rfl, b3.trans a3.symm⟩
theorem Told.twice {L : List Adr} {ok : Bool} {I : List (List Int × List Adr)} (h : Told L ok I) : Told (L ++ L) ok (I.map fun x => (x.1, x.2 ++ x.2)) := by
  rcases h with ⟨rfl, a1, a2⟩ | ⟨rfl, ⟨x, a1, a2⟩, rfl⟩
  · exact .inl ⟨rfl, fun hs hh => by rw [List.mem_append, or_self] at hh; exact a1 hs hh, infos_twice a2⟩
  · exact .inr ⟨rfl, ⟨x, by simp [a1], a2⟩, rfl⟩
theorem infos_len {L : List Adr} {I : List (List Int × List Adr)} (h : IsInfos L I) : I.length ≤ L.length := by
  have h1 := nodup_le (I.map (·.1)) (L.map lastId) (List.pairwise_map.2 (h.1.imp fun {a b} hab e => by
    unfold infoLt at hab
    rw [e, cmpL_self] at hab
    omega)) (fun x hx => by
      obtain ⟨⟨id, ts⟩, hy, rfl⟩ := List.mem_map.1 hx
      obtain ⟨hs, h1, h2⟩ := Fof_mem (L := L) (id := id) (by rw [(h.2 id ts).1 hy]; simp)
      exact List.mem_map.2 ⟨hs, h1, h2⟩)
  simpa using h1
theorem Told.len {L : List Adr} {ok : Bool} {I : List (List Int × List Adr)} (h : Told L ok I) : I.length ≤ L.length ∧ ∀ x ∈ I, x.2.length ≤ L.length := by
  rcases h with ⟨rfl, a1, a2⟩ | ⟨rfl, _, rfl⟩
  · refine ⟨infos_len a2, fun x hx => ?_⟩
    have h1 := Fof_len L x.1
    rw [(a2.2 x.1 x.2).1 hx] at h1
    simpa using h1
  · exact ⟨Nat.zero_le _, fun x hx => by cases hx⟩
def ITold (L : List Adr) (w : World) (e : Ending) (w' : World) : Prop := ∃ v ok I, e = .returned (.tuple #[v, .bool ok]) ∧ RowQ 32 (PlainI w.heap.size) w' w.heap.size v I ∧ Told L ok I ∧ Below w.heap.size w w'
theorem implTold (L : List Adr) (hL : ∀ hs ∈ L, AdrOk hs) (p : Option Addr) (n c : Nat) (w : World) (hn : L.length = n) (hn1 : n ≤ 1000) (hin : ListIn w p L) (hT : Tab w) (hE : ErrV w) :
    Calls Tryz.prog 23 #[.slice p n c] w (ITold L w) := by
  refine (implInfos L hL p n c w hn hn1 hin hT hE).mono ?_
  rintro e w' ⟨hB, ⟨h6, v, I, rfl, hI, hr⟩ | ⟨hx, rfl⟩⟩
  · exact ⟨v, true, I, rfl, hr, .inl ⟨rfl, h6, hI⟩, hB⟩
  · exact ⟨_, false, [], rfl, RowQ.nil _ _ _ _, .inr ⟨rfl, hx, rfl⟩, hB⟩
theorem adrs_app (f : List Int → List Int) (ls ms : List LEl) : adrs f (ls ++ ms) = adrs f ls ++ adrs f ms := List.map_append
set_option maxHeartbeats 16000000 in
set_option maxRecDepth 100000 in
theorem lawTwice (f : List Int → List Int) (hf : ShaIs f) (p : Option Addr) (c k : Nat) (ls : List LEl) (hk : ls.length = k) (_hkc : k ≤ c) (hcm : c ≤ 9223372036854775807 ∧ (p = none → c = 0)) (w : World) (hb : LLIn w p ls) (hT : Tab w) (hE : ErrV w) :
    Calls Tryz.prog 4 #[.slice p k c] w fun e w' => e = .returned (.bool true) ∧ Below w.heap.size w w' := by
  have HB := Lib.hid (And.intro hb (And.intro hf (And.intro hT (And.intro hk (And.intro hE (And.intro hcm.2 (show k ≤ 9223372036854775807 by omega)))))))
  have awake : ∀ (wx : World), Below w.heap.size w wx → Calls Tryz.prog 13 #[] wx fun e w' => e = .returned (.bool true) ∧ Below w.heap.size w w' := fun wx hx => (addrAwake f hf wx (hT.below hx)).mono fun e w' ⟨he, hB⟩ => ⟨he, hx.trans (hB.mono hx.size)⟩
  have HW := Lib.hid awake
  clear hb hf hT hk hE awake hcm
  go_enter Tryz.func4, Tryz.ntmps4
  go_wp2_with fail
  refine (zzFits3 p c k ls HB.out.2.2.2.1 w HB.out.1).mono ?_
  rintro e w1 ⟨r, rfl, hB1⟩
  have H1 := Lib.hid hB1
  clear hB1
  cases r with
  | false =>
    go_wp2_with fail
    go_ret
    exact ⟨rfl, H1.out⟩
  | true =>
    go_wp2_with fail
    refine (addrShortL p c k ls HB.out.2.2.2.1 HB.out.2.2.2.2.2.2 w1 (HB.out.1.below H1.out)).mono ?_
    rintro e w2 ⟨r, rfl, hB2, hr⟩
    have H2 := Lib.hid (And.intro (H1.out.trans (hB2.mono H1.out.size)) hr)
    clear hB2 hr
    cases r with
    | false =>
      go_wp2_with fail
      refine (HW.out _ H2.out.1).mono ?_
      rintro e w3 ⟨rfl, hB3⟩
      go_wp2_with fail
      go_ret
      exact ⟨rfl, hB3⟩
    | true =>
      by_cases hk3 : 30 < k
      · have h31 : decide (30 < k) = true := by rw [decide_eq_true_iff]; exact hk3
        have h32 : decide ((30 : Int) < (k : Int)) = true := by rw [decide_eq_true_iff]; omega
        go_wp2_with fail
        refine (HW.out _ H2.out.1).mono ?_
        rintro e w3 ⟨rfl, hB3⟩
        go_wp2_with fail
        go_ret
        exact ⟨rfl, hB3⟩
      have h31 : decide (30 < k) = false := by rw [decide_eq_false_iff_not]; exact hk3
      have h32 : decide ((30 : Int) < (k : Int)) = false := by rw [decide_eq_false_iff_not]; omega
      obtain ⟨_, hsh⟩ := H2.out.2 rfl
      have hk30 : k ≤ 30 := by omega
      have HS := Lib.hid hsh
      clear hsh
      go_wp2_with fail
      refine (addrList f HB.out.2.1 p c k ls HB.out.2.2.2.1 (by omega) HS.out w2 (HB.out.1.below H2.out.1)).mono ?_
      rintro e w3 ⟨v, rfl, hrow, hB3⟩
      obtain ⟨p3, c3, rfl, _⟩ := RowP.slice hrow
      have hal : (adrs f ls).length = k := by unfold adrs; rw [List.length_map]; exact HB.out.2.2.2.1
      rw [hal] at hrow ⊢
      have hw3 := H2.out.1.trans (hB3.mono H2.out.1.size)
      have hok : ∀ x ∈ adrs f ls, AdrOk x := adrs_ok HB.out.2.1 HB.out.1 HS.out
      have hin := implTold (adrs f ls) hok p3 k c3 w3 hal (by omega) (BRow.list hrow) (HB.out.2.2.1.below hw3) (HB.out.2.2.2.2.1.below hw3)
      have H3 := Lib.hid (And.intro hin (And.intro hw3 (And.intro hok hal)))
      clear hin hw3 hok hal hrow hB3
      go_wp2_with fail
      refine H3.out.1.mono ?_
      rintro e w4 ⟨va, ok, I, rfl, hrI, htI, hB4⟩
      have hw4 := H3.out.2.1.trans (hB4.mono H3.out.2.1.size)
      have hb4 : Below w4.heap.size w4 (w4.alloc (.cells #[.slice p k c, .slice p k c] 42)) := (Below.refl _ _).alloc (Nat.le_refl _) _
      have hcat := twiceLL k c p ls _ ((HB.out.1.below hw4).below hb4) HB.out.2.2.2.1 HB.out.2.2.2.2.2.1 (by omega) w4.heap.size 2 (World.cell?_alloc_mark w4 _ _ _ 0) (World.cell?_alloc_mark w4 _ _ _ 1)
      have H4 := Lib.hid (And.intro hrI (And.intro htI (And.intro hw4 (And.intro hcat hb4))))
      clear hrI htI hw4 hcat hb4 hB4
      go_wp2_with fail
      refine H4.out.2.2.2.1.mono ?_
      rintro e w5 ⟨p5, c5, rfl, hl5, hB5⟩
      have h45 := H4.out.2.2.2.2.trans (hB5.mono H4.out.2.2.2.2.size)
      have hw5 := H4.out.2.2.1.trans (h45.mono H4.out.2.2.1.size)
      have hsh2 : ∀ a ∈ ls ++ ls, Short a := fun a ha => by rw [List.mem_append, or_self] at ha; exact HS.out a ha
      have hal5 := addrList f HB.out.2.1 p5 c5 (k + k) (ls ++ ls) (by rw [List.length_append, HB.out.2.2.2.1]) (by omega) hsh2 w5 hl5
      have H5 := Lib.hid (And.intro hal5 (And.intro h45 hw5))
      clear hal5 h45 hw5 hsh2 hl5 hB5
      go_wp2_with fail
      refine H5.out.1.mono ?_
      rintro e w6 ⟨v6, rfl, hrow6, hB6⟩
      obtain ⟨p6, c6, rfl, _⟩ := RowP.slice hrow6
      have hll : (adrs f (ls ++ ls)).length = k + k := by rw [adrs_app, List.length_append, H3.out.2.2.2]
      have hw6 := H5.out.2.2.trans (hB6.mono H5.out.2.2.size)
      have h46 := H5.out.2.1.trans (hB6.mono H5.out.2.1.size)
      have hin6 := implTold (adrs f (ls ++ ls)) (fun x hx => by rw [adrs_app, List.mem_append, or_self] at hx; exact H3.out.2.2.1 x hx) p6 (k + k) c6 w6 hll (by omega) (BRow.list hrow6) (HB.out.2.2.1.below hw6) (HB.out.2.2.2.2.1.below hw6)
      rw [hll]
      have H6 := Lib.hid (And.intro hin6 (And.intro h46 hw6))
      clear hin6 h46 hw6 hll hrow6 hB6
      go_wp2_with fail
      refine H6.out.1.mono ?_
      rintro e w7 ⟨vb, ok', J, rfl, hrJ, htJ, hB7⟩
      have htt := H4.out.2.1.twice
      rw [← adrs_app] at htt
      obtain ⟨rfl, rfl⟩ := htt.one htJ
      have h47 := H6.out.2.1.trans (hB7.mono H6.out.2.1.size)
      have hrI := RowQ.below H4.out.1 h47 (fun _ _ h => h.below h47)
      obtain ⟨pa, ca, rfl, _⟩ := RowQ.slice hrI
      obtain ⟨pb, cb, rfl, _⟩ := RowQ.slice hrJ
      obtain ⟨hIl, hIt⟩ := H4.out.2.1.len
      rw [H3.out.2.2.2] at hIl hIt
      rw [List.length_map] at hrJ ⊢
      obtain ⟨m, hm⟩ : ∃ m, m = I.length := ⟨_, rfl⟩
      have HM := Lib.hid hm
      have H7 := Lib.hid (And.intro hrI (And.intro hrJ (And.intro trivial (And.intro (H6.out.2.2.trans (hB7.mono H6.out.2.2.size)) hIt))))
      rw [← hm] at hIl H7 ⊢
      clear htt htJ h47 hrI hrJ hm hB7 hIt
      cases ok' <;> go_wp2_with fail
      all_goals
        go_loopg [48] m (fun gk iv wr => ∃ (ds rs : List (List Int × List Adr)), I = ds ++ rs ∧ gk = rs.length ∧ iv = .int .i64 (ds.length : Int) ∧ Hid (Below w7.heap.size w7 wr))
        case atStart => exact ⟨[], I, rfl, HM.out, rfl, Below.refl _ _⟩
        case round =>
          obtain ⟨ds, rs, hds, rfl, rfl, hJ⟩ := hrel
          cases rs with
          | nil =>
            have hlt : ds.length = m := by rw [HM.out, hds, List.append_nil]
            have hl2 : decide (ds.length < m) = false := by rw [decide_eq_false_iff_not, hlt]; omega
            clear hds hlt
            go_wp2_with (go_at_call 13; refine (HW.out _ (H7.out.2.2.2.1.trans (hJ.out.mono H7.out.2.2.2.1.size))).mono ?_; rintro e wd ⟨rfl, hbD⟩)
            go_ret
            exact ⟨rfl, hbD⟩
          | cons r rs =>
            have hlt : ds.length < m := by rw [HM.out, hds]; simp
            have hl2 : decide (ds.length < m) = true := by rw [decide_eq_true_iff]; omega
            obtain ⟨ga, rfl⟩ : ∃ g, pa = some ⟨g, 0, none⟩ := by
              rcases RowQ.form H7.out.1 with ⟨_, e⟩ | ⟨g, c', e, _⟩
              · rw [hds] at e; simp at e
              · injection e with e; exact ⟨g, e⟩
            obtain ⟨gb, rfl⟩ : ∃ g, pb = some ⟨g, 0, none⟩ := by
              rcases RowQ.form H7.out.2.1 with ⟨_, e⟩ | ⟨g, c', e, _⟩
              · rw [hds] at e; simp at e
              · injection e with e; exact ⟨g, e⟩
            obtain ⟨id, ts⟩ := r
            obtain ⟨⟨a1, a2⟩, ⟨ha0, ha1⟩, hpa⟩ := RowQ.at H7.out.1 ds.length (id, ts) (by rw [hds]; simp)
            obtain ⟨⟨b1, b2⟩, ⟨hb0, hb1⟩, hpb⟩ := RowQ.at H7.out.2.1 ds.length (id, ts ++ ts) (by rw [List.getElem?_map, hds]; simp)
            obtain ⟨g1, c1, cs1, rfl, _, _, hbs1⟩ : BV _ _ a1 id := hpa.1
            obtain ⟨g3, c3', cs3, rfl, _, _, hbs3⟩ : BV _ _ b1 id := hpb.1
            have hra : BRow w7 w3.heap.size a2 ts := hpa.2
            have hrb := hpb.2
            obtain ⟨p2, c2, rfl, _⟩ := RowP.slice hra
            obtain ⟨p4, c4, rfl, _⟩ : ∃ p c, b2 = .slice p (ts ++ ts).length c ∧ (ts ++ ts).length ≤ c := RowP.slice hrb
            have htn := H7.out.2.2.2.2 (id, ts) (by rw [hds]; simp)
            replace htn : ts.length ≤ k := htn
            replace ha0 := cB hJ.out ha0
            replace ha1 := cB hJ.out ha1
            replace hb0 := cB hJ.out hb0
            replace hb1 := cB hJ.out hb1
            obtain ⟨W1, hW1⟩ : ∃ W, W = wr.alloc (.cells #[.slice (some ⟨g1, 0, none⟩) id.length c1, .slice p2 ts.length c2] 32) := ⟨_, rfl⟩
            have hbr : Below wr.heap.size wr W1 := by rw [hW1]; exact (Below.refl _ _).alloc (Nat.le_refl _) _
            have x0 : W1.cell? ⟨wr.heap.size, 0, none⟩ = some (.slice (some ⟨g1, 0, none⟩) id.length c1) := by rw [hW1]; exact World.cell?_alloc_mark wr _ _ _ 0
            have x1 : W1.cell? ⟨wr.heap.size, 1, none⟩ = some (.slice p2 ts.length c2) := by rw [hW1]; exact World.cell?_alloc_mark wr _ _ _ 1
            have y0 := cB hbr hb0
            have y1 := cB hbr hb1
            have hb71 := hJ.out.trans (hbr.mono hJ.out.size)
            have hbc : Below W1.heap.size W1 (W1.drew.alloc (.cells #[.slice p2 ts.length c2, .slice p2 ts.length c2] 30)) := ((Below.refl _ _).drew).alloc (Nat.le_refl _) _
            have hcat := twiceBB w3.heap.size ts.length c2 p2 ts (W1.drew.alloc (.cells #[.slice p2 ts.length c2, .slice p2 ts.length c2] 30)) ((hra.below hb71).below hbc) (by omega) W1.heap.size 2 (World.cell?_alloc_mark W1.drew _ _ _ 0) (World.cell?_alloc_mark W1.drew _ _ _ 1)
            have hlb := (BRow.list hrb).below hb71
            have hC := Lib.hid (And.intro hcat (And.intro hbc (And.intro hlb (And.intro hb71 (And.intro (hbs1.below hb71) (And.intro (hbs3.below hb71) hds))))))
            rw [List.length_append] at y1 hb1
            clear hcat hbc hlb hb71 hbs1 hbs3 hra hrb hpa hpb hds hbr
            obtain ⟨K, hK⟩ : ∃ K, K = id.length := ⟨_, rfl⟩
            obtain ⟨n, hn⟩ : ∃ K, K = ts.length := ⟨_, rfl⟩
            rw [← hK] at ha0 hb0 x0 y0 hW1
            rw [← hn] at ha1 hb1 x1 y1 hC hW1 htn
            have HKN := Lib.hid (And.intro hK hn)
            clear hK hn
            go_upto_region 12 with fail
            rw [← hW1]
            obtain ⟨X, hX⟩ : ∃ X, X = wr.heap.size := ⟨_, rfl⟩
            rw [← hX] at x0 x1 ⊢
            clear hX hW1
            go_cut [76] (fun t76 wx => t76 = .bool false ∧ Hid (Below W1.heap.size W1 wx))
            case first =>
              go_region_held_law (fun w' => w'.cell? ⟨X, 0, none⟩ = some (.slice (some ⟨g1, 0, none⟩) K c1) ∧ w'.cell? ⟨X, 1, none⟩ = some (.slice p2 n c2) ∧ w'.cell? ⟨gb, ds.length * 2, none⟩ = some (.slice (some ⟨g3, 0, none⟩) K c3') ∧ w'.cell? ⟨gb, ds.length * 2 + 1, none⟩ = some (.slice p4 (n + n) c4))
                (first | exact ⟨x0, x1, y0, y1⟩ | exact ⟨cB hC.out.2.1 x0, cB hC.out.2.1 x1, cB hC.out.2.1 y0, cB hC.out.2.1 y1⟩ | exact ⟨cB hbX x0, cB hbX x1, cB hbX y0, cB hbX y1⟩)
                (first
                  | (go_at_call 17; refine (equalSame g3 c3' K g1 c1 id W1.drew HKN.out.1.symm (hC.out.2.2.2.2.2.1.below ((Below.refl W1.heap.size W1).drew)) (hC.out.2.2.2.2.1.below ((Below.refl W1.heap.size W1).drew))).mono ?_; rintro e wy ⟨rfl, rfl⟩; have hbX := (Below.refl W1.heap.size W1).drew)
                  | (go_at_call 27; refine hC.out.1.mono ?_; rintro e wy ⟨p5, c5, rfl, hl5, hBy⟩; have hbY : Below W1.heap.size W1 wy := hC.out.2.1.trans (hBy.mono hC.out.2.1.size); have hbX := hbY)
                  | (go_at_call 26; refine (equalRows p4 p5 (n + n) c4 c5 (ts ++ ts) wy (by rw [List.length_append, HKN.out.2]) (by omega) (hC.out.2.2.1.below hbY) hl5).mono ?_; rintro e wz ⟨rfl, rfl⟩; have hbX := hbY))
              all_goals
                go_wp2_with fail
                go_meet
                case rel => exact ⟨rfl, hbX⟩
            case rest =>
              obtain ⟨rfl, hI⟩ := hcut
              go_wp2_with fail
              go_roundg rs.length
              case measure => simp
              case rel => exact ⟨ds ++ [(id, ts)], rs, by rw [hC.out.2.2.2.2.2.2, List.append_assoc]; rfl, rfl, by simp, hC.out.2.2.2.1.trans (hI.out.mono hC.out.2.2.2.1.size)⟩
end Go.Proofs.YtapkmoakbfpkeaaGreatDoor
namespace Go.Proofs.YtapkmoakbfpkeaaGreatDoor
open Go Go.RowKit Go.Proofs Go.Sort
theorem compareEntry (g1 o1 n1 c1 g2 o2 n2 c2 : Nat) (xs ys : List Int) (w : World) (hn1 : xs.length = n1) (hn2 : ys.length = n2) (hu : U8 xs) (hv : U8 ys) (h1 : Bs w g1 o1 xs) (h2 : Bs w g2 o2 ys) :
    (Extern.BytealgCompare.compare #[.slice (some ⟨g1, o1, none⟩) n1 c1, .slice (some ⟨g2, o2, none⟩) n2 c2]).run Tryz.prog w = .ok (.int .i64 (cmpL xs ys)) w := by
  have each : ∀ (g o : Nat) (zs : List Int), Bs w g o zs → (Extern.Bytes.loadBytes ⟨g, o, none⟩ zs.length .empty).run Tryz.prog w = .ok (strOfNums zs) w := fun g o zs hb => by
    have h := Lib.run_loadBytesX (P := Tryz.prog) w zs ⟨g, o, none⟩ .empty (fun j x hj => by
      have hj2 := (List.getElem?_eq_some_iff.1 hj).1
      rw [Lib.add_plain, hb j hj2, List.getD_eq_getElem?_getD, hj]
      rfl)
    rw [h]
    congr 1
    apply ByteArray.ext
    simp [strOfNums, Lib.bytesOf]
  have l1 := each g1 o1 xs h1
  have l2 := each g2 o2 ys h2
  subst hn1 hn2
  change Sem.run Tryz.prog (do pure (goInt (Extern.BytealgCompare.cmp (← Extern.Bytes.bytesOf (.slice (some ⟨g1, o1, none⟩) xs.length c1)) (← Extern.Bytes.bytesOf (.slice (some ⟨g2, o2, none⟩) ys.length c2))))) w = _
  simp only [Extern.Bytes.bytesOf, Sem.run_bind, l1, l2, Sem.run_pure, Result.andThen]
  rw [Lib.cmp_eq, cmpL_bytes xs ys hu hv]
  rfl
set_option maxRecDepth 100000 in
theorem bytesCompare (g1 o1 n1 c1 g2 o2 n2 c2 : Nat) (xs ys : List Int) (w : World) (hn1 : xs.length = n1) (hn2 : ys.length = n2) (hu : U8 xs) (hv : U8 ys) (h1 : Bs w g1 o1 xs) (h2 : Bs w g2 o2 ys) :
    Calls Tryz.prog 35 #[.slice (some ⟨g1, o1, none⟩) n1 c1, .slice (some ⟨g2, o2, none⟩) n2 c2] w fun e w' => e = .returned (.int .i64 (cmpL xs ys)) ∧ w' = w := by
  have hce := compareEntry g1 o1 n1 c1 g2 o2 n2 c2 xs ys w hn1 hn2 hu hv h1 h2
  clear hn1 hn2 hu hv h1 h2
  go_enter Tryz.func35, Tryz.ntmps35
  go_wp2
  rw [run_callFunc_extern Tryz.func64 (by kernel_rfl) (by kernel_rfl) (by kernel_rfl) (e := Extern.BytealgCompare.compare) (by kernel_rfl), hce]
  simp only [Result.andThen]
  rw [Oper.upon_value]
  go_wp2
  go_ret
  exact ⟨rfl, rfl⟩
/-- The first place whose ID is not less. -/
def Pos (I : List (List Int × List Adr)) (id : List Int) (k : Nat) : Prop := k ≤ I.length ∧ (∀ (a : Nat) x, I[a]? = some x → a < k → cmpL x.1 id < 0) ∧ ∀ (a : Nat) x, I[a]? = some x → k ≤ a → 0 ≤ cmpL x.1 id
theorem Pos.take {I : List (List Int × List Adr)} {id : List Int} {k : Nat} (h : Pos I id k) : ∀ a ∈ I.take k, cmpL a.1 id < 0 := fun x hx => by
  obtain ⟨i, hi⟩ := List.getElem?_of_mem hx
  have hl := (List.getElem?_eq_some_iff.1 hi).1
  rw [List.length_take] at hl
  rw [List.getElem?_take_of_lt (by omega)] at hi
  exact h.2.1 i x hi (by omega)
theorem Pos.drop {I : List (List Int × List Adr)} {id : List Int} {k : Nat} (h : Pos I id k) : ∀ a ∈ I.drop k, 0 ≤ cmpL a.1 id := fun x hx => by
  obtain ⟨i, hi⟩ := List.getElem?_of_mem hx
  rw [List.getElem?_drop] at hi
  exact h.2.2 (k + i) x hi (by omega)
theorem infos_new {L : List Adr} {I A C : List (List Int × List Adr)} {hs : Adr} {id : List Int} (h : IsInfos L I) (hI : I = A ++ C) (hA : ∀ a ∈ A, cmpL a.1 id < 0) (hC : ∀ c ∈ C, 0 < cmpL c.1 id) (hid : lastId hs = id) : IsInfos (L ++ [hs]) (A ++ (id, wayOf hs) :: C) := by
  subst hI
  have hne : ∀ x ∈ A ++ C, x.1 ≠ id := fun x hx e => by
    rcases List.mem_append.1 hx with hx | hx
    · have := hA x hx; rw [e, cmpL_self] at this; omega
    · have := hC x hx; rw [e, cmpL_self] at this; omega
  obtain ⟨hp, hm⟩ := h
  rw [List.pairwise_append] at hp
  refine ⟨List.pairwise_append.2 ⟨hp.1, List.pairwise_cons.2 ⟨fun c hc => ?_, hp.2.1⟩, fun a ha c hc => ?_⟩, fun i t => ?_⟩
  · show cmpL id c.1 < 0
    have := hC c hc
    have := cmpL_swap c.1 id
    omega
  · rcases List.mem_cons.1 hc with rfl | hc
    · exact hA a ha
    · exact hp.2.2 a ha c hc
  · rw [Fof_snoc]
    by_cases e : lastId hs = i
    · rw [if_pos e]
      have hn : Fof L i = none := by
        cases hf : Fof L i with
        | none => rfl
        | some ts => exact absurd (e.symm.trans hid) (hne (i, ts) ((hm i ts).2 hf))
      rw [hn]
      have hei : i = id := e.symm.trans hid
      constructor
      · intro hx
        rcases List.mem_append.1 hx with hx | hx
        · exact absurd hei (hne (i, t) (List.mem_append_left _ hx))
        · rcases List.mem_cons.1 hx with hx | hx
          · simp only [Prod.mk.injEq] at hx
            rw [hx.2]; rfl
          · exact absurd hei (hne (i, t) (List.mem_append_right _ hx))
      · intro hx
        have hx2 : wayOf hs = t := by simpa using hx
        rw [← hx2, hei]
        simp
    · rw [if_neg e, ← hm i t]
      have hni : i ≠ id := fun e2 => e (hid.trans e2.symm)
      simp [hni]
theorem infos_hit {L : List Adr} {I A C : List (List Int × List Adr)} {hs : Adr} {id : List Int} {ts : List Adr} (h : IsInfos L I) (hI : I = A ++ (id, ts) :: C) (hid : lastId hs = id) : IsInfos (L ++ [hs]) (A ++ (id, ts ++ wayOf hs) :: C) := by
  subst hI
  obtain ⟨hp, hm⟩ := h
  have hts : Fof L id = some ts := (hm id ts).1 (by simp)
  rw [List.pairwise_append, List.pairwise_cons] at hp
  have hneA : ∀ x ∈ A, x.1 ≠ id := fun x hx e => by
    have := hp.2.2 x hx (id, ts) (by simp)
    unfold infoLt at this
    rw [e, cmpL_self] at this; omega
  have hneC : ∀ x ∈ C, x.1 ≠ id := fun x hx e => by
    have := hp.2.1.1 x hx
    unfold infoLt at this
    rw [e, cmpL_self] at this; omega
  refine ⟨List.pairwise_append.2 ⟨hp.1, List.pairwise_cons.2 ⟨fun c hc => hp.2.1.1 c hc, hp.2.1.2⟩, fun a ha c hc => ?_⟩, fun i t => ?_⟩
  · rcases List.mem_cons.1 hc with rfl | hc
    · exact hp.2.2 a ha (id, ts) (by simp)
    · exact hp.2.2 a ha c (by simp [hc])
  · rw [Fof_snoc]
    by_cases e : lastId hs = i
    · obtain rfl : i = id := e.symm.trans hid
      rw [if_pos e, hts]
      constructor
      · intro hx
        rcases List.mem_append.1 hx with hx | hx
        · exact absurd rfl (hneA _ hx)
        · rcases List.mem_cons.1 hx with hx | hx
          · simp only [Prod.mk.injEq] at hx
            rw [hx.2]; rfl
          · exact absurd rfl (hneC _ hx)
      · intro hx
        have hx2 : ts ++ wayOf hs = t := by simpa using hx
        rw [← hx2]
        simp
    · rw [if_neg e, ← hm i t]
      have hni : i ≠ id := fun e2 => e (hid.trans e2.symm)
      simp [hni]
theorem drop_cons {I : List (List Int × List Adr)} {k : Nat} {x : List Int × List Adr} (h : I[k]? = some x) : I.drop k = x :: I.drop (k + 1) := by
  obtain ⟨hk, rfl⟩ := List.getElem?_eq_some_iff.1 h
  exact List.drop_eq_getElem_cons hk
/-- The peer is at its place, or nowhere. -/
theorem Pos.hit {L : List Adr} {I : List (List Int × List Adr)} {id : List Int} {k : Nat} (h : IsInfos L I) (hp : Pos I id k) {x : List Int × List Adr} (hx : I[k]? = some x) (he : cmpL x.1 id = 0) {hs : Adr} (hid : lastId hs = id) : x = (id, x.2) ∧ IsInfos (L ++ [hs]) (I.take k ++ (id, x.2 ++ wayOf hs) :: I.drop (k + 1)) := by
  obtain ⟨i, t⟩ := x
  obtain rfl : i = id := cmpL_zero _ _ he
  exact ⟨rfl, infos_hit h (by rw [← drop_cons hx]; exact (List.take_append_drop k I).symm) hid⟩
theorem Pos.miss {L : List Adr} {I : List (List Int × List Adr)} {id : List Int} {k : Nat} (h : IsInfos L I) (hp : Pos I id k) (hx : ∀ x, I[k]? = some x → cmpL x.1 id ≠ 0) {hs : Adr} (hid : lastId hs = id) : IsInfos (L ++ [hs]) (I.take k ++ (id, wayOf hs) :: I.drop k) := by
  refine infos_new h (List.take_append_drop k I).symm hp.take (fun c hc => ?_) hid
  have h0 := hp.drop c hc
  obtain ⟨i, hi⟩ := List.getElem?_of_mem hc
  rw [List.getElem?_drop] at hi
  cases i with
  | zero => have := hx c hi; omega
  | succ i =>
    have hl := (List.getElem?_eq_some_iff.1 hi).1
    have hk : I[k]? = some I[k] := List.getElem?_eq_getElem (by omega)
    have h1 := hp.2.2 k _ hk (Nat.le_refl _)
    have h2 := hx _ hk
    have h3 := (List.pairwise_iff_getElem.1 h.1) k (k + (i + 1)) (by omega) hl (by omega)
    have h4 : I[k + (i + 1)] = c := (List.getElem?_eq_some_iff.1 hi).2
    rw [h4] at h3
    unfold infoLt at h3
    have s1 := cmpL_swap I[k].1 c.1
    have s2 := cmpL_swap c.1 id
    have s3 := cmpL_swap I[k].1 id
    by_cases e : cmpL c.1 id = 0
    · have e2 := cmpL_zero _ _ e
      rw [e2] at h3
      omega
    · omega
end Go.Proofs.YtapkmoakbfpkeaaGreatDoor
namespace Go.Proofs.YtapkmoakbfpkeaaGreatDoor
open Go Go.RowKit Go.Proofs Go.Sort
set_option maxRecDepth 100000 in
theorem cmpPeer (g1 o1 n1 c1 : Nat) (p2 : Option Addr) (n2 c2 g o m c : Nat) (xs ys : List Int) (W : World) (hn1 : xs.length = n1) (hm : ys.length = m) (hu : U8 xs) (hv : U8 ys) (h1 : Bs W g1 o1 xs) (h2 : Bs W g o ys) :
    Calls Tryz.prog 60 #[.agg #[.slice (some ⟨g1, o1, none⟩) n1 c1, .slice p2 n2 c2], .slice (some ⟨g, o, none⟩) m c] W fun e w' => e = .returned (.int .i64 (cmpL xs ys)) ∧ Below W.heap.size W w' := by
  have hB : Below W.heap.size W (W.alloc (.cells #[.slice (some ⟨g1, o1, none⟩) n1 c1, .slice p2 n2 c2] 32)) := (Below.refl _ _).alloc (Nat.le_refl _) _
  have hbc := bytesCompare g1 o1 n1 c1 g o m c xs ys _ hn1 hm hu hv (h1.below hB) (h2.below hB)
  have HC := Lib.hid (And.intro hbc hB)
  obtain ⟨r, hr⟩ : ∃ r, r = cmpL xs ys := ⟨_, rfl⟩
  rw [← hr] at HC ⊢
  clear hbc hB hn1 hm hu hv h1 h2 hr
  go_enter Tryz.func60, Tryz.ntmps60
  go_wp2_with (go_at_call 35; refine HC.out.1.mono ?_; rintro e w' ⟨rfl, rfl⟩)
  go_ret
  exact ⟨rfl, HC.out.2⟩
def SeekQ (I : List (List Int × List Adr)) (id : List Int) (w : World) (e : Ending) (w' : World) : Prop :=
  ∃ (k : Nat) (is : Bool), e = .returned (.tuple #[.int .i64 (k : Int), .bool is]) ∧ Pos I id k ∧ (is = true → ∃ x, I[k]? = some x ∧ cmpL x.1 id = 0) ∧ (is = false → ∀ x, I[k]? = some x → cmpL x.1 id ≠ 0) ∧ Below w.heap.size w w'
theorem cmp_mono {I : List (List Int × List Adr)} (hs : I.Pairwise infoLt) {id : List Int} {a b : Nat} {x y : List Int × List Adr} (hx : I[a]? = some x) (hy : I[b]? = some y) (hab : a ≤ b) : (cmpL y.1 id < 0 → cmpL x.1 id < 0) ∧ (0 ≤ cmpL x.1 id → 0 ≤ cmpL y.1 id) := by
  rcases Nat.lt_or_eq_of_le hab with h | rfl
  · obtain ⟨ha, rfl⟩ := List.getElem?_eq_some_iff.1 hx
    obtain ⟨hb, rfl⟩ := List.getElem?_eq_some_iff.1 hy
    have h3 := (List.pairwise_iff_getElem.1 hs) a b ha hb h
    unfold infoLt at h3
    have h4 : cmpL I[b].1 id < 0 → cmpL I[a].1 id < 0 := fun h5 => cmpL_trans _ _ _ h3 h5
    exact ⟨h4, fun h5 => Int.not_lt.1 fun h6 => by have := h4 h6; omega⟩
  · rw [hx] at hy
    obtain rfl := Option.some.inj hy
    exact ⟨fun h => h, fun h => h⟩
set_option maxHeartbeats 1600000 in
set_option maxRecDepth 100000 in
theorem seekPeer (B : Nat) (p : Option Addr) (n c : Nat) (I : List (List Int × List Adr)) (hn : I.length = n) (hn1 : n ≤ 1000) (w : World) (hrow : RowQ 32 (PlainI B) w B (.slice p n c) I) (hs : I.Pairwise infoLt) (hU : ∀ x ∈ I, U8 x.1)
    (g o m c2 : Nat) (id : List Int) (hm : id.length = m) (hid : U8 id) (hb : Bs w g o id) :
    Calls Tryz.prog 59 #[.slice p n c, .slice (some ⟨g, o, none⟩) m c2, .func (.func 60) #[] #[]] w (SeekQ I id w) := by
  have HB := Lib.hid (And.intro hrow (And.intro hs (And.intro hU (And.intro hm (And.intro hid (And.intro hb hn))))))
  clear hrow hs hU hm hid hb hn
  go_enter Tryz.func59, Tryz.ntmps59
  go_wp2_with fail
  go_loopg [9, 10] n (fun gk iv jv wr => ∃ i j : Nat, i ≤ j ∧ j ≤ n ∧ gk = j - i ∧ iv = .int .i64 (i : Int) ∧ jv = .int .i64 (j : Int) ∧ Hid ((∀ (a : Nat) x, I[a]? = some x → a < i → cmpL x.1 id < 0) ∧ (∀ (a : Nat) x, I[a]? = some x → j ≤ a → 0 ≤ cmpL x.1 id) ∧ Below w.heap.size w wr))
  case atStart => exact ⟨0, n, Nat.zero_le _, Nat.le_refl _, rfl, rfl, rfl, fun a x _ h => absurd h (Nat.not_lt_zero _), fun a x hx h => absurd (List.getElem?_eq_some_iff.1 hx).1 (by rw [HB.out.2.2.2.2.2.2]; omega), Below.refl _ _⟩
  case round =>
    obtain ⟨i, j, hij, hjn, rfl, rfl, rfl, hI⟩ := hrel
    by_cases hlt : i < j
    · have hl2 : decide (i < j) = true := by rw [decide_eq_true_iff]; exact hlt
      obtain ⟨h, hh⟩ : ∃ h, h = (i + j) / 2 := ⟨_, rfl⟩
      have hmid : ((i : Int) + (j : Int)) / 2 = (h : Int) := by omega
      have hb1 : i ≤ h := by omega
      have hb2 : h < j := by omega
      clear hh
      obtain ⟨x, hx⟩ : ∃ x, I[h]? = some x := ⟨_, List.getElem?_eq_getElem (by rw [HB.out.2.2.2.2.2.2]; omega)⟩
      obtain ⟨gI, rfl⟩ : ∃ gI, p = some ⟨gI, 0, none⟩ := by
        rcases RowQ.form HB.out.1 with ⟨_, e⟩ | ⟨gI, c', e, _⟩
        · rw [e] at hx; simp at hx
        · injection e with e; exact ⟨gI, e⟩
      obtain ⟨⟨u1, u2⟩, ⟨hc0, hc1⟩, hpl⟩ := RowQ.at HB.out.1 h x hx
      obtain ⟨g1, c1, cs1, rfl, _, _, hbs⟩ : BV _ _ u1 x.1 := hpl.1
      obtain ⟨p2, c3, rfl, _⟩ := RowP.slice (show BRow _ _ u2 x.2 from hpl.2)
      replace hc0 := cB hI.out.2.2 hc0
      replace hc1 := cB hI.out.2.2 hc1
      obtain ⟨n1, hn1'⟩ : ∃ n, n = x.1.length := ⟨_, rfl⟩
      obtain ⟨n2, hn2'⟩ : ∃ n, n = x.2.length := ⟨_, rfl⟩
      rw [← hn1'] at hc0
      rw [← hn2'] at hc1
      have hcp := cmpPeer g1 0 n1 c1 p2 n2 c3 g o m c2 x.1 id wr hn1'.symm HB.out.2.2.2.1 (HB.out.2.2.1 x (List.mem_of_getElem? hx)) HB.out.2.2.2.2.1 (hbs.below hI.out.2.2) (HB.out.2.2.2.2.2.1.below hI.out.2.2)
      obtain ⟨r, hr⟩ : ∃ r, r = cmpL x.1 id := ⟨_, rfl⟩
      rw [← hr] at hcp
      have HP := Lib.hid (And.intro hcp (And.intro hx hr))
      clear hcp hx hr hpl hbs hn1' hn2'
      by_cases hr : r < 0
      · have hr1 : decide (r < 0) = true := by rw [decide_eq_true_iff]; exact hr
        go_wp2_with (go_at_call 60; refine HP.out.1.mono ?_; rintro e w1 ⟨rfl, hB1⟩)
        go_roundg (j - (h + 1))
        case measure => omega
        case rel =>
          refine ⟨h + 1, j, by omega, hjn, rfl, by simp, rfl, fun a y hy ha => ?_, hI.out.2.1, hI.out.2.2.trans (hB1.mono hI.out.2.2.size)⟩
          exact (cmp_mono HB.out.2.1 hy HP.out.2.1 (by omega)).1 (by rw [← HP.out.2.2]; exact hr)
      · have hr1 : decide (r < 0) = false := by rw [decide_eq_false_iff_not]; exact hr
        go_wp2_with (go_at_call 60; refine HP.out.1.mono ?_; rintro e w1 ⟨rfl, hB1⟩)
        go_roundg (h - i)
        case measure => omega
        case rel =>
          refine ⟨i, h, hb1, by omega, rfl, rfl, rfl, hI.out.1, fun a y hy ha => ?_, hI.out.2.2.trans (hB1.mono hI.out.2.2.size)⟩
          exact (cmp_mono HB.out.2.1 HP.out.2.1 hy ha).2 (by rw [← HP.out.2.2]; omega)
    · have hl2 : decide (i < j) = false := by rw [decide_eq_false_iff_not]; exact hlt
      obtain rfl : i = j := by omega
      have hpos : Pos I id i := ⟨by rw [HB.out.2.2.2.2.2.2]; exact hjn, hI.out.1, hI.out.2.1⟩
      have HQ := Lib.hid hpos
      clear hpos
      by_cases hin : i < n
      · have hin1 : decide (i < n) = true := by rw [decide_eq_true_iff]; exact hin
        obtain ⟨x, hx⟩ : ∃ x, I[i]? = some x := ⟨_, List.getElem?_eq_getElem (by rw [HB.out.2.2.2.2.2.2]; omega)⟩
        obtain ⟨gI, rfl⟩ : ∃ gI, p = some ⟨gI, 0, none⟩ := by
          rcases RowQ.form HB.out.1 with ⟨_, e⟩ | ⟨gI, c', e, _⟩
          · rw [e] at hx; simp at hx
          · injection e with e; exact ⟨gI, e⟩
        obtain ⟨⟨u1, u2⟩, ⟨hc0, hc1⟩, hpl⟩ := RowQ.at HB.out.1 i x hx
        obtain ⟨g1, c1, cs1, rfl, _, _, hbs⟩ : BV _ _ u1 x.1 := hpl.1
        obtain ⟨p2, c3, rfl, _⟩ := RowP.slice (show BRow _ _ u2 x.2 from hpl.2)
        replace hc0 := cB hI.out.2.2 hc0
        replace hc1 := cB hI.out.2.2 hc1
        obtain ⟨n1, hn1'⟩ : ∃ n, n = x.1.length := ⟨_, rfl⟩
        obtain ⟨n2, hn2'⟩ : ∃ n, n = x.2.length := ⟨_, rfl⟩
        rw [← hn1'] at hc0
        rw [← hn2'] at hc1
        have hcp := cmpPeer g1 0 n1 c1 p2 n2 c3 g o m c2 x.1 id wr hn1'.symm HB.out.2.2.2.1 (HB.out.2.2.1 x (List.mem_of_getElem? hx)) HB.out.2.2.2.2.1 (hbs.below hI.out.2.2) (HB.out.2.2.2.2.2.1.below hI.out.2.2)
        obtain ⟨r, hr⟩ : ∃ r, r = cmpL x.1 id := ⟨_, rfl⟩
        rw [← hr] at hcp
        have HP := Lib.hid (And.intro hcp (And.intro hx hr))
        clear hcp hx hr hpl hbs hn1' hn2'
        by_cases hr : r = 0
        · subst hr
          go_wp2_with (go_at_call 60; refine HP.out.1.mono ?_; rintro e w1 ⟨rfl, hB1⟩)
          go_ret2
          exact ⟨i, true, rfl, HQ.out, fun _ => ⟨x, HP.out.2.1, HP.out.2.2.symm⟩, fun h => (by cases h), hI.out.2.2.trans (hB1.mono hI.out.2.2.size)⟩
        · have hr1 : (r == 0) = false := by rw [beq_eq_false_iff_ne]; exact hr
          go_wp2_with (go_at_call 60; refine HP.out.1.mono ?_; rintro e w1 ⟨rfl, hB1⟩)
          go_ret2
          exact ⟨i, false, rfl, HQ.out, fun h => (by cases h), fun _ y hy => by
            rw [HP.out.2.1] at hy
            rw [← Option.some.inj hy, ← HP.out.2.2]
            exact hr, hI.out.2.2.trans (hB1.mono hI.out.2.2.size)⟩
      · have hin1 : decide (i < n) = false := by rw [decide_eq_false_iff_not]; exact hin
        go_wp2_with fail
        go_ret2
        exact ⟨i, false, rfl, HQ.out, fun h => (by cases h), fun _ y hy => absurd (List.getElem?_eq_some_iff.1 hy).1 (by rw [HB.out.2.2.2.2.2.2]; exact hin), hI.out.2.2⟩
end Go.Proofs.YtapkmoakbfpkeaaGreatDoor
namespace Go.Proofs.YtapkmoakbfpkeaaGreatDoor
open Go Go.RowKit Go.Proofs Go.Sort
/-- What spec.AddrInfo hands back. -/
def SInfo (A : Adr) (w : World) (e : Ending) (w' : World) : Prop :=
  Below w.heap.size w w' ∧ ((ends6 A ∧ ∃ g1 c1 p2 c2, e = .returned (.tuple #[.agg #[.slice (some ⟨g1, 0, none⟩) (lastId A).length c1, .slice p2 (wayOf A).length c2], .bool true]) ∧ PlainI w.heap.size w' (.slice (some ⟨g1, 0, none⟩) (lastId A).length c1, .slice p2 (wayOf A).length c2) (lastId A, wayOf A)) ∨
    (¬ ends6 A ∧ e = .returned (.tuple #[.agg #[.slice none 0 0, .slice none 0 0], .bool false])))
theorem bNil (a : Addr) (n c : Nat) (w : World) : (binOp .eql 23 (.slice (some a) n c) (.slice none 0 0)).run Tryz.prog w = .ok (.bool false) w := by
  have h := run_equal_slice_nil (P := Tryz.prog) w 23 _ (some a) n c Tryz.underlying23
  simp [binOp, h]
theorem bNil0 (w : World) : (binOp .eql 23 (.slice none 0 0) (.slice none 0 0)).run Tryz.prog w = .ok (.bool true) w := by
  have h := run_equal_slice_nil (P := Tryz.prog) w 23 _ none 0 0 Tryz.underlying23
  simp [binOp, h]
set_option maxHeartbeats 1600000 in
set_option maxRecDepth 100000 in
theorem specInfo (f : List Int → List Int) (hf : ShaIs f) (p : Option Addr) (c k : Nat) (l : List HIn) (hk : l.length = k) (hkc : k ≤ c) (hsh : 0 < k ∧ k ≤ 20 ∧ ∀ h ∈ l, h.s.n ≤ 100) (w : World) (hl : LIn w p l) :
    Calls Tryz.prog 58 #[.slice p k c] w (SInfo (l.map (hopOf f)) w) := by
  obtain ⟨b, o, rfl, hat⟩ := hl (by omega)
  have hAt : HAt w b o l := fun i h hi => ⟨(hat i h hi).1, (hat i h hi).2.1, (hat i h hi).2.2.1, (hat i h hi).2.2.2.1, (hat i h hi).2.2.2.2, hsh.2.2 h (List.mem_of_getElem? hi)⟩
  obtain ⟨init, ⟨K, q, m, cs, xs⟩, hli⟩ : ∃ init h, l = init ++ [h] := by
    rcases List.eq_nil_or_concat l with h0 | ⟨i, x, hx⟩
    · rw [h0] at hk; simp at hk; omega
    · exact ⟨i, x, by rw [hx, List.concat_eq_append]⟩
  obtain ⟨n, rfl⟩ : ∃ n, k = n + 1 := ⟨k - 1, by omega⟩
  have hin : init.length = n := by rw [hli] at hk; simpa using hk
  have hB0 : Below w.heap.size w (w.alloc (.cells #[.slice none 0 0, .slice none 0 0] 32)) := (Below.refl _ _).alloc (Nat.le_refl _) _
  have hr0 : (w.alloc (.cells #[.slice none 0 0, .slice none 0 0] 32)).heap[w.heap.size]? = some (.cells #[.slice none 0 0, .slice none 0 0] 32 (0, 0)) := heap_alloc_new _ _
  have hadr : l.map (hopOf f) = init.map (hopOf f) ++ [hopOf f ⟨K, ⟨q, m, cs, xs⟩⟩] := by rw [hli, List.map_append]; rfl
  have hoks := hAt.oks f hf
  rw [hadr] at hoks
  have hat0 := hAt.below hB0
  rw [hli] at hat0
  have hK0 : 0 ≤ K := (hat n ⟨K, ⟨q, m, cs, xs⟩⟩ (by rw [hli, ← hin]; simp)).2.2.1.1
  rw [hadr]
  by_cases h6 : K % 8 = 6
  · have hsp := specSplit6 f hf init K q m cs xs n hin (by omega) h6 b o c hkc _ hat0
    have hid := idB_len f hf xs
    have HS := Lib.hid (And.intro hsp (And.intro hB0 (And.intro hr0 (And.intro hoks h6))))
    clear hsp hat0 hAt hat hB0 hr0 hl hadr hoks h6 hli
    go_enter Tryz.func58, Tryz.ntmps58
    go_wp2_with fail
    obtain ⟨W0, hW0⟩ : ∃ W, W = w.alloc (.cells #[.slice none 0 0, .slice none 0 0] 32) := ⟨_, rfl⟩
    have hz0 : W0.heap.size = w.heap.size + 1 := by rw [hW0]; simp
    rw [← hW0] at HS ⊢
    clear hW0
    refine HS.out.1.mono ?_
    rintro e w1 ⟨v1, v2, rfl, hown1, hown2, hB1⟩
    have hbv2 : BV w1 W0.heap.size v2 (idB f xs) := BV.own hown2 (fun e => by rw [e] at hid; simp at hid)
    obtain ⟨g2, c2, cs2, rfl, _, _, _⟩ := id hbv2
    obtain ⟨p1, c1, rfl⟩ : ∃ p c, v1 = .slice p (addrB (init.map (hopOf f))).length c := by
      rcases hown1.2 with ⟨e, h0⟩ | ⟨g, cap, cur, e, _⟩
      · exact ⟨none, 0, by rw [e, h0]⟩
      · exact ⟨_, _, e⟩
    have hr1 := (hB1.block w.heap.size (by omega)).trans HS.out.2.2.1
    have hw1 := HS.out.2.1.trans (hB1.mono (by omega))
    have hz1 : w.heap.size + 1 ≤ w1.heap.size := by have := hB1.size; omega
    have hsix : hopOf f ⟨K, ⟨q, m, cs, xs⟩⟩ = (6, idB f xs) := hopOf6 f K _ HS.out.2.2.2.2
    have hlast : lastId (init.map (hopOf f) ++ [hopOf f ⟨K, ⟨q, m, cs, xs⟩⟩]) = idB f xs := by rw [lastId_snoc, hsix]
    have hends : ends6 (init.map (hopOf f) ++ [hopOf f ⟨K, ⟨q, m, cs, xs⟩⟩]) := by rw [ends6_snoc, hsix]
    have HQ := Lib.hid (And.intro hbv2 (And.intro hown1 (And.intro hr1 (And.intro hw1 (And.intro hlast hends)))))
    have hnb := fun w => bNil ⟨g2, 0, none⟩ (idB f xs).length c2 w
    obtain ⟨M, hM⟩ : ∃ M, M = (idB f xs).length := ⟨_, rfl⟩
    rw [← hM] at hnb ⊢
    have HM := Lib.hid hM
    clear hbv2 hown1 hown2 hr1 hw1 hB1 hlast hends hsix hM hid
    by_cases hi : init = []
    · have hT : (addrB (init.map (hopOf f))).length = 0 := by rw [hi]; rfl
      rw [hT]
      go_upto_region 7 with fail
      obtain ⟨W7, hW7⟩ : ∃ W, W = w1.alloc (.cells #[.slice (some ⟨g2, 0, none⟩) M c2, .slice none 0 0] 32) := ⟨_, rfl⟩
      have hb7 : Below w1.heap.size w1 W7 := by rw [hW7]; exact (Below.refl _ _).alloc (Nat.le_refl _) _
      have hX : W7.heap[w1.heap.size]? = some (.cells #[.slice (some ⟨g2, 0, none⟩) M c2, .slice none 0 0] 32 (0, 0)) := by rw [hW7]; exact heap_alloc_new _ _
      have hR := (hb7.block w.heap.size (by omega)).trans HQ.out.2.2.1
      rw [← hW7]
      clear hW7
      obtain ⟨⟨x0, x1⟩, _, _⟩ := two_cells hX
      obtain ⟨⟨r0, r1⟩, y0, y1⟩ := two_cells hR
      go_wp2_with fail
      obtain ⟨W9, hW9⟩ : ∃ W, W = (W7.setCell ⟨w.heap.size, 0, none⟩ (.slice (some ⟨g2, 0, none⟩) M c2)).setCell ⟨w.heap.size, 1, none⟩ (.slice none 0 0) := ⟨_, rfl⟩
      rw [← hW9]
      have hr9 : W9.heap[w.heap.size]? = some (.cells #[.slice (some ⟨g2, 0, none⟩) M c2, .slice none 0 0] 32 (0, 0)) := by rw [hW9]; exact two_set01 hR _ _
      have hK9 : Kept 32 W7 W9 := by
        rw [hW9]
        obtain ⟨cs', hcs⟩ := heap_atSet (w := W7) (b := w.heap.size) (o := 0) hR (.slice (some ⟨g2, 0, none⟩) M c2)
        exact Kept.trans (b := W7.setCell ⟨w.heap.size, 0, none⟩ (.slice (some ⟨g2, 0, none⟩) M c2)) (Kept.setCell (p := ⟨w.heap.size, 0, none⟩) hR _) (Kept.setCell (p := ⟨w.heap.size, 1, none⟩) hcs _)
      obtain ⟨⟨k0, k1⟩, _, _⟩ := two_cells hr9
      have hw9 : wayOf (init.map (hopOf f) ++ [hopOf f ⟨K, ⟨q, m, cs, xs⟩⟩]) = [] := by rw [wayOf_snoc, if_pos (by rw [hi]; rfl)]
      refine bodyPost_ret (v := .tuple #[.agg #[.slice (some ⟨g2, 0, none⟩) M c2, .slice none 0 0], .bool true]) (by simp [results, Tryz.results58, go_sem, k0, k1]) rfl ⟨?_, .inl ⟨HQ.out.2.2.2.2.2, g2, c2, none, 0, ?_, ?_⟩⟩
      · rw [hW9]
        exact (((HQ.out.2.2.2.1.trans (hb7.mono (by omega)))).setCell (Nat.le_refl _) _).setCell (Nat.le_refl _) _
      · rw [HQ.out.2.2.2.2.1, hw9, ← HM.out]; rfl
      · rw [HQ.out.2.2.2.2.1, hw9, ← HM.out]
        refine ⟨?_, RowP.nil _ _ _ _⟩
        have h := HQ.out.1
        rw [← HM.out] at h
        exact hK9.bv (by decide) ((h.below hb7).mono (by omega))
    · have hne : addrB (init.map (hopOf f)) ≠ [] := fun e => by
        have h := addrB_pos (init.map (hopOf f)) (fun x hx => HS.out.2.2.2.1 x (by simp [hx])) (fun e2 => hi (by simpa using e2))
        rw [e] at h; simp at h
      have hbv1 := BV.own HQ.out.2.1 hne
      obtain ⟨g1, c1', cs1, e1, _, _, _⟩ := id hbv1
      injection e1 with e1 _ e3
      subst e1 e3
      have hT0 : 0 < (addrB (init.map (hopOf f))).length := List.length_pos_iff.2 hne
      obtain ⟨T, hT⟩ : ∃ T, T = (addrB (init.map (hopOf f))).length := ⟨_, rfl⟩
      rw [← hT] at hT0 ⊢
      have HT := Lib.hid (And.intro hbv1 hT)
      have hT1 : decide (0 < T) = true := by rw [decide_eq_true_iff]; exact hT0
      have hT2 : decide ((0 : Int) < (T : Int)) = true := by rw [decide_eq_true_iff]; omega
      clear hbv1 hT hne
      go_upto_region 7 with fail
      obtain ⟨W7, hW7⟩ : ∃ W, W = (w1.alloc (.cells #[.slice (some ⟨g2, 0, none⟩) M c2, .slice (some ⟨w1.heap.size + 1, 0, none⟩) 1 1] 32)).alloc (.cells #[.slice (some ⟨g1, 0, none⟩) T c1] 23) := ⟨_, rfl⟩
      have hb1a : Below w1.heap.size w1 (w1.alloc (.cells #[.slice (some ⟨g2, 0, none⟩) M c2, .slice (some ⟨w1.heap.size + 1, 0, none⟩) 1 1] 32)) := (Below.refl _ _).alloc (Nat.le_refl _) _
      have hb7 : Below w1.heap.size w1 W7 := by rw [hW7]; exact hb1a.alloc (by simp) _
      have hX : W7.heap[w1.heap.size]? = some (.cells #[.slice (some ⟨g2, 0, none⟩) M c2, .slice (some ⟨w1.heap.size + 1, 0, none⟩) 1 1] 32 (0, 0)) := by
        rw [hW7]
        exact (Below.heap_alloc _ _ _ (by simp)).trans (heap_alloc_new _ _)
      have hY : W7.heap[w1.heap.size + 1]? = some (.cells #[.slice (some ⟨g1, 0, none⟩) T c1] 23 (0, 0)) := by
        rw [hW7]
        have h := heap_alloc_new (w1.alloc (.cells #[.slice (some ⟨g2, 0, none⟩) M c2, .slice (some ⟨w1.heap.size + 1, 0, none⟩) 1 1] 32)) (.cells #[.slice (some ⟨g1, 0, none⟩) T c1] 23)
        rw [show (w1.alloc (.cells #[.slice (some ⟨g2, 0, none⟩) M c2, .slice (some ⟨w1.heap.size + 1, 0, none⟩) 1 1] 32)).heap.size = w1.heap.size + 1 by simp] at h
        exact h
      have hR := (hb7.block w.heap.size (by omega)).trans HQ.out.2.2.1
      rw [← hW7]
      clear hW7 hb1a
      obtain ⟨⟨x0, x1⟩, _, _⟩ := two_cells hX
      obtain ⟨⟨r0, r1⟩, y0, y1⟩ := two_cells hR
      go_wp2_with fail
      obtain ⟨W9, hW9⟩ : ∃ W, W = (W7.setCell ⟨w.heap.size, 0, none⟩ (.slice (some ⟨g2, 0, none⟩) M c2)).setCell ⟨w.heap.size, 1, none⟩ (.slice (some ⟨w1.heap.size + 1, 0, none⟩) 1 1) := ⟨_, rfl⟩
      rw [← hW9]
      have hr9 : W9.heap[w.heap.size]? = some (.cells #[.slice (some ⟨g2, 0, none⟩) M c2, .slice (some ⟨w1.heap.size + 1, 0, none⟩) 1 1] 32 (0, 0)) := by rw [hW9]; exact two_set01 hR _ _
      have hK9 : Kept 32 W7 W9 := by
        rw [hW9]
        obtain ⟨cs', hcs⟩ := heap_atSet (w := W7) (b := w.heap.size) (o := 0) hR (.slice (some ⟨g2, 0, none⟩) M c2)
        exact Kept.trans (b := W7.setCell ⟨w.heap.size, 0, none⟩ (.slice (some ⟨g2, 0, none⟩) M c2)) (Kept.setCell (p := ⟨w.heap.size, 0, none⟩) hR _) (Kept.setCell (p := ⟨w.heap.size, 1, none⟩) hcs _)
      obtain ⟨⟨k0, k1⟩, _, _⟩ := two_cells hr9
      have hw9 : wayOf (init.map (hopOf f) ++ [hopOf f ⟨K, ⟨q, m, cs, xs⟩⟩]) = [init.map (hopOf f)] := by rw [wayOf_snoc, if_neg (fun e => hi (by simpa using e))]
      refine bodyPost_ret (v := .tuple #[.agg #[.slice (some ⟨g2, 0, none⟩) M c2, .slice (some ⟨w1.heap.size + 1, 0, none⟩) 1 1], .bool true]) (by simp [results, Tryz.results58, go_sem, k0, k1]) rfl ⟨?_, .inl ⟨HQ.out.2.2.2.2.2, g2, c2, some ⟨w1.heap.size + 1, 0, none⟩, 1, ?_, ?_⟩⟩
      · rw [hW9]
        exact (((HQ.out.2.2.2.1.trans (hb7.mono (by omega)))).setCell (Nat.le_refl _) _).setCell (Nat.le_refl _) _
      · rw [HQ.out.2.2.2.2.1, hw9, ← HM.out]; rfl
      · rw [HQ.out.2.2.2.2.1, hw9, ← HM.out]
        have h := HQ.out.1
        rw [← HM.out] at h
        have h1 := HT.out.1
        rw [← HT.out.2] at h1
        refine ⟨hK9.bv (by decide) ((h.below hb7).mono (by omega)), [.slice (some ⟨g1, 0, none⟩) T c1], rfl, ⟨rfl, .inr ⟨w1.heap.size + 1, 1, #[.slice (some ⟨g1, 0, none⟩) T c1], rfl, by omega, hK9 _ _ _ _ hY (by decide), Nat.le_refl _, by decide, rfl, rfl⟩⟩, fun i u x hu hx => ?_⟩
        match i, hu, hx with
        | 0, hu, hx =>
          obtain rfl : Value.slice (some ⟨g1, 0, none⟩) T c1 = u := by simpa using hu
          obtain rfl : init.map (hopOf f) = x := by simpa using hx
          exact hK9.bv (by decide) ((h1.below hb7).mono (by omega))
  · have hsp := specSplitN f hf init K ⟨q, m, cs, xs⟩ n hin (by omega) h6 b o c _ hat0
    have HS := Lib.hid (And.intro hsp (And.intro hB0 (And.intro hr0 (show ¬ ends6 (init.map (hopOf f) ++ [hopOf f ⟨K, ⟨q, m, cs, xs⟩⟩]) by rw [ends6_snoc]; exact hopOf_not6 hK0 h6))))
    have hnb := bNil0
    clear hsp hat0 hAt hat hB0 hr0 hl hadr hoks h6 hli
    go_enter Tryz.func58, Tryz.ntmps58
    go_wp2_with fail
    obtain ⟨W0, hW0⟩ : ∃ W, W = w.alloc (.cells #[.slice none 0 0, .slice none 0 0] 32) := ⟨_, rfl⟩
    have hz0 : W0.heap.size = w.heap.size + 1 := by rw [hW0]; simp
    rw [← hW0] at HS ⊢
    clear hW0
    refine HS.out.1.mono ?_
    rintro e w1 ⟨v1, rfl, _, hB1⟩
    have hR := (hB1.block w.heap.size (by omega)).trans HS.out.2.2.1
    have HQ := Lib.hid (HS.out.2.1.trans (hB1.mono (by omega)))
    clear hB1
    obtain ⟨⟨r0, r1⟩, y0, y1⟩ := two_cells hR
    go_wp2_with fail
    obtain ⟨W9, hW9⟩ : ∃ W, W = (w1.setCell ⟨w.heap.size, 0, none⟩ (.slice none 0 0)).setCell ⟨w.heap.size, 1, none⟩ (.slice none 0 0) := ⟨_, rfl⟩
    rw [← hW9]
    have hr9 : W9.heap[w.heap.size]? = some (.cells #[.slice none 0 0, .slice none 0 0] 32 (0, 0)) := by rw [hW9]; exact two_set01 hR _ _
    obtain ⟨⟨k0, k1⟩, _, _⟩ := two_cells hr9
    refine bodyPost_ret (v := .tuple #[.agg #[.slice none 0 0, .slice none 0 0], .bool false]) (by simp [results, Tryz.results58, go_sem, k0, k1]) rfl ⟨?_, .inr ⟨HS.out.2.2.2, rfl⟩⟩
    rw [hW9]
    exact (HQ.out.setCell (Nat.le_refl _) _).setCell (Nat.le_refl _) _
end Go.Proofs.YtapkmoakbfpkeaaGreatDoor
namespace Go.Proofs.YtapkmoakbfpkeaaGreatDoor
open Go Go.RowKit Go.Proofs Go.Sort
theorem run_copy_pairs {P : Program} (w : World) (dT sT ty elem : TypeId) (b o dLen dCap : Nat) (a : Addr) (sLen sCap : Nat) (cs : List Value)
    (hu : P.underlying dT = some (.slice elem)) (hs : (P.info? elem).map (·.size) = some 2) (n : Nat) (hmin : Nat.min sLen dLen = n) (hn : cs.length = n * 2)
    (hsrc : ∀ j v, cs[j]? = some v → w.cell? (a.add j) = some v) (hc : ∀ j, j < cs.length → (w.cell? ⟨b, o + j, none⟩).isSome = true) (hf : ∀ j, j < cs.length → w.frozen? ⟨b, o + j, none⟩ = false) (h1 : ∀ v ∈ cs, v.oneCell' = true) :
    (Builtin.copy_ #[dT, sT] ty #[.slice (some ⟨b, o, none⟩) dLen dCap, .slice (some a) sLen sCap]).run P w = .ok (goInt n) (w.setCells b o cs) := by
  have hl := run_loadCells_list (P := P) w a cs hsrc
  have hst := run_storeCells_cells (P := P) b o cs 0 w (by simpa using hc) (by simpa using hf) h1
  cases hq : P.info? elem with
  | none => simp [hq] at hs
  | some i =>
    have hi : i.size = 2 := by simpa [hq] using hs
    rw [hn] at hl
    simp [Builtin.copy_, run_underlying hu, Builtin.lenOf, Builtin.firstCells, sizeOf, typeInfo, hq, hi, hmin, hl, hst]
theorem heap_setCells {b : Nat} {T : TypeId} {fr : Nat × Nat} : ∀ (vs : List Value) (o : Nat) (w : World) (cur : Array Value), w.heap[b]? = some (Obj.cells cur T fr) → ∃ cur', (w.setCells b o vs).heap[b]? = some (Obj.cells cur' T fr) ∧ cur'.size = cur.size ∧ (∀ j, j < cur.size → cur'[j]? = if o ≤ j ∧ j < o + vs.length then vs[j - o]? else cur[j]?) ∧ ∀ k, k ≠ b → (w.setCells b o vs).heap[k]? = w.heap[k]?
  | [], o, w, cur, h => ⟨cur, h, rfl, fun j _ => by rw [if_neg]; simp, fun k _ => rfl⟩
  | v :: vs, o, w, cur, h => by
    have h1 : (w.setCell ⟨b, o, none⟩ v).heap[b]? = some (Obj.cells (cur.setIfInBounds o v) T fr) := by simp [World.setCell, Array.getElem?_modify, h]
    obtain ⟨cur', a1, a2, a3, a4⟩ := heap_setCells vs (o + 1) (w.setCell ⟨b, o, none⟩ v) _ h1
    refine ⟨cur', a1, by rw [a2]; simp, fun j hj => ?_, fun k hk => (a4 k hk).trans (Below.heap_setCell _ _ _ _ hk)⟩
    rw [a3 j (by simpa using hj)]
    by_cases h2 : o + 1 ≤ j ∧ j < o + 1 + vs.length
    · rw [if_pos h2, if_pos (by simp; omega)]
      obtain ⟨t, rfl⟩ : ∃ t, j = o + 1 + t := ⟨j - (o + 1), by omega⟩
      rw [show o + 1 + t - (o + 1) = t by omega, show o + 1 + t - o = t + 1 by omega]
      rfl
    · rw [if_neg h2]
      by_cases h3 : j = o
      · subst h3
        rw [if_pos (by simp)]
        simp [hj]
      · rw [if_neg (by simp; omega)]
        simp [Ne.symm h3]
theorem two_at {w : World} {gv : Nat} {u1 u2 : Value} (hv0 : w.cell? ⟨gv, 0, none⟩ = some u1) (hv1 : w.cell? ⟨gv, 1, none⟩ = some u2) : ∀ j u, [u1, u2][j]? = some u → w.cell? ((⟨gv, 0, none⟩ : Addr).add j) = some u := fun j u hj => by
  rw [Lib.add_plain, Nat.zero_add]
  match j, hj with
  | 0, hj => simp at hj; rw [hv0, hj]
  | 1, hj => simp at hj; rw [hv1, hj]
set_option maxHeartbeats 4000000 in
set_option maxRecDepth 100000 in
theorem insEnd (B : Nat) (p : Option Addr) (n c : Nat) (us : List Value) (w : World) (hown : w.ownsRow B 32 2 (.slice p n c) n us) (hn : n ≤ 1000) (hB : B ≤ w.heap.size) (gv : Nat) (u1 u2 : Value) (hv0 : w.cell? ⟨gv, 0, none⟩ = some u1) (hv1 : w.cell? ⟨gv, 1, none⟩ = some u2) (h1 : u1.oneCell' = true) (h2 : u2.oneCell' = true) :
    Calls Tryz.prog 61 #[.slice p n c, .int .i64 (n : Int), .slice (some ⟨gv, 0, none⟩) 1 1] w fun e w' => ∃ v', e = .returned v' ∧ w'.ownsRow B 32 2 v' (n + 1) (us ++ [u1, u2]) ∧ w.grownBy w' (Value.slice p n c).ownBlock := by
  obtain ⟨i0, hi, hz0, hz1, hz2⟩ := info_parts infoAI
  have hcc : n ≤ c := by
    rcases hown.2 with ⟨e, h0⟩ | ⟨g, cap, cur, e, _, _, hc, _⟩
    · omega
    · injection e with _ _ e3; omega
  have HO := Lib.hid (And.intro hown (And.intro hv0 hv1))
  clear hown hv0 hv1
  go_enter Tryz.func61, Tryz.ntmps61
  cases p with
  | none =>
    go_wp2_with (at_builtin; refine wpList_append_own w rfl _ _ 44 rfl B 32 i0 _ 2 48 Tryz.underlying44 hi hz0 hz1 hz2 rfl (by decide) _ n us rfl HO.out.1 ⟨gv, 0, none⟩ 1 1 [u1, u2] rfl rfl (two_at HO.out.2.1 HO.out.2.2) (fun u hu => by simp at hu; rcases hu with rfl | rfl <;> assumption) (by unfold maxLen; omega) (by omega) hB ?_; intro v' w' ho' hg' _)
    all_goals
      go_ret
      exact ⟨_, rfl, ho', hg'⟩
  | some a =>
    obtain ⟨ab, ao, asp⟩ := a
    go_wp2_with (at_builtin; refine wpList_append_own w rfl _ _ 44 rfl B 32 i0 _ 2 48 Tryz.underlying44 hi hz0 hz1 hz2 rfl (by decide) _ n us rfl HO.out.1 ⟨gv, 0, none⟩ 1 1 [u1, u2] rfl rfl (two_at HO.out.2.1 HO.out.2.2) (fun u hu => by simp at hu; rcases hu with rfl | rfl <;> assumption) (by unfold maxLen; omega) (by omega) hB ?_; intro v' w' ho' hg' _)
    all_goals
      go_ret
      exact ⟨_, rfl, ho', hg'⟩
end Go.Proofs.YtapkmoakbfpkeaaGreatDoor
namespace Go.Proofs.YtapkmoakbfpkeaaGreatDoor
open Go Go.RowKit Go.Proofs Go.Sort
theorem two_at2 {w : World} {gv : Nat} {u1 u2 : Value} (h : w.heap[gv]? = some (.cells #[u1, u2] 32 (0, 0))) : ∀ j v, [u1, u2][j]? = some v → w.cell? ⟨gv, 0 + j, none⟩ = some v := fun j u hj => by
  obtain ⟨⟨a, b⟩, _, _⟩ := two_cells h
  match j, hj with
  | 0, hj => simp at hj; rw [← hj]; exact a
  | 1, hj => simp at hj; rw [← hj]; exact b
set_option maxHeartbeats 4000000 in
set_option maxRecDepth 100000 in
theorem insShift (gI n c k : Nat) (cur : Array Value) (us : List Value) (w : World) (hI : w.heap[gI]? = some (.cells cur 32 (0, 0))) (hcs : cur.size = c * 2) (hus : us.length = n * 2) (hcu : cur.toList.take (n * 2) = us) (h1c : ∀ v ∈ us, v.oneCell' = true) (hk : k < n) (hn : n ≤ 1000) (hroom : n + 1 ≤ c) (hc63 : c ≤ maxLen)
    (gv : Nat) (u1 u2 : Value) (hgv : w.heap[gv]? = some (.cells #[u1, u2] 32 (0, 0))) (hne : gv ≠ gI) (h1 : u1.oneCell' = true) (h2 : u2.oneCell' = true) :
    Calls Tryz.prog 61 #[.slice (some ⟨gI, 0, none⟩) n c, .int .i64 (k : Int), .slice (some ⟨gv, 0, none⟩) 1 1] w fun e w' =>
      e = .returned (.slice (some ⟨gI, 0, none⟩) (n + 1) c) ∧ w' = (w.drew.setCells gI ((k + 1) * 2) (us.drop (k * 2))).setCells gI (k * 2) [u1, u2] := by
  have hc63' : c ≤ 9223372036854775807 := hc63
  have hz2 : ¬ ((k : Int) = (n : Int)) := by omega
  have hsz : (Tryz.prog.info? 32).map (·.size) = some 2 := by
    obtain ⟨i0, hi0, h0, h1, h2⟩ := info_parts infoAI
    rw [hi0]; simp [h1]
  have hat : ∀ j v, us[j]? = some v → w.cell? ⟨gI, j, none⟩ = some v := fun j v hj => by
    have hl := (List.getElem?_eq_some_iff.1 hj).1
    rw [← hcu, List.getElem?_take_of_lt (by omega), Array.getElem?_toList] at hj
    simp [World.cell?, hI, hj]
  have hsp : ∀ j, j < c * 2 → (w.cell? ⟨gI, j, none⟩).isSome = true := fun j hj => by
    simp [World.cell?, hI, hcs, hj]
  have hfz : ∀ j, w.frozen? ⟨gI, j, none⟩ = false := fun j => by simp [World.frozen?, hI]
  have hov : ∀ lb cb, (callFunc 82 #[.slice (some ⟨gv, 0, none⟩) 1 1, .slice (some ⟨gI, (k + 1) * 2, none⟩) lb cb]).run Tryz.prog w = .ok (.value (.bool false)) w := fun lb cb => by
    rw [run_callFunc_extern Tryz.func82 (by kernel_rfl) (by kernel_rfl) (by kernel_rfl) (e := Extern.SlicesOverlaps.overlaps #[44, 44] #[4]) (by kernel_rfl),
      Lib.run_overlaps_apart w 44 4 32 Tryz.underlying44 2 Tryz.sizeOf32 ⟨gv, 0, none⟩ ⟨gI, (k + 1) * 2, none⟩ 1 1 lb cb hne 32 32 2 (c * 2) (by simp [World.shape?, hgv]) (by simp [World.shape?, hI, hcs]) (by omega) (by simp [World.frozen?, hgv]) (by simp [World.frozen?, hgv])]
    rfl
  have hdl : (us.drop (k * 2)).length = (n - k) * 2 := by rw [List.length_drop, hus]; omega
  have hw1 : IntKind.i64.wrap ((k : Int) + 1) = (k : Int) + 1 := by rw [IntKind.wrap_i64]; omega
  have hw2 : IntKind.i64.wrap ((n : Int) + 1) = (n : Int) + 1 := by rw [IntKind.wrap_i64]; omega
  have hb1 : (0 : Int) ≤ (k : Int) + 1 := by omega
  have hin : k ≤ n := by omega
  have htn : ((k : Int) + 1).toNat = k + 1 := by omega
  have htn2 : ((n : Int) + 1).toNat = n + 1 := by omega
  have hb2 : ¬ (c = k + 1) := by omega
  have hb3 : (k : Int) ≤ (n : Int) + 1 := by omega
  have hb4 : ¬ (c = k) := by omega
  have hcp1 : ∀ ty dc sc, (Builtin.copy_ #[44, 44] ty #[.slice (some ⟨gI, (k + 1) * 2, none⟩) (n - k) dc, .slice (some ⟨gI, k * 2, none⟩) (n + 1 - k) sc]).run Tryz.prog w.drew = .ok (goInt (n - k : Nat)) (w.drew.setCells gI ((k + 1) * 2) (us.drop (k * 2))) := fun ty dc sc =>
    run_copy_pairs w.drew _ _ ty 32 gI ((k + 1) * 2) (n - k) dc ⟨gI, k * 2, none⟩ (n + 1 - k) sc (us.drop (k * 2)) Tryz.underlying44 hsz (n - k) (by simp only [Nat.min_def]; split <;> omega) hdl
      (fun j v hj => by rw [Addr.add_lit]; exact hat (k * 2 + j) v (by rwa [List.getElem?_drop] at hj))
      (fun j hj => hsp _ (by rw [hdl] at hj; omega)) (fun j hj => hfz _) (fun v hv => h1c v (List.mem_of_mem_drop hv))
  obtain ⟨W1, hW1⟩ : ∃ W1, W1 = w.drew.setCells gI ((k + 1) * 2) (us.drop (k * 2)) := ⟨_, rfl⟩
  have hsp1 : ∀ j, j < c * 2 → (W1.cell? ⟨gI, j, none⟩).isSome = true := fun j hj => by
    rw [hW1]
    exact isSome_setCells gI (us.drop (k * 2)) ((k + 1) * 2) w.drew (fun i hi => hsp _ (by rw [hdl] at hi; omega)) j (hsp j hj)
  have hcp2 : ∀ (W : World), (∀ x, W.cell? x = W1.cell? x) → (∀ x, W.frozen? x = W1.frozen? x) → ∀ ty dc, (Builtin.copy_ #[44, 44] ty #[.slice (some ⟨gI, k * 2, none⟩) (n + 1 - k) dc, .slice (some ⟨gv, 0, none⟩) 1 1]).run Tryz.prog W = .ok (goInt (1 : Nat)) (W.setCells gI (k * 2) [u1, u2]) := fun W hWc hWf ty dc =>
    run_copy_pairs W _ _ ty 32 gI (k * 2) (n + 1 - k) dc ⟨gv, 0, none⟩ 1 1 [u1, u2] Tryz.underlying44 hsz 1 (by simp only [Nat.min_def]; split <;> omega) rfl
      (fun j v hj => by
        rw [Addr.add_lit, hWc, hW1, World.cell?_setCells_out gI _ _ _ _ (fun h _ => absurd h hne)]
        exact two_at2 hgv j v hj)
      (fun j hj => by rw [hWc]; exact hsp1 _ (by simp at hj; omega)) (fun j hj => by rw [hWf, hW1, World.frozen?_setCells]; exact hfz _) (fun u hu => by simp at hu; rcases hu with rfl | rfl <;> assumption)
  rw [← hW1] at hcp1 ⊢
  have HW := Lib.hid hW1
  have mixed : Tryz.prog.follows .mixedOrders = true := by kernel_rfl
  clear hW1 hI hcs hus hcu h1c hat hsp hfz hgv hsp1 hdl
  go_enter Tryz.func61, Tryz.ntmps61
  go_wp2_with (simp only [hov])
  go_region_law_o (refine step_copy_runI rfl _ _ 44 44 rfl _ _ (by simp [Act.eval, Act.put]) (by simp [Act.eval, Act.put]) (hcp1 _ _ _) ?_)
  go_wp2_with (at_builtin; refine wpList_copy_runI _ rfl _ _ 44 44 rfl _ _ rfl rfl (hcp2 _ (fun _ => rfl) (fun _ => rfl) _ _) ?_)
  go_ret
  first | exact ⟨rfl, rfl⟩ | exact ⟨rfl, by rw [HW.out]⟩
set_option maxHeartbeats 4000000 in
set_option maxRecDepth 100000 in
theorem insGrow (gI n c k : Nat) (cur : Array Value) (us : List Value) (w : World) (hI : w.heap[gI]? = some (.cells cur 32 (0, 0))) (hus : us.length = n * 2) (hcu : cur.toList.take (n * 2) = us) (h1c : ∀ v ∈ us, v.oneCell' = true) (hk : k < n) (hn : n ≤ 1000) (hnc : n ≤ c) (hroom : c < n + 1)
    (gv : Nat) (u1 u2 : Value) (hgv : w.heap[gv]? = some (.cells #[u1, u2] 32 (0, 0))) (h1 : u1.oneCell' = true) (h2 : u2.oneCell' = true) :
    Calls Tryz.prog 61 #[.slice (some ⟨gI, 0, none⟩) n c, .int .i64 (k : Int), .slice (some ⟨gv, 0, none⟩) 1 1] w fun e w' =>
      ∃ (G : Nat) (ROW : Array Value), e = .returned (.slice (some ⟨w.heap.size, 0, none⟩) (n + 1) G) ∧ n + 1 ≤ G ∧ G ≤ maxLen ∧ ROW.size = G * 2 ∧ ROW.toList.take (k * 2) = us.take (k * 2) ∧ w' = (((w.alloc (.cells ROW 32)).drew.setCells w.heap.size (k * 2) [u1, u2]).drew).setCells w.heap.size ((k + 1) * 2) (us.drop (k * 2)) := by
  obtain ⟨i0, hi0, hz0, hzs, hzb⟩ := info_parts infoAI
  have hz2 : ¬ ((k : Int) = (n : Int)) := by omega
  have hz3 : (c : Int) < (n : Int) + 1 := by omega
  have hsz : (Tryz.prog.info? 32).map (·.size) = some 2 := by rw [hi0]; simp [hzs]
  have hat : ∀ j v, us[j]? = some v → w.cell? ⟨gI, j, none⟩ = some v := fun j v hj => by
    have hl := (List.getElem?_eq_some_iff.1 hj).1
    rw [← hcu, List.getElem?_take_of_lt (by omega), Array.getElem?_toList] at hj
    simp [World.cell?, hI, hj]
  have hbw : gI < w.heap.size := (Array.getElem?_eq_some_iff.1 hI).1
  have hvw : gv < w.heap.size := (Array.getElem?_eq_some_iff.1 hgv).1
  have hkk : (n : Int) + 1 - (k : Int) = ((n + 1 - k : Nat) : Int) := by omega
  have hik : k + (n + 1 - k) = n + 1 := by omega
  have hold : (Builtin.firstCells i0.size k (.slice (some ⟨gI, 0, none⟩) k c)).run Tryz.prog w.drew = .ok (us.take (k * 2)).toArray w.drew := by
    rw [hzs]
    exact run_firstCells_some w.drew 2 k ⟨gI, 0, none⟩ k c (us.take (k * 2)) (by rw [List.length_take]; omega) (fun j v hj => by
      rw [Addr.add_lit, Nat.zero_add]
      rw [List.getElem?_take] at hj
      split at hj
      · exact hat j v hj
      · cases hj)
  have hrz : ∀ ty, (Builtin.append_ #[44, 3] ty #[.slice (some ⟨gI, 0, none⟩) k c, .int .i64 ((n : Int) + 1 - (k : Int))]).run Tryz.prog w =
      .ok (.slice (some ⟨w.heap.size, 0, none⟩) (n + 1) (grownCap w (n + 1) c 32)) (w.drew.alloc (.cells ((us.take (k * 2)).toArray ++ Builtin.zeroCells (Value.agg #[.slice none 0 0, .slice none 0 0]).cells (n + 1 - k) ++ Builtin.zeroCells (Value.agg #[.slice none 0 0, .slice none 0 0]).cells (grownCap w (n + 1) c 32 - (n + 1))) 32)) := fun ty => by
    have h := Lib.run_append_grow_zeros w 44 3 ty 32 i0 _ .i64 .i64 Tryz.underlying44 Tryz.underlying3 hi0 hz0 (some ⟨gI, 0, none⟩) k c (us.take (k * 2)) hold (n + 1 - k) (by omega) (by omega) (by omega) (by omega) (by rw [hzb]; omega) (by rw [hzb, hik]; exact growslice_fits hroom (by omega))
    rw [hik] at h
    rw [hkk]
    exact h
  have hGn : n + 1 ≤ grownCap w (n + 1) c 32 := grownCap_ge w _ _ _
  have hGm : grownCap w (n + 1) c 32 ≤ maxLen := grownCap_le_maxLen w (n + 1) c 32 (by unfold maxLen; omega)
  obtain ⟨G, hG⟩ : ∃ G, G = grownCap w (n + 1) c 32 := ⟨_, rfl⟩
  rw [← hG] at hrz hGn hGm
  obtain ⟨ROW, hROW⟩ : ∃ ROW : Array Value, ROW = (us.take (k * 2)).toArray ++ Builtin.zeroCells (Value.agg #[.slice none 0 0, .slice none 0 0]).cells (n + 1 - k) ++ Builtin.zeroCells (Value.agg #[.slice none 0 0, .slice none 0 0]).cells (G - (n + 1)) := ⟨_, rfl⟩
  rw [← hROW] at hrz
  have hRl : ROW.size = G * 2 := by
    rw [hROW]
    simp [Builtin.zeroCells, Value.cells, hus]
    omega
  have hRt : ROW.toList.take (k * 2) = us.take (k * 2) := by
    have hl : (us.take (k * 2)).length = k * 2 := by rw [List.length_take]; omega
    rw [hROW]
    simp only [Array.toList_append, List.append_assoc]
    rw [List.take_append_of_le_length (by omega)]
    exact List.take_of_length_le (by omega)
  have HO := Lib.hid (And.intro hGm (And.intro hRl hRt))
  obtain ⟨W1, hW1⟩ : ∃ W1, W1 = w.drew.alloc (.cells ROW 32) := ⟨_, rfl⟩
  rw [← hW1] at hrz
  have hN : ∀ j, j < G * 2 → (W1.cell? ⟨w.heap.size, j, none⟩).isSome = true := fun j hj => by
    rw [hW1, World.cell?_alloc_at (w := w.drew) ROW _ w.heap.size j rfl, Array.getElem?_eq_getElem (by omega)]; rfl
  have hNf : ∀ j, W1.frozen? ⟨w.heap.size, j, none⟩ = false := fun j => by rw [hW1]; exact World.frozen?_alloc_at (w := w.drew) ROW _ w.heap.size j rfl
  have hOb : ∀ j v, w.cell? ⟨gI, j, none⟩ = some v → W1.cell? ⟨gI, j, none⟩ = some v := fun j v h => by rw [hW1, World.cell?_alloc_past (w := w.drew) _ gI j hbw]; exact h
  have hOv : ∀ j v, w.cell? ⟨gv, j, none⟩ = some v → W1.cell? ⟨gv, j, none⟩ = some v := fun j v h => by rw [hW1, World.cell?_alloc_past (w := w.drew) _ gv j hvw]; exact h
  have hcpA : ∀ (W : World), (∀ x, W.cell? x = W1.cell? x) → (∀ x, W.frozen? x = W1.frozen? x) → ∀ ty dc, (Builtin.copy_ #[44, 44] ty #[.slice (some ⟨w.heap.size, k * 2, none⟩) (n + 1 - k) dc, .slice (some ⟨gv, 0, none⟩) 1 1]).run Tryz.prog W = .ok (goInt (1 : Nat)) (W.setCells w.heap.size (k * 2) [u1, u2]) := fun W hWc hWf ty dc =>
    run_copy_pairs W _ _ ty 32 w.heap.size (k * 2) (n + 1 - k) dc ⟨gv, 0, none⟩ 1 1 [u1, u2] Tryz.underlying44 hsz 1 (by simp only [Nat.min_def]; split <;> omega) rfl
      (fun j v hj => by rw [Addr.add_lit, hWc]; exact hOv _ v (two_at2 hgv j v hj))
      (fun j hj => by rw [hWc]; exact hN _ (by simp at hj; omega)) (fun j hj => by rw [hWf]; exact hNf _) (fun u hu => by simp at hu; rcases hu with rfl | rfl <;> assumption)
  have hG63 : G ≤ 9223372036854775807 := hGm
  have hGi : ¬ (G = k) := by omega
  have hGim : ¬ (G = k + 1) := by omega
  have hci : ¬ (c = k) := by omega
  have hbN : gI ≠ w.heap.size := by omega
  have hdl : (us.drop (k * 2)).length = (n - k) * 2 := by rw [List.length_drop, hus]; omega
  have hcpB : ∀ (W : World), (∀ x, W.cell? x = (W1.setCells w.heap.size (k * 2) [u1, u2]).cell? x) → (∀ x, W.frozen? x = (W1.setCells w.heap.size (k * 2) [u1, u2]).frozen? x) → ∀ ty dc sc, (Builtin.copy_ #[44, 44] ty #[.slice (some ⟨w.heap.size, (k + 1) * 2, none⟩) (n - k) dc, .slice (some ⟨gI, k * 2, none⟩) (n - k) sc]).run Tryz.prog W = .ok (goInt (n - k : Nat)) (W.setCells w.heap.size ((k + 1) * 2) (us.drop (k * 2))) := fun W hWc hWf ty dc sc =>
    run_copy_pairs W _ _ ty 32 w.heap.size ((k + 1) * 2) (n - k) dc ⟨gI, k * 2, none⟩ (n - k) sc (us.drop (k * 2)) Tryz.underlying44 hsz (n - k) (by simp only [Nat.min_def]; split <;> omega) hdl
      (fun j v hj => by
        rw [Addr.add_lit, hWc, World.cell?_setCells_out _ _ _ _ _ (fun h _ => absurd h hbN)]
        exact hOb _ v (hat (k * 2 + j) v (by rwa [List.getElem?_drop] at hj)))
      (fun j hj => by rw [hWc]; exact isSome_setCells w.heap.size [u1, u2] (k * 2) W1 (fun t ht => hN _ (by simp at ht; omega)) _ (hN _ (by rw [hdl] at hj; omega)))
      (fun j hj => by rw [hWf, World.frozen?_setCells]; exact hNf _) (fun v hv => h1c v (List.mem_of_mem_drop hv))
  subst hW1
  have hE1 : ∀ x, ((w.alloc (.cells ROW 32)).drew).cell? x = (w.drew.alloc (.cells ROW 32)).cell? x := fun x => rfl
  have hE2 : ∀ x, ((w.alloc (.cells ROW 32)).drew).frozen? x = (w.drew.alloc (.cells ROW 32)).frozen? x := fun x => rfl
  have hF1 : ∀ x, (((w.alloc (.cells ROW 32)).drew.setCells w.heap.size (k * 2) [u1, u2]).drew).cell? x = ((w.drew.alloc (.cells ROW 32)).setCells w.heap.size (k * 2) [u1, u2]).cell? x := fun x => rfl
  have hF2 : ∀ x, (((w.alloc (.cells ROW 32)).drew.setCells w.heap.size (k * 2) [u1, u2]).drew).frozen? x = ((w.drew.alloc (.cells ROW 32)).setCells w.heap.size (k * 2) [u1, u2]).frozen? x := fun x => rfl
  have hw1 : IntKind.i64.wrap ((k : Int) + 1) = (k : Int) + 1 := by rw [IntKind.wrap_i64]; omega
  have hw2 : IntKind.i64.wrap ((n : Int) + 1) = (n : Int) + 1 := by rw [IntKind.wrap_i64]; omega
  have hw3 : IntKind.i64.wrap ((n : Int) + 1 - (k : Int)) = (n : Int) + 1 - (k : Int) := by rw [IntKind.wrap_i64]; omega
  have hb1 : (0 : Int) ≤ (k : Int) + 1 := by omega
  have hin : k ≤ n := by omega
  have htn : ((k : Int) + 1).toNat = k + 1 := by omega
  have hb3 : (k : Int) ≤ (n : Int) := by omega
  have mixed : Tryz.prog.follows .mixedOrders = true := by kernel_rfl
  clear hkk hik hold hROW hG hRl hRt hat hcu hI hgv hN hNf hOb hOv hdl h1c hGm hus hsz hi0 hz0 hzs hzb
  go_enter Tryz.func61, Tryz.ntmps61
  go_wp2_with (first
    | (at_builtin; refine Lib.wpList_append_run _ rfl _ _ _ _ rfl _ _ rfl rfl _ _ (hrz _) ?_)
    | (at_builtin; refine wpList_copy_runI _ rfl _ _ 44 44 rfl _ _ rfl rfl (hcpA _ hE1 hE2 _ _) ?_)
    | (at_builtin; refine wpList_copy_runI _ rfl _ _ 44 44 rfl _ _ rfl rfl (hcpB _ (fun _ => rfl) (fun _ => rfl) _ _ _) ?_))
  go_region_law_o (refine step_copy_runI rfl _ _ 44 44 rfl (.slice (some ⟨w.heap.size, (k + 1) * 2, none⟩) (n - k) (G - (k + 1))) (.slice (some ⟨gI, k * 2, none⟩) (n - k) (c - k)) (by simp [Act.eval, Act.put]) (by simp [Act.eval, Act.put]) (hcpB _ hF1 hF2 3 (G - (k + 1)) (c - k)) ?_)
  go_wp2
  go_ret
  exact ⟨G, ROW, rfl, hGn, HO.out.1, HO.out.2.1, HO.out.2.2, rfl⟩
end Go.Proofs.YtapkmoakbfpkeaaGreatDoor
namespace Go.Proofs.YtapkmoakbfpkeaaGreatDoor
open Go Go.RowKit Go.Proofs Go.Sort
theorem grown_set1 (w : World) (b i : Nat) (v : Value) : w.grownBy (w.setCell ⟨b, i, none⟩ v) (some b) :=
  ⟨rfl, rfl, rfl, by simp [World.setCell], fun k _ hne => Below.heap_setCell _ _ _ _ fun e => hne (by rw [e])⟩
theorem grown_two {a b c : World} {r : Option Nat} (h : a.grownBy b r) (k : b.grownBy c r) : a.grownBy c r :=
  ⟨k.os.trans h.os, k.tape.trans h.tape, k.output.trans h.output, Nat.le_trans h.size k.size, fun i hi hn => (k.block i (Nat.lt_of_lt_of_le hi h.size) hn).trans (h.block i hi hn)⟩
theorem grown_sets (b : Nat) : ∀ (vs : List Value) (o : Nat) (w : World), w.grownBy (w.setCells b o vs) (some b)
  | [], _, _ => ⟨rfl, rfl, rfl, Nat.le_refl _, fun _ _ _ => rfl⟩
  | v :: vs, o, w => grown_two (grown_set1 w b o v) (grown_sets b vs (o + 1) _)
theorem grown_drew (w : World) (r : Option Nat) : w.grownBy w.drew r := ⟨rfl, rfl, rfl, Nat.le_refl _, fun _ _ _ => rfl⟩
theorem rowTake (X : Array Value) (A C : List Value) (u1 u2 : Value) (k n : Nat) (hA : A.length = k * 2) (h1 : ∀ j, j < k * 2 → X[j]? = A[j]?) (h2 : X[k * 2]? = some u1) (h3 : X[k * 2 + 1]? = some u2) (h4 : ∀ j, j < C.length → X[(k + 1) * 2 + j]? = C[j]?) (hn : (n + 1) * 2 = k * 2 + 2 + C.length) : X.toList.take ((n + 1) * 2) = A ++ u1 :: u2 :: C := by
  apply List.ext_getElem?
  intro i
  by_cases hi : i < (n + 1) * 2
  · rw [List.getElem?_take_of_lt hi, Array.getElem?_toList]
    by_cases hk : i < k * 2
    · rw [h1 i hk, List.getElem?_append_left (by omega)]
    · rw [List.getElem?_append_right (by omega), hA]
      by_cases e0 : i = k * 2
      · subst e0; rw [h2]; simp
      · by_cases e1 : i = k * 2 + 1
        · subst e1; rw [h3, show k * 2 + 1 - k * 2 = 1 by omega]; rfl
        · obtain ⟨t, rfl⟩ : ∃ t, i = (k + 1) * 2 + t := ⟨i - (k + 1) * 2, by omega⟩
          rw [h4 t (by omega), show (k + 1) * 2 + t - k * 2 = t + 2 by omega]
          rfl
  · rw [List.getElem?_eq_none (by simp; omega), List.getElem?_eq_none (by simp [hA]; omega)]
theorem pairCells_cut (us : List (Value × Value)) (k : Nat) (hk : k ≤ us.length) : (pairCells us).take (k * 2) = pairCells (us.take k) ∧ (pairCells us).drop (k * 2) = pairCells (us.drop k) := by
  have h := pairCells_app (us.take k) (us.drop k)
  rw [List.take_append_drop] at h
  have hl : (pairCells (us.take k)).length = k * 2 := by rw [pairCells_len, List.length_take]; omega
  rw [h]
  exact ⟨by rw [List.take_append_of_le_length (by omega), List.take_of_length_le (by omega)], by rw [List.drop_append_of_le_length (by omega), List.drop_of_length_le (by omega)]; rfl⟩
theorem pairCells_ins (A C : List (Value × Value)) (u : Value × Value) : pairCells (A ++ u :: C) = pairCells A ++ u.1 :: u.2 :: pairCells C := by
  rw [pairCells_app]; rfl
set_option maxHeartbeats 1600000 in
theorem insAny (B : Nat) (p : Option Addr) (n c k : Nat) (us : List (Value × Value)) (w : World) (hown : w.ownsRow B 32 2 (.slice p n c) n (pairCells us)) (h1c : ∀ v ∈ pairCells us, v.oneCell' = true) (hk : k ≤ n) (hn : n ≤ 1000) (hB : B ≤ w.heap.size)
    (gv : Nat) (u : Value × Value) (hgv : w.heap[gv]? = some (.cells #[u.1, u.2] 32 (0, 0))) (hne : (Value.slice p n c).ownBlock ≠ some gv) (h1 : u.1.oneCell' = true) (h2 : u.2.oneCell' = true) :
    Calls Tryz.prog 61 #[.slice p n c, .int .i64 (k : Int), .slice (some ⟨gv, 0, none⟩) 1 1] w fun e w' => ∃ v', e = .returned v' ∧ w'.ownsRow B 32 2 v' (n + 1) (pairCells (us.take k ++ u :: us.drop k)) ∧ w.grownBy w' (Value.slice p n c).ownBlock := by
  have hul : us.length = n := by have := hown.1; rw [pairCells_len] at this; omega
  by_cases hkn : k = n
  · subst hkn
    obtain ⟨⟨z0, z1⟩, _, _⟩ := two_cells hgv
    refine (insEnd B p k c (pairCells us) w hown hn hB gv u.1 u.2 z0 z1 h1 h2).mono ?_
    rintro e w' ⟨v', rfl, ho, hg⟩
    refine ⟨v', rfl, ?_, hg⟩
    rw [List.take_of_length_le (by omega), List.drop_of_length_le (by omega), pairCells_app]
    exact ho
  · obtain ⟨gI, cap, cur, e0, hBg, hI, hnc, hcm, hcs, hct⟩ : ∃ g cap cur, Value.slice p n c = .slice (some ⟨g, 0, none⟩) n cap ∧ B ≤ g ∧ w.heap[g]? = some (.cells cur 32 (0, 0)) ∧ n ≤ cap ∧ cap ≤ maxLen ∧ cur.size = cap * 2 ∧ cur.toList.take (n * 2) = pairCells us := by
      rcases hown.2 with ⟨_, h0⟩ | h
      · omega
      · exact h
    injection e0 with e1 _ e3
    subst e1 e3
    have hlp : (pairCells us).length = n * 2 := by rw [pairCells_len, hul]
    obtain ⟨ct, cd⟩ := pairCells_cut us k (by omega)
    have hA : (pairCells (us.take k)).length = k * 2 := by rw [pairCells_len, List.length_take]; omega
    have hC : (pairCells (us.drop k)).length = (n - k) * 2 := by rw [pairCells_len, List.length_drop]; omega
    have hcur : ∀ j, j < n * 2 → cur[j]? = (pairCells us)[j]? := fun j hj => by rw [← hct, List.getElem?_take_of_lt hj, Array.getElem?_toList]
    have hAt : ∀ j, j < k * 2 → (pairCells us)[j]? = (pairCells (us.take k))[j]? := fun j hj => by rw [← ct, List.getElem?_take_of_lt hj]
    by_cases hroom : n + 1 ≤ c
    · refine (insShift gI n c k cur (pairCells us) w hI hcs hlp hct h1c (by omega) hn hroom hcm gv u.1 u.2 hgv (fun e => hne (by rw [e]; rfl)) h1 h2).mono ?_
      rintro e w' ⟨rfl, rfl⟩
      rw [cd]
      obtain ⟨c1, a1, a2, a3, _⟩ := heap_setCells (pairCells (us.drop k)) ((k + 1) * 2) w.drew cur hI
      obtain ⟨c2, b1, b2, b3, _⟩ := heap_setCells [u.1, u.2] (k * 2) _ c1 a1
      refine ⟨_, rfl, ⟨by rw [pairCells_len]; simp; omega, .inr ⟨gI, c, c2, rfl, hBg, b1, hroom, hcm, by omega, ?_⟩⟩, grown_two (grown_two (grown_drew w _) (grown_sets gI _ _ _)) (grown_sets gI _ _ _)⟩
      rw [pairCells_ins]
      refine rowTake c2 _ _ _ _ k n hA (fun j hj => ?_) ?_ ?_ (fun j hj => ?_) (by omega)
      · rw [b3 j (by omega), if_neg (by simp; omega), a3 j (by omega), if_neg (by omega), hcur j (by omega), hAt j hj]
      · rw [b3 _ (by omega), if_pos (by simp)]; simp
      · rw [b3 _ (by omega), if_pos (by simp), show k * 2 + 1 - k * 2 = 1 by omega]; rfl
      · rw [b3 _ (by omega), if_neg (by simp; omega), a3 _ (by omega), if_pos (by omega), show (k + 1) * 2 + j - (k + 1) * 2 = j by omega]
    · refine (insGrow gI n c k cur (pairCells us) w hI hlp hct h1c (by omega) hn hnc (by omega) gv u.1 u.2 hgv h1 h2).mono ?_
      rintro e w' ⟨G, ROW, rfl, hG1, hG2, hRs, hRt, rfl⟩
      rw [cd]
      obtain ⟨c1, a1, a2, a3, _⟩ := heap_setCells [u.1, u.2] (k * 2) (w.alloc (.cells ROW 32)).drew ROW (heap_alloc_new w _)
      obtain ⟨c2, b1, b2, b3, _⟩ := heap_setCells (pairCells (us.drop k)) ((k + 1) * 2) (((w.alloc (.cells ROW 32)).drew.setCells w.heap.size (k * 2) [u.1, u.2]).drew) c1 a1
      have hR : ∀ j, j < k * 2 → ROW[j]? = (pairCells (us.take k))[j]? := fun j hj => by
        rw [← hAt j hj, ← List.getElem?_take_of_lt hj, ← hRt, List.getElem?_take_of_lt hj, Array.getElem?_toList]
      refine ⟨_, rfl, ⟨by rw [pairCells_len]; simp; omega, .inr ⟨w.heap.size, G, c2, rfl, hB, b1, hG1, hG2, by omega, ?_⟩⟩, ?_⟩
      · rw [pairCells_ins]
        refine rowTake c2 _ _ _ _ k n hA (fun j hj => ?_) ?_ ?_ (fun j hj => ?_) (by omega)
        · rw [b3 j (by omega), if_neg (by omega), a3 j (by omega), if_neg (by simp; omega), hR j hj]
        · rw [b3 _ (by omega), if_neg (by omega), a3 _ (by omega), if_pos (by simp)]; simp
        · rw [b3 _ (by omega), if_neg (by omega), a3 _ (by omega), if_pos (by simp), show k * 2 + 1 - k * 2 = 1 by omega]; rfl
        · rw [b3 _ (by omega), if_pos (by omega), show (k + 1) * 2 + j - (k + 1) * 2 = j by omega]
      · refine ⟨?_, ?_, ?_, ?_, fun i hi _ => ?_⟩
        · exact (grown_sets w.heap.size _ _ _).os.trans (grown_sets w.heap.size _ _ _).os
        · exact (grown_sets w.heap.size _ _ _).tape.trans (grown_sets w.heap.size _ _ _).tape
        · exact (grown_sets w.heap.size _ _ _).output.trans (grown_sets w.heap.size _ _ _).output
        · refine Nat.le_trans ?_ (grown_sets w.heap.size _ _ _).size
          refine Nat.le_trans ?_ (grown_sets w.heap.size _ _ _).size
          simp
        · have hz : i < (w.alloc (.cells ROW 32)).heap.size := by simp; omega
          have hni : some i ≠ some w.heap.size := fun e => by injection e with e; omega
          refine ((grown_sets w.heap.size _ _ _).block i ?_ hni).trans (((grown_sets w.heap.size [u.1, u.2] (k * 2) (w.alloc (.cells ROW 32)).drew).block i hz hni).trans ?_)
          · exact Nat.lt_of_lt_of_le hz (grown_sets w.heap.size [u.1, u.2] (k * 2) (w.alloc (.cells ROW 32)).drew).size
          · exact (World.grownBy_alloc w _ none).block i hi (by simp)
/-- Lists pair by pair, with one more in the midst. -/
theorem ins_at {α β : Type} {R : α → β → Prop} {C : List α} {C' : List β} {u : α} {x : β} (hC : ∀ (i : Nat) a b, C[i]? = some a → C'[i]? = some b → R a b) (hx : R u x) : ∀ (A : List α) (A' : List β), A.length = A'.length → (∀ (i : Nat) a b, A[i]? = some a → A'[i]? = some b → R a b) → ∀ (i : Nat) a b, (A ++ u :: C)[i]? = some a → (A' ++ x :: C')[i]? = some b → R a b
  | [], [], _, _, 0, a, b, h1, h2 => by simp at h1 h2; subst h1 h2; exact hx
  | [], [], _, _, i + 1, a, b, h1, h2 => hC i a b (by simpa using h1) (by simpa using h2)
  | [], _ :: _, hl, _, _, _, _, _, _ => by simp at hl
  | _ :: _, [], hl, _, _, _, _, _, _ => by simp at hl
  | p :: A, q :: A', _, hA, 0, a, b, h1, h2 => hA 0 a b (by simpa using h1) (by simpa using h2)
  | p :: A, q :: A', hl, hA, i + 1, a, b, h1, h2 => ins_at hC hx A A' (by simpa using hl) (fun j a b e1 e2 => hA (j + 1) a b (by simpa using e1) (by simpa using e2)) i a b (by simpa using h1) (by simpa using h2)
end Go.Proofs.YtapkmoakbfpkeaaGreatDoor
namespace Go.Proofs.YtapkmoakbfpkeaaGreatDoor
open Go Go.RowKit Go.Proofs Go.Sort
def Apart (a b : Value × Value) : Prop := a.2.ownBlock = none ∨ a.2.ownBlock ≠ b.2.ownBlock
theorem Apart.sym {a b : Value × Value} (h : Apart a b) : Apart b a := by
  unfold Apart at *
  rcases h with h | h
  · cases hb : b.2.ownBlock with
    | none => exact .inl rfl
    | some x => exact .inr (by rw [h]; simp)
  · exact .inr (Ne.symm h)
/-- The peers as they are told so far, in memory of the call's own. -/
def SRow (w : World) (B : Nat) (v : Value) (I : List (List Int × List Adr)) : Prop := ∃ us : List (Value × Value), us.length = I.length ∧ w.ownsRow B 32 2 v I.length (pairCells us) ∧ (∀ (i : Nat) u x, us[i]? = some u → I[i]? = some x → PlainI B w u x) ∧ us.Pairwise Apart
theorem SRow.row {w : World} {B : Nat} {v : Value} {I : List (List Int × List Adr)} (h : SRow w B v I) : RowQ 32 (PlainI B) w B v I := by
  obtain ⟨us, h1, h2, h3, _⟩ := h
  exact ⟨us, h1, h2, h3⟩
theorem SRow.nil (w : World) (B : Nat) : SRow w B (.slice none 0 0) [] := ⟨[], rfl, World.ownsRow_nil _ _ _ _, fun i u x h => by simp at h, List.Pairwise.nil⟩
theorem SRow.below {w w' : World} {B : Nat} {v : Value} {I : List (List Int × List Adr)} (h : SRow w B v I) (hb : Below w.heap.size w w') : SRow w' B v I := by
  obtain ⟨us, h1, h2, h3, h4⟩ := h
  exact ⟨us, h1, ownsRow_below h2 hb, fun i u x e1 e2 => (h3 i u x e1 e2).below hb, h4⟩
theorem cut_at {α : Type} {l : List α} {k : Nat} {x : α} (h : l[k]? = some x) : l = l.take k ++ x :: l.drop (k + 1) := by
  obtain ⟨hk, rfl⟩ := List.getElem?_eq_some_iff.1 h
  rw [← List.drop_eq_getElem_cons hk, List.take_append_drop]
theorem SRow.ins {w w' : World} {B k : Nat} {v' : Value} {us : List (Value × Value)} {I : List (List Int × List Adr)} {u : Value × Value} {x : List Int × List Adr} (hul : us.length = I.length) (hP : ∀ (i : Nat) u x, us[i]? = some u → I[i]? = some x → PlainI B w u x) (hap : us.Pairwise Apart) (hk : k ≤ I.length)
    (ho : w'.ownsRow B 32 2 v' (I.length + 1) (pairCells (us.take k ++ u :: us.drop k))) (hK : Kept 32 w w') (hu : PlainI B w u x) (hau : ∀ y ∈ us, Apart y u) : SRow w' B v' (I.take k ++ x :: I.drop k) := by
  have h := hap
  rw [← List.take_append_drop k us, List.pairwise_append] at h
  refine ⟨us.take k ++ u :: us.drop k, by simp; omega, ?_, ?_, ?_⟩
  · rw [show (I.take k ++ x :: I.drop k).length = I.length + 1 by simp; omega]; exact ho
  · refine ins_at (fun i a b h1 h2 => ?_) (hu.kept hK (by decide) (by decide)) (us.take k) (I.take k) (by simp; omega) (fun i a b h1 h2 => ?_)
    · rw [List.getElem?_drop] at h1 h2
      exact (hP _ a b h1 h2).kept hK (by decide) (by decide)
    · have hi : i < k := by have := (List.getElem?_eq_some_iff.1 h1).1; rw [List.length_take] at this; omega
      rw [List.getElem?_take_of_lt hi] at h1 h2
      exact (hP _ a b h1 h2).kept hK (by decide) (by decide)
  · refine List.pairwise_append.2 ⟨h.1, List.pairwise_cons.2 ⟨fun c hc => (hau c (List.mem_of_mem_drop hc)).sym, h.2.1⟩, fun a ha c hc => ?_⟩
    rcases List.mem_cons.1 hc with rfl | hc
    · exact hau a (List.mem_of_mem_take ha)
    · exact h.2.2 a ha c hc
theorem setRow {w : World} {B g n c : Nat} {A C : List (Value × Value)} {u1 u2 : Value} (h : w.ownsRow B 32 2 (.slice (some ⟨g, 0, none⟩) n c) n (pairCells (A ++ (u1, u2) :: C))) (y : Value) :
    (w.setCell ⟨g, A.length * 2 + 1, none⟩ y).ownsRow B 32 2 (.slice (some ⟨g, 0, none⟩) n c) n (pairCells (A ++ (u1, y) :: C)) := by
  obtain ⟨hl, h⟩ := h
  refine ⟨by rw [pairCells_len] at hl ⊢; simpa using hl, ?_⟩
  rcases h with ⟨e, _⟩ | ⟨g', cap, cur, e, hB, hh, hc, hm, hs, ht⟩
  · cases e
  · injection e with e1 _ e3
    injection e1 with e1
    injection e1 with e1
    subst e1 e3
    refine .inr ⟨g, c, cur.setIfInBounds (A.length * 2 + 1) y, rfl, hB, by simp [World.setCell, Array.getElem?_modify, hh], hc, hm, by simpa using hs, ?_⟩
    rw [Array.toList_setIfInBounds, List.take_set, ht, pairCells_ins, pairCells_ins, List.set_append_right _ _ (by rw [pairCells_len]; omega), pairCells_len, show A.length * 2 + 1 - A.length * 2 = 1 by omega]
    rfl
theorem SRow.hit {w w7 w8 : World} {B : Nat} {v u1 u2 v7 : Value} {A C : List (Value × Value)} {A' C' : List (List Int × List Adr)} {id : List Int} {ts ts7 : List Adr} (hA : A.length = A'.length) (hC : C.length = C'.length)
    (hP : ∀ (i : Nat) u x, (A ++ (u1, u2) :: C)[i]? = some u → (A' ++ (id, ts) :: C')[i]? = some x → PlainI B w u x) (hap : (A ++ (u1, u2) :: C).Pairwise Apart)
    (hg : w.grownBy w7 u2.ownBlock) (hK : Kept 23 w w7) (hrow : BRow w7 B v7 ts7) (hob : v7.ownBlock = u2.ownBlock ∨ v7.ownBlock = some w.heap.size) (hK8 : Kept 32 w7 w8)
    (ho : w8.ownsRow B 32 2 v (A' ++ (id, ts) :: C').length (pairCells (A ++ (u1, v7) :: C))) : SRow w8 B v (A' ++ (id, ts7) :: C') := by
  rw [List.pairwise_append, List.pairwise_cons] at hap
  have each : ∀ (y : Value × Value) (z : List Int × List Adr), PlainI B w y z → Apart y (u1, u2) → PlainI B w8 y z := fun y z hy ha => by
    refine PlainI.kept (w := w7) ⟨hK.bv (by decide) hy.1, ?_⟩ hK8 (by decide) (by decide)
    exact RowP.moved hy.2 (fun _ h => h.kept hg ha) fun _ _ hm => hK.bv (by decide) hm
  have lt : ∀ (y : Value × Value) (z : List Int × List Adr), PlainI B w y z → y.2.ownBlock = none ∨ y.2.ownBlock ≠ some w.heap.size := fun y z hy => by
    obtain ⟨_, _, ho, _⟩ := hy.2
    cases hb : y.2.ownBlock with
    | none => exact .inl rfl
    | some g =>
      refine .inr fun e => ?_
      have h2 := (ho.lt g hb).2
      injection e with e3
      omega
  have hPA : ∀ (i : Nat) a b, A[i]? = some a → A'[i]? = some b → PlainI B w a b := fun i a b h1 h2 => hP i a b (by rw [List.getElem?_append_left (List.getElem?_eq_some_iff.1 h1).1]; exact h1) (by rw [List.getElem?_append_left (List.getElem?_eq_some_iff.1 h2).1]; exact h2)
  have hPC : ∀ (i : Nat) a b, C[i]? = some a → C'[i]? = some b → PlainI B w a b := fun i a b h1 h2 => hP (A.length + 1 + i) a b (by rw [List.getElem?_append_right (by omega), show A.length + 1 + i - A.length = i + 1 by omega]; simpa using h1) (by rw [List.getElem?_append_right (by omega), show A.length + 1 + i - A'.length = i + 1 by omega]; simpa using h2)
  have hPu : PlainI B w (u1, u2) (id, ts) := hP A.length _ _ (by simp) (by rw [hA]; simp)
  have apA : ∀ a ∈ A, Apart a (u1, u2) := fun a ha => hap.2.2 a ha _ (by simp)
  have apC : ∀ a ∈ C, Apart a (u1, u2) := fun a ha => (hap.2.1.1 a ha).sym
  have ap7 : ∀ (a : Value × Value) (z : List Int × List Adr), PlainI B w a z → Apart a (u1, u2) → Apart a (u1, v7) := fun a z ha h => by
    rcases hob with e | e
    · unfold Apart at *; simp only [e]; exact h
    · unfold Apart; simp only [e]; exact lt a z ha
  have memA : ∀ a ∈ A, ∃ z, PlainI B w a z := fun a ha => by
    obtain ⟨i, hi⟩ := List.getElem?_of_mem ha
    have hl := (List.getElem?_eq_some_iff.1 hi).1
    exact ⟨_, hPA i a _ hi (List.getElem?_eq_getElem (by omega))⟩
  have memC : ∀ a ∈ C, ∃ z, PlainI B w a z := fun a ha => by
    obtain ⟨i, hi⟩ := List.getElem?_of_mem ha
    have hl := (List.getElem?_eq_some_iff.1 hi).1
    exact ⟨_, hPC i a _ hi (List.getElem?_eq_getElem (by omega))⟩
  refine ⟨A ++ (u1, v7) :: C, by simp; omega, by simpa using ho, ?_, ?_⟩
  · refine ins_at (fun i a b h1 h2 => each _ _ (hPC i a b h1 h2) (apC a (List.mem_of_getElem? h1))) ?_ A A' hA (fun i a b h1 h2 => each _ _ (hPA i a b h1 h2) (apA a (List.mem_of_getElem? h1)))
    exact ⟨hK8.bv (by decide) (hK.bv (by decide) hPu.1), hrow.kept hK8 (by decide) (by decide)⟩
  · refine List.pairwise_append.2 ⟨hap.1, List.pairwise_cons.2 ⟨fun c hc => ?_, hap.2.1.2⟩, fun a ha c hc => ?_⟩
    · obtain ⟨z, hz⟩ := memC c hc
      exact (ap7 c z hz (apC c hc)).sym
    · rcases List.mem_cons.1 hc with rfl | hc
      · obtain ⟨z, hz⟩ := memA a ha
        exact ap7 a z hz (apA a ha)
      · exact hap.2.2 a ha c (List.mem_cons_of_mem _ hc)
theorem SRow.hitAt {wr w3 w7 : World} {B gI n2 c2 kk : Nat} {u1 u2 v7 : Value} {us : List (Value × Value)} {I : List (List Int × List Adr)} {id : List Int} {ts ts7 : List Adr} {cur : Array Value} (hul : us.length = I.length) (huo : wr.ownsRow B 32 2 (.slice (some ⟨gI, 0, none⟩) n2 c2) I.length (pairCells us))
    (huP : ∀ (i : Nat) u x, us[i]? = some u → I[i]? = some x → PlainI B wr u x) (hap : us.Pairwise Apart) (hIn : I.length = n2) (hb : Below wr.heap.size wr w3) (hu : us[kk]? = some (u1, u2)) (hx : I[kk]? = some (id, ts)) (hgI : w3.heap[gI]? = some (.cells cur 32 (0, 0)))
    (hg : w3.grownBy w7 u2.ownBlock) (hK : Kept 23 w3 w7) (hrow : BRow w7 B v7 ts7) (hob : v7.ownBlock = u2.ownBlock ∨ v7.ownBlock = some w3.heap.size) :
    SRow (w7.setCell ⟨gI, kk * 2 + 1, none⟩ v7) B (.slice (some ⟨gI, 0, none⟩) n2 c2) (I.take kk ++ (id, ts7) :: I.drop (kk + 1)) := by
  have hk1 : kk < us.length := (List.getElem?_eq_some_iff.1 hu).1
  have hl : (us.take kk).length = kk := by rw [List.length_take]; omega
  have hc := cut_at hu
  have hd := cut_at hx
  have hg7 := hK _ _ _ _ hgI (by decide)
  have ho7 : w7.ownsRow B 32 2 (.slice (some ⟨gI, 0, none⟩) n2 c2) n2 (pairCells (us.take kk ++ (u1, u2) :: us.drop (kk + 1))) := by
    rw [← hc, ← hIn]
    rw [← hIn] at huo
    exact hK.own (by decide) (ownsRow_below huo hb)
  have ho8 := setRow ho7 v7
  rw [hl] at ho8
  refine SRow.hit (w := w3) (w7 := w7) (u1 := u1) (u2 := u2) (A := us.take kk) (C := us.drop (kk + 1)) (ts := ts) (by rw [List.length_take, List.length_take]; omega) (by rw [List.length_drop, List.length_drop]; omega) ?_ ?_ hg hK hrow hob (Kept.setCell (p := ⟨gI, kk * 2 + 1, none⟩) hg7 _) ?_
  · rw [← hc, ← hd]
    exact fun i u x e1 e2 => (huP i u x e1 e2).below hb
  · rw [← hc]; exact hap
  · rw [← hd, hIn]; exact ho8
theorem stepAppG {ops : Array Oper} {o : Oper} {a : Act} {w : World} {K : Act → World → Prop} {Q : Exit → Act → World → Prop} {E : Prop} (hgd : o.guard = none) (d : Nat) (hd : o.dst = some d) (s x : Operand)
    (ho : o.op = .call { callee := .builtin .append, args := #[s, x], argTypes := #[30, 30] }) (base : Nat) (v : Value) (n : Nat) (us : List Value) (hs : a.eval s = v) (hown : w.ownsRow base 23 1 v n us)
    (g m c : Nat) (news : List Value) (hl : news.length = m) (hu : ∀ u ∈ news, u.oneCell' = true) (hx : a.eval x = .slice (some ⟨g, 0, none⟩) m c) (hb : ∀ (j : Nat) u, news[j]? = some u → w.cell? ⟨g, j, none⟩ = some u) (hN : n ≤ 1000000) (hm : m ≤ 1000000) (hbase : base ≤ w.heap.size)
    (h : ∀ v' w', w'.ownsRow base 23 1 v' (n + m) (us ++ news) → w.grownBy w' v.ownBlock → (v'.ownBlock = v.ownBlock ∨ v'.ownBlock = some w.heap.size) → K (a.put (some d) v') w') : if Region.wanted o (yielded ops a.tmps) = true then Oper.wp Tryz.prog o a w K Q else E := by
  have hw : Region.wanted o (yielded ops a.tmps) = true := by simp [Region.wanted, hgd]
  rw [if_pos hw]
  obtain ⟨i0, hi, hz0, hz1, hz2⟩ := info_parts infoSl
  obtain ⟨v', w', hr, h2, h3, _, h5⟩ := run_append_own_at (P := Tryz.prog) w base 30 o.type 23 i0 _ 1 24 Tryz.underlying30 hi hz0 hz1 hz2 rfl (by decide) v n us hown ⟨g, 0, none⟩ m c news (by omega) (fun j u' hj => (by
    rw [Lib.add_plain, Nat.zero_add]
    exact hb j u' hj)) hu (by unfold maxLen; omega) (by omega) hbase
  unfold Oper.wp execOp
  simp only [ho, resolve, invoke, builtin, Sem.run_bind, Sem.run_pure, Result.andThen_ok, List.map_toArray, List.map_cons, List.map_nil, hs, hx, hr]
  show K (a.put o.dst v') w'
  rw [hd]
  exact h v' w' h2 h3 h5
theorem RowP.cat {α : Type} {T : TypeId} {P : World → Value → α → Prop} {w : World} {B : Nat} {v : Value} {xs ys : List α} {us vs : List Value} (hl : us.length = xs.length) (hP : ∀ (i : Nat) u x, us[i]? = some u → xs[i]? = some x → P w u x) (hl2 : vs.length = ys.length) (hP2 : ∀ (i : Nat) u x, vs[i]? = some u → ys[i]? = some x → P w u x) (hown : w.ownsRow B T 1 v (xs.length + ys.length) (us ++ vs)) : RowP T P w B v (xs ++ ys) := by
  refine ⟨us ++ vs, by simp [hl, hl2], by simpa using hown, fun i u x h1 h2 => ?_⟩
  by_cases hi : i < us.length
  · rw [List.getElem?_append_left hi] at h1
    rw [List.getElem?_append_left (by omega)] at h2
    exact hP i u x h1 h2
  · rw [List.getElem?_append_right (by omega)] at h1 h2
    rw [← hl] at h2
    exact hP2 _ u x h1 h2
theorem pairs_one {w : World} {B : Nat} {us : List (Value × Value)} {I : List (List Int × List Adr)} (hul : us.length = I.length) (hP : ∀ (i : Nat) u x, us[i]? = some u → I[i]? = some x → PlainI B w u x) : ∀ v ∈ pairCells us, v.oneCell' = true := fun v hv => by
  obtain ⟨u, hu, hv⟩ := List.mem_flatMap.1 hv
  obtain ⟨i, hi⟩ := List.getElem?_of_mem hu
  have hl := (List.getElem?_eq_some_iff.1 hi).1
  have h := hP i u _ hi (List.getElem?_eq_getElem (by omega))
  obtain ⟨p, c, e, _⟩ := RowP.slice h.2
  simp only [List.mem_cons, List.not_mem_nil, or_false] at hv
  rcases hv with rfl | rfl
  · exact h.1.one
  · rw [e]; rfl
theorem ids_u8 {L : List Adr} {I : List (List Int × List Adr)} (hL : ∀ hs ∈ L, AdrOk hs) (h6 : ∀ hs ∈ L, ends6 hs) (hI : IsInfos L I) : ∀ x ∈ I, U8 x.1 := fun x hx => (adr_last hL h6 (id := x.1) (by rw [(hI.2 x.1 x.2).1 hx]; simp)).1
theorem id_u8 {A : Adr} (hA : AdrOk A) (h6 : ends6 A) : U8 (lastId A) := (adr_last (L := [A]) (fun hs h => by simp at h; rw [h]; exact hA) (fun hs h => by simp at h; rw [h]; exact h6) (id := lastId A) (by have := Fof_snoc [] A (lastId A); simp at this; rw [this]; simp)).1
theorem stepApp0 {ops : Array Oper} {o : Oper} {a : Act} {w : World} {K : Act → World → Prop} {Q : Exit → Act → World → Prop} {E : Prop} (hgd : o.guard = none) (d : Nat) (hd : o.dst = some d) (s x : Operand)
    (ho : o.op = .call { callee := .builtin .append, args := #[s, x], argTypes := #[30, 30] }) (base : Nat) (v : Value) (n : Nat) (us : List Value) (hs : a.eval s = v) (hown : w.ownsRow base 23 1 v n us)
    (hx : a.eval x = .slice none 0 0) (h : K (a.put (some d) v) w) : if Region.wanted o (yielded ops a.tmps) = true then Oper.wp Tryz.prog o a w K Q else E := by
  have hw : Region.wanted o (yielded ops a.tmps) = true := by simp [Region.wanted, hgd]
  rw [if_pos hw]
  obtain ⟨i0, hi, _⟩ := info_parts infoSl
  have hrun := run_append_owned_none (P := Tryz.prog) (w := w) base 30 o.type 23 i0 1 Tryz.underlying30 hi v n us hown
  unfold Oper.wp
  simp [execOp, ho, resolve, invoke, builtin, hs, hx, hrun, Result.andThen]
  show K (a.put o.dst v) w
  rw [hd]
  exact h
end Go.Proofs.YtapkmoakbfpkeaaGreatDoor
namespace Go.Proofs.YtapkmoakbfpkeaaGreatDoor
open Go Go.RowKit Go.Proofs Go.Sort
def STold (L : List Adr) (w : World) (e : Ending) (w' : World) : Prop := ∃ p n c ok I, I.length = n ∧ e = .returned (.tuple #[.slice p n c, .bool ok]) ∧ RowQ 32 (PlainI w.heap.size) w' w.heap.size (.slice p n c) I ∧ Told L ok I ∧ Below w.heap.size w w'
theorem SRow.form {w : World} {B : Nat} {v : Value} {I : List (List Int × List Adr)} (h : SRow w B v I) : ∃ p c, v = .slice p I.length c ∧ (I ≠ [] → ∃ g, p = some ⟨g, 0, none⟩) := by
  rcases RowQ.form h.row with ⟨e, rfl⟩ | ⟨g, c, e, _⟩
  · exact ⟨none, 0, e, fun h => absurd rfl h⟩
  · exact ⟨_, c, e, fun _ => ⟨g, rfl⟩⟩
/-- Where the loop stands. -/
def SAt (f : List Int → List Int) (w : World) (ds : List LEl) (sv : Value) (I : List (List Int × List Adr)) (wr : World) : Prop := SRow wr w.heap.size sv I ∧ IsInfos (adrs f ds) I ∧ (∀ hs ∈ adrs f ds, ends6 hs) ∧ Below w.heap.size w wr
set_option maxHeartbeats 16000000 in
set_option maxRecDepth 100000 in
theorem specInfos (f : List Int → List Int) (hf : ShaIs f) (p : Option Addr) (c k : Nat) (ls : List LEl) (hk : ls.length = k) (hk1 : k ≤ 500) (hs : ∀ a ∈ ls, Short a) (w : World) (hb : LLIn w p ls) :
    Calls Tryz.prog 30 #[.slice p k c] w (STold (adrs f ls) w) := by
  have HB := Lib.hid (And.intro hb (And.intro hk (And.intro hs hf)))
  clear hb hk hs hf
  go_enter Tryz.func30, Tryz.ntmps30
  go_wp2_with fail
  go_loopg [4, 13] k (fun gk sv iv wr => ∃ (ds rs : List LEl) (p2 : Option Addr) (n2 c2 : Nat) (I : List (List Int × List Adr)), ls = ds ++ rs ∧ gk = rs.length ∧ sv = .slice p2 n2 c2 ∧ iv = .int .i64 (ds.length : Int) ∧ I.length = n2 ∧ Hid (SAt f w ds (.slice p2 n2 c2) I wr))
  case atStart => exact ⟨[], ls, none, 0, 0, [], rfl, HB.out.2.1.symm, rfl, rfl, rfl, SRow.nil _ _, ⟨List.Pairwise.nil, fun id ts => by simp [adrs, Fof_nil]⟩, fun hs h => by simp [adrs] at h, Below.refl _ _⟩
  case round =>
    obtain ⟨ds, rs, p2, n2, c2, I, hds, rfl, rfl, rfl, hIn, hI⟩ := hrel
    cases rs with
    | nil =>
      have hlt : ds.length = k := by rw [← HB.out.2.1, hds, List.append_nil]
      have hl2 : decide (ds.length < k) = false := by rw [decide_eq_false_iff_not, hlt]; omega
      have HD := Lib.hid (And.intro (show ls = ds by rw [hds, List.append_nil]) hIn)
      clear hds hlt hIn
      go_wp2_with fail
      go_ret2
      obtain ⟨a1, a2, a3, a4⟩ := hI.out
      exact ⟨p2, n2, c2, true, I, HD.out.2, rfl, a1.row, .inl ⟨rfl, by rw [HD.out.1]; exact a3, by rw [HD.out.1]; exact a2⟩, a4⟩
    | cons r rs =>
      have hlt : ds.length < k := by rw [← HB.out.2.1, hds]; simp
      have hl2 : decide (ds.length < k) = true := by rw [decide_eq_true_iff]; omega
      obtain ⟨b, o, rfl, ha⟩ := HB.out.1 (by rw [hds, List.length_append, List.length_cons]; omega)
      obtain ⟨hc0, hli, hlc⟩ := ha ds.length r (by rw [hds]; simp)
      have hsr := HB.out.2.2.1 r (by rw [hds]; simp)
      have hok := adr_ok HB.out.2.2.2 hli hsr
      have hli' := hli.below hI.out.2.2.2
      replace hc0 := cB hI.out.2.2.2 hc0
      obtain ⟨q, c', l⟩ := r
      have hsi := specInfo f HB.out.2.2.2 q c' l.length l rfl hlc hsr wr hli'
      obtain ⟨A, hAe⟩ : ∃ A, A = l.map (hopOf f) := ⟨_, rfl⟩
      rw [← hAe] at hsi hok
      have HD := Lib.hid (And.intro hds (And.intro hsi (And.intro hok (And.intro hAe hIn))))
      clear hds hsi hok hAe hli ha hsr hlc hli' hIn
      obtain ⟨m, hm⟩ : ∃ m, m = l.length := ⟨_, rfl⟩
      replace hc0 : wr.cell? ⟨b, o + ds.length, none⟩ = some (.slice q m c') := by rw [hm]; exact hc0
      rw [← hm] at HD
      clear hm
      go_wp2_with fail
      refine HD.out.2.1.mono ?_
      rintro e w1 ⟨hB1, ⟨h6, g1, c1, p3, c3, rfl, hpl⟩ | ⟨h6, rfl⟩⟩
      · obtain ⟨M, hM⟩ : ∃ M, M = (lastId A).length := ⟨_, rfl⟩
        obtain ⟨N, hN⟩ : ∃ N, N = (wayOf A).length := ⟨_, rfl⟩
        rw [← hM, ← hN] at hpl ⊢
        have H1 := Lib.hid (And.intro hB1 (And.intro h6 (And.intro hpl (And.intro hM hN))))
        clear hB1 h6 hpl hM hN
        go_upto_region 8 with fail
        obtain ⟨X, hXe⟩ : ∃ X, X = w1.heap.size := ⟨_, rfl⟩
        obtain ⟨W2, hW2⟩ : ∃ W, W = w1.alloc (.cells #[.slice (some ⟨g1, 0, none⟩) M c1, .slice p3 N c3] 32) := ⟨_, rfl⟩
        have hb2 : Below w1.heap.size w1 W2 := by rw [hW2]; exact (Below.refl _ _).alloc (Nat.le_refl _) _
        have hX : W2.heap[X]? = some (.cells #[.slice (some ⟨g1, 0, none⟩) M c1, .slice p3 N c3] 32 (0, 0)) := by rw [hW2, hXe]; exact heap_alloc_new _ _
        rw [← hXe, ← hW2]
        clear hW2 hXe
        obtain ⟨us, hul, huo, huP, hap⟩ := hI.out.1
        have hb02 : Below wr.heap.size wr W2 := H1.out.1.trans (hb2.mono H1.out.1.size)
        have hpl2 : PlainI wr.heap.size W2 (.slice (some ⟨g1, 0, none⟩) M c1, .slice p3 N c3) (lastId A, wayOf A) := H1.out.2.2.1.below hb2
        have hbs : Bs W2 g1 0 (lastId A) := by
          obtain ⟨g, c, cs, e, _, _, h⟩ := hpl2.1
          injection e with e1
          injection e1 with e1
          injection e1 with e1
          rw [e1]; exact h
        have hok1 : ∀ hs ∈ adrs f ds, AdrOk hs := fun x hx => adrs_ok HB.out.2.2.2 HB.out.1 HB.out.2.2.1 x (by rw [HD.out.1]; unfold adrs at *; rw [List.map_append]; exact List.mem_append_left _ hx)
        have hin0 : n2 ≤ ds.length := by
          have h := infos_len hI.out.2.1
          rw [HD.out.2.2.2.2] at h
          simpa [adrs] using h
        have hsk := seekPeer w.heap.size p2 n2 c2 I HD.out.2.2.2.2 (by omega) W2 (hI.out.1.below hb02).row hI.out.2.1.1 (ids_u8 hok1 hI.out.2.2.1 hI.out.2.1) g1 0 M c1 (lastId A) H1.out.2.2.2.1.symm (id_u8 HD.out.2.2.1 H1.out.2.1) hbs
        obtain ⟨⟨x0, x1⟩, _, _⟩ := two_cells hX
        have H2 := Lib.hid (And.intro hsk (And.intro hX (And.intro hpl2 (And.intro hb02 (And.intro hul (And.intro huo (And.intro huP hap)))))))
        have hin1 : n2 ≤ 1000 := by omega
        clear hsk hX hpl2 hb02 hul huo huP hap hb2 hbs hok1
        go_wp2_with fail
        refine H2.out.1.mono ?_
        rintro e w3 ⟨kk, is, rfl, hpos, hyes, hno, hB3⟩
        have y0 := cB hB3 x0
        have y1 := cB hB3 x1
        have hX3 := (hB3.block X (Array.getElem?_eq_some_iff.1 H2.out.2.1).1).trans H2.out.2.1
        have hb03 := H2.out.2.2.2.1.trans (hB3.mono H2.out.2.2.2.1.size)
        have hB13 : Below w.heap.size w w3 := hI.out.2.2.2.trans (hb03.mono hI.out.2.2.2.size)
        have hpl3 := H2.out.2.2.1.below hB3
        cases is with
        | false =>
          have hkn : kk ≤ n2 := by rw [← HD.out.2.2.2.2]; exact hpos.1
          have H3 := Lib.hid (And.intro hpos (And.intro (hno rfl) (And.intro hX3 (And.intro hb03 (And.intro hB13 hpl3)))))
          clear hpos hyes hno hX3 hb03 hB13 hpl3 x0 x1
          go_wp2_with fail
          obtain ⟨W4, hW4⟩ : ∃ W, W = w3.alloc (.cells #[.slice (some ⟨g1, 0, none⟩) M c1, .slice p3 N c3] 32) := ⟨_, rfl⟩
          have hb4 : Below w3.heap.size w3 W4 := by rw [hW4]; exact (Below.refl _ _).alloc (Nat.le_refl _) _
          have hgv : W4.heap[w3.heap.size]? = some (.cells #[.slice (some ⟨g1, 0, none⟩) M c1, .slice p3 N c3] 32 (0, 0)) := by rw [hW4]; exact heap_alloc_new _ _
          rw [← hW4]
          clear hW4
          have hb04 : Below wr.heap.size wr W4 := H3.out.2.2.2.1.trans (hb4.mono H3.out.2.2.2.1.size)
          have hB14 : Below w.heap.size w W4 := H3.out.2.2.2.2.1.trans (hb4.mono H3.out.2.2.2.2.1.size)
          have huo4 : W4.ownsRow w.heap.size 32 2 (.slice p2 n2 c2) n2 (pairCells us) := by
            have h := ownsRow_below H2.out.2.2.2.2.2.1 hb04
            rwa [HD.out.2.2.2.2] at h
          have hne : (Value.slice p2 n2 c2).ownBlock ≠ some w3.heap.size := fun e => by
            have h1 := (H2.out.2.2.2.2.2.1.lt _ e).2
            have h2 := H3.out.2.2.2.1.size
            omega
          refine (insAny w.heap.size p2 n2 c2 kk us W4 huo4 (pairs_one H2.out.2.2.2.2.1 H2.out.2.2.2.2.2.2.1) hkn hin1 hB14.size w3.heap.size (.slice (some ⟨g1, 0, none⟩) M c1, .slice p3 N c3) hgv hne rfl rfl).mono ?_
          rintro e w5 ⟨v5, rfl, ho5, hg5⟩
          obtain ⟨p5, c5, rfl⟩ : ∃ p c, v5 = .slice p (n2 + 1) c := by
            rcases ho5.2 with ⟨_, h0⟩ | ⟨g5, c5, _, e, _⟩
            · omega
            · exact ⟨_, c5, e⟩
          have H5 := Lib.hid (And.intro ho5 (And.intro hg5 (And.intro huo4 (And.intro hb04 (And.intro hB14 hb4)))))
          clear ho5 hg5 huo4 hb04 hB14 hb4 hgv hne
          go_wp2_with fail
          go_roundg rs.length
          case measure => simp
          case rel =>
            obtain ⟨ho5, hg5, huo4, hb04, hB14, hb4⟩ := H5.out
            obtain ⟨hpos, hno, hX3, hb03, hB13, hpl3⟩ := H3.out
            obtain ⟨_, _, _, _, hul, huo, huP, hap⟩ := H2.out
            obtain ⟨a1, a2, a3, a4⟩ := hI.out
            obtain ⟨hds, _, hok, hAe, hIn⟩ := HD.out
            obtain ⟨_, h6, hpl, hM, hN⟩ := H1.out
            have hds2 : adrs f (ds ++ [⟨q, c', l⟩]) = adrs f ds ++ [A] := by unfold adrs; rw [List.map_append, hAe]; rfl
            refine ⟨ds ++ [⟨q, c', l⟩], rs, p5, n2 + 1, c5, I.take kk ++ (lastId A, wayOf A) :: I.drop kk, by rw [hds, List.append_assoc]; rfl, rfl, rfl, by simp, by rw [← hIn]; simp; omega, ?_⟩
            refine ⟨?_, by rw [hds2]; exact Pos.miss a2 hpos hno rfl, fun hs hh => ?_, grown_below hB14 huo4 hg5 hB14.size⟩
            · refine SRow.ins (w := W4) (us := us) (u := (.slice (some ⟨g1, 0, none⟩) M c1, .slice p3 N c3)) hul (fun i u x e1 e2 => (huP i u x e1 e2).below hb04) hap (by omega) (by rw [hIn]; exact ho5) (Kept.row huo4 hg5) ?_ fun y hy => ?_
              · have h := hpl3.below hb4
                exact ⟨h.1.mono a4.size, h.2.mono a4.size⟩
              · obtain ⟨i, hi⟩ := List.getElem?_of_mem hy
                have hl := (List.getElem?_eq_some_iff.1 hi).1
                obtain ⟨_, _, hoy, _⟩ := (huP i y _ hi (List.getElem?_eq_getElem (by omega))).2
                obtain ⟨_, _, hon, _⟩ := hpl.2
                unfold Apart
                cases hyb : y.2.ownBlock with
                | none => exact .inl rfl
                | some g =>
                  refine .inr fun e => ?_
                  have h1 := (hoy.lt g hyb).2
                  have h2 := (hon.lt g e.symm).1
                  omega
            · rw [hds2] at hh
              rcases List.mem_append.1 hh with hh | hh
              · exact a3 hs hh
              · simp at hh
                rw [hh]; exact h6
        | true =>
          obtain ⟨x, hx, hx0⟩ := hyes rfl
          have hkn : kk < n2 := by rw [← HD.out.2.2.2.2]; exact (List.getElem?_eq_some_iff.1 hx).1
          obtain ⟨gI, rfl⟩ : ∃ gI, p2 = some ⟨gI, 0, none⟩ := by
            obtain ⟨p', c', e, h⟩ := SRow.form hI.out.1
            injection e with e1
            rw [e1]
            exact h (fun e => by rw [e] at hx; simp at hx)
          obtain ⟨hxe, hII⟩ := Pos.hit hI.out.2.1 hpos hx hx0 (hs := A) rfl
          obtain ⟨idx, ts⟩ := x
          obtain rfl : idx = lastId A := congrArg Prod.fst hxe
          obtain ⟨_, _, _, _, hul, huo, huP, hap⟩ := H2.out
          obtain ⟨⟨u1, u2⟩, hu⟩ : ∃ u, us[kk]? = some u := ⟨_, List.getElem?_eq_getElem (by rw [hul, HD.out.2.2.2.2]; exact hkn)⟩
          have hpu : PlainI w.heap.size wr (u1, u2) (lastId A, ts) := huP kk _ _ hu hx
          obtain ⟨hcc0, hcc1⟩ := pairCells_at us kk _ hu
          obtain ⟨cur, hgI⟩ : ∃ cur, wr.heap[gI]? = some (.cells cur 32 (0, 0)) := by
            rcases huo.2 with ⟨e, _⟩ | ⟨g, cap, cur, e, _, hh, _⟩
            · cases e
            · injection e with e1
              injection e1 with e1
              injection e1 with e1
              subst e1
              exact ⟨cur, hh⟩
          have huo2 := huo
          rw [HD.out.2.2.2.2] at huo2
          have z1 : w3.cell? ⟨gI, kk * 2 + 1, none⟩ = some u2 := cB hb03 ((huo2.cellAt (kk * 2 + 1) (by omega)).trans hcc1)
          clear huo2
          have hgI3 := (hb03.block gI (Array.getElem?_eq_some_iff.1 hgI).1).trans hgI
          have zf : w3.frozen? ⟨gI, kk * 2 + 1, none⟩ = false := by simp [World.frozen?, hgI3]
          obtain ⟨p7, c7, rfl⟩ : ∃ p c, u2 = .slice p ts.length c := by
            obtain ⟨p, c, e, _⟩ := RowP.slice hpu.2
            exact ⟨p, c, e⟩
          obtain ⟨us7, hul7, huo7, huP7⟩ := hpu.2
          have huo73 : w3.ownsRow w.heap.size 23 1 (.slice p7 ts.length c7) ts.length us7 := ownsRow_below huo7 hb03
          have htl : ts.length ≤ 1000 := by
            have h := Fof_len (adrs f ds) (lastId A)
            rw [(hI.out.2.1.2 (lastId A) ts).1 (List.mem_of_getElem? hx)] at h
            simp [adrs] at h
            omega
          have hw3 : w.heap.size ≤ w3.heap.size := hB13.size
          have H3 := Lib.hid (And.intro hII (And.intro hb03 (And.intro hB13 (And.intro hul7 (And.intro huo73 (And.intro huP7 (And.intro hgI3 (And.intro hu hx))))))))
          have HP := Lib.hid hpl3
          clear hpos hyes hno hX3 hb03 hB13 x0 x1 hxe hII hul huo huP hap hpu hcc0 hcc1 hgI hul7 huo7 huP7 hx hx0 hu huo73
          obtain ⟨n7, hn7⟩ : ∃ n, n = ts.length := ⟨_, rfl⟩
          rw [← hn7] at H3 z1 htl
          have H7 := Lib.hid hn7
          clear hn7
          rcases RowP.form hpl3.2 with ⟨e, hw⟩ | ⟨g3, c3', e, hc3, _⟩
          · injection e with e1 e2 e3
            subst e1 e2 e3
            have HW := Lib.hid hw
            clear hw hpl3
            go_upto_region 10 with fail
            go_region_law (refine stepApp0 rfl 41 rfl _ _ rfl w.heap.size _ n7 us7 rfl H3.out.2.2.2.2.1 rfl ?_)
            all_goals
              go_wp2_with fail
              go_roundg rs.length
              case measure => simp
              case rel =>
                obtain ⟨hII, hb03, hB13, hul7, huo7, huP7, hgI3, hu, hx⟩ := H3.out
                obtain ⟨_, _, _, _, hul, huo, huP, hap⟩ := H2.out
                obtain ⟨a1, a2, a3, a4⟩ := hI.out
                obtain ⟨hds, _, hok, hAe, hIn⟩ := HD.out
                have hds2 : adrs f (ds ++ [⟨q, c', l⟩]) = adrs f ds ++ [A] := by unfold adrs; rw [List.map_append, hAe]; rfl
                refine ⟨ds ++ [⟨q, c', l⟩], rs, some ⟨gI, 0, none⟩, n2, c2, I.take kk ++ (lastId A, ts ++ wayOf A) :: I.drop (kk + 1), by rw [hds, List.append_assoc]; rfl, rfl, rfl, by simp, by rw [← hIn]; simp; omega, ?_⟩
                refine ⟨?_, by rw [hds2]; exact hII, fun hs hh => ?_, ?_⟩
                · refine SRow.hitAt (wr := wr) (w3 := w3) (w7 := w3) hul huo huP hap hIn hb03 hu hx hgI3 ⟨rfl, rfl, rfl, Nat.le_refl _, fun _ _ _ => rfl⟩ (Kept.refl _ _) ?_ (.inl rfl)
                  rw [HW.out, List.append_nil]
                  exact ⟨us7, hul7.trans H7.out, by rw [← H7.out]; exact huo7, fun i u x e1 e2 => (huP7 i u x e1 e2).below hb03⟩
                · rw [hds2] at hh
                  rcases List.mem_append.1 hh with hh | hh
                  · exact a3 hs hh
                  · simp at hh
                    rw [hh]; exact H1.out.2.1
                · have hlt : w.heap.size ≤ gI := by
                    rcases huo.2 with ⟨e, _⟩ | ⟨g, cap, cur', e, h, _⟩
                    · cases e
                    · injection e with e1
                      injection e1 with e1
                      injection e1 with e1
                      rw [e1]; exact h
                  exact (hB13.setCell (p := ⟨gI, kk * 2 + 1, none⟩) hlt _).drew
          · obtain ⟨vs3, hvl3, hvo3, hvP3⟩ := hpl3.2
            injection e with e1 e2 e3
            subst e1 e3
            rw [← H1.out.2.2.2.2] at hvo3
            have hvo33 : ∀ j u, vs3[j]? = some u → w3.cell? ⟨g3, j, none⟩ = some u := fun j u hj => by
              have h := (List.getElem?_eq_some_iff.1 hj).1
              exact (hvo3.cellAt j (by omega)).trans hj
            have hvn : vs3.length = N := by rw [hvl3, ← H1.out.2.2.2.2]
            have hv1 : ∀ u ∈ vs3, u.oneCell' = true := fun u hu => by
              obtain ⟨i, hi⟩ := List.getElem?_of_mem hu
              have h := (List.getElem?_eq_some_iff.1 hi).1
              exact (hvP3 i u _ hi (List.getElem?_eq_getElem (by omega))).one
            have hNm : N ≤ 1000000 := by
              rw [H1.out.2.2.2.2]
              unfold wayOf
              split <;> simp
            have HV := Lib.hid (And.intro hvo33 (And.intro hvn (And.intro hv1 (And.intro hvP3 hvl3))))
            clear hvo33 hvn hv1 hvP3 hvl3 hvo3 hpl3 hc3 e2
            go_upto_region 10 with fail
            go_region_law (refine stepAppG rfl 41 rfl _ _ rfl w.heap.size (.slice p7 n7 c7) n7 us7 rfl H3.out.2.2.2.2.1 g3 N c3 vs3 HV.out.2.1 HV.out.2.2.1 rfl HV.out.1 (by omega) hNm hw3 ?_; intro v7 w7 ho7 hg7 hob7; replace hg7 : w3.grownBy w7 (Value.slice p7 n7 c7).ownBlock := ⟨hg7.os, hg7.tape, hg7.output, hg7.size, hg7.block⟩; obtain ⟨p8, c8, rfl⟩ : ∃ p c, v7 = .slice p (n7 + N) c := (by rcases ho7.2 with ⟨e, h0⟩ | ⟨g7, c7, _, e, _⟩; exact ⟨none, 0, by rw [e, h0]⟩; exact ⟨_, c7, e⟩); have hK7 : Kept 23 w3 w7 := Kept.row H3.out.2.2.2.2.1 hg7; have hg8 := hK7 _ _ _ _ H3.out.2.2.2.2.2.2.1 (by decide); have z8 : w7.cell? ⟨gI, kk * 2 + 1, none⟩ = some (.slice p7 n7 c7) := (World.cell?_of_block (a := ⟨gI, kk * 2 + 1, none⟩) (hg8.trans H3.out.2.2.2.2.2.2.1.symm)).trans z1; have zf8 : w7.frozen? ⟨gI, kk * 2 + 1, none⟩ = false := by simp [World.frozen?, hg8])
            all_goals
              go_wp2_with fail
              go_roundg rs.length
              case measure => simp
              case rel =>
                obtain ⟨hII, hb03, hB13, hul7, huo7, huP7, hgI3, hu, hx⟩ := H3.out
                obtain ⟨_, _, _, _, hul, huo, huP, hap⟩ := H2.out
                obtain ⟨a1, a2, a3, a4⟩ := hI.out
                obtain ⟨hds, _, hok, hAe, hIn⟩ := HD.out
                obtain ⟨hvo33, hvn, hv1, hvP3, hvl3⟩ := HV.out
                have hds2 : adrs f (ds ++ [⟨q, c', l⟩]) = adrs f ds ++ [A] := by unfold adrs; rw [List.map_append, hAe]; rfl
                refine ⟨ds ++ [⟨q, c', l⟩], rs, some ⟨gI, 0, none⟩, n2, c2, I.take kk ++ (lastId A, ts ++ wayOf A) :: I.drop (kk + 1), by rw [hds, List.append_assoc]; rfl, rfl, rfl, by simp, by rw [← hIn]; simp; omega, ?_⟩
                refine ⟨?_, by rw [hds2]; exact hII, fun hs hh => ?_, ?_⟩
                · refine SRow.hitAt (wr := wr) (w3 := w3) (w7 := w7) hul huo huP hap hIn hb03 hu hx hgI3 hg7 hK7 ?_ hob7
                  refine RowP.cat (hul7.trans H7.out) (fun i u x e1 e2 => hK7.bv (by decide) ((huP7 i u x e1 e2).below hb03)) hvl3 (fun i u x e1 e2 => hK7.bv (by decide) ((hvP3 i u x e1 e2).mono a4.size)) ?_
                  rw [← H7.out, ← H1.out.2.2.2.2]
                  exact ho7
                · rw [hds2] at hh
                  rcases List.mem_append.1 hh with hh | hh
                  · exact a3 hs hh
                  · simp at hh
                    rw [hh]; exact H1.out.2.1
                · have hlt : w.heap.size ≤ gI := by
                    rcases huo.2 with ⟨e, _⟩ | ⟨g, cap, cur', e, h, _⟩
                    · cases e
                    · injection e with e1
                      injection e1 with e1
                      injection e1 with e1
                      rw [e1]; exact h
                  exact (grown_below hB13 huo7 hg7 hw3).setCell (p := ⟨gI, kk * 2 + 1, none⟩) hlt _
      · have H1 := Lib.hid (And.intro hB1 h6)
        clear hB1 h6
        go_wp2_with fail
        go_ret2
        obtain ⟨a1, a2, a3, a4⟩ := hI.out
        refine ⟨none, 0, 0, false, [], rfl, rfl, RowQ.nil _ _ _ _, .inr ⟨rfl, ⟨A, ?_, H1.out.2⟩, rfl⟩, (a4.trans (H1.out.1.mono a4.size)).alloc (Nat.le_trans a4.size H1.out.1.size) _⟩
        rw [HD.out.1]
        unfold adrs
        rw [List.map_append]
        simp [HD.out.2.2.2.1]
end Go.Proofs.YtapkmoakbfpkeaaGreatDoor
