/- Lists of addresses in parts: zzFits3, addrShort, addrList. -/
import Derived.Test.YtapkmoakbfpkeaaGreatDoorZC
import Derived.Test.YtapkmoakbfpkeaaGreatDoorE5
namespace Go.Proofs.YtapkmoakbfpkeaaGreatDoor
open Go Go.RowKit Go.Proofs Go.Sort
/-- A list of parts, as an element of a list. -/
structure LEl where
  p : Option Addr
  c : Nat
  l : List HIn
def LEl.v (a : LEl) : Value := .slice a.p a.l.length a.c
def LLAt (w : World) (b o : Nat) (ls : List LEl) : Prop := ∀ i a, ls[i]? = some a → w.cell? ⟨b, o + i, none⟩ = some a.v ∧ LIn w a.p a.l ∧ a.l.length ≤ a.c
def LLIn (w : World) (p : Option Addr) (ls : List LEl) : Prop := 0 < ls.length → ∃ b o, p = some ⟨b, o, none⟩ ∧ LLAt w b o ls
theorem LLAt.below {w w' : World} {b o : Nat} {ls : List LEl} (h : LLAt w b o ls) (hb : Below w.heap.size w w') : LLAt w' b o ls := fun i a hi => ⟨cB hb (h i a hi).1, (h i a hi).2.1.below hb, (h i a hi).2.2⟩
theorem LLIn.below {w w' : World} {p : Option Addr} {ls : List LEl} (h : LLIn w p ls) (hb : Below w.heap.size w w') : LLIn w' p ls := fun hl => by
  obtain ⟨b, o, hp, ha⟩ := h hl
  exact ⟨b, o, hp, ha.below hb⟩
set_option maxRecDepth 100000 in
theorem zzFits3 (p : Option Addr) (c k : Nat) (ls : List LEl) (hk : ls.length = k) (w : World) (hb : LLIn w p ls) : Calls Tryz.prog 22 #[.slice p k c] w (SomeBool w) := by
  have HB := Lib.hid (And.intro hb hk)
  clear hb hk
  go_enter Tryz.func22, Tryz.ntmps22
  go_wp2_with fail
  · go_ret
    exact ⟨_, rfl, Below.refl _ _⟩
  · go_loopg [10] k (fun gk iv wr => ∃ (ds rs : List LEl), ls = ds ++ rs ∧ gk = rs.length ∧ iv = .int .i64 (ds.length : Int) ∧ Hid (Below w.heap.size w wr))
    case atStart => exact ⟨[], ls, rfl, HB.out.2.symm, rfl, Below.refl _ _⟩
    case round =>
      obtain ⟨ds, rs, hds, rfl, rfl, hI⟩ := hrel
      cases rs with
      | nil =>
        have hlt : ds.length = k := by rw [← HB.out.2, hds, List.append_nil]
        have hl2 : decide (ds.length < k) = false := by rw [decide_eq_false_iff_not, hlt]; omega
        clear hds hlt
        go_wp2_with fail
        go_ret
        exact ⟨_, rfl, hI.out⟩
      | cons r rs =>
        have hlt : ds.length < k := by rw [← HB.out.2, hds]; simp
        have hl2 : decide (ds.length < k) = true := by rw [decide_eq_true_iff]; omega
        obtain ⟨b, o, rfl, ha⟩ := HB.out.1 (by rw [hds, List.length_append, List.length_cons]; omega)
        obtain ⟨hc0, hli, _⟩ := ha ds.length r (by rw [hds]; simp)
        replace hc0 := cB hI.out hc0
        obtain ⟨q, c', l⟩ := r
        have HD := Lib.hid (And.intro hds (hli.below hI.out))
        clear hds hli ha
        obtain ⟨m, hm⟩ : ∃ m, m = l.length := ⟨_, rfl⟩
        replace hc0 : wr.cell? ⟨b, o + ds.length, none⟩ = some (.slice q m c') := by rw [hm]; exact hc0
        have HM := Lib.hid hm
        clear hm
        go_wp2_with fail
        refine (zzFits1 q c' m l HM.out.symm wr HD.out.2).mono ?_
        rintro e w1 ⟨r, rfl, hB⟩
        have HO := Lib.hid (hI.out.trans (hB.mono hI.out.size))
        clear hB hc0
        cases r with
        | true =>
          go_wp2_with fail
          go_roundg rs.length
          case measure => simp
          case rel => exact ⟨ds ++ [⟨q, c', l⟩], rs, by rw [HD.out.1, List.append_assoc]; rfl, rfl, by simp, HO.out⟩
        | false =>
          go_wp2_with fail
          go_ret
          exact ⟨_, rfl, HO.out⟩
/-- No list is empty or long. -/
def Short (a : LEl) : Prop := 0 < a.l.length ∧ a.l.length ≤ 20 ∧ ∀ h ∈ a.l, h.s.n ≤ 100
def ShortQ (k : Nat) (ls : List LEl) (w : World) (e : Ending) (w' : World) : Prop := ∃ r, e = .returned (.bool r) ∧ Below w.heap.size w w' ∧ (r = true → k ≤ 60 ∧ ∀ a ∈ ls, Short a)
set_option maxHeartbeats 1600000 in
set_option maxRecDepth 100000 in
theorem addrShortL (p : Option Addr) (c k : Nat) (ls : List LEl) (hk : ls.length = k) (hkm : k ≤ 9223372036854775807) (w : World) (hb : LLIn w p ls) : Calls Tryz.prog 12 #[.slice p k c] w (ShortQ k ls w) := by
  have HB := Lib.hid (And.intro hb hk)
  clear hb hk
  go_enter Tryz.func12, Tryz.ntmps12
  go_wp2_with fail
  go_loopg [9] k (fun gk iv wr => ∃ (ds rs : List LEl), ls = ds ++ rs ∧ gk = rs.length ∧ iv = .int .i64 (ds.length : Int) ∧ Hid (Below w.heap.size w wr ∧ ∀ a ∈ ds, Short a))
  case atStart => exact ⟨[], ls, rfl, HB.out.2.symm, rfl, Below.refl _ _, fun a ha => by cases ha⟩
  case round =>
    obtain ⟨ds, rs, hds, rfl, rfl, hI⟩ := hrel
    cases rs with
    | nil =>
      have hlt : ds.length = k := by rw [← HB.out.2, hds, List.append_nil]
      have hl2 : decide (ds.length < k) = false := by rw [decide_eq_false_iff_not, hlt]; omega
      have HD := Lib.hid (show ls = ds by rw [hds, List.append_nil])
      clear hds hlt
      go_wp2_with fail
      go_ret
      refine ⟨_, rfl, hI.out.1, fun h => ⟨?_, by rw [HD.out]; exact hI.out.2⟩⟩
      have h1 := of_decide_eq_true h
      omega
    | cons r rs =>
      have hlt : ds.length < k := by rw [← HB.out.2, hds]; simp
      have hl2 : decide (ds.length < k) = true := by rw [decide_eq_true_iff]; omega
      obtain ⟨b, o, rfl, ha⟩ := HB.out.1 (by rw [hds, List.length_append, List.length_cons]; omega)
      obtain ⟨hc0, hli, _⟩ := ha ds.length r (by rw [hds]; simp)
      replace hc0 := cB hI.out.1 hc0
      obtain ⟨q, c', l⟩ := r
      have HD := Lib.hid (And.intro hds (hli.below hI.out.1))
      clear hds hli ha
      obtain ⟨m, hm⟩ : ∃ m, m = l.length := ⟨_, rfl⟩
      replace hc0 : wr.cell? ⟨b, o + ds.length, none⟩ = some (.slice q m c') := by rw [hm]; exact hc0
      have HM := Lib.hid hm
      clear hm
      have hwr : wrap64 ((ds.length : Int) + 1) = (ds.length : Int) + 1 := by unfold wrap64; omega
      by_cases hkk : 0 < m ∧ m ≤ 20
      · have HK := Lib.hid hkk
        have ht1 : ((m : Int) == 0) = false := by rw [beq_eq_false_iff_ne]; omega
        have ht2 : decide (20 < (m : Int)) = false := by rw [decide_eq_false_iff_not]; omega
        clear hkk
        obtain ⟨W0, hW0⟩ : ∃ W, W = wr := ⟨_, rfl⟩
        rw [← hW0] at hI HD hc0 ⊢
        clear hW0 wr
        go_wp2_with fail
        go_loopg [23] m (fun gk iv wr => ∃ (es ss : List HIn), l = es ++ ss ∧ gk = ss.length ∧ iv = .int .i64 (es.length : Int) ∧ Hid (Below W0.heap.size W0 wr ∧ ∀ h ∈ es, h.s.n ≤ 100))
        case atStart => exact ⟨[], l, rfl, HM.out, rfl, Below.refl _ _, fun h hh => by cases hh⟩
        case round =>
          obtain ⟨es, ss, hes, rfl, rfl, hJ⟩ := hrel
          cases ss with
          | nil =>
            have hlt : es.length = m := by rw [HM.out, hes, List.append_nil]
            have hl2 : decide (es.length < m) = false := by rw [decide_eq_false_iff_not, hlt]; omega
            have HE := Lib.hid (show l = es by rw [hes, List.append_nil])
            clear hes hlt
            go_wp2_with fail
            go_roundg rs.length
            case measure => simp
            case rel => exact ⟨ds ++ [⟨q, c', l⟩], rs, by rw [HD.out.1, List.append_assoc]; rfl, rfl, by simp, hI.out.1.trans (hJ.out.1.mono hI.out.1.size), fun a ha => by
              rcases List.mem_append.1 ha with ha | ha
              · exact hI.out.2 a ha
              · obtain rfl := List.mem_singleton.1 ha
                exact ⟨by show 0 < l.length; rw [← HM.out]; exact HK.out.1, by show l.length ≤ 20; rw [← HM.out]; exact HK.out.2, by show ∀ h ∈ l, _; rw [HE.out]; exact hJ.out.2⟩⟩
          | cons r ss =>
            have hlt : es.length < m := by rw [HM.out, hes]; simp
            have hl2 : decide (es.length < m) = true := by rw [decide_eq_true_iff]; omega
            obtain ⟨b2, o2, rfl, ha⟩ := HD.out.2 (by show 0 < l.length; rw [← HM.out]; exact HK.out.1)
            obtain ⟨hd0, hd1, hok⟩ := ha es.length r (by show l[es.length]? = _; rw [hes]; simp)
            replace hd0 := cB hJ.out.1 hd0
            replace hd1 := cB hJ.out.1 hd1
            obtain ⟨K, p2, m2, c2, xs⟩ := r
            have HE := Lib.hid hes
            clear hes hok ha
            replace hd0 : wr.cell? ⟨b2, o2 + es.length * 2, none⟩ = some (.int .u8 K) := hd0
            replace hd1 : wr.cell? ⟨b2, o2 + es.length * 2 + 1, none⟩ = some (.slice p2 m2 c2) := hd1
            have hk20 := HK.out.2
            by_cases hm : m2 ≤ 100
            · have hm1 : decide (100 < m2) = false := by rw [decide_eq_false_iff_not]; omega
              have hm2 : decide (100 < (m2 : Int)) = false := by rw [decide_eq_false_iff_not]; omega
              go_wp2_with fail
              go_roundg ss.length
              case measure => simp
              case rel => exact ⟨es ++ [⟨K, p2, m2, c2, xs⟩], ss, by rw [HE.out, List.append_assoc]; rfl, rfl, by simp, hJ.out.1.alloc hJ.out.1.size _, fun h hh => by
                rcases List.mem_append.1 hh with hh | hh
                · exact hJ.out.2 h hh
                · obtain rfl := List.mem_singleton.1 hh
                  exact hm⟩
            · have hm1 : decide (100 < m2) = true := by rw [decide_eq_true_iff]; omega
              have hm2 : decide (100 < (m2 : Int)) = true := by rw [decide_eq_true_iff]; omega
              have hBB := hI.out.1.trans (hJ.out.1.mono hI.out.1.size)
              go_wp2_with fail
              go_ret
              exact ⟨_, rfl, hBB.alloc hBB.size _, fun h => by cases h⟩
      · by_cases hk0 : m = 0
        · subst hk0
          go_wp2_with fail
          go_ret
          exact ⟨_, rfl, hI.out.1, fun h => by cases h⟩
        · have ht1 : ((m : Int) == 0) = false := by rw [beq_eq_false_iff_ne]; omega
          have ht2 : decide (20 < (m : Int)) = true := by rw [decide_eq_true_iff]; omega
          clear hkk
          go_wp2_with fail
          go_ret
          exact ⟨_, rfl, hI.out.1, fun h => by cases h⟩
/-- The addresses of lists of parts. -/
def adrs (f : List Int → List Int) (ls : List LEl) : List Adr := ls.map fun a => a.l.map (hopOf f)
theorem infoBs : (Tryz.prog.info? 23).map (fun i => (i.zero, i.size, i.bytes)) = some (some (.slice none 0 0), 1, 24) := by kernel_rfl
theorem LEl.at {w : World} {a : LEl} (hl : LIn w a.p a.l) (hs : Short a) : ∃ b o, a.p = some ⟨b, o, none⟩ ∧ HAt w b o a.l := by
  obtain ⟨b, o, hp, hat⟩ := hl hs.1
  exact ⟨b, o, hp, fun i h hi => ⟨(hat i h hi).1, (hat i h hi).2.1, (hat i h hi).2.2.1, (hat i h hi).2.2.2.1, (hat i h hi).2.2.2.2, hs.2.2 h (List.mem_of_getElem? hi)⟩⟩
theorem adr_ok {f : List Int → List Int} (hf : ShaIs f) {w : World} {a : LEl} (hl : LIn w a.p a.l) (hs : Short a) : AdrOk (a.l.map (hopOf f)) := by
  obtain ⟨b, o, _, hat⟩ := LEl.at hl hs
  exact ⟨fun e => by have h1 := congrArg List.length e; have := hs.1; rw [List.length_map] at h1; simp at h1; rw [h1] at this; simp at this, hat.oks f hf, by have := hs.2.1; rw [List.length_map]; omega⟩
theorem adrs_ok {f : List Int → List Int} (hf : ShaIs f) {w : World} {p : Option Addr} {ls : List LEl} (hl : LLIn w p ls) (hs : ∀ a ∈ ls, Short a) : ∀ x ∈ adrs f ls, AdrOk x := fun x hx => by
  obtain ⟨a, ha, rfl⟩ := List.mem_map.1 hx
  obtain ⟨i, hi⟩ := List.getElem?_of_mem ha
  obtain ⟨b, o, _, hat⟩ := hl (List.length_pos_of_mem ha)
  exact adr_ok hf (hat i a hi).2.1 (hs a ha)
set_option maxRecDepth 100000 in
theorem addrList (f : List Int → List Int) (hf : ShaIs f) (p : Option Addr) (c k : Nat) (ls : List LEl) (hk : ls.length = k) (hk1 : k ≤ 1000) (hs : ∀ a ∈ ls, Short a) (w : World) (hb : LLIn w p ls) :
    Calls Tryz.prog 24 #[.slice p k c] w fun e w' => ∃ v, e = .returned v ∧ BRow w' w.heap.size v (adrs f ls) ∧ Below w.heap.size w w' := by
  have HB := Lib.hid (And.intro hb (And.intro hk (And.intro hs hf)))
  clear hb hk hs hf
  go_enter Tryz.func24, Tryz.ntmps24
  go_wp2_with fail
  go_loopg [3, 8] k (fun gk sv iv wr => ∃ (ds rs : List LEl), ls = ds ++ rs ∧ gk = rs.length ∧ iv = .int .i64 (ds.length : Int) ∧ Hid (BRow wr w.heap.size sv (adrs f ds) ∧ Below w.heap.size w wr))
  case atStart => exact ⟨[], ls, rfl, HB.out.2.1.symm, rfl, RowP.nil _ _ _ _, Below.refl _ _⟩
  case round =>
    obtain ⟨ds, rs, hds, rfl, rfl, hI⟩ := hrel
    cases rs with
    | nil =>
      have hlt : ds.length = k := by rw [← HB.out.2.1, hds, List.append_nil]
      have hl2 : decide (ds.length < k) = false := by rw [decide_eq_false_iff_not, hlt]; omega
      have HD := Lib.hid (show ls = ds by rw [hds, List.append_nil])
      clear hds hlt
      go_wp2_with fail
      go_ret
      exact ⟨_, rfl, by rw [HD.out]; exact hI.out.1, hI.out.2⟩
    | cons r rs =>
      have hlt : ds.length < k := by rw [← HB.out.2.1, hds]; simp
      have hl2 : decide (ds.length < k) = true := by rw [decide_eq_true_iff]; omega
      obtain ⟨b, o, rfl, ha⟩ := HB.out.1 (by rw [hds, List.length_append, List.length_cons]; omega)
      obtain ⟨hc0, hli, hlc⟩ := ha ds.length r (by rw [hds]; simp)
      have hsr := HB.out.2.2.1 r (by rw [hds]; simp)
      replace hc0 := cB hI.out.2 hc0
      obtain ⟨b2, o2, hp2, hat⟩ := LEl.at hli hsr
      have hok := adr_ok HB.out.2.2.2 hli hsr
      obtain ⟨q, c', l⟩ := r
      obtain rfl : q = _ := hp2
      have hao := addrOfB f HB.out.2.2.2 l l.length rfl (by have := hsr.2.1; show l.length ≤ 100; have h3 : l.length ≤ 20 := this; omega) b2 o2 c' wr (hat.below hI.out.2)
      obtain ⟨us, hul, huo, huP⟩ := hI.out.1
      have HD := Lib.hid (And.intro hds (And.intro hao (And.intro hok (And.intro hul (And.intro huo huP)))))
      clear hds hli ha hsr hat hlc hok hao hul huo huP
      obtain ⟨m, hm⟩ : ∃ m, m = l.length := ⟨_, rfl⟩
      replace hc0 : wr.cell? ⟨b, o + ds.length, none⟩ = some (.slice (some ⟨b2, o2, none⟩) m c') := by rw [hm]; exact hc0
      rw [← hm] at HD
      clear hm
      go_wp2_with fail
      refine HD.out.2.1.mono ?_
      rintro e w1 ⟨v, rfl, hown, hB⟩
      have hbv : BV w1 wr.heap.size v (addrB (l.map (hopOf f))) := BV.own hown (fun e => by
        have := addrB_pos _ HD.out.2.2.1.2.1 HD.out.2.2.1.1
        rw [e] at this; simp at this)
      obtain ⟨g1, c1, cs1, rfl, hbv2⟩ := id hbv
      have H1 := Lib.hid (And.intro hbv (And.intro hB (ownsRow_below HD.out.2.2.2.2.1 hB)))
      clear hown hbv hB hbv2
      obtain ⟨N, hN⟩ : ∃ N, N = (addrB (l.map (hopOf f))).length := ⟨_, rfl⟩
      rw [← hN] at H1 ⊢
      clear hN
      go_wp2_with (at_builtin; refine wpAppN 30 23 1 _ 24 Tryz.underlying30 infoBs rfl (by decide) (by decide) rfl _ _ rfl w.heap.size _ (adrs f ds).length us rfl H1.out.2.2 [.slice (some ⟨g1, 0, none⟩) N c1] rfl (fun u hu => by simp at hu; subst hu; rfl) rfl (by unfold adrs; rw [List.length_map]; omega) (Nat.le_trans hI.out.2.size H1.out.2.1.size) ?_)
      intro v' w2 ho2 hg2 _
      have H2 := Lib.hid (And.intro ho2 hg2)
      clear ho2 hg2
      go_wp2_with fail
      go_roundg rs.length
      case measure => simp
      case rel =>
        obtain ⟨ho2, hg2⟩ := H2.out
        obtain ⟨hbv, hB, huo2⟩ := H1.out
        obtain ⟨hds, _, _, hul, _, huP⟩ := HD.out
        have hK2 : Kept 23 w1 w2 := Kept.row huo2 hg2
        refine ⟨ds ++ [⟨some ⟨b2, o2, none⟩, c', l⟩], rs, by rw [hds, List.append_assoc]; rfl, rfl, by simp, ?_, grown_below (hI.out.2.trans (hB.mono hI.out.2.size)) huo2 hg2 (Nat.le_trans hI.out.2.size hB.size)⟩
        show BRow w2 w.heap.size v' (adrs f (ds ++ [⟨some ⟨b2, o2, none⟩, c', l⟩]))
        unfold adrs
        rw [List.map_append]
        exact RowP.push hul huP ho2 (fun u x h => hK2.bv (by decide) (h.below hB)) (hK2.bv (by decide) (hbv.mono hI.out.2.size))
end Go.Proofs.YtapkmoakbfpkeaaGreatDoor
