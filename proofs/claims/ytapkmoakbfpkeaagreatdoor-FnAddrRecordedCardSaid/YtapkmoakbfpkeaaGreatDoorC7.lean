/- NewMultiaddrBytes (which defers a closure that recovers), addrOf, AddrRight. -/
import Derived.Test.YtapkmoakbfpkeaaGreatDoorC6
import Derived.Defers
import Derived.Recover
namespace Go.Proofs.YtapkmoakbfpkeaaGreatDoor
open Go Go.RowKit Go.Proofs Go.Sort

theorem catchIdle (p : Addr) (w : World) :
    CallsD Tryz.prog 108 #[.pointer (some p)] .returning w fun e u' w' => e = .returned (.tuple #[]) ∧ u' = .returning ∧ w' = w := by
  refine callsD_of_wpS Tryz.func108 rfl fun c₀ cs hu => ?_
  apply wpS_seq
  apply wpS_region
  simp [wpOpsS, go_sem, recoverD, hu, Tryz.ntmps108, Exit.thenS]
  apply wpS_seq
  apply wpS_region
  simp [wpOpsS, go_sem, Exit.thenS]
  refine wpS_cond (t := false) (by simp [Act.eval, Array.replicate]) ?_
  simp only [Bool.false_eq_true, if_false]
  refine wpS_of_wp (wp_skip ?_)
  cases c₀
  simp_all [bodyPostS, results, Tryz.results108]

theorem MA.mono {w : World} {B B' : Nat} {v : Value} {hs : List Hop} (h : MA w B v hs) (hB : B' ≤ B) : MA w B' v hs := by
  obtain ⟨qs, h1, ⟨h2, h3⟩, h4⟩ := h
  refine ⟨qs, h1, ⟨h2, ?_⟩, fun x hx => ⟨(h4 x hx).1, Nat.le_trans hB (h4 x hx).2⟩⟩
  rcases h3 with h3 | ⟨g, cap, cur, hv, hg, r⟩
  · exact Or.inl h3
  · exact Or.inr ⟨g, cap, cur, hv, Nat.le_trans hB hg, r⟩
theorem MA.form {w : World} {B : Nat} {v : Value} {hs : List Hop} (h : MA w B v hs) (h0 : hs ≠ []) : ∃ g cap, v = .slice (some ⟨g, 0, none⟩) hs.length cap ∧ hs.length ≤ cap ∧ cap ≤ maxLen := by
  obtain ⟨qs, _, ⟨_, h3⟩, _⟩ := h
  rcases h3 with ⟨_, h3⟩ | ⟨g, cap, cur, hv, _, _, h4, h5, _⟩
  · exact absurd (List.eq_nil_of_length_eq_zero h3) h0
  · exact ⟨g, cap, hv, h4, h5⟩
theorem heap_far {w : World} {p : Addr} {k : Nat} {cs cs' : Array Value} {t t' : TypeId} (hp : w.heap[p.block]? = some (Obj.cells cs t (0, 0))) (hk : w.heap[k]? = some (Obj.cells cs' t' (0, 0))) (ht : t' ≠ t) (x : Value) : (w.setCell p x).heap[k]? = w.heap[k]? := by
  refine Below.heap_setCell _ _ _ _ fun e => ?_
  subst e
  have e2 := Option.some.inj (hk.symm.trans hp)
  injection e2 with _ e3
  exact ht e3
theorem heap_atSet {w : World} {b o : Nat} {cs : Array Value} {t : TypeId} (hp : w.heap[b]? = some (Obj.cells cs t (0, 0))) (x : Value) : ∃ cs', (w.setCell ⟨b, o, none⟩ x).heap[b]? = some (Obj.cells cs' t (0, 0)) :=
  ⟨cs.setIfInBounds o x, by simp [World.setCell, Array.getElem?_modify, hp]⟩
theorem MA.setCell {w : World} {B : Nat} {v : Value} {hs : List Hop} (h : MA w B v hs) {p : Addr} {cs : Array Value} {t : TypeId} (hp : w.heap[p.block]? = some (Obj.cells cs t (0, 0))) (h1 : 138 ≠ t) (h2 : 144 ≠ t) (h3 : 5 ≠ t) (x : Value) : MA (w.setCell p x) B v hs := by
  obtain ⟨qs, hq, ⟨ho1, ho2⟩, hr⟩ := h
  refine ⟨qs, hq, ⟨ho1, ?_⟩, fun y hy => ?_⟩
  · rcases ho2 with ho2 | ⟨g, cap, cur, hv, hg, hh, r⟩
    · exact Or.inl ho2
    · exact Or.inr ⟨g, cap, cur, hv, hg, (heap_far hp hh h1 x).trans hh, r⟩
  · obtain ⟨⟨a, e1, e2⟩, hB⟩ := hr y hy
    exact ⟨⟨a, (heap_far hp e1 h2 x).trans e1, (heap_far hp e2 h3 x).trans e2⟩, hB⟩

/-- What NewMultiaddrBytes hands back. -/
def NM (hs : List Hop) (tl : List Int) (w : World) (e : Ending) (w' : World) : Prop :=
  Below w.heap.size w w' ∧ ((tl = [] ∧ ∃ v, e = .returned (.tuple #[v, .nilIface]) ∧ MA w' w.heap.size v hs) ∨
    (tl ≠ [] ∧ ∃ T a, e = .returned (.tuple #[.slice none 0 0, .iface T (.pointer (some a))])))

set_option maxHeartbeats 800000 in
set_option maxRecDepth 100000 in
theorem newMA (hs : List Hop) (hh : ∀ h ∈ hs, HopOk h) (hl : hs.length ≤ 1000) (tl : List Int) (h0 : hs ≠ [] ∨ tl ≠ []) (htl : Tail tl) (b o N c : Nat) (w : World) (hN : N = (addrB hs ++ tl).length) (hNc : N ≤ c) (hcm : c ≤ 9223372036854775807) (hb : Bs w b o (addrB hs ++ tl)) (hT : Tab w) :
    Calls Tryz.prog 71 #[.slice (some ⟨b, o, none⟩) N c] w (NM hs tl w) := by
  have hmf : ∀ (fn : Fn) (first cap : Array Value) (w : World), (Instr.makeFunc fn first cap).run Tryz.prog w = .ok (.func fn first cap) w := fun _ _ _ _ => rfl
  have HB := Lib.hid (And.intro hb (And.intro hT hN))
  clear hb hT hN
  go_enter_defers Tryz.func71, Tryz.ntmps71
  go_wp2_with fail
  have hpos : 0 < N := by
    rw [HB.out.2.2]
    cases hs with
    | nil =>
      rcases htl with rfl | ⟨x, rfl, _⟩
      · simp at h0
      · simp
    | cons h t => have := hopB_pos h (hh h (by simp)).1; rw [addrB_cons, List.length_append, List.length_append]; omega
  refine (readMA hs hh hl tl htl b o N c _ HB.out.2.2 hpos hNc hcm (fun i hi => cA (HB.out.1 i hi) _) (HB.out.2.1.alloc _)).mono ?_
  rintro e w2 ⟨hB2, ⟨htl0, v, rfl, hM⟩ | ⟨htl1, T, a, rfl⟩⟩
  · have herr : w2.heap[w.heap.size]? = some (.cells #[.nilIface] 81 (0, 0)) := (hB2.block _ (by simp)).trans (heap_alloc_new _ _)
    have hec : w2.cell? ⟨w.heap.size, 0, none⟩ = some .nilIface := by rw [cell_of_row w2 _ 0 _ _ (0, 0) herr]; rfl
    have hef : w2.frozen? ⟨w.heap.size, 0, none⟩ = false := by simp [World.frozen?, herr]
    have h0 : hs ≠ [] := by rcases h0 with h | h
                            · exact h
                            · exact absurd htl0 h
    obtain ⟨g, cap, rfl, hcap1, hcap2⟩ := hM.form h0
    have hl0 : ((hs.length : Int) == 0) = false := by
      rw [beq_eq_false_iff_ne]
      cases hs with
      | nil => exact absurd rfl h0
      | cons x t => rw [List.length_cons]; omega
    have H2 := Lib.hid (And.intro hB2 (And.intro hM herr))
    have hlen : (addrB hs).length = N := by rw [HB.out.2.2, htl0, List.append_nil]
    rw [hlen]
    clear hB2 hM herr hlen
    go_wp2_with fail
    refine leaves_cons (f := 108) (args := #[.pointer (some ⟨w.heap.size, 0, none⟩)]) (by simp) (by simp [go_sem]) ?_
    refine (catchIdle ⟨w.heap.size, 0, none⟩ _).mono ?_
    rintro e u' w'' ⟨rfl, rfl, rfl⟩
    have k1 := World.cell?_setCell_same w2 ⟨w.heap.size, 0, none⟩ .nilIface hec
    have k2 := World.cell?_setCell_same _ ⟨w.heap.size, 0, none⟩ .nilIface k1
    simp [Leaves, settle, results, Tryz.results71, go_sem, k2]
    obtain ⟨cs2, hcs2⟩ := heap_atSet (o := 0) H2.out.2.2 .nilIface
    have hb0 : Below w.heap.size w w2 := ((Below.refl _ _).alloc (Nat.le_refl _) _).trans (H2.out.1.mono (by simp))
    exact ⟨(hb0.setCell (Nat.le_refl _) _).setCell (Nat.le_refl _) _, .inl ⟨htl0, _, rfl, ((H2.out.2.1.mono (by simp)).setCell (p := ⟨w.heap.size, 0, none⟩) H2.out.2.2 (by decide) (by decide) (by decide) _).setCell (p := ⟨w.heap.size, 0, none⟩) hcs2 (by decide) (by decide) (by decide) _⟩⟩
  · have herr : w2.heap[w.heap.size]? = some (.cells #[.nilIface] 81 (0, 0)) := (hB2.block _ (by simp)).trans (heap_alloc_new _ _)
    have hec : w2.cell? ⟨w.heap.size, 0, none⟩ = some .nilIface := by rw [cell_of_row w2 _ 0 _ _ (0, 0) herr]; rfl
    have hef : w2.frozen? ⟨w.heap.size, 0, none⟩ = false := by simp [World.frozen?, herr]
    have H2 := Lib.hid (And.intro hB2 herr)
    clear hB2 herr
    go_wp2_with fail
    go_region
    go_wp2_with fail
    refine leaves_cons (f := 108) (args := #[.pointer (some ⟨w.heap.size, 0, none⟩)]) (by simp) (by simp [go_sem]) ?_
    refine (catchIdle ⟨w.heap.size, 0, none⟩ _).mono ?_
    rintro e u' w'' ⟨rfl, rfl, rfl⟩
    have k1 := World.cell?_setCell_same w2 ⟨w.heap.size, 0, none⟩ (.iface T (.pointer (some a))) hec
    have k2 := World.cell?_setCell_same _ ⟨w.heap.size, 0, none⟩ (.iface T (.pointer (some a))) k1
    simp [Leaves, settle, results, Tryz.results71, go_sem, k2]
    have hb0 : Below w.heap.size w w2 := ((Below.refl _ _).alloc (Nat.le_refl _) _).trans (H2.out.1.mono (by simp))
    exact ⟨((hb0.setCell (Nat.le_refl _) _).setCell (Nat.le_refl _) _).drew, .inr ⟨htl1, T, a, rfl⟩⟩

theorem ownsBytes {w : World} {B g n cap : Nat} {xs : List Int} (h : w.ownsRow B 5 1 (.slice (some ⟨g, 0, none⟩) n cap) n (xs.map (Value.int .u8))) (hx : xs.length = n) : Bs w g 0 xs := fun i hi => by
  rw [Nat.zero_add, h.cellAt i (by omega)]
  simp [List.getD, hi]

/-- What addrOf hands back. -/
def AO (hs : List Hop) (tl : List Int) (w : World) (e : Ending) (w' : World) : Prop :=
  Below w.heap.size w w' ∧ ((tl = [] ∧ ∃ v, e = .returned (.tuple #[v, .bool true]) ∧ MA w' w.heap.size v hs) ∨ (tl ≠ [] ∧ e = .returned (.tuple #[.slice none 0 0, .bool false])))

set_option maxRecDepth 100000 in
theorem addrOf (hs : List Hop) (hh : ∀ h ∈ hs, HopOk h) (hl : hs.length ≤ 1000) (tl : List Int) (h0 : hs ≠ [] ∨ tl ≠ []) (htl : Tail tl) (b o N c : Nat) (w : World) (hN : (addrB hs ++ tl).length = N) (hb : Bs w b o (addrB hs ++ tl)) (hT : Tab w) :
    Calls Tryz.prog 42 #[.slice (some ⟨b, o, none⟩) N c] w (AO hs tl w) := by
  have hNb : N ≤ 123001 := by
    have := addrB_le hs hh
    have h3 : tl.length ≤ 1 := by rcases htl with rfl | ⟨x, rfl, _⟩ <;> simp
    rw [← hN, List.length_append]; omega
  have hN1 : 1 ≤ N := by
    rw [← hN]
    cases hs with
    | nil =>
      rcases htl with rfl | ⟨x, rfl, _⟩
      · simp at h0
      · simp
    | cons h t => have := hopB_pos h (hh h (by simp)).1; rw [addrB_cons, List.length_append, List.length_append]; omega
  have hcl := Tryz.bytes_Clone_at ⟨b, o, none⟩ N c (addrB hs ++ tl) w hN (by omega) (fun i hi => by rw [Lib.add_plain]; exact hb i (by omega))
  have HCL := Lib.hid hcl
  have HN := Lib.hid hN
  clear hcl hb hN
  go_enter Tryz.func42, Tryz.ntmps42
  go_wp2_with fail
  refine HCL.out.mono ?_
  rintro e w1 ⟨v', rfl, hown, hne, hb1⟩
  have hf : ∃ g cap, v' = .slice (some ⟨g, 0, none⟩) N cap ∧ N ≤ cap ∧ cap ≤ 9223372036854775807 ∧ Bs w1 g 0 (addrB hs ++ tl) := by
    rcases hown.2 with ⟨hv, _⟩ | ⟨g, cap, cur, hv, _, _, h4, h5, _⟩
    · exact absurd hv hne
    · subst hv
      exact ⟨g, cap, rfl, h4, by unfold maxLen at h5; omega, ownsBytes hown HN.out⟩
  obtain ⟨g, cap, rfl, hcap1, hcap2, hbs⟩ := hf
  have H1 := Lib.hid (And.intro hb1 hbs)
  clear hown hne hb1 hbs
  go_wp2_with fail
  refine (newMA hs hh hl tl h0 htl g 0 N cap w1 HN.out.symm hcap1 hcap2 H1.out.2 (hT.below H1.out.1)).mono ?_
  rintro e w2 ⟨hB2, ⟨htl0, v, rfl, hM⟩ | ⟨htl1, T, a, rfl⟩⟩
  · have h0 : hs ≠ [] := by rcases h0 with h | h
                            · exact h
                            · exact absurd htl0 h
    obtain ⟨g2, cap2, rfl, _, _⟩ := hM.form h0
    have hpos : 0 < hs.length := by
      cases hs with
      | nil => exact absurd rfl h0
      | cons x t => rw [List.length_cons]; omega
    have hdp : decide (0 < (hs.length : Int)) = true := decide_eq_true (by omega)
    have H2 := Lib.hid (And.intro hB2 hM)
    clear hB2 hM
    go_wp2_with fail
    go_ret2
    exact ⟨H1.out.1.trans (H2.out.1.mono H1.out.1.size), .inl ⟨htl0, _, rfl, H2.out.2.mono H1.out.1.size⟩⟩
  · have H2 := Lib.hid hB2
    clear hB2
    go_wp2_with fail
    go_ret2
    exact ⟨H1.out.1.trans (H2.out.mono H1.out.1.size), .inr ⟨htl1, rfl⟩⟩

end Go.Proofs.YtapkmoakbfpkeaaGreatDoor
