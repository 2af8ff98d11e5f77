/- ProtocolWithCode and zzPtr at the codes of the eight parts, in one form; and at codes of none. -/
import Derived.Test.YtapkmoakbfpkeaaGreatDoorA2
namespace Go.Proofs.YtapkmoakbfpkeaaGreatDoor
open Go Go.RowKit Go.Proofs

/-- The protocol of a part's kind. -/
def protOf (k : Nat) : Prot := match k with
  | 0 => ip4P | 1 => tcpP | 2 => udpP | 3 => quicP | 4 => wsP | 5 => circP | 6 => p2pP | _ => ip6P
theorem heapAt {w : World} {o : Obj} {n : Nat} (hn : n = w.heap.size) : (w.alloc o).heap[n]? = some o := by subst hn; exact heap_alloc_new w o
theorem VRow.at {w : World} {n : Nat} {vc : List Int} (hn : n = w.heap.size) : VRow (w.alloc (.cells (vc.map (Value.int .u8)).toArray 5)) n vc := heapAt hn
/-- A kind is one of eight. -/
theorem kinds (k : Nat) (h : k < 8) : k = 0 ∨ k = 1 ∨ k = 2 ∨ k = 3 ∨ k = 4 ∨ k = 5 ∨ k = 6 ∨ k = 7 := by omega


set_option maxRecDepth 100000 in
theorem pwc_ip4 (w : World) : Calls Tryz.prog 151 #[.int .i64 4] w fun e w' => ∃ a, e = .returned (.agg (ip4P.cells a)) ∧ VRow w' a ip4P.vc ∧ w.heap.size ≤ a ∧ Below w.heap.size w w' := by
  go_enter Tryz.func151, Tryz.ntmps151
  go_wp2_with (go_at_call 191; refine (zzCoded_ip4 _).mono ?_; rintro e w' ⟨rfl, rfl⟩)
  refine bodyPost_ret (v := .agg (ip4P.cells (w.heap.size + 3))) (by simp [results, Tryz.results151, go_sem, Prot.cells, ip4P]) rfl ⟨_, rfl, ?_, by omega, ?_⟩
  · exact VRow.at (vc := ip4P.vc) (by simp)
  · exact ((((Below.refl _ _).alloc (Nat.le_refl _) _).alloc (by simp) _).alloc (by simp; omega) _).alloc (by simp; omega) _

set_option maxRecDepth 100000 in
theorem ptr_ip4 (w : World) : Calls Tryz.prog 143 #[.int .i64 4] w fun e w' => ∃ p a, e = .returned (.pointer (some ⟨p, 0, none⟩)) ∧ w'.heap[p]? = some (.cells (ip4P.cells a) 144 (0, 0)) ∧
    VRow w' a ip4P.vc ∧ w.heap.size ≤ a ∧ w.heap.size ≤ p ∧ Below w.heap.size w w' := by
  go_enter Tryz.func143, Tryz.ntmps143
  go_wp2_with (go_at_call 191; refine (zzCoded_ip4 _).mono ?_; rintro e w' ⟨rfl, rfl⟩)
  go_ret
  refine ⟨w.heap.size + 1 + 1 + 1, w.heap.size + 2, rfl, heapAt (by simp), VRow.alloc (VRow.at (vc := ip4P.vc) (by simp)) _, by omega, by omega, ?_⟩
  exact ((((Below.refl _ _).alloc (Nat.le_refl _) _).alloc (by simp) _).alloc (by simp; omega) _).alloc (by simp; omega) _

set_option maxRecDepth 100000 in
theorem pwc_tcp (w : World) : Calls Tryz.prog 151 #[.int .i64 6] w fun e w' => ∃ a, e = .returned (.agg (tcpP.cells a)) ∧ VRow w' a tcpP.vc ∧ w.heap.size ≤ a ∧ Below w.heap.size w w' := by
  go_enter Tryz.func151, Tryz.ntmps151
  go_wp2_with (go_at_call 191; refine (zzCoded_tcp _).mono ?_; rintro e w' ⟨rfl, rfl⟩)
  refine bodyPost_ret (v := .agg (tcpP.cells (w.heap.size + 3))) (by simp [results, Tryz.results151, go_sem, Prot.cells, tcpP]) rfl ⟨_, rfl, ?_, by omega, ?_⟩
  · exact VRow.at (vc := tcpP.vc) (by simp)
  · exact ((((Below.refl _ _).alloc (Nat.le_refl _) _).alloc (by simp) _).alloc (by simp; omega) _).alloc (by simp; omega) _

set_option maxRecDepth 100000 in
theorem ptr_tcp (w : World) : Calls Tryz.prog 143 #[.int .i64 6] w fun e w' => ∃ p a, e = .returned (.pointer (some ⟨p, 0, none⟩)) ∧ w'.heap[p]? = some (.cells (tcpP.cells a) 144 (0, 0)) ∧
    VRow w' a tcpP.vc ∧ w.heap.size ≤ a ∧ w.heap.size ≤ p ∧ Below w.heap.size w w' := by
  go_enter Tryz.func143, Tryz.ntmps143
  go_wp2_with (go_at_call 191; refine (zzCoded_tcp _).mono ?_; rintro e w' ⟨rfl, rfl⟩)
  go_ret
  refine ⟨w.heap.size + 1 + 1 + 1, w.heap.size + 2, rfl, heapAt (by simp), VRow.alloc (VRow.at (vc := tcpP.vc) (by simp)) _, by omega, by omega, ?_⟩
  exact ((((Below.refl _ _).alloc (Nat.le_refl _) _).alloc (by simp) _).alloc (by simp; omega) _).alloc (by simp; omega) _

set_option maxRecDepth 100000 in
theorem pwc_udp (w : World) : Calls Tryz.prog 151 #[.int .i64 273] w fun e w' => ∃ a, e = .returned (.agg (udpP.cells a)) ∧ VRow w' a udpP.vc ∧ w.heap.size ≤ a ∧ Below w.heap.size w w' := by
  go_enter Tryz.func151, Tryz.ntmps151
  go_wp2_with (go_at_call 191; refine (zzCoded_udp _).mono ?_; rintro e w' ⟨rfl, rfl⟩)
  refine bodyPost_ret (v := .agg (udpP.cells (w.heap.size + 3))) (by simp [results, Tryz.results151, go_sem, Prot.cells, udpP]) rfl ⟨_, rfl, ?_, by omega, ?_⟩
  · exact VRow.at (vc := udpP.vc) (by simp)
  · exact ((((Below.refl _ _).alloc (Nat.le_refl _) _).alloc (by simp) _).alloc (by simp; omega) _).alloc (by simp; omega) _

set_option maxRecDepth 100000 in
theorem ptr_udp (w : World) : Calls Tryz.prog 143 #[.int .i64 273] w fun e w' => ∃ p a, e = .returned (.pointer (some ⟨p, 0, none⟩)) ∧ w'.heap[p]? = some (.cells (udpP.cells a) 144 (0, 0)) ∧
    VRow w' a udpP.vc ∧ w.heap.size ≤ a ∧ w.heap.size ≤ p ∧ Below w.heap.size w w' := by
  go_enter Tryz.func143, Tryz.ntmps143
  go_wp2_with (go_at_call 191; refine (zzCoded_udp _).mono ?_; rintro e w' ⟨rfl, rfl⟩)
  go_ret
  refine ⟨w.heap.size + 1 + 1 + 1, w.heap.size + 2, rfl, heapAt (by simp), VRow.alloc (VRow.at (vc := udpP.vc) (by simp)) _, by omega, by omega, ?_⟩
  exact ((((Below.refl _ _).alloc (Nat.le_refl _) _).alloc (by simp) _).alloc (by simp; omega) _).alloc (by simp; omega) _

set_option maxRecDepth 100000 in
theorem pwc_quic (w : World) : Calls Tryz.prog 151 #[.int .i64 461] w fun e w' => ∃ a, e = .returned (.agg (quicP.cells a)) ∧ VRow w' a quicP.vc ∧ w.heap.size ≤ a ∧ Below w.heap.size w w' := by
  go_enter Tryz.func151, Tryz.ntmps151
  go_wp2_with (go_at_call 191; refine (zzCoded_quic _).mono ?_; rintro e w' ⟨rfl, rfl⟩)
  refine bodyPost_ret (v := .agg (quicP.cells (w.heap.size + 3))) (by simp [results, Tryz.results151, go_sem, Prot.cells, quicP]) rfl ⟨_, rfl, ?_, by omega, ?_⟩
  · exact VRow.at (vc := quicP.vc) (by simp)
  · exact ((((Below.refl _ _).alloc (Nat.le_refl _) _).alloc (by simp) _).alloc (by simp; omega) _).alloc (by simp; omega) _

set_option maxRecDepth 100000 in
theorem ptr_quic (w : World) : Calls Tryz.prog 143 #[.int .i64 461] w fun e w' => ∃ p a, e = .returned (.pointer (some ⟨p, 0, none⟩)) ∧ w'.heap[p]? = some (.cells (quicP.cells a) 144 (0, 0)) ∧
    VRow w' a quicP.vc ∧ w.heap.size ≤ a ∧ w.heap.size ≤ p ∧ Below w.heap.size w w' := by
  go_enter Tryz.func143, Tryz.ntmps143
  go_wp2_with (go_at_call 191; refine (zzCoded_quic _).mono ?_; rintro e w' ⟨rfl, rfl⟩)
  go_ret
  refine ⟨w.heap.size + 1 + 1 + 1, w.heap.size + 2, rfl, heapAt (by simp), VRow.alloc (VRow.at (vc := quicP.vc) (by simp)) _, by omega, by omega, ?_⟩
  exact ((((Below.refl _ _).alloc (Nat.le_refl _) _).alloc (by simp) _).alloc (by simp; omega) _).alloc (by simp; omega) _

set_option maxRecDepth 100000 in
theorem pwc_ws (w : World) : Calls Tryz.prog 151 #[.int .i64 477] w fun e w' => ∃ a, e = .returned (.agg (wsP.cells a)) ∧ VRow w' a wsP.vc ∧ w.heap.size ≤ a ∧ Below w.heap.size w w' := by
  go_enter Tryz.func151, Tryz.ntmps151
  go_wp2_with (go_at_call 191; refine (zzCoded_ws _).mono ?_; rintro e w' ⟨rfl, rfl⟩)
  refine bodyPost_ret (v := .agg (wsP.cells (w.heap.size + 3))) (by simp [results, Tryz.results151, go_sem, Prot.cells, wsP]) rfl ⟨_, rfl, ?_, by omega, ?_⟩
  · exact VRow.at (vc := wsP.vc) (by simp)
  · exact ((((Below.refl _ _).alloc (Nat.le_refl _) _).alloc (by simp) _).alloc (by simp; omega) _).alloc (by simp; omega) _

set_option maxRecDepth 100000 in
theorem ptr_ws (w : World) : Calls Tryz.prog 143 #[.int .i64 477] w fun e w' => ∃ p a, e = .returned (.pointer (some ⟨p, 0, none⟩)) ∧ w'.heap[p]? = some (.cells (wsP.cells a) 144 (0, 0)) ∧
    VRow w' a wsP.vc ∧ w.heap.size ≤ a ∧ w.heap.size ≤ p ∧ Below w.heap.size w w' := by
  go_enter Tryz.func143, Tryz.ntmps143
  go_wp2_with (go_at_call 191; refine (zzCoded_ws _).mono ?_; rintro e w' ⟨rfl, rfl⟩)
  go_ret
  refine ⟨w.heap.size + 1 + 1 + 1, w.heap.size + 2, rfl, heapAt (by simp), VRow.alloc (VRow.at (vc := wsP.vc) (by simp)) _, by omega, by omega, ?_⟩
  exact ((((Below.refl _ _).alloc (Nat.le_refl _) _).alloc (by simp) _).alloc (by simp; omega) _).alloc (by simp; omega) _

set_option maxRecDepth 100000 in
theorem pwc_circ (w : World) : Calls Tryz.prog 151 #[.int .i64 290] w fun e w' => ∃ a, e = .returned (.agg (circP.cells a)) ∧ VRow w' a circP.vc ∧ w.heap.size ≤ a ∧ Below w.heap.size w w' := by
  go_enter Tryz.func151, Tryz.ntmps151
  go_wp2_with (go_at_call 191; refine (zzCoded_circ _).mono ?_; rintro e w' ⟨rfl, rfl⟩)
  refine bodyPost_ret (v := .agg (circP.cells (w.heap.size + 3))) (by simp [results, Tryz.results151, go_sem, Prot.cells, circP]) rfl ⟨_, rfl, ?_, by omega, ?_⟩
  · exact VRow.at (vc := circP.vc) (by simp)
  · exact ((((Below.refl _ _).alloc (Nat.le_refl _) _).alloc (by simp) _).alloc (by simp; omega) _).alloc (by simp; omega) _

set_option maxRecDepth 100000 in
theorem ptr_circ (w : World) : Calls Tryz.prog 143 #[.int .i64 290] w fun e w' => ∃ p a, e = .returned (.pointer (some ⟨p, 0, none⟩)) ∧ w'.heap[p]? = some (.cells (circP.cells a) 144 (0, 0)) ∧
    VRow w' a circP.vc ∧ w.heap.size ≤ a ∧ w.heap.size ≤ p ∧ Below w.heap.size w w' := by
  go_enter Tryz.func143, Tryz.ntmps143
  go_wp2_with (go_at_call 191; refine (zzCoded_circ _).mono ?_; rintro e w' ⟨rfl, rfl⟩)
  go_ret
  refine ⟨w.heap.size + 1 + 1 + 1, w.heap.size + 2, rfl, heapAt (by simp), VRow.alloc (VRow.at (vc := circP.vc) (by simp)) _, by omega, by omega, ?_⟩
  exact ((((Below.refl _ _).alloc (Nat.le_refl _) _).alloc (by simp) _).alloc (by simp; omega) _).alloc (by simp; omega) _

set_option maxRecDepth 100000 in
theorem pwc_p2p (w : World) : Calls Tryz.prog 151 #[.int .i64 421] w fun e w' => ∃ a, e = .returned (.agg (p2pP.cells a)) ∧ VRow w' a p2pP.vc ∧ w.heap.size ≤ a ∧ Below w.heap.size w w' := by
  go_enter Tryz.func151, Tryz.ntmps151
  go_wp2_with (go_at_call 191; refine (zzCoded_p2p _).mono ?_; rintro e w' ⟨rfl, rfl⟩)
  refine bodyPost_ret (v := .agg (p2pP.cells (w.heap.size + 3))) (by simp [results, Tryz.results151, go_sem, Prot.cells, p2pP]) rfl ⟨_, rfl, ?_, by omega, ?_⟩
  · exact VRow.at (vc := p2pP.vc) (by simp)
  · exact ((((Below.refl _ _).alloc (Nat.le_refl _) _).alloc (by simp) _).alloc (by simp; omega) _).alloc (by simp; omega) _

set_option maxRecDepth 100000 in
theorem ptr_p2p (w : World) : Calls Tryz.prog 143 #[.int .i64 421] w fun e w' => ∃ p a, e = .returned (.pointer (some ⟨p, 0, none⟩)) ∧ w'.heap[p]? = some (.cells (p2pP.cells a) 144 (0, 0)) ∧
    VRow w' a p2pP.vc ∧ w.heap.size ≤ a ∧ w.heap.size ≤ p ∧ Below w.heap.size w w' := by
  go_enter Tryz.func143, Tryz.ntmps143
  go_wp2_with (go_at_call 191; refine (zzCoded_p2p _).mono ?_; rintro e w' ⟨rfl, rfl⟩)
  go_ret
  refine ⟨w.heap.size + 1 + 1 + 1, w.heap.size + 2, rfl, heapAt (by simp), VRow.alloc (VRow.at (vc := p2pP.vc) (by simp)) _, by omega, by omega, ?_⟩
  exact ((((Below.refl _ _).alloc (Nat.le_refl _) _).alloc (by simp) _).alloc (by simp; omega) _).alloc (by simp; omega) _

set_option maxRecDepth 100000 in
theorem pwc_ip6 (w : World) : Calls Tryz.prog 151 #[.int .i64 41] w fun e w' => ∃ a, e = .returned (.agg (ip6P.cells a)) ∧ VRow w' a ip6P.vc ∧ w.heap.size ≤ a ∧ Below w.heap.size w w' := by
  go_enter Tryz.func151, Tryz.ntmps151
  go_wp2_with (go_at_call 191; refine (zzCoded_ip6 _).mono ?_; rintro e w' ⟨rfl, rfl⟩)
  refine bodyPost_ret (v := .agg (ip6P.cells (w.heap.size + 3))) (by simp [results, Tryz.results151, go_sem, Prot.cells, ip6P]) rfl ⟨_, rfl, ?_, by omega, ?_⟩
  · exact VRow.at (vc := ip6P.vc) (by simp)
  · exact ((((Below.refl _ _).alloc (Nat.le_refl _) _).alloc (by simp) _).alloc (by simp; omega) _).alloc (by simp; omega) _

set_option maxRecDepth 100000 in
theorem ptr_ip6 (w : World) : Calls Tryz.prog 143 #[.int .i64 41] w fun e w' => ∃ p a, e = .returned (.pointer (some ⟨p, 0, none⟩)) ∧ w'.heap[p]? = some (.cells (ip6P.cells a) 144 (0, 0)) ∧
    VRow w' a ip6P.vc ∧ w.heap.size ≤ a ∧ w.heap.size ≤ p ∧ Below w.heap.size w w' := by
  go_enter Tryz.func143, Tryz.ntmps143
  go_wp2_with (go_at_call 191; refine (zzCoded_ip6 _).mono ?_; rintro e w' ⟨rfl, rfl⟩)
  go_ret
  refine ⟨w.heap.size + 1 + 1 + 1, w.heap.size + 2, rfl, heapAt (by simp), VRow.alloc (VRow.at (vc := ip6P.vc) (by simp)) _, by omega, by omega, ?_⟩
  exact ((((Below.refl _ _).alloc (Nat.le_refl _) _).alloc (by simp) _).alloc (by simp; omega) _).alloc (by simp; omega) _

set_option maxRecDepth 100000 in
theorem pwc_1 (w : World) : Calls Tryz.prog 151 #[.int .i64 1] w fun e w' => e = .returned (.agg #[.string ⟨#[]⟩, .int .i64 0, .slice none 0 0, .int .i64 0, .bool false, .nilIface]) ∧ Below w.heap.size w w' := by
  go_enter Tryz.func151, Tryz.ntmps151
  go_wp2_with (go_at_call 191; refine (zzCoded_1 _).mono ?_; rintro e w' ⟨rfl, rfl⟩)
  refine bodyPost_ret (v := .agg #[.string ⟨#[]⟩, .int .i64 0, .slice none 0 0, .int .i64 0, .bool false, .nilIface]) (by simp [results, Tryz.results151, go_sem]) rfl ⟨rfl, ?_⟩
  exact ((Below.refl _ _).alloc (Nat.le_refl _) _).alloc (by simp) _

set_option maxRecDepth 100000 in
theorem pwc_2 (w : World) : Calls Tryz.prog 151 #[.int .i64 2] w fun e w' => e = .returned (.agg #[.string ⟨#[]⟩, .int .i64 0, .slice none 0 0, .int .i64 0, .bool false, .nilIface]) ∧ Below w.heap.size w w' := by
  go_enter Tryz.func151, Tryz.ntmps151
  go_wp2_with (go_at_call 191; refine (zzCoded_2 _).mono ?_; rintro e w' ⟨rfl, rfl⟩)
  refine bodyPost_ret (v := .agg #[.string ⟨#[]⟩, .int .i64 0, .slice none 0 0, .int .i64 0, .bool false, .nilIface]) (by simp [results, Tryz.results151, go_sem]) rfl ⟨rfl, ?_⟩
  exact ((Below.refl _ _).alloc (Nat.le_refl _) _).alloc (by simp) _

set_option maxRecDepth 100000 in
theorem pwc_3 (w : World) : Calls Tryz.prog 151 #[.int .i64 3] w fun e w' => e = .returned (.agg #[.string ⟨#[]⟩, .int .i64 0, .slice none 0 0, .int .i64 0, .bool false, .nilIface]) ∧ Below w.heap.size w w' := by
  go_enter Tryz.func151, Tryz.ntmps151
  go_wp2_with (go_at_call 191; refine (zzCoded_3 _).mono ?_; rintro e w' ⟨rfl, rfl⟩)
  refine bodyPost_ret (v := .agg #[.string ⟨#[]⟩, .int .i64 0, .slice none 0 0, .int .i64 0, .bool false, .nilIface]) (by simp [results, Tryz.results151, go_sem]) rfl ⟨rfl, ?_⟩
  exact ((Below.refl _ _).alloc (Nat.le_refl _) _).alloc (by simp) _

set_option maxRecDepth 100000 in
theorem pwc_5 (w : World) : Calls Tryz.prog 151 #[.int .i64 5] w fun e w' => e = .returned (.agg #[.string ⟨#[]⟩, .int .i64 0, .slice none 0 0, .int .i64 0, .bool false, .nilIface]) ∧ Below w.heap.size w w' := by
  go_enter Tryz.func151, Tryz.ntmps151
  go_wp2_with (go_at_call 191; refine (zzCoded_5 _).mono ?_; rintro e w' ⟨rfl, rfl⟩)
  refine bodyPost_ret (v := .agg #[.string ⟨#[]⟩, .int .i64 0, .slice none 0 0, .int .i64 0, .bool false, .nilIface]) (by simp [results, Tryz.results151, go_sem]) rfl ⟨rfl, ?_⟩
  exact ((Below.refl _ _).alloc (Nat.le_refl _) _).alloc (by simp) _

set_option maxRecDepth 100000 in
theorem pwc_7 (w : World) : Calls Tryz.prog 151 #[.int .i64 7] w fun e w' => e = .returned (.agg #[.string ⟨#[]⟩, .int .i64 0, .slice none 0 0, .int .i64 0, .bool false, .nilIface]) ∧ Below w.heap.size w w' := by
  go_enter Tryz.func151, Tryz.ntmps151
  go_wp2_with (go_at_call 191; refine (zzCoded_7 _).mono ?_; rintro e w' ⟨rfl, rfl⟩)
  refine bodyPost_ret (v := .agg #[.string ⟨#[]⟩, .int .i64 0, .slice none 0 0, .int .i64 0, .bool false, .nilIface]) (by simp [results, Tryz.results151, go_sem]) rfl ⟨rfl, ?_⟩
  exact ((Below.refl _ _).alloc (Nat.le_refl _) _).alloc (by simp) _

/-- ProtocolWithCode at the code of a part. -/
theorem pwc (k : Nat) (hk : k < 8) (w : World) : Calls Tryz.prog 151 #[.int .i64 (protOf k).code] w fun e w' => ∃ a, e = .returned (.agg ((protOf k).cells a)) ∧ VRow w' a (protOf k).vc ∧ w.heap.size ≤ a ∧ Below w.heap.size w w' := by
  rcases kinds k hk with rfl | rfl | rfl | rfl | rfl | rfl | rfl | rfl
  · exact pwc_ip4 w
  · exact pwc_tcp w
  · exact pwc_udp w
  · exact pwc_quic w
  · exact pwc_ws w
  · exact pwc_circ w
  · exact pwc_p2p w
  · exact pwc_ip6 w

/-- zzPtr at the code of a part. -/
theorem ptr (k : Nat) (hk : k < 8) (w : World) : Calls Tryz.prog 143 #[.int .i64 (protOf k).code] w fun e w' => ∃ p a, e = .returned (.pointer (some ⟨p, 0, none⟩)) ∧ w'.heap[p]? = some (.cells ((protOf k).cells a) 144 (0, 0)) ∧
    VRow w' a (protOf k).vc ∧ w.heap.size ≤ a ∧ w.heap.size ≤ p ∧ Below w.heap.size w w' := by
  rcases kinds k hk with rfl | rfl | rfl | rfl | rfl | rfl | rfl | rfl
  · exact ptr_ip4 w
  · exact ptr_tcp w
  · exact ptr_udp w
  · exact ptr_quic w
  · exact ptr_ws w
  · exact ptr_circ w
  · exact ptr_p2p w
  · exact ptr_ip6 w

end Go.Proofs.YtapkmoakbfpkeaaGreatDoor
