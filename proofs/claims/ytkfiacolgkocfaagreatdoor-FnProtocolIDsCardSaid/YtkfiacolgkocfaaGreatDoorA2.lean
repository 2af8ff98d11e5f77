/- The protocols' rows: what protoIP4 .. hand back, and zzCoded, zzPtr at the codes of the eight parts and at codes of none. -/
import Derived.Test.YtkfiacolgkocfaaGreatDoorA1
namespace Go.Proofs.YtkfiacolgkocfaaGreatDoor
open Go Go.RowKit Go.Proofs

/-- A protocol's row: its name, code, the code's varint, size, whether it is a path, its transcoder (an interface value). -/
structure Prot where
  name : ByteArray
  code : Int
  vc : List Int
  size : Int
  path : Bool
  tr : Value
/-- The six cells of a Protocol whose VCode lies in block a. -/
def Prot.cells (p : Prot) (a : Nat) : Array Value :=
  #[.string p.name, .int .i64 p.code, .slice (some ⟨a, 0, none⟩) p.vc.length p.vc.length, .int .i64 p.size, .bool p.path, p.tr]
/-- Block a holds the bytes vc. -/
def VRow (w : World) (a : Nat) (vc : List Int) : Prop := w.heap[a]? = some (.cells (vc.map (Value.int .u8)).toArray 5 (0, 0))
theorem VRow.lt {w : World} {a : Nat} {vc : List Int} (h : VRow w a vc) : a < w.heap.size := (Array.getElem?_eq_some_iff.1 h).1
theorem VRow.below {w w' : World} {a B : Nat} {vc : List Int} (h : VRow w a vc) (hb : Below B w w') (ha : a < B) : VRow w' a vc := (hb.block a ha).trans h
theorem VRow.alloc {w : World} {a : Nat} {vc : List Int} (h : VRow w a vc) (o : Obj) : VRow (w.alloc o) a vc := (Below.heap_alloc w o a h.lt).trans h
theorem VRow.new (w : World) (vc : List Int) : VRow (w.alloc (.cells (vc.map (Value.int .u8)).toArray 5)) w.heap.size vc := heap_alloc_new w _

def ip4P : Prot := { name := ⟨#[105, 112, 52]⟩, code := 4, vc := [4], size := 32, path := false, tr := .iface 134 (.agg #[.func (Fn.func 118) #[] #[], .func (Fn.func 119) #[] #[], .nilFunc]) }
def tcpP : Prot := { name := ⟨#[116, 99, 112]⟩, code := 6, vc := [6], size := 16, path := false, tr := .iface 134 (.agg #[.func (Fn.func 120) #[] #[], .func (Fn.func 121) #[] #[], .nilFunc]) }
def udpP : Prot := { name := ⟨#[117, 100, 112]⟩, code := 273, vc := [145, 2], size := 16, path := false, tr := .iface 134 (.agg #[.func (Fn.func 120) #[] #[], .func (Fn.func 121) #[] #[], .nilFunc]) }
def quicP : Prot := { name := ⟨#[113, 117, 105, 99, 45, 118, 49]⟩, code := 461, vc := [205, 3], size := 0, path := false, tr := .nilIface }
def wsP : Prot := { name := ⟨#[119, 115]⟩, code := 477, vc := [221, 3], size := 0, path := false, tr := .nilIface }
def circP : Prot := { name := ⟨#[112, 50, 112, 45, 99, 105, 114, 99, 117, 105, 116]⟩, code := 290, vc := [162, 2], size := 0, path := false, tr := .nilIface }
def p2pP : Prot := { name := ⟨#[112, 50, 112]⟩, code := 421, vc := [165, 3], size := -1, path := false, tr := .iface 134 (.agg #[.func (Fn.func 151) #[] #[], .func (Fn.func 152) #[] #[], .func (Fn.func 153) #[] #[]]) }
def ip6P : Prot := { name := ⟨#[105, 112, 54]⟩, code := 41, vc := [41], size := 128, path := false, tr := .iface 134 (.agg #[.func (Fn.func 125) #[] #[], .func (Fn.func 126) #[] #[], .nilFunc]) }

set_option maxRecDepth 100000 in
theorem protoIP4_any (w : World) : Calls Tryz.prog 62 #[] w fun e w' => e = .returned (.agg #[.string ⟨#[105, 112, 52]⟩, .int .i64 4, .slice (some ⟨w.heap.size + 1, 0, none⟩) 1 1, .int .i64 32, .bool false, .iface 134 (.agg #[.func (Fn.func 118) #[] #[], .func (Fn.func 119) #[] #[], .nilFunc])]) ∧
    w' = (w.alloc (.cells #[.string ⟨#[105, 112, 52]⟩, .int .i64 4, .slice (some ⟨w.heap.size + 1, 0, none⟩) 1 1, .int .i64 32, .bool false, .iface 134 (.agg #[.func (Fn.func 118) #[] #[], .func (Fn.func 119) #[] #[], .nilFunc])] 93)).alloc (.cells #[.int .u8 4] 5) := by
  go_enter Tryz.func62, Tryz.ntmps62
  go_wp2_with (first | (go_at_call 100; refine (codeToVarint_1 _ (by omega) (by omega) _).mono ?_; rintro e w' ⟨rfl, rfl⟩) | go_in)
  refine bodyPost_ret (v := .agg #[.string ⟨#[105, 112, 52]⟩, .int .i64 4, .slice (some ⟨w.heap.size + 1, 0, none⟩) 1 1, .int .i64 32, .bool false, .iface 134 (.agg #[.func (Fn.func 118) #[] #[], .func (Fn.func 119) #[] #[], .nilFunc])]) (by simp [results, Tryz.results62, go_sem]) rfl ⟨rfl, ?_⟩
  simp

set_option maxRecDepth 100000 in
theorem protoTCP_any (w : World) : Calls Tryz.prog 63 #[] w fun e w' => e = .returned (.agg #[.string ⟨#[116, 99, 112]⟩, .int .i64 6, .slice (some ⟨w.heap.size + 1, 0, none⟩) 1 1, .int .i64 16, .bool false, .iface 134 (.agg #[.func (Fn.func 120) #[] #[], .func (Fn.func 121) #[] #[], .nilFunc])]) ∧
    w' = (w.alloc (.cells #[.string ⟨#[116, 99, 112]⟩, .int .i64 6, .slice (some ⟨w.heap.size + 1, 0, none⟩) 1 1, .int .i64 16, .bool false, .iface 134 (.agg #[.func (Fn.func 120) #[] #[], .func (Fn.func 121) #[] #[], .nilFunc])] 93)).alloc (.cells #[.int .u8 6] 5) := by
  go_enter Tryz.func63, Tryz.ntmps63
  go_wp2_with (first | (go_at_call 100; refine (codeToVarint_1 _ (by omega) (by omega) _).mono ?_; rintro e w' ⟨rfl, rfl⟩) | go_in)
  refine bodyPost_ret (v := .agg #[.string ⟨#[116, 99, 112]⟩, .int .i64 6, .slice (some ⟨w.heap.size + 1, 0, none⟩) 1 1, .int .i64 16, .bool false, .iface 134 (.agg #[.func (Fn.func 120) #[] #[], .func (Fn.func 121) #[] #[], .nilFunc])]) (by simp [results, Tryz.results63, go_sem]) rfl ⟨rfl, ?_⟩
  simp

set_option maxRecDepth 100000 in
theorem protoUDP_any (w : World) : Calls Tryz.prog 68 #[] w fun e w' => e = .returned (.agg #[.string ⟨#[117, 100, 112]⟩, .int .i64 273, .slice (some ⟨w.heap.size + 1, 0, none⟩) 2 2, .int .i64 16, .bool false, .iface 134 (.agg #[.func (Fn.func 120) #[] #[], .func (Fn.func 121) #[] #[], .nilFunc])]) ∧
    w' = (w.alloc (.cells #[.string ⟨#[117, 100, 112]⟩, .int .i64 273, .slice (some ⟨w.heap.size + 1, 0, none⟩) 2 2, .int .i64 16, .bool false, .iface 134 (.agg #[.func (Fn.func 120) #[] #[], .func (Fn.func 121) #[] #[], .nilFunc])] 93)).alloc (.cells #[.int .u8 145, .int .u8 2] 5) := by
  go_enter Tryz.func68, Tryz.ntmps68
  go_wp2_with (first | (go_at_call 100; refine (codeToVarint_2 _ (by omega) (by omega) _).mono ?_; rintro e w' ⟨rfl, rfl⟩) | go_in)
  refine bodyPost_ret (v := .agg #[.string ⟨#[117, 100, 112]⟩, .int .i64 273, .slice (some ⟨w.heap.size + 1, 0, none⟩) 2 2, .int .i64 16, .bool false, .iface 134 (.agg #[.func (Fn.func 120) #[] #[], .func (Fn.func 121) #[] #[], .nilFunc])]) (by simp [results, Tryz.results68, go_sem]) rfl ⟨rfl, ?_⟩
  simp

set_option maxRecDepth 100000 in
theorem protoQUICV1_any (w : World) : Calls Tryz.prog 82 #[] w fun e w' => e = .returned (.agg #[.string ⟨#[113, 117, 105, 99, 45, 118, 49]⟩, .int .i64 461, .slice (some ⟨w.heap.size + 1, 0, none⟩) 2 2, .int .i64 0, .bool false, .nilIface]) ∧
    w' = (w.alloc (.cells #[.string ⟨#[113, 117, 105, 99, 45, 118, 49]⟩, .int .i64 461, .slice (some ⟨w.heap.size + 1, 0, none⟩) 2 2, .int .i64 0, .bool false, .nilIface] 93)).alloc (.cells #[.int .u8 205, .int .u8 3] 5) := by
  go_enter Tryz.func82, Tryz.ntmps82
  go_wp2_with (first | (go_at_call 100; refine (codeToVarint_2 _ (by omega) (by omega) _).mono ?_; rintro e w' ⟨rfl, rfl⟩) | go_in)
  refine bodyPost_ret (v := .agg #[.string ⟨#[113, 117, 105, 99, 45, 118, 49]⟩, .int .i64 461, .slice (some ⟨w.heap.size + 1, 0, none⟩) 2 2, .int .i64 0, .bool false, .nilIface]) (by simp [results, Tryz.results82, go_sem]) rfl ⟨rfl, ?_⟩
  simp

set_option maxRecDepth 100000 in
theorem protoWS_any (w : World) : Calls Tryz.prog 94 #[] w fun e w' => e = .returned (.agg #[.string ⟨#[119, 115]⟩, .int .i64 477, .slice (some ⟨w.heap.size + 1, 0, none⟩) 2 2, .int .i64 0, .bool false, .nilIface]) ∧
    w' = (w.alloc (.cells #[.string ⟨#[119, 115]⟩, .int .i64 477, .slice (some ⟨w.heap.size + 1, 0, none⟩) 2 2, .int .i64 0, .bool false, .nilIface] 93)).alloc (.cells #[.int .u8 221, .int .u8 3] 5) := by
  go_enter Tryz.func94, Tryz.ntmps94
  go_wp2_with (first | (go_at_call 100; refine (codeToVarint_2 _ (by omega) (by omega) _).mono ?_; rintro e w' ⟨rfl, rfl⟩) | go_in)
  refine bodyPost_ret (v := .agg #[.string ⟨#[119, 115]⟩, .int .i64 477, .slice (some ⟨w.heap.size + 1, 0, none⟩) 2 2, .int .i64 0, .bool false, .nilIface]) (by simp [results, Tryz.results94, go_sem]) rfl ⟨rfl, ?_⟩
  simp

set_option maxRecDepth 100000 in
theorem protoCIRCUIT_any (w : World) : Calls Tryz.prog 74 #[] w fun e w' => e = .returned (.agg #[.string ⟨#[112, 50, 112, 45, 99, 105, 114, 99, 117, 105, 116]⟩, .int .i64 290, .slice (some ⟨w.heap.size + 1, 0, none⟩) 2 2, .int .i64 0, .bool false, .nilIface]) ∧
    w' = (w.alloc (.cells #[.string ⟨#[112, 50, 112, 45, 99, 105, 114, 99, 117, 105, 116]⟩, .int .i64 290, .slice (some ⟨w.heap.size + 1, 0, none⟩) 2 2, .int .i64 0, .bool false, .nilIface] 93)).alloc (.cells #[.int .u8 162, .int .u8 2] 5) := by
  go_enter Tryz.func74, Tryz.ntmps74
  go_wp2_with (first | (go_at_call 100; refine (codeToVarint_2 _ (by omega) (by omega) _).mono ?_; rintro e w' ⟨rfl, rfl⟩) | go_in)
  refine bodyPost_ret (v := .agg #[.string ⟨#[112, 50, 112, 45, 99, 105, 114, 99, 117, 105, 116]⟩, .int .i64 290, .slice (some ⟨w.heap.size + 1, 0, none⟩) 2 2, .int .i64 0, .bool false, .nilIface]) (by simp [results, Tryz.results74, go_sem]) rfl ⟨rfl, ?_⟩
  simp

set_option maxRecDepth 100000 in
theorem protoP2P_any (w : World) : Calls Tryz.prog 88 #[] w fun e w' => e = .returned (.agg #[.string ⟨#[112, 50, 112]⟩, .int .i64 421, .slice (some ⟨w.heap.size + 1, 0, none⟩) 2 2, .int .i64 (-1), .bool false, .iface 134 (.agg #[.func (Fn.func 151) #[] #[], .func (Fn.func 152) #[] #[], .func (Fn.func 153) #[] #[]])]) ∧
    w' = (w.alloc (.cells #[.string ⟨#[112, 50, 112]⟩, .int .i64 421, .slice (some ⟨w.heap.size + 1, 0, none⟩) 2 2, .int .i64 (-1), .bool false, .iface 134 (.agg #[.func (Fn.func 151) #[] #[], .func (Fn.func 152) #[] #[], .func (Fn.func 153) #[] #[]])] 93)).alloc (.cells #[.int .u8 165, .int .u8 3] 5) := by
  go_enter Tryz.func88, Tryz.ntmps88
  go_wp2_with (first | (go_at_call 100; refine (codeToVarint_2 _ (by omega) (by omega) _).mono ?_; rintro e w' ⟨rfl, rfl⟩) | go_in)
  refine bodyPost_ret (v := .agg #[.string ⟨#[112, 50, 112]⟩, .int .i64 421, .slice (some ⟨w.heap.size + 1, 0, none⟩) 2 2, .int .i64 (-1), .bool false, .iface 134 (.agg #[.func (Fn.func 151) #[] #[], .func (Fn.func 152) #[] #[], .func (Fn.func 153) #[] #[]])]) (by simp [results, Tryz.results88, go_sem]) rfl ⟨rfl, ?_⟩
  simp

set_option maxRecDepth 100000 in
theorem protoIP6_any (w : World) : Calls Tryz.prog 70 #[] w fun e w' => e = .returned (.agg #[.string ⟨#[105, 112, 54]⟩, .int .i64 41, .slice (some ⟨w.heap.size + 1, 0, none⟩) 1 1, .int .i64 128, .bool false, .iface 134 (.agg #[.func (Fn.func 125) #[] #[], .func (Fn.func 126) #[] #[], .nilFunc])]) ∧
    w' = (w.alloc (.cells #[.string ⟨#[105, 112, 54]⟩, .int .i64 41, .slice (some ⟨w.heap.size + 1, 0, none⟩) 1 1, .int .i64 128, .bool false, .iface 134 (.agg #[.func (Fn.func 125) #[] #[], .func (Fn.func 126) #[] #[], .nilFunc])] 93)).alloc (.cells #[.int .u8 41] 5) := by
  go_enter Tryz.func70, Tryz.ntmps70
  go_wp2_with (first | (go_at_call 100; refine (codeToVarint_1 _ (by omega) (by omega) _).mono ?_; rintro e w' ⟨rfl, rfl⟩) | go_in)
  refine bodyPost_ret (v := .agg #[.string ⟨#[105, 112, 54]⟩, .int .i64 41, .slice (some ⟨w.heap.size + 1, 0, none⟩) 1 1, .int .i64 128, .bool false, .iface 134 (.agg #[.func (Fn.func 125) #[] #[], .func (Fn.func 126) #[] #[], .nilFunc])]) (by simp [results, Tryz.results70, go_sem]) rfl ⟨rfl, ?_⟩
  simp

set_option maxRecDepth 100000 in
theorem zzCoded_ip4 (w : World) : Calls Tryz.prog 60 #[.int .i64 4] w fun e w' => e = .returned (.agg #[.string ⟨#[105, 112, 52]⟩, .int .i64 4, .slice (some ⟨w.heap.size + 2, 0, none⟩) 1 1, .int .i64 32, .bool false, .iface 134 (.agg #[.func (Fn.func 118) #[] #[], .func (Fn.func 119) #[] #[], .nilFunc])]) ∧
    w' = ((w.alloc (.cells #[.string ⟨#[105, 112, 52]⟩, .int .i64 4, .slice (some ⟨w.heap.size + 2, 0, none⟩) 1 1, .int .i64 32, .bool false, .iface 134 (.agg #[.func (Fn.func 118) #[] #[], .func (Fn.func 119) #[] #[], .nilFunc])] 93)).alloc (.cells #[.string ⟨#[105, 112, 52]⟩, .int .i64 4, .slice (some ⟨w.heap.size + 2, 0, none⟩) 1 1, .int .i64 32, .bool false, .iface 134 (.agg #[.func (Fn.func 118) #[] #[], .func (Fn.func 119) #[] #[], .nilFunc])] 93)).alloc (.cells #[.int .u8 4] 5) := by
  go_enter Tryz.func60, Tryz.ntmps60
  go_wp2_with (go_at_call 62; refine (protoIP4_any _).mono ?_; rintro e w' ⟨rfl, rfl⟩)
  refine bodyPost_ret (v := .agg #[.string ⟨#[105, 112, 52]⟩, .int .i64 4, .slice (some ⟨w.heap.size + 2, 0, none⟩) 1 1, .int .i64 32, .bool false, .iface 134 (.agg #[.func (Fn.func 118) #[] #[], .func (Fn.func 119) #[] #[], .nilFunc])]) (by simp [results, Tryz.results60, go_sem]) rfl ⟨rfl, ?_⟩
  simp

set_option maxRecDepth 100000 in
theorem zzCoded_tcp (w : World) : Calls Tryz.prog 60 #[.int .i64 6] w fun e w' => e = .returned (.agg #[.string ⟨#[116, 99, 112]⟩, .int .i64 6, .slice (some ⟨w.heap.size + 2, 0, none⟩) 1 1, .int .i64 16, .bool false, .iface 134 (.agg #[.func (Fn.func 120) #[] #[], .func (Fn.func 121) #[] #[], .nilFunc])]) ∧
    w' = ((w.alloc (.cells #[.string ⟨#[116, 99, 112]⟩, .int .i64 6, .slice (some ⟨w.heap.size + 2, 0, none⟩) 1 1, .int .i64 16, .bool false, .iface 134 (.agg #[.func (Fn.func 120) #[] #[], .func (Fn.func 121) #[] #[], .nilFunc])] 93)).alloc (.cells #[.string ⟨#[116, 99, 112]⟩, .int .i64 6, .slice (some ⟨w.heap.size + 2, 0, none⟩) 1 1, .int .i64 16, .bool false, .iface 134 (.agg #[.func (Fn.func 120) #[] #[], .func (Fn.func 121) #[] #[], .nilFunc])] 93)).alloc (.cells #[.int .u8 6] 5) := by
  go_enter Tryz.func60, Tryz.ntmps60
  go_wp2_with (go_at_call 63; refine (protoTCP_any _).mono ?_; rintro e w' ⟨rfl, rfl⟩)
  refine bodyPost_ret (v := .agg #[.string ⟨#[116, 99, 112]⟩, .int .i64 6, .slice (some ⟨w.heap.size + 2, 0, none⟩) 1 1, .int .i64 16, .bool false, .iface 134 (.agg #[.func (Fn.func 120) #[] #[], .func (Fn.func 121) #[] #[], .nilFunc])]) (by simp [results, Tryz.results60, go_sem]) rfl ⟨rfl, ?_⟩
  simp

set_option maxRecDepth 100000 in
theorem zzCoded_udp (w : World) : Calls Tryz.prog 60 #[.int .i64 273] w fun e w' => e = .returned (.agg #[.string ⟨#[117, 100, 112]⟩, .int .i64 273, .slice (some ⟨w.heap.size + 2, 0, none⟩) 2 2, .int .i64 16, .bool false, .iface 134 (.agg #[.func (Fn.func 120) #[] #[], .func (Fn.func 121) #[] #[], .nilFunc])]) ∧
    w' = ((w.alloc (.cells #[.string ⟨#[117, 100, 112]⟩, .int .i64 273, .slice (some ⟨w.heap.size + 2, 0, none⟩) 2 2, .int .i64 16, .bool false, .iface 134 (.agg #[.func (Fn.func 120) #[] #[], .func (Fn.func 121) #[] #[], .nilFunc])] 93)).alloc (.cells #[.string ⟨#[117, 100, 112]⟩, .int .i64 273, .slice (some ⟨w.heap.size + 2, 0, none⟩) 2 2, .int .i64 16, .bool false, .iface 134 (.agg #[.func (Fn.func 120) #[] #[], .func (Fn.func 121) #[] #[], .nilFunc])] 93)).alloc (.cells #[.int .u8 145, .int .u8 2] 5) := by
  go_enter Tryz.func60, Tryz.ntmps60
  go_wp2_with (go_at_call 68; refine (protoUDP_any _).mono ?_; rintro e w' ⟨rfl, rfl⟩)
  refine bodyPost_ret (v := .agg #[.string ⟨#[117, 100, 112]⟩, .int .i64 273, .slice (some ⟨w.heap.size + 2, 0, none⟩) 2 2, .int .i64 16, .bool false, .iface 134 (.agg #[.func (Fn.func 120) #[] #[], .func (Fn.func 121) #[] #[], .nilFunc])]) (by simp [results, Tryz.results60, go_sem]) rfl ⟨rfl, ?_⟩
  simp

set_option maxRecDepth 100000 in
theorem zzCoded_quic (w : World) : Calls Tryz.prog 60 #[.int .i64 461] w fun e w' => e = .returned (.agg #[.string ⟨#[113, 117, 105, 99, 45, 118, 49]⟩, .int .i64 461, .slice (some ⟨w.heap.size + 2, 0, none⟩) 2 2, .int .i64 0, .bool false, .nilIface]) ∧
    w' = ((w.alloc (.cells #[.string ⟨#[113, 117, 105, 99, 45, 118, 49]⟩, .int .i64 461, .slice (some ⟨w.heap.size + 2, 0, none⟩) 2 2, .int .i64 0, .bool false, .nilIface] 93)).alloc (.cells #[.string ⟨#[113, 117, 105, 99, 45, 118, 49]⟩, .int .i64 461, .slice (some ⟨w.heap.size + 2, 0, none⟩) 2 2, .int .i64 0, .bool false, .nilIface] 93)).alloc (.cells #[.int .u8 205, .int .u8 3] 5) := by
  go_enter Tryz.func60, Tryz.ntmps60
  go_wp2_with (go_at_call 82; refine (protoQUICV1_any _).mono ?_; rintro e w' ⟨rfl, rfl⟩)
  refine bodyPost_ret (v := .agg #[.string ⟨#[113, 117, 105, 99, 45, 118, 49]⟩, .int .i64 461, .slice (some ⟨w.heap.size + 2, 0, none⟩) 2 2, .int .i64 0, .bool false, .nilIface]) (by simp [results, Tryz.results60, go_sem]) rfl ⟨rfl, ?_⟩
  simp

set_option maxRecDepth 100000 in
theorem zzCoded_ws (w : World) : Calls Tryz.prog 60 #[.int .i64 477] w fun e w' => e = .returned (.agg #[.string ⟨#[119, 115]⟩, .int .i64 477, .slice (some ⟨w.heap.size + 2, 0, none⟩) 2 2, .int .i64 0, .bool false, .nilIface]) ∧
    w' = ((w.alloc (.cells #[.string ⟨#[119, 115]⟩, .int .i64 477, .slice (some ⟨w.heap.size + 2, 0, none⟩) 2 2, .int .i64 0, .bool false, .nilIface] 93)).alloc (.cells #[.string ⟨#[119, 115]⟩, .int .i64 477, .slice (some ⟨w.heap.size + 2, 0, none⟩) 2 2, .int .i64 0, .bool false, .nilIface] 93)).alloc (.cells #[.int .u8 221, .int .u8 3] 5) := by
  go_enter Tryz.func60, Tryz.ntmps60
  go_wp2_with (go_at_call 94; refine (protoWS_any _).mono ?_; rintro e w' ⟨rfl, rfl⟩)
  refine bodyPost_ret (v := .agg #[.string ⟨#[119, 115]⟩, .int .i64 477, .slice (some ⟨w.heap.size + 2, 0, none⟩) 2 2, .int .i64 0, .bool false, .nilIface]) (by simp [results, Tryz.results60, go_sem]) rfl ⟨rfl, ?_⟩
  simp

set_option maxRecDepth 100000 in
theorem zzCoded_circ (w : World) : Calls Tryz.prog 60 #[.int .i64 290] w fun e w' => e = .returned (.agg #[.string ⟨#[112, 50, 112, 45, 99, 105, 114, 99, 117, 105, 116]⟩, .int .i64 290, .slice (some ⟨w.heap.size + 2, 0, none⟩) 2 2, .int .i64 0, .bool false, .nilIface]) ∧
    w' = ((w.alloc (.cells #[.string ⟨#[112, 50, 112, 45, 99, 105, 114, 99, 117, 105, 116]⟩, .int .i64 290, .slice (some ⟨w.heap.size + 2, 0, none⟩) 2 2, .int .i64 0, .bool false, .nilIface] 93)).alloc (.cells #[.string ⟨#[112, 50, 112, 45, 99, 105, 114, 99, 117, 105, 116]⟩, .int .i64 290, .slice (some ⟨w.heap.size + 2, 0, none⟩) 2 2, .int .i64 0, .bool false, .nilIface] 93)).alloc (.cells #[.int .u8 162, .int .u8 2] 5) := by
  go_enter Tryz.func60, Tryz.ntmps60
  go_wp2_with (go_at_call 74; refine (protoCIRCUIT_any _).mono ?_; rintro e w' ⟨rfl, rfl⟩)
  refine bodyPost_ret (v := .agg #[.string ⟨#[112, 50, 112, 45, 99, 105, 114, 99, 117, 105, 116]⟩, .int .i64 290, .slice (some ⟨w.heap.size + 2, 0, none⟩) 2 2, .int .i64 0, .bool false, .nilIface]) (by simp [results, Tryz.results60, go_sem]) rfl ⟨rfl, ?_⟩
  simp

set_option maxRecDepth 100000 in
theorem zzCoded_p2p (w : World) : Calls Tryz.prog 60 #[.int .i64 421] w fun e w' => e = .returned (.agg #[.string ⟨#[112, 50, 112]⟩, .int .i64 421, .slice (some ⟨w.heap.size + 2, 0, none⟩) 2 2, .int .i64 (-1), .bool false, .iface 134 (.agg #[.func (Fn.func 151) #[] #[], .func (Fn.func 152) #[] #[], .func (Fn.func 153) #[] #[]])]) ∧
    w' = ((w.alloc (.cells #[.string ⟨#[112, 50, 112]⟩, .int .i64 421, .slice (some ⟨w.heap.size + 2, 0, none⟩) 2 2, .int .i64 (-1), .bool false, .iface 134 (.agg #[.func (Fn.func 151) #[] #[], .func (Fn.func 152) #[] #[], .func (Fn.func 153) #[] #[]])] 93)).alloc (.cells #[.string ⟨#[112, 50, 112]⟩, .int .i64 421, .slice (some ⟨w.heap.size + 2, 0, none⟩) 2 2, .int .i64 (-1), .bool false, .iface 134 (.agg #[.func (Fn.func 151) #[] #[], .func (Fn.func 152) #[] #[], .func (Fn.func 153) #[] #[]])] 93)).alloc (.cells #[.int .u8 165, .int .u8 3] 5) := by
  go_enter Tryz.func60, Tryz.ntmps60
  go_wp2_with (go_at_call 88; refine (protoP2P_any _).mono ?_; rintro e w' ⟨rfl, rfl⟩)
  refine bodyPost_ret (v := .agg #[.string ⟨#[112, 50, 112]⟩, .int .i64 421, .slice (some ⟨w.heap.size + 2, 0, none⟩) 2 2, .int .i64 (-1), .bool false, .iface 134 (.agg #[.func (Fn.func 151) #[] #[], .func (Fn.func 152) #[] #[], .func (Fn.func 153) #[] #[]])]) (by simp [results, Tryz.results60, go_sem]) rfl ⟨rfl, ?_⟩
  simp

set_option maxRecDepth 100000 in
theorem zzCoded_ip6 (w : World) : Calls Tryz.prog 60 #[.int .i64 41] w fun e w' => e = .returned (.agg #[.string ⟨#[105, 112, 54]⟩, .int .i64 41, .slice (some ⟨w.heap.size + 2, 0, none⟩) 1 1, .int .i64 128, .bool false, .iface 134 (.agg #[.func (Fn.func 125) #[] #[], .func (Fn.func 126) #[] #[], .nilFunc])]) ∧
    w' = ((w.alloc (.cells #[.string ⟨#[105, 112, 54]⟩, .int .i64 41, .slice (some ⟨w.heap.size + 2, 0, none⟩) 1 1, .int .i64 128, .bool false, .iface 134 (.agg #[.func (Fn.func 125) #[] #[], .func (Fn.func 126) #[] #[], .nilFunc])] 93)).alloc (.cells #[.string ⟨#[105, 112, 54]⟩, .int .i64 41, .slice (some ⟨w.heap.size + 2, 0, none⟩) 1 1, .int .i64 128, .bool false, .iface 134 (.agg #[.func (Fn.func 125) #[] #[], .func (Fn.func 126) #[] #[], .nilFunc])] 93)).alloc (.cells #[.int .u8 41] 5) := by
  go_enter Tryz.func60, Tryz.ntmps60
  go_wp2_with (go_at_call 70; refine (protoIP6_any _).mono ?_; rintro e w' ⟨rfl, rfl⟩)
  refine bodyPost_ret (v := .agg #[.string ⟨#[105, 112, 54]⟩, .int .i64 41, .slice (some ⟨w.heap.size + 2, 0, none⟩) 1 1, .int .i64 128, .bool false, .iface 134 (.agg #[.func (Fn.func 125) #[] #[], .func (Fn.func 126) #[] #[], .nilFunc])]) (by simp [results, Tryz.results60, go_sem]) rfl ⟨rfl, ?_⟩
  simp

set_option maxRecDepth 100000 in
theorem zzCoded_1 (w : World) : Calls Tryz.prog 60 #[.int .i64 1] w fun e w' => e = .returned (.agg #[.string ⟨#[]⟩, .int .i64 0, .slice none 0 0, .int .i64 0, .bool false, .nilIface]) ∧ w' = w.alloc (.cells #[.string ⟨#[]⟩, .int .i64 0, .slice none 0 0, .int .i64 0, .bool false, .nilIface] 93) := by
  go_enter Tryz.func60, Tryz.ntmps60
  go_wp2_with fail
  exact bodyPost_ret (v := .agg #[.string ⟨#[]⟩, .int .i64 0, .slice none 0 0, .int .i64 0, .bool false, .nilIface]) (by simp [results, Tryz.results60, go_sem]) rfl ⟨rfl, rfl⟩

set_option maxRecDepth 100000 in
theorem zzCoded_2 (w : World) : Calls Tryz.prog 60 #[.int .i64 2] w fun e w' => e = .returned (.agg #[.string ⟨#[]⟩, .int .i64 0, .slice none 0 0, .int .i64 0, .bool false, .nilIface]) ∧ w' = w.alloc (.cells #[.string ⟨#[]⟩, .int .i64 0, .slice none 0 0, .int .i64 0, .bool false, .nilIface] 93) := by
  go_enter Tryz.func60, Tryz.ntmps60
  go_wp2_with fail
  exact bodyPost_ret (v := .agg #[.string ⟨#[]⟩, .int .i64 0, .slice none 0 0, .int .i64 0, .bool false, .nilIface]) (by simp [results, Tryz.results60, go_sem]) rfl ⟨rfl, rfl⟩

set_option maxRecDepth 100000 in
theorem zzCoded_3 (w : World) : Calls Tryz.prog 60 #[.int .i64 3] w fun e w' => e = .returned (.agg #[.string ⟨#[]⟩, .int .i64 0, .slice none 0 0, .int .i64 0, .bool false, .nilIface]) ∧ w' = w.alloc (.cells #[.string ⟨#[]⟩, .int .i64 0, .slice none 0 0, .int .i64 0, .bool false, .nilIface] 93) := by
  go_enter Tryz.func60, Tryz.ntmps60
  go_wp2_with fail
  exact bodyPost_ret (v := .agg #[.string ⟨#[]⟩, .int .i64 0, .slice none 0 0, .int .i64 0, .bool false, .nilIface]) (by simp [results, Tryz.results60, go_sem]) rfl ⟨rfl, rfl⟩

set_option maxRecDepth 100000 in
theorem zzCoded_5 (w : World) : Calls Tryz.prog 60 #[.int .i64 5] w fun e w' => e = .returned (.agg #[.string ⟨#[]⟩, .int .i64 0, .slice none 0 0, .int .i64 0, .bool false, .nilIface]) ∧ w' = w.alloc (.cells #[.string ⟨#[]⟩, .int .i64 0, .slice none 0 0, .int .i64 0, .bool false, .nilIface] 93) := by
  go_enter Tryz.func60, Tryz.ntmps60
  go_wp2_with fail
  exact bodyPost_ret (v := .agg #[.string ⟨#[]⟩, .int .i64 0, .slice none 0 0, .int .i64 0, .bool false, .nilIface]) (by simp [results, Tryz.results60, go_sem]) rfl ⟨rfl, rfl⟩

set_option maxRecDepth 100000 in
theorem zzCoded_7 (w : World) : Calls Tryz.prog 60 #[.int .i64 7] w fun e w' => e = .returned (.agg #[.string ⟨#[]⟩, .int .i64 0, .slice none 0 0, .int .i64 0, .bool false, .nilIface]) ∧ w' = w.alloc (.cells #[.string ⟨#[]⟩, .int .i64 0, .slice none 0 0, .int .i64 0, .bool false, .nilIface] 93) := by
  go_enter Tryz.func60, Tryz.ntmps60
  go_wp2_with fail
  exact bodyPost_ret (v := .agg #[.string ⟨#[]⟩, .int .i64 0, .slice none 0 0, .int .i64 0, .bool false, .nilIface]) (by simp [results, Tryz.results60, go_sem]) rfl ⟨rfl, rfl⟩

end Go.Proofs.YtkfiacolgkocfaaGreatDoor
