/- The protocols' rows: what protoIP4 .. hand back, and zzCoded, zzPtr at the codes of the eight parts and at codes of none. -/
import Derived.Test.YtapkmoakbfpkeaaGreatDoorA1
namespace Go.Proofs.YtapkmoakbfpkeaaGreatDoor
open Go Go.RowKit Go.Proofs

/-- A protocol's row: its name, code, the code's varint, size, whether it is a path, its transcoder (an interface value). -/
structure Prot where
  name : ByteArray
  code : Int
  vc : List Int
  size : Int
  path : Bool
  tr : Value
/-- The six cells of a Protocol whose VCode lies in block a. -/
def Prot.cells (p : Prot) (a : Nat) : Array Value :=
  #[.string p.name, .int .i64 p.code, .slice (some ⟨a, 0, none⟩) p.vc.length p.vc.length, .int .i64 p.size, .bool p.path, p.tr]
/-- Block a holds the bytes vc. -/
def VRow (w : World) (a : Nat) (vc : List Int) : Prop := w.heap[a]? = some (.cells (vc.map (Value.int .u8)).toArray 5 (0, 0))
theorem VRow.lt {w : World} {a : Nat} {vc : List Int} (h : VRow w a vc) : a < w.heap.size := (Array.getElem?_eq_some_iff.1 h).1
theorem VRow.below {w w' : World} {a B : Nat} {vc : List Int} (h : VRow w a vc) (hb : Below B w w') (ha : a < B) : VRow w' a vc := (hb.block a ha).trans h
theorem VRow.alloc {w : World} {a : Nat} {vc : List Int} (h : VRow w a vc) (o : Obj) : VRow (w.alloc o) a vc := (Below.heap_alloc w o a h.lt).trans h
theorem VRow.new (w : World) (vc : List Int) : VRow (w.alloc (.cells (vc.map (Value.int .u8)).toArray 5)) w.heap.size vc := heap_alloc_new w _

def ip4P : Prot := { name := ⟨#[105, 112, 52]⟩, code := 4, vc := [4], size := 32, path := false, tr := .iface 253 (.agg #[.func (Fn.func 215) #[] #[], .func (Fn.func 216) #[] #[], .nilFunc]) }
def tcpP : Prot := { name := ⟨#[116, 99, 112]⟩, code := 6, vc := [6], size := 16, path := false, tr := .iface 253 (.agg #[.func (Fn.func 217) #[] #[], .func (Fn.func 218) #[] #[], .nilFunc]) }
def udpP : Prot := { name := ⟨#[117, 100, 112]⟩, code := 273, vc := [145, 2], size := 16, path := false, tr := .iface 253 (.agg #[.func (Fn.func 217) #[] #[], .func (Fn.func 218) #[] #[], .nilFunc]) }
def quicP : Prot := { name := ⟨#[113, 117, 105, 99, 45, 118, 49]⟩, code := 461, vc := [205, 3], size := 0, path := false, tr := .nilIface }
def wsP : Prot := { name := ⟨#[119, 115]⟩, code := 477, vc := [221, 3], size := 0, path := false, tr := .nilIface }
def circP : Prot := { name := ⟨#[112, 50, 112, 45, 99, 105, 114, 99, 117, 105, 116]⟩, code := 290, vc := [162, 2], size := 0, path := false, tr := .nilIface }
def p2pP : Prot := { name := ⟨#[112, 50, 112]⟩, code := 421, vc := [165, 3], size := -1, path := false, tr := .iface 253 (.agg #[.func (Fn.func 248) #[] #[], .func (Fn.func 249) #[] #[], .func (Fn.func 250) #[] #[]]) }
def ip6P : Prot := { name := ⟨#[105, 112, 54]⟩, code := 41, vc := [41], size := 128, path := false, tr := .iface 253 (.agg #[.func (Fn.func 222) #[] #[], .func (Fn.func 223) #[] #[], .nilFunc]) }

set_option maxRecDepth 100000 in
theorem protoIP4_any (w : World) : Calls Tryz.prog 153 #[] w fun e w' => e = .returned (.agg #[.string ⟨#[105, 112, 52]⟩, .int .i64 4, .slice (some ⟨w.heap.size + 1, 0, none⟩) 1 1, .int .i64 32, .bool false, .iface 253 (.agg #[.func (Fn.func 215) #[] #[], .func (Fn.func 216) #[] #[], .nilFunc])]) ∧
    w' = (w.alloc (.cells #[.string ⟨#[105, 112, 52]⟩, .int .i64 4, .slice (some ⟨w.heap.size + 1, 0, none⟩) 1 1, .int .i64 32, .bool false, .iface 253 (.agg #[.func (Fn.func 215) #[] #[], .func (Fn.func 216) #[] #[], .nilFunc])] 144)).alloc (.cells #[.int .u8 4] 5) := by
  go_enter Tryz.func153, Tryz.ntmps153
  go_wp2_with (first | (go_at_call 196; refine (codeToVarint_1 _ (by omega) (by omega) _).mono ?_; rintro e w' ⟨rfl, rfl⟩) | go_in)
  refine bodyPost_ret (v := .agg #[.string ⟨#[105, 112, 52]⟩, .int .i64 4, .slice (some ⟨w.heap.size + 1, 0, none⟩) 1 1, .int .i64 32, .bool false, .iface 253 (.agg #[.func (Fn.func 215) #[] #[], .func (Fn.func 216) #[] #[], .nilFunc])]) (by simp [results, Tryz.results153, go_sem]) rfl ⟨rfl, ?_⟩
  simp

set_option maxRecDepth 100000 in
theorem protoTCP_any (w : World) : Calls Tryz.prog 154 #[] w fun e w' => e = .returned (.agg #[.string ⟨#[116, 99, 112]⟩, .int .i64 6, .slice (some ⟨w.heap.size + 1, 0, none⟩) 1 1, .int .i64 16, .bool false, .iface 253 (.agg #[.func (Fn.func 217) #[] #[], .func (Fn.func 218) #[] #[], .nilFunc])]) ∧
    w' = (w.alloc (.cells #[.string ⟨#[116, 99, 112]⟩, .int .i64 6, .slice (some ⟨w.heap.size + 1, 0, none⟩) 1 1, .int .i64 16, .bool false, .iface 253 (.agg #[.func (Fn.func 217) #[] #[], .func (Fn.func 218) #[] #[], .nilFunc])] 144)).alloc (.cells #[.int .u8 6] 5) := by
  go_enter Tryz.func154, Tryz.ntmps154
  go_wp2_with (first | (go_at_call 196; refine (codeToVarint_1 _ (by omega) (by omega) _).mono ?_; rintro e w' ⟨rfl, rfl⟩) | go_in)
  refine bodyPost_ret (v := .agg #[.string ⟨#[116, 99, 112]⟩, .int .i64 6, .slice (some ⟨w.heap.size + 1, 0, none⟩) 1 1, .int .i64 16, .bool false, .iface 253 (.agg #[.func (Fn.func 217) #[] #[], .func (Fn.func 218) #[] #[], .nilFunc])]) (by simp [results, Tryz.results154, go_sem]) rfl ⟨rfl, ?_⟩
  simp

set_option maxRecDepth 100000 in
theorem protoUDP_any (w : World) : Calls Tryz.prog 159 #[] w fun e w' => e = .returned (.agg #[.string ⟨#[117, 100, 112]⟩, .int .i64 273, .slice (some ⟨w.heap.size + 1, 0, none⟩) 2 2, .int .i64 16, .bool false, .iface 253 (.agg #[.func (Fn.func 217) #[] #[], .func (Fn.func 218) #[] #[], .nilFunc])]) ∧
    w' = (w.alloc (.cells #[.string ⟨#[117, 100, 112]⟩, .int .i64 273, .slice (some ⟨w.heap.size + 1, 0, none⟩) 2 2, .int .i64 16, .bool false, .iface 253 (.agg #[.func (Fn.func 217) #[] #[], .func (Fn.func 218) #[] #[], .nilFunc])] 144)).alloc (.cells #[.int .u8 145, .int .u8 2] 5) := by
  go_enter Tryz.func159, Tryz.ntmps159
  go_wp2_with (first | (go_at_call 196; refine (codeToVarint_2 _ (by omega) (by omega) _).mono ?_; rintro e w' ⟨rfl, rfl⟩) | go_in)
  refine bodyPost_ret (v := .agg #[.string ⟨#[117, 100, 112]⟩, .int .i64 273, .slice (some ⟨w.heap.size + 1, 0, none⟩) 2 2, .int .i64 16, .bool false, .iface 253 (.agg #[.func (Fn.func 217) #[] #[], .func (Fn.func 218) #[] #[], .nilFunc])]) (by simp [results, Tryz.results159, go_sem]) rfl ⟨rfl, ?_⟩
  simp

set_option maxRecDepth 100000 in
theorem protoQUICV1_any (w : World) : Calls Tryz.prog 173 #[] w fun e w' => e = .returned (.agg #[.string ⟨#[113, 117, 105, 99, 45, 118, 49]⟩, .int .i64 461, .slice (some ⟨w.heap.size + 1, 0, none⟩) 2 2, .int .i64 0, .bool false, .nilIface]) ∧
    w' = (w.alloc (.cells #[.string ⟨#[113, 117, 105, 99, 45, 118, 49]⟩, .int .i64 461, .slice (some ⟨w.heap.size + 1, 0, none⟩) 2 2, .int .i64 0, .bool false, .nilIface] 144)).alloc (.cells #[.int .u8 205, .int .u8 3] 5) := by
  go_enter Tryz.func173, Tryz.ntmps173
  go_wp2_with (first | (go_at_call 196; refine (codeToVarint_2 _ (by omega) (by omega) _).mono ?_; rintro e w' ⟨rfl, rfl⟩) | go_in)
  refine bodyPost_ret (v := .agg #[.string ⟨#[113, 117, 105, 99, 45, 118, 49]⟩, .int .i64 461, .slice (some ⟨w.heap.size + 1, 0, none⟩) 2 2, .int .i64 0, .bool false, .nilIface]) (by simp [results, Tryz.results173, go_sem]) rfl ⟨rfl, ?_⟩
  simp

set_option maxRecDepth 100000 in
theorem protoWS_any (w : World) : Calls Tryz.prog 185 #[] w fun e w' => e = .returned (.agg #[.string ⟨#[119, 115]⟩, .int .i64 477, .slice (some ⟨w.heap.size + 1, 0, none⟩) 2 2, .int .i64 0, .bool false, .nilIface]) ∧
    w' = (w.alloc (.cells #[.string ⟨#[119, 115]⟩, .int .i64 477, .slice (some ⟨w.heap.size + 1, 0, none⟩) 2 2, .int .i64 0, .bool false, .nilIface] 144)).alloc (.cells #[.int .u8 221, .int .u8 3] 5) := by
  go_enter Tryz.func185, Tryz.ntmps185
  go_wp2_with (first | (go_at_call 196; refine (codeToVarint_2 _ (by omega) (by omega) _).mono ?_; rintro e w' ⟨rfl, rfl⟩) | go_in)
  refine bodyPost_ret (v := .agg #[.string ⟨#[119, 115]⟩, .int .i64 477, .slice (some ⟨w.heap.size + 1, 0, none⟩) 2 2, .int .i64 0, .bool false, .nilIface]) (by simp [results, Tryz.results185, go_sem]) rfl ⟨rfl, ?_⟩
  simp

set_option maxRecDepth 100000 in
theorem protoCIRCUIT_any (w : World) : Calls Tryz.prog 165 #[] w fun e w' => e = .returned (.agg #[.string ⟨#[112, 50, 112, 45, 99, 105, 114, 99, 117, 105, 116]⟩, .int .i64 290, .slice (some ⟨w.heap.size + 1, 0, none⟩) 2 2, .int .i64 0, .bool false, .nilIface]) ∧
    w' = (w.alloc (.cells #[.string ⟨#[112, 50, 112, 45, 99, 105, 114, 99, 117, 105, 116]⟩, .int .i64 290, .slice (some ⟨w.heap.size + 1, 0, none⟩) 2 2, .int .i64 0, .bool false, .nilIface] 144)).alloc (.cells #[.int .u8 162, .int .u8 2] 5) := by
  go_enter Tryz.func165, Tryz.ntmps165
  go_wp2_with (first | (go_at_call 196; refine (codeToVarint_2 _ (by omega) (by omega) _).mono ?_; rintro e w' ⟨rfl, rfl⟩) | go_in)
  refine bodyPost_ret (v := .agg #[.string ⟨#[112, 50, 112, 45, 99, 105, 114, 99, 117, 105, 116]⟩, .int .i64 290, .slice (some ⟨w.heap.size + 1, 0, none⟩) 2 2, .int .i64 0, .bool false, .nilIface]) (by simp [results, Tryz.results165, go_sem]) rfl ⟨rfl, ?_⟩
  simp

set_option maxRecDepth 100000 in
theorem protoP2P_any (w : World) : Calls Tryz.prog 179 #[] w fun e w' => e = .returned (.agg #[.string ⟨#[112, 50, 112]⟩, .int .i64 421, .slice (some ⟨w.heap.size + 1, 0, none⟩) 2 2, .int .i64 (-1), .bool false, .iface 253 (.agg #[.func (Fn.func 248) #[] #[], .func (Fn.func 249) #[] #[], .func (Fn.func 250) #[] #[]])]) ∧
    w' = (w.alloc (.cells #[.string ⟨#[112, 50, 112]⟩, .int .i64 421, .slice (some ⟨w.heap.size + 1, 0, none⟩) 2 2, .int .i64 (-1), .bool false, .iface 253 (.agg #[.func (Fn.func 248) #[] #[], .func (Fn.func 249) #[] #[], .func (Fn.func 250) #[] #[]])] 144)).alloc (.cells #[.int .u8 165, .int .u8 3] 5) := by
  go_enter Tryz.func179, Tryz.ntmps179
  go_wp2_with (first | (go_at_call 196; refine (codeToVarint_2 _ (by omega) (by omega) _).mono ?_; rintro e w' ⟨rfl, rfl⟩) | go_in)
  refine bodyPost_ret (v := .agg #[.string ⟨#[112, 50, 112]⟩, .int .i64 421, .slice (some ⟨w.heap.size + 1, 0, none⟩) 2 2, .int .i64 (-1), .bool false, .iface 253 (.agg #[.func (Fn.func 248) #[] #[], .func (Fn.func 249) #[] #[], .func (Fn.func 250) #[] #[]])]) (by simp [results, Tryz.results179, go_sem]) rfl ⟨rfl, ?_⟩
  simp

set_option maxRecDepth 100000 in
theorem protoIP6_any (w : World) : Calls Tryz.prog 161 #[] w fun e w' => e = .returned (.agg #[.string ⟨#[105, 112, 54]⟩, .int .i64 41, .slice (some ⟨w.heap.size + 1, 0, none⟩) 1 1, .int .i64 128, .bool false, .iface 253 (.agg #[.func (Fn.func 222) #[] #[], .func (Fn.func 223) #[] #[], .nilFunc])]) ∧
    w' = (w.alloc (.cells #[.string ⟨#[105, 112, 54]⟩, .int .i64 41, .slice (some ⟨w.heap.size + 1, 0, none⟩) 1 1, .int .i64 128, .bool false, .iface 253 (.agg #[.func (Fn.func 222) #[] #[], .func (Fn.func 223) #[] #[], .nilFunc])] 144)).alloc (.cells #[.int .u8 41] 5) := by
  go_enter Tryz.func161, Tryz.ntmps161
  go_wp2_with (first | (go_at_call 196; refine (codeToVarint_1 _ (by omega) (by omega) _).mono ?_; rintro e w' ⟨rfl, rfl⟩) | go_in)
  refine bodyPost_ret (v := .agg #[.string ⟨#[105, 112, 54]⟩, .int .i64 41, .slice (some ⟨w.heap.size + 1, 0, none⟩) 1 1, .int .i64 128, .bool false, .iface 253 (.agg #[.func (Fn.func 222) #[] #[], .func (Fn.func 223) #[] #[], .nilFunc])]) (by simp [results, Tryz.results161, go_sem]) rfl ⟨rfl, ?_⟩
  simp

set_option maxRecDepth 100000 in
theorem zzCoded_ip4 (w : World) : Calls Tryz.prog 191 #[.int .i64 4] w fun e w' => e = .returned (.agg #[.string ⟨#[105, 112, 52]⟩, .int .i64 4, .slice (some ⟨w.heap.size + 2, 0, none⟩) 1 1, .int .i64 32, .bool false, .iface 253 (.agg #[.func (Fn.func 215) #[] #[], .func (Fn.func 216) #[] #[], .nilFunc])]) ∧
    w' = ((w.alloc (.cells #[.string ⟨#[105, 112, 52]⟩, .int .i64 4, .slice (some ⟨w.heap.size + 2, 0, none⟩) 1 1, .int .i64 32, .bool false, .iface 253 (.agg #[.func (Fn.func 215) #[] #[], .func (Fn.func 216) #[] #[], .nilFunc])] 144)).alloc (.cells #[.string ⟨#[105, 112, 52]⟩, .int .i64 4, .slice (some ⟨w.heap.size + 2, 0, none⟩) 1 1, .int .i64 32, .bool false, .iface 253 (.agg #[.func (Fn.func 215) #[] #[], .func (Fn.func 216) #[] #[], .nilFunc])] 144)).alloc (.cells #[.int .u8 4] 5) := by
  go_enter Tryz.func191, Tryz.ntmps191
  go_wp2_with (go_at_call 153; refine (protoIP4_any _).mono ?_; rintro e w' ⟨rfl, rfl⟩)
  refine bodyPost_ret (v := .agg #[.string ⟨#[105, 112, 52]⟩, .int .i64 4, .slice (some ⟨w.heap.size + 2, 0, none⟩) 1 1, .int .i64 32, .bool false, .iface 253 (.agg #[.func (Fn.func 215) #[] #[], .func (Fn.func 216) #[] #[], .nilFunc])]) (by simp [results, Tryz.results191, go_sem]) rfl ⟨rfl, ?_⟩
  simp

set_option maxRecDepth 100000 in
theorem zzCoded_tcp (w : World) : Calls Tryz.prog 191 #[.int .i64 6] w fun e w' => e = .returned (.agg #[.string ⟨#[116, 99, 112]⟩, .int .i64 6, .slice (some ⟨w.heap.size + 2, 0, none⟩) 1 1, .int .i64 16, .bool false, .iface 253 (.agg #[.func (Fn.func 217) #[] #[], .func (Fn.func 218) #[] #[], .nilFunc])]) ∧
    w' = ((w.alloc (.cells #[.string ⟨#[116, 99, 112]⟩, .int .i64 6, .slice (some ⟨w.heap.size + 2, 0, none⟩) 1 1, .int .i64 16, .bool false, .iface 253 (.agg #[.func (Fn.func 217) #[] #[], .func (Fn.func 218) #[] #[], .nilFunc])] 144)).alloc (.cells #[.string ⟨#[116, 99, 112]⟩, .int .i64 6, .slice (some ⟨w.heap.size + 2, 0, none⟩) 1 1, .int .i64 16, .bool false, .iface 253 (.agg #[.func (Fn.func 217) #[] #[], .func (Fn.func 218) #[] #[], .nilFunc])] 144)).alloc (.cells #[.int .u8 6] 5) := by
  go_enter Tryz.func191, Tryz.ntmps191
  go_wp2_with (go_at_call 154; refine (protoTCP_any _).mono ?_; rintro e w' ⟨rfl, rfl⟩)
  refine bodyPost_ret (v := .agg #[.string ⟨#[116, 99, 112]⟩, .int .i64 6, .slice (some ⟨w.heap.size + 2, 0, none⟩) 1 1, .int .i64 16, .bool false, .iface 253 (.agg #[.func (Fn.func 217) #[] #[], .func (Fn.func 218) #[] #[], .nilFunc])]) (by simp [results, Tryz.results191, go_sem]) rfl ⟨rfl, ?_⟩
  simp

set_option maxRecDepth 100000 in
theorem zzCoded_udp (w : World) : Calls Tryz.prog 191 #[.int .i64 273] w fun e w' => e = .returned (.agg #[.string ⟨#[117, 100, 112]⟩, .int .i64 273, .slice (some ⟨w.heap.size + 2, 0, none⟩) 2 2, .int .i64 16, .bool false, .iface 253 (.agg #[.func (Fn.func 217) #[] #[], .func (Fn.func 218) #[] #[], .nilFunc])]) ∧
    w' = ((w.alloc (.cells #[.string ⟨#[117, 100, 112]⟩, .int .i64 273, .slice (some ⟨w.heap.size + 2, 0, none⟩) 2 2, .int .i64 16, .bool false, .iface 253 (.agg #[.func (Fn.func 217) #[] #[], .func (Fn.func 218) #[] #[], .nilFunc])] 144)).alloc (.cells #[.string ⟨#[117, 100, 112]⟩, .int .i64 273, .slice (some ⟨w.heap.size + 2, 0, none⟩) 2 2, .int .i64 16, .bool false, .iface 253 (.agg #[.func (Fn.func 217) #[] #[], .func (Fn.func 218) #[] #[], .nilFunc])] 144)).alloc (.cells #[.int .u8 145, .int .u8 2] 5) := by
  go_enter Tryz.func191, Tryz.ntmps191
  go_wp2_with (go_at_call 159; refine (protoUDP_any _).mono ?_; rintro e w' ⟨rfl, rfl⟩)
  refine bodyPost_ret (v := .agg #[.string ⟨#[117, 100, 112]⟩, .int .i64 273, .slice (some ⟨w.heap.size + 2, 0, none⟩) 2 2, .int .i64 16, .bool false, .iface 253 (.agg #[.func (Fn.func 217) #[] #[], .func (Fn.func 218) #[] #[], .nilFunc])]) (by simp [results, Tryz.results191, go_sem]) rfl ⟨rfl, ?_⟩
  simp

set_option maxRecDepth 100000 in
theorem zzCoded_quic (w : World) : Calls Tryz.prog 191 #[.int .i64 461] w fun e w' => e = .returned (.agg #[.string ⟨#[113, 117, 105, 99, 45, 118, 49]⟩, .int .i64 461, .slice (some ⟨w.heap.size + 2, 0, none⟩) 2 2, .int .i64 0, .bool false, .nilIface]) ∧
    w' = ((w.alloc (.cells #[.string ⟨#[113, 117, 105, 99, 45, 118, 49]⟩, .int .i64 461, .slice (some ⟨w.heap.size + 2, 0, none⟩) 2 2, .int .i64 0, .bool false, .nilIface] 144)).alloc (.cells #[.string ⟨#[113, 117, 105, 99, 45, 118, 49]⟩, .int .i64 461, .slice (some ⟨w.heap.size + 2, 0, none⟩) 2 2, .int .i64 0, .bool false, .nilIface] 144)).alloc (.cells #[.int .u8 205, .int .u8 3] 5) := by
  go_enter Tryz.func191, Tryz.ntmps191
  go_wp2_with (go_at_call 173; refine (protoQUICV1_any _).mono ?_; rintro e w' ⟨rfl, rfl⟩)
  refine bodyPost_ret (v := .agg #[.string ⟨#[113, 117, 105, 99, 45, 118, 49]⟩, .int .i64 461, .slice (some ⟨w.heap.size + 2, 0, none⟩) 2 2, .int .i64 0, .bool false, .nilIface]) (by simp [results, Tryz.results191, go_sem]) rfl ⟨rfl, ?_⟩
  simp

set_option maxRecDepth 100000 in
theorem zzCoded_ws (w : World) : Calls Tryz.prog 191 #[.int .i64 477] w fun e w' => e = .returned (.agg #[.string ⟨#[119, 115]⟩, .int .i64 477, .slice (some ⟨w.heap.size + 2, 0, none⟩) 2 2, .int .i64 0, .bool false, .nilIface]) ∧
    w' = ((w.alloc (.cells #[.string ⟨#[119, 115]⟩, .int .i64 477, .slice (some ⟨w.heap.size + 2, 0, none⟩) 2 2, .int .i64 0, .bool false, .nilIface] 144)).alloc (.cells #[.string ⟨#[119, 115]⟩, .int .i64 477, .slice (some ⟨w.heap.size + 2, 0, none⟩) 2 2, .int .i64 0, .bool false, .nilIface] 144)).alloc (.cells #[.int .u8 221, .int .u8 3] 5) := by
  go_enter Tryz.func191, Tryz.ntmps191
  go_wp2_with (go_at_call 185; refine (protoWS_any _).mono ?_; rintro e w' ⟨rfl, rfl⟩)
  refine bodyPost_ret (v := .agg #[.string ⟨#[119, 115]⟩, .int .i64 477, .slice (some ⟨w.heap.size + 2, 0, none⟩) 2 2, .int .i64 0, .bool false, .nilIface]) (by simp [results, Tryz.results191, go_sem]) rfl ⟨rfl, ?_⟩
  simp

set_option maxRecDepth 100000 in
theorem zzCoded_circ (w : World) : Calls Tryz.prog 191 #[.int .i64 290] w fun e w' => e = .returned (.agg #[.string ⟨#[112, 50, 112, 45, 99, 105, 114, 99, 117, 105, 116]⟩, .int .i64 290, .slice (some ⟨w.heap.size + 2, 0, none⟩) 2 2, .int .i64 0, .bool false, .nilIface]) ∧
    w' = ((w.alloc (.cells #[.string ⟨#[112, 50, 112, 45, 99, 105, 114, 99, 117, 105, 116]⟩, .int .i64 290, .slice (some ⟨w.heap.size + 2, 0, none⟩) 2 2, .int .i64 0, .bool false, .nilIface] 144)).alloc (.cells #[.string ⟨#[112, 50, 112, 45, 99, 105, 114, 99, 117, 105, 116]⟩, .int .i64 290, .slice (some ⟨w.heap.size + 2, 0, none⟩) 2 2, .int .i64 0, .bool false, .nilIface] 144)).alloc (.cells #[.int .u8 162, .int .u8 2] 5) := by
  go_enter Tryz.func191, Tryz.ntmps191
  go_wp2_with (go_at_call 165; refine (protoCIRCUIT_any _).mono ?_; rintro e w' ⟨rfl, rfl⟩)
  refine bodyPost_ret (v := .agg #[.string ⟨#[112, 50, 112, 45, 99, 105, 114, 99, 117, 105, 116]⟩, .int .i64 290, .slice (some ⟨w.heap.size + 2, 0, none⟩) 2 2, .int .i64 0, .bool false, .nilIface]) (by simp [results, Tryz.results191, go_sem]) rfl ⟨rfl, ?_⟩
  simp

set_option maxRecDepth 100000 in
theorem zzCoded_p2p (w : World) : Calls Tryz.prog 191 #[.int .i64 421] w fun e w' => e = .returned (.agg #[.string ⟨#[112, 50, 112]⟩, .int .i64 421, .slice (some ⟨w.heap.size + 2, 0, none⟩) 2 2, .int .i64 (-1), .bool false, .iface 253 (.agg #[.func (Fn.func 248) #[] #[], .func (Fn.func 249) #[] #[], .func (Fn.func 250) #[] #[]])]) ∧
    w' = ((w.alloc (.cells #[.string ⟨#[112, 50, 112]⟩, .int .i64 421, .slice (some ⟨w.heap.size + 2, 0, none⟩) 2 2, .int .i64 (-1), .bool false, .iface 253 (.agg #[.func (Fn.func 248) #[] #[], .func (Fn.func 249) #[] #[], .func (Fn.func 250) #[] #[]])] 144)).alloc (.cells #[.string ⟨#[112, 50, 112]⟩, .int .i64 421, .slice (some ⟨w.heap.size + 2, 0, none⟩) 2 2, .int .i64 (-1), .bool false, .iface 253 (.agg #[.func (Fn.func 248) #[] #[], .func (Fn.func 249) #[] #[], .func (Fn.func 250) #[] #[]])] 144)).alloc (.cells #[.int .u8 165, .int .u8 3] 5) := by
  go_enter Tryz.func191, Tryz.ntmps191
  go_wp2_with (go_at_call 179; refine (protoP2P_any _).mono ?_; rintro e w' ⟨rfl, rfl⟩)
  refine bodyPost_ret (v := .agg #[.string ⟨#[112, 50, 112]⟩, .int .i64 421, .slice (some ⟨w.heap.size + 2, 0, none⟩) 2 2, .int .i64 (-1), .bool false, .iface 253 (.agg #[.func (Fn.func 248) #[] #[], .func (Fn.func 249) #[] #[], .func (Fn.func 250) #[] #[]])]) (by simp [results, Tryz.results191, go_sem]) rfl ⟨rfl, ?_⟩
  simp

set_option maxRecDepth 100000 in
theorem zzCoded_ip6 (w : World) : Calls Tryz.prog 191 #[.int .i64 41] w fun e w' => e = .returned (.agg #[.string ⟨#[105, 112, 54]⟩, .int .i64 41, .slice (some ⟨w.heap.size + 2, 0, none⟩) 1 1, .int .i64 128, .bool false, .iface 253 (.agg #[.func (Fn.func 222) #[] #[], .func (Fn.func 223) #[] #[], .nilFunc])]) ∧
    w' = ((w.alloc (.cells #[.string ⟨#[105, 112, 54]⟩, .int .i64 41, .slice (some ⟨w.heap.size + 2, 0, none⟩) 1 1, .int .i64 128, .bool false, .iface 253 (.agg #[.func (Fn.func 222) #[] #[], .func (Fn.func 223) #[] #[], .nilFunc])] 144)).alloc (.cells #[.string ⟨#[105, 112, 54]⟩, .int .i64 41, .slice (some ⟨w.heap.size + 2, 0, none⟩) 1 1, .int .i64 128, .bool false, .iface 253 (.agg #[.func (Fn.func 222) #[] #[], .func (Fn.func 223) #[] #[], .nilFunc])] 144)).alloc (.cells #[.int .u8 41] 5) := by
  go_enter Tryz.func191, Tryz.ntmps191
  go_wp2_with (go_at_call 161; refine (protoIP6_any _).mono ?_; rintro e w' ⟨rfl, rfl⟩)
  refine bodyPost_ret (v := .agg #[.string ⟨#[105, 112, 54]⟩, .int .i64 41, .slice (some ⟨w.heap.size + 2, 0, none⟩) 1 1, .int .i64 128, .bool false, .iface 253 (.agg #[.func (Fn.func 222) #[] #[], .func (Fn.func 223) #[] #[], .nilFunc])]) (by simp [results, Tryz.results191, go_sem]) rfl ⟨rfl, ?_⟩
  simp

set_option maxRecDepth 100000 in
theorem zzCoded_1 (w : World) : Calls Tryz.prog 191 #[.int .i64 1] w fun e w' => e = .returned (.agg #[.string ⟨#[]⟩, .int .i64 0, .slice none 0 0, .int .i64 0, .bool false, .nilIface]) ∧ w' = w.alloc (.cells #[.string ⟨#[]⟩, .int .i64 0, .slice none 0 0, .int .i64 0, .bool false, .nilIface] 144) := by
  go_enter Tryz.func191, Tryz.ntmps191
  go_wp2_with fail
  exact bodyPost_ret (v := .agg #[.string ⟨#[]⟩, .int .i64 0, .slice none 0 0, .int .i64 0, .bool false, .nilIface]) (by simp [results, Tryz.results191, go_sem]) rfl ⟨rfl, rfl⟩

set_option maxRecDepth 100000 in
theorem zzCoded_2 (w : World) : Calls Tryz.prog 191 #[.int .i64 2] w fun e w' => e = .returned (.agg #[.string ⟨#[]⟩, .int .i64 0, .slice none 0 0, .int .i64 0, .bool false, .nilIface]) ∧ w' = w.alloc (.cells #[.string ⟨#[]⟩, .int .i64 0, .slice none 0 0, .int .i64 0, .bool false, .nilIface] 144) := by
  go_enter Tryz.func191, Tryz.ntmps191
  go_wp2_with fail
  exact bodyPost_ret (v := .agg #[.string ⟨#[]⟩, .int .i64 0, .slice none 0 0, .int .i64 0, .bool false, .nilIface]) (by simp [results, Tryz.results191, go_sem]) rfl ⟨rfl, rfl⟩

set_option maxRecDepth 100000 in
theorem zzCoded_3 (w : World) : Calls Tryz.prog 191 #[.int .i64 3] w fun e w' => e = .returned (.agg #[.string ⟨#[]⟩, .int .i64 0, .slice none 0 0, .int .i64 0, .bool false, .nilIface]) ∧ w' = w.alloc (.cells #[.string ⟨#[]⟩, .int .i64 0, .slice none 0 0, .int .i64 0, .bool false, .nilIface] 144) := by
  go_enter Tryz.func191, Tryz.ntmps191
  go_wp2_with fail
  exact bodyPost_ret (v := .agg #[.string ⟨#[]⟩, .int .i64 0, .slice none 0 0, .int .i64 0, .bool false, .nilIface]) (by simp [results, Tryz.results191, go_sem]) rfl ⟨rfl, rfl⟩

set_option maxRecDepth 100000 in
theorem zzCoded_5 (w : World) : Calls Tryz.prog 191 #[.int .i64 5] w fun e w' => e = .returned (.agg #[.string ⟨#[]⟩, .int .i64 0, .slice none 0 0, .int .i64 0, .bool false, .nilIface]) ∧ w' = w.alloc (.cells #[.string ⟨#[]⟩, .int .i64 0, .slice none 0 0, .int .i64 0, .bool false, .nilIface] 144) := by
  go_enter Tryz.func191, Tryz.ntmps191
  go_wp2_with fail
  exact bodyPost_ret (v := .agg #[.string ⟨#[]⟩, .int .i64 0, .slice none 0 0, .int .i64 0, .bool false, .nilIface]) (by simp [results, Tryz.results191, go_sem]) rfl ⟨rfl, rfl⟩

set_option maxRecDepth 100000 in
theorem zzCoded_7 (w : World) : Calls Tryz.prog 191 #[.int .i64 7] w fun e w' => e = .returned (.agg #[.string ⟨#[]⟩, .int .i64 0, .slice none 0 0, .int .i64 0, .bool false, .nilIface]) ∧ w' = w.alloc (.cells #[.string ⟨#[]⟩, .int .i64 0, .slice none 0 0, .int .i64 0, .bool false, .nilIface] 144) := by
  go_enter Tryz.func191, Tryz.ntmps191
  go_wp2_with fail
  exact bodyPost_ret (v := .agg #[.string ⟨#[]⟩, .int .i64 0, .slice none 0 0, .int .i64 0, .bool false, .nilIface]) (by simp [results, Tryz.results191, go_sem]) rfl ⟨rfl, rfl⟩

end Go.Proofs.YtapkmoakbfpkeaaGreatDoor
