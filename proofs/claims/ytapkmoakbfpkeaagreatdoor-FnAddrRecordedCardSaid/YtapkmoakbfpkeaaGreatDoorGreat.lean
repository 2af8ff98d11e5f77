/-
  DERIVED. MADE BY PROGRAM (an AI agent of the authors' house's tools/great-walk3.mjs) off ytapkmoakbfpkeaagreatdoor.cut.gsa: THE TIE AT math/bits.deBruijn32tab, math/bits.deBruijn64tab, internal/strconv.uint64pow10, unicode/utf8.acceptRanges, strconv.ErrRange, strconv.ErrSyntax, io.ErrUnexpectedEOF, pub-symmory/pub/protowire.errFieldNumber, pub-symmory/pub/protowire.errOverflow, pub-symmory/pub/protowire.errReserved, pub-symmory/pub/protowire.errEndGroup, pub-symmory/pub/protowire.errParse, pub-symmory/pub/libp2p/core/peer/pb.errNumber, pub-symmory/pub/govarint.ErrOverflow, pub-symmory/pub/govarint.ErrUnderflow, pub-symmory/pub/govarint.ErrNotMinimal, encoding/hex.ErrLength, pub-symmory/pub/gomultibase.hexTableUppers, pub-symmory/pub/gomultibase.base256emojiTable, pub-symmory/pub/gomultibase.ErrUnsupportedEncoding, pub-symmory/pub/gomultihash.ErrTooShort, pub-symmory/pub/gomultihash.ErrInvalidMultihash, pub-symmory/pub/gomultihash.ErrVarintBufferShort, pub-symmory/pub/gomultihash.ErrVarintTooLong, pub-symmory/pub/gocid.errCidTooShort, net/url.table, pub-symmory/pub/multiaddr.errNilPtr, pub-symmory/pub/libp2p/core/peer.ErrInvalidAddr: PAID BY A WALK OF 'gosem.cut.vars', the frame a variable; not by the kernel's run. The pattern and its lessons: GREAT.tables/000.READ-ME.md.
-/
import Derived.Test.YtapkmoakbfpkeaaGreatDoorProg
import Derived.Great.CaseRows
import Derived.Great.LaidInts
import Derived.Great.ByCallsLater
import Derived.Lib.LaidU8
import Derived.Lib.LaidRTabT
import Derived.WalkKit
namespace Go.Proofs.YtapkmoakbfpkeaaGreatDoor.Great
open Go.Great Go.Lib
set_option linter.unusedVariables false

def z30 : List Int := [0, 1, 28, 2, 29, 14, 24, 3, 30, 22, 20, 15, 25, 17, 4, 8, 31, 27, 13, 23, 21, 19, 16, 7, 26, 12, 18, 6, 11, 5, 10, 9]
def z31 : List Int := [0, 1, 56, 2, 57, 49, 28, 3, 61, 58, 42, 50, 38, 29, 17, 4, 62, 47, 59, 36, 45, 43, 51, 22, 53, 39, 33, 30, 24, 18, 12, 5, 63, 55, 48, 27, 60, 41, 37, 16, 46, 35, 44, 21, 52, 32, 23, 11, 54, 26, 40, 15, 34, 20, 31, 10, 25, 14, 19, 9, 13, 8, 7, 6]
def z21 : List Int := [1, 10, 100, 1000, 10000, 100000, 1000000, 10000000, 100000000, 1000000000, 10000000000, 100000000000, 1000000000000, 10000000000000, 100000000000000, 1000000000000000, 10000000000000000, 100000000000000000, 1000000000000000000, 10000000000000000000]
def z26 : List Int := [48, 49, 50, 51, 52, 53, 54, 55, 56, 57, 65, 66, 67, 68, 69, 70]
def z18 : List Int := [128640, 129680, 9732, 128752, 127756, 127761, 127762, 127763, 127764, 127765, 127766, 127767, 127768, 127757, 127759, 127758, 128009, 9728, 128187, 128421, 128190, 128191, 128514, 10084, 128525, 129315, 128522, 128591, 128149, 128557, 128536, 128077, 128517, 128079, 128513, 128293, 129392, 128148, 128150, 128153, 128546, 129300, 128518, 128580, 128170, 128521, 9786, 128076, 129303, 128156, 128532, 128526, 128519, 127801, 129318, 127881, 128158, 9996, 10024, 129335, 128561, 128524, 127800, 128588, 128523, 128151, 128154, 128527, 128155, 128578, 128147, 129321, 128516, 128512, 128420, 128515, 128175, 128584, 128071, 127926, 128530, 129325, 10083, 128540, 128139, 128064, 128554, 128529, 128165, 128587, 128542, 128553, 128545, 129322, 128074, 129395, 128549, 129316, 128073, 128131, 128563, 9995, 128538, 128541, 128564, 127775, 128556, 128579, 127808, 127799, 128571, 128531, 11088, 9989, 129402, 127752, 128520, 129304, 128166, 10004, 128547, 127939, 128144, 9785, 127882, 128152, 128544, 9757, 128533, 127802, 127874, 127803, 128528, 128405, 128157, 128586, 128569, 128483, 128171, 128128, 128081, 127925, 129310, 128539, 128308, 128548, 127804, 128555, 9917, 129305, 9749, 127942, 129323, 128072, 128558, 128582, 127867, 127811, 128054, 128129, 128562, 127807, 129505, 127873, 9889, 127774, 127880, 10060, 9994, 128075, 128560, 129320, 128566, 129309, 128694, 128176, 127827, 128162, 129311, 128577, 128680, 128168, 129324, 9992, 127872, 127866, 129299, 128537, 128159, 127793, 128534, 128118, 129396, 9654, 10145, 10067, 128142, 128184, 11015, 128552, 127770, 129419, 128567, 128378, 9888, 128581, 128543, 128565, 128078, 129330, 129312, 129319, 128204, 128309, 128133, 129488, 128062, 127826, 128535, 129297, 127754, 129327, 128055, 9742, 128167, 128559, 128134, 128070, 127908, 128583, 127825, 10052, 127796, 128163, 128056, 128140, 128205, 129344, 129314, 128069, 128161, 128169, 128080, 128248, 128123, 129296, 129326, 127932, 129397, 128681, 127822, 127818, 128124, 128141, 128227, 129346]
def z27 : List Int := [0, 0, 0, 0, 0, 0, 0, 0, 0, 0, 0, 0, 0, 0, 0, 0, 0, 0, 0, 0, 0, 0, 0, 0, 0, 0, 0, 0, 0, 0, 0, 0, 0, 76, 12, 0, 95, 0, 95, 12, 76, 76, 76, 95, 93, 127, 127, 65, 255, 255, 255, 255, 255, 255, 255, 255, 255, 255, 79, 93, 12, 95, 12, 64, 67, 255, 255, 255, 255, 255, 255, 127, 127, 127, 127, 127, 127, 127, 127, 127, 127, 127, 127, 127, 127, 127, 127, 127, 127, 127, 127, 12, 0, 12, 0, 127, 0, 255, 255, 255, 255, 255, 255, 127, 127, 127, 127, 127, 127, 127, 127, 127, 127, 127, 127, 127, 127, 127, 127, 127, 127, 127, 127, 0, 0, 0, 127, 0, 0, 0, 0, 0, 0, 0, 0, 0, 0, 0, 0, 0, 0, 0, 0, 0, 0, 0, 0, 0, 0, 0, 0, 0, 0, 0, 0, 0, 0, 0, 0, 0, 0, 0, 0, 0, 0, 0, 0, 0, 0, 0, 0, 0, 0, 0, 0, 0, 0, 0, 0, 0, 0, 0, 0, 0, 0, 0, 0, 0, 0, 0, 0, 0, 0, 0, 0, 0, 0, 0, 0, 0, 0, 0, 0, 0, 0, 0, 0, 0, 0, 0, 0, 0, 0, 0, 0, 0, 0, 0, 0, 0, 0, 0, 0, 0, 0, 0, 0, 0, 0, 0, 0, 0, 0, 0, 0, 0, 0, 0, 0, 0, 0, 0, 0, 0, 0, 0, 0, 0, 0, 0, 0, 0, 0, 0, 0, 0]



def accCells : Array Value := #[.int .u8 128, .int .u8 191, .int .u8 160, .int .u8 191, .int .u8 128, .int .u8 159, .int .u8 144, .int .u8 191, .int .u8 128, .int .u8 143, .int .u8 0, .int .u8 0, .int .u8 0, .int .u8 0, .int .u8 0, .int .u8 0, .int .u8 0, .int .u8 0, .int .u8 0, .int .u8 0, .int .u8 0, .int .u8 0, .int .u8 0, .int .u8 0, .int .u8 0, .int .u8 0, .int .u8 0, .int .u8 0, .int .u8 0, .int .u8 0, .int .u8 0, .int .u8 0]
def rowOf (w : World) (g : Nat) : Array Value := match w.heap[g]? with | some (.cells c _ _) => c | _ => #[]
def cellOf (w : World) (g : Nat) : Value := (rowOf w g).getD 0 undef
abbrev ints (k : IntKind) (zs : List Int) : DataW Unit := .slice (zs.map fun n => .lit (.int k n)) []
def laidAll : List (String × DataW Unit) := [("math/bits.deBruijn32tab", Lib.tabData .u8 z30), ("math/bits.deBruijn64tab", Lib.tabData .u8 z31), ("internal/strconv.uint64pow10", Lib.tabData .u64 z21), ("unicode/utf8.acceptRanges", Lib.acceptData), ("strconv.ErrRange", .iface "*errors.errorString" (.ptr (.agg [.lit (.string [118, 97, 108, 117, 101, 32, 111, 117, 116, 32, 111, 102, 32, 114, 97, 110, 103, 101])]))), ("strconv.ErrSyntax", .iface "*errors.errorString" (.ptr (.agg [.lit (.string [105, 110, 118, 97, 108, 105, 100, 32, 115, 121, 110, 116, 97, 120])]))), ("io.ErrUnexpectedEOF", .iface "*errors.errorString" (.ptr (.agg [.lit (.string [117, 110, 101, 120, 112, 101, 99, 116, 101, 100, 32, 69, 79, 70])]))), ("pub-symmory/pub/protowire.errFieldNumber", .iface "*errors.errorString" (.ptr (.agg [.lit (.string [105, 110, 118, 97, 108, 105, 100, 32, 102, 105, 101, 108, 100, 32, 110, 117, 109, 98, 101, 114])]))), ("pub-symmory/pub/protowire.errOverflow", .iface "*errors.errorString" (.ptr (.agg [.lit (.string [118, 97, 114, 105, 97, 98, 108, 101, 32, 108, 101, 110, 103, 116, 104, 32, 105, 110, 116, 101, 103, 101, 114, 32, 111, 118, 101, 114, 102, 108, 111, 119])]))), ("pub-symmory/pub/protowire.errReserved", .iface "*errors.errorString" (.ptr (.agg [.lit (.string [99, 97, 110, 110, 111, 116, 32, 112, 97, 114, 115, 101, 32, 114, 101, 115, 101, 114, 118, 101, 100, 32, 119, 105, 114, 101, 32, 116, 121, 112, 101])]))), ("pub-symmory/pub/protowire.errEndGroup", .iface "*errors.errorString" (.ptr (.agg [.lit (.string [109, 105, 115, 109, 97, 116, 99, 104, 105, 110, 103, 32, 101, 110, 100, 32, 103, 114, 111, 117, 112, 32, 109, 97, 114, 107, 101, 114])]))), ("pub-symmory/pub/protowire.errParse", .iface "*errors.errorString" (.ptr (.agg [.lit (.string [112, 97, 114, 115, 101, 32, 101, 114, 114, 111, 114])]))), ("pub-symmory/pub/libp2p/core/peer/pb.errNumber", .iface "*errors.errorString" (.ptr (.agg [.lit (.string [112, 114, 111, 116, 111, 58, 32, 105, 110, 118, 97, 108, 105, 100, 32, 102, 105, 101, 108, 100, 32, 110, 117, 109, 98, 101, 114])]))), ("pub-symmory/pub/govarint.ErrOverflow", .iface "*errors.errorString" (.ptr (.agg [.lit (.string [118, 97, 114, 105, 110, 116, 115, 32, 108, 97, 114, 103, 101, 114, 32, 116, 104, 97, 110, 32, 117, 105, 110, 116, 54, 51, 32, 110, 111, 116, 32, 115, 117, 112, 112, 111, 114, 116, 101, 100])]))), ("pub-symmory/pub/govarint.ErrUnderflow", .iface "*errors.errorString" (.ptr (.agg [.lit (.string [118, 97, 114, 105, 110, 116, 115, 32, 109, 97, 108, 102, 111, 114, 109, 101, 100, 44, 32, 99, 111, 117, 108, 100, 32, 110, 111, 116, 32, 114, 101, 97, 99, 104, 32, 116, 104, 101, 32, 101, 110, 100])]))), ("pub-symmory/pub/govarint.ErrNotMinimal", .iface "*errors.errorString" (.ptr (.agg [.lit (.string [118, 97, 114, 105, 110, 116, 32, 110, 111, 116, 32, 109, 105, 110, 105, 109, 97, 108, 108, 121, 32, 101, 110, 99, 111, 100, 101, 100])]))), ("encoding/hex.ErrLength", .iface "*errors.errorString" (.ptr (.agg [.lit (.string [101, 110, 99, 111, 100, 105, 110, 103, 47, 104, 101, 120, 58, 32, 111, 100, 100, 32, 108, 101, 110, 103, 116, 104, 32, 104, 101, 120, 32, 115, 116, 114, 105, 110, 103])]))), ("pub-symmory/pub/gomultibase.hexTableUppers", Lib.tabData .u8 z26), ("pub-symmory/pub/gomultibase.base256emojiTable", Lib.tabData .i32 z18), ("pub-symmory/pub/gomultibase.ErrUnsupportedEncoding", .iface "*errors.errorString" (.ptr (.agg [.lit (.string [115, 101, 108, 101, 99, 116, 101, 100, 32, 101, 110, 99, 111, 100, 105, 110, 103, 32, 110, 111, 116, 32, 115, 117, 112, 112, 111, 114, 116, 101, 100])]))), ("pub-symmory/pub/gomultihash.ErrTooShort", .iface "*errors.errorString" (.ptr (.agg [.lit (.string [109, 117, 108, 116, 105, 104, 97, 115, 104, 32, 116, 111, 111, 32, 115, 104, 111, 114, 116, 46, 32, 109, 117, 115, 116, 32, 98, 101, 32, 62, 61, 32, 50, 32, 98, 121, 116, 101, 115])]))), ("pub-symmory/pub/gomultihash.ErrInvalidMultihash", .iface "*errors.errorString" (.ptr (.agg [.lit (.string [105, 110, 112, 117, 116, 32, 105, 115, 110, 39, 116, 32, 118, 97, 108, 105, 100, 32, 109, 117, 108, 116, 105, 104, 97, 115, 104])]))), ("pub-symmory/pub/gomultihash.ErrVarintBufferShort", .iface "*errors.errorString" (.ptr (.agg [.lit (.string [117, 118, 97, 114, 105, 110, 116, 58, 32, 98, 117, 102, 102, 101, 114, 32, 116, 111, 111, 32, 115, 109, 97, 108, 108])]))), ("pub-symmory/pub/gomultihash.ErrVarintTooLong", .iface "*errors.errorString" (.ptr (.agg [.lit (.string [117, 118, 97, 114, 105, 110, 116, 58, 32, 118, 97, 114, 105, 110, 116, 32, 116, 111, 111, 32, 98, 105, 103, 32, 40, 109, 97, 120, 32, 54, 52, 98, 105, 116, 41])]))), ("pub-symmory/pub/gocid.errCidTooShort", .iface "*errors.errorString" (.ptr (.agg [.lit (.string [99, 105, 100, 32, 116, 111, 111, 32, 115, 104, 111, 114, 116])]))), ("net/url.table", Lib.tabData .u8 z27), ("pub-symmory/pub/multiaddr.errNilPtr", .iface "*errors.errorString" (.ptr (.agg [.lit (.string [110, 105, 108, 32, 112, 116, 114])]))), ("pub-symmory/pub/libp2p/core/peer.ErrInvalidAddr", .iface "*errors.errorString" (.ptr (.agg [.lit (.string [105, 110, 118, 97, 108, 105, 100, 32, 112, 50, 112, 32, 109, 117, 108, 116, 105, 97, 100, 100, 114])])))]
/-- No handle stands in the list: 'laidMetH' is 'laidMet'. -/
theorem noHandle (w : World) (h : laidMet Tryz.prog laidAll w) : laidMetH Tryz.prog laidAll w := by
  have e : (laidAll.filter fun x => x.2.handleName?.isSome) = [] := by kernel_rfl
  unfold laidMetH
  rw [e]
  exact h
theorem fits (k : IntKind) (zs : List Int) (h : (zs.all fun n => (Lit.int k n).wf) = true) : ∀ n ∈ zs, (Lit.int k n).wf = true := fun n hn => List.all_eq_true.1 h n hn

/-- errors.New, by its contract: a new block that holds the text; an interface value over a pointer to it. -/
theorem new_c (s : ByteArray) (w : World) : Calls Tryz.prog 109 #[.string s] w fun e w' => e = .returned (.iface 215 (.pointer (some ⟨w.heap.size, 0, none⟩))) ∧ w' = w.alloc (.cells #[.string s] 217) := by
  go_enter Tryz.func109, Tryz.ntmps109
  go_wp2
  go_ret
  exact ⟨rfl, rfl⟩
theorem new_cAt (s : ByteArray) (w : World) (N : Nat) (hN : w.heap.size = N) : Calls Tryz.prog 109 #[.string s] w fun e w' => e = .returned (.iface 215 (.pointer (some ⟨N, 0, none⟩))) ∧ w' = w.alloc (.cells #[.string s] 217) := by
  subst hN
  exact new_c s w

attribute [local irreducible] wpList Code.wp varsStart rowOf cellOf accCells z30 z31 z21 z26 z18 z27

set_option linter.unusedSimpArgs false in
set_option maxRecDepth 1000000 in
set_option maxHeartbeats 4000000 in
theorem tie : Tryz.prog.laidByTextLater laidAll [.data, .data, .data, .data, .sentinel, .sentinel, .sentinel, .sentinel, .sentinel, .sentinel, .sentinel, .sentinel, .sentinel, .sentinel, .sentinel, .sentinel, .sentinel, .data, .data, .sentinel, .sentinel, .sentinel, .sentinel, .sentinel, .sentinel, .data, .sentinel, .sentinel] true :=
  Program.laidByTextLater_by_calls (by as_aux_lemma => kernel_rfl) (by as_aux_lemma => kernel_rfl) (by as_aux_lemma => kernel_rfl) (by as_aux_lemma => kernel_rfl) (by as_aux_lemma => kernel_rfl) (by as_aux_lemma => kernel_rfl) (by as_aux_lemma => kernel_rfl) fun os tape => by
    have e : varsId Tryz.prog = 512 := by as_aux_lemma => kernel_rfl
    rw [e]
    refine calls_of_wp Tryz.func512 rfl ?_
    refine wp_anyFrame 33 (by as_aux_lemma => kernel_rfl) rfl fun a0 hs0 hd0 => ?_
    -- bits.go:44: math/bits.deBruijn32tab
    apply wp_seq_k; intro K0 hK0
    apply wp_region_lit
    refine wpList_buildFlatArrTo rfl 90 5 32 _ rfl .u8 z30 (some 0) rfl (by as_aux_lemma => kernel_rfl) (by as_aux_lemma => kernel_rfl) (by as_aux_lemma => kernel_rfl) (by as_aux_lemma => kernel_rfl) ?_
    refine wpList_store_rowTo rfl 90 _ _ rfl rfl 30 (z30.map (Value.int .u8)).toArray rfl (Act.eval_put_same _ 0 _ (by simp only [Act.size_put, hs0]; omega)) 90 (rowOf (varsStart Tryz.prog os tape) 30) (by as_aux_lemma => kernel_rfl) (by as_aux_lemma => kernel_rfl) (by as_aux_lemma => kernel_rfl) (by as_aux_lemma => kernel_rfl) ?_
    apply wpList_nil
    refine hK0 _ _ ?_
    refine wp_anyFrame 33 (by simp only [Act.size_put, hs0]) (by simp only [Act.defers_put', hd0]) fun a1 hs1 hd1 => ?_
    clear hK0 K0
    -- bits.go:51: math/bits.deBruijn64tab
    apply wp_seq_k; intro K1 hK1
    apply wp_region_lit
    refine wpList_buildFlatArrTo rfl 346 5 64 _ rfl .u8 z31 (some 1) rfl (by as_aux_lemma => kernel_rfl) (by as_aux_lemma => kernel_rfl) (by as_aux_lemma => kernel_rfl) (by as_aux_lemma => kernel_rfl) ?_
    refine wpList_store_rowTo rfl 346 _ _ rfl rfl 31 (z31.map (Value.int .u8)).toArray rfl (Act.eval_put_same _ 1 _ (by simp only [Act.size_put, hs1]; omega)) 346 (rowOf (varsStart Tryz.prog os tape) 31) (by as_aux_lemma => kernel_rfl) (by as_aux_lemma => kernel_rfl) (by as_aux_lemma => kernel_rfl) (by as_aux_lemma => kernel_rfl) ?_
    apply wpList_nil
    refine hK1 _ _ ?_
    refine wp_anyFrame 33 (by simp only [Act.size_put, hs1]) (by simp only [Act.defers_put', hd1]) fun a2 hs2 hd2 => ?_
    clear hK1 K1
    -- uscale.go:82: internal/strconv.uint64pow10
    apply wp_seq_k; intro K2 hK2
    apply wp_region_lit
    refine wpList_buildFlatArrTo rfl 393 67 20 _ rfl .u64 z21 (some 2) rfl (by as_aux_lemma => kernel_rfl) (by as_aux_lemma => kernel_rfl) (by as_aux_lemma => kernel_rfl) (by as_aux_lemma => kernel_rfl) ?_
    refine wpList_store_rowTo rfl 393 _ _ rfl rfl 21 (z21.map (Value.int .u64)).toArray rfl (Act.eval_put_same _ 2 _ (by simp only [Act.size_put, hs2]; omega)) 393 (rowOf (varsStart Tryz.prog os tape) 21) (by as_aux_lemma => kernel_rfl) (by as_aux_lemma => kernel_rfl) (by as_aux_lemma => kernel_rfl) (by as_aux_lemma => kernel_rfl) ?_
    apply wpList_nil
    refine hK2 _ _ ?_
    refine wp_anyFrame 33 (by simp only [Act.size_put, hs2]) (by simp only [Act.defers_put', hd2]) fun a3 hs3 hd3 => ?_
    clear hK2 K2
    -- utf8.go:100: unicode/utf8.acceptRanges
    apply wp_seq_k; intro K3 hK3
    apply wp_region_lit
    refine wpList_buildTo rfl 399 _ rfl (some 3) rfl #[.int .u8 128, .int .u8 191] (by as_aux_lemma => kernel_rfl) ?_
    refine wpList_buildTo rfl 399 _ rfl (some 4) rfl #[.int .u8 160, .int .u8 191] (by as_aux_lemma => kernel_rfl) ?_
    refine wpList_buildTo rfl 399 _ rfl (some 5) rfl #[.int .u8 128, .int .u8 159] (by as_aux_lemma => kernel_rfl) ?_
    refine wpList_buildTo rfl 399 _ rfl (some 6) rfl #[.int .u8 144, .int .u8 191] (by as_aux_lemma => kernel_rfl) ?_
    refine wpList_buildTo rfl 399 _ rfl (some 7) rfl #[.int .u8 128, .int .u8 143] (by as_aux_lemma => kernel_rfl) ?_
    refine wpList_buildTo rfl 400 _ rfl (some 8) rfl accCells ?_ ?_
    · simp only [List.map_toArray, List.map_cons, List.map_nil]
      rw [Act.eval_put_ne _ _ _ _ (by decide), Act.eval_put_ne _ _ _ _ (by decide), Act.eval_put_ne _ _ _ _ (by decide), Act.eval_put_ne _ _ _ _ (by decide), Act.eval_put_same _ 3 _ (by simp only [Act.size_put, hs3]; omega), Act.eval_put_ne _ _ _ _ (by decide), Act.eval_put_ne _ _ _ _ (by decide), Act.eval_put_ne _ _ _ _ (by decide), Act.eval_put_same _ 4 _ (by simp only [Act.size_put, hs3]; omega), Act.eval_put_ne _ _ _ _ (by decide), Act.eval_put_ne _ _ _ _ (by decide), Act.eval_put_same _ 5 _ (by simp only [Act.size_put, hs3]; omega), Act.eval_put_ne _ _ _ _ (by decide), Act.eval_put_same _ 6 _ (by simp only [Act.size_put, hs3]; omega), Act.eval_put_same _ 7 _ (by simp only [Act.size_put, hs3]; omega)]
      as_aux_lemma => kernel_rfl
    refine wpList_store_rowTo rfl 400 _ _ rfl rfl 23 accCells rfl (Act.eval_put_same _ 8 _ (by simp only [Act.size_put, hs3]; omega)) 400 (rowOf (varsStart Tryz.prog os tape) 23) (by as_aux_lemma => kernel_rfl) (by as_aux_lemma => kernel_rfl) (by as_aux_lemma => kernel_rfl) (by as_aux_lemma => kernel_rfl) ?_
    apply wpList_nil
    refine hK3 _ _ ?_
    refine wp_anyFrame 33 (by simp only [Act.size_put, hs3]) (by simp only [Act.defers_put', hd3]) fun a4 hs4 hd4 => ?_
    clear hK3 K3
    -- number.go:246: strconv.ErrRange
    apply wp_seq_k; intro K4 hK4
    apply wp_region_lit
    refine wpList_callTo rfl (some 9) rfl 109 _ (by as_aux_lemma => kernel_rfl) _ _ (new_cAt ⟨#[118, 97, 108, 117, 101, 32, 111, 117, 116, 32, 111, 102, 32, 114, 97, 110, 103, 101]⟩ _ ((varsStart Tryz.prog os tape).heap.size + 0) (by as_aux_lemma => kernel_rfl)) ?_
    refine wpList_store_oneTo rfl 81 _ _ rfl rfl 20 (.iface 215 (.pointer (some ⟨(varsStart Tryz.prog os tape).heap.size + 0, 0, none⟩))) rfl (Act.eval_put_same _ 9 _ (by simp only [Act.size_put, hs4]; omega)) rfl 81 (cellOf (varsStart Tryz.prog os tape) 20) (by as_aux_lemma => kernel_rfl) (by as_aux_lemma => kernel_rfl) ?_
    apply wpList_nil
    refine hK4 _ _ ?_
    refine wp_anyFrame 33 (by simp only [Act.size_put, hs4]) (by simp only [Act.defers_put', hd4]) fun a5 hs5 hd5 => ?_
    clear hK4 K4
    -- number.go:249: strconv.ErrSyntax
    apply wp_seq_k; intro K5 hK5
    apply wp_region_lit
    refine wpList_callTo rfl (some 10) rfl 109 _ (by as_aux_lemma => kernel_rfl) _ _ (new_cAt ⟨#[105, 110, 118, 97, 108, 105, 100, 32, 115, 121, 110, 116, 97, 120]⟩ _ ((varsStart Tryz.prog os tape).heap.size + 1) (by as_aux_lemma => kernel_rfl)) ?_
    refine wpList_store_oneTo rfl 81 _ _ rfl rfl 19 (.iface 215 (.pointer (some ⟨(varsStart Tryz.prog os tape).heap.size + 1, 0, none⟩))) rfl (Act.eval_put_same _ 10 _ (by simp only [Act.size_put, hs5]; omega)) rfl 81 (cellOf (varsStart Tryz.prog os tape) 19) (by as_aux_lemma => kernel_rfl) (by as_aux_lemma => kernel_rfl) ?_
    apply wpList_nil
    refine hK5 _ _ ?_
    refine wp_anyFrame 33 (by simp only [Act.size_put, hs5]) (by simp only [Act.defers_put', hd5]) fun a6 hs6 hd6 => ?_
    clear hK5 K5
    -- io.go:48: io.ErrUnexpectedEOF
    apply wp_seq_k; intro K6 hK6
    apply wp_region_lit
    refine wpList_callTo rfl (some 11) rfl 109 _ (by as_aux_lemma => kernel_rfl) _ _ (new_cAt ⟨#[117, 110, 101, 120, 112, 101, 99, 116, 101, 100, 32, 69, 79, 70]⟩ _ ((varsStart Tryz.prog os tape).heap.size + 2) (by as_aux_lemma => kernel_rfl)) ?_
    refine wpList_store_oneTo rfl 81 _ _ rfl rfl 3 (.iface 215 (.pointer (some ⟨(varsStart Tryz.prog os tape).heap.size + 2, 0, none⟩))) rfl (Act.eval_put_same _ 11 _ (by simp only [Act.size_put, hs6]; omega)) rfl 81 (cellOf (varsStart Tryz.prog os tape) 3) (by as_aux_lemma => kernel_rfl) (by as_aux_lemma => kernel_rfl) ?_
    apply wpList_nil
    refine hK6 _ _ ?_
    refine wp_anyFrame 33 (by simp only [Act.size_put, hs6]) (by simp only [Act.defers_put', hd6]) fun a7 hs7 hd7 => ?_
    clear hK6 K6
    -- wire.go:58: pub-symmory/pub/protowire.errFieldNumber
    apply wp_seq_k; intro K7 hK7
    apply wp_region_lit
    refine wpList_callTo rfl (some 12) rfl 109 _ (by as_aux_lemma => kernel_rfl) _ _ (new_cAt ⟨#[105, 110, 118, 97, 108, 105, 100, 32, 102, 105, 101, 108, 100, 32, 110, 117, 109, 98, 101, 114]⟩ _ ((varsStart Tryz.prog os tape).heap.size + 3) (by as_aux_lemma => kernel_rfl)) ?_
    refine wpList_store_oneTo rfl 81 _ _ rfl rfl 4 (.iface 215 (.pointer (some ⟨(varsStart Tryz.prog os tape).heap.size + 3, 0, none⟩))) rfl (Act.eval_put_same _ 12 _ (by simp only [Act.size_put, hs7]; omega)) rfl 81 (cellOf (varsStart Tryz.prog os tape) 4) (by as_aux_lemma => kernel_rfl) (by as_aux_lemma => kernel_rfl) ?_
    apply wpList_nil
    refine hK7 _ _ ?_
    refine wp_anyFrame 33 (by simp only [Act.size_put, hs7]) (by simp only [Act.defers_put', hd7]) fun a8 hs8 hd8 => ?_
    clear hK7 K7
    -- wire.go:59: pub-symmory/pub/protowire.errOverflow
    apply wp_seq_k; intro K8 hK8
    apply wp_region_lit
    refine wpList_callTo rfl (some 13) rfl 109 _ (by as_aux_lemma => kernel_rfl) _ _ (new_cAt ⟨#[118, 97, 114, 105, 97, 98, 108, 101, 32, 108, 101, 110, 103, 116, 104, 32, 105, 110, 116, 101, 103, 101, 114, 32, 111, 118, 101, 114, 102, 108, 111, 119]⟩ _ ((varsStart Tryz.prog os tape).heap.size + 4) (by as_aux_lemma => kernel_rfl)) ?_
    refine wpList_store_oneTo rfl 81 _ _ rfl rfl 5 (.iface 215 (.pointer (some ⟨(varsStart Tryz.prog os tape).heap.size + 4, 0, none⟩))) rfl (Act.eval_put_same _ 13 _ (by simp only [Act.size_put, hs8]; omega)) rfl 81 (cellOf (varsStart Tryz.prog os tape) 5) (by as_aux_lemma => kernel_rfl) (by as_aux_lemma => kernel_rfl) ?_
    apply wpList_nil
    refine hK8 _ _ ?_
    refine wp_anyFrame 33 (by simp only [Act.size_put, hs8]) (by simp only [Act.defers_put', hd8]) fun a9 hs9 hd9 => ?_
    clear hK8 K8
    -- wire.go:60: pub-symmory/pub/protowire.errReserved
    apply wp_seq_k; intro K9 hK9
    apply wp_region_lit
    refine wpList_callTo rfl (some 14) rfl 109 _ (by as_aux_lemma => kernel_rfl) _ _ (new_cAt ⟨#[99, 97, 110, 110, 111, 116, 32, 112, 97, 114, 115, 101, 32, 114, 101, 115, 101, 114, 118, 101, 100, 32, 119, 105, 114, 101, 32, 116, 121, 112, 101]⟩ _ ((varsStart Tryz.prog os tape).heap.size + 5) (by as_aux_lemma => kernel_rfl)) ?_
    refine wpList_store_oneTo rfl 81 _ _ rfl rfl 6 (.iface 215 (.pointer (some ⟨(varsStart Tryz.prog os tape).heap.size + 5, 0, none⟩))) rfl (Act.eval_put_same _ 14 _ (by simp only [Act.size_put, hs9]; omega)) rfl 81 (cellOf (varsStart Tryz.prog os tape) 6) (by as_aux_lemma => kernel_rfl) (by as_aux_lemma => kernel_rfl) ?_
    apply wpList_nil
    refine hK9 _ _ ?_
    refine wp_anyFrame 33 (by simp only [Act.size_put, hs9]) (by simp only [Act.defers_put', hd9]) fun a10 hs10 hd10 => ?_
    clear hK9 K9
    -- wire.go:61: pub-symmory/pub/protowire.errEndGroup
    apply wp_seq_k; intro K10 hK10
    apply wp_region_lit
    refine wpList_callTo rfl (some 15) rfl 109 _ (by as_aux_lemma => kernel_rfl) _ _ (new_cAt ⟨#[109, 105, 115, 109, 97, 116, 99, 104, 105, 110, 103, 32, 101, 110, 100, 32, 103, 114, 111, 117, 112, 32, 109, 97, 114, 107, 101, 114]⟩ _ ((varsStart Tryz.prog os tape).heap.size + 6) (by as_aux_lemma => kernel_rfl)) ?_
    refine wpList_store_oneTo rfl 81 _ _ rfl rfl 7 (.iface 215 (.pointer (some ⟨(varsStart Tryz.prog os tape).heap.size + 6, 0, none⟩))) rfl (Act.eval_put_same _ 15 _ (by simp only [Act.size_put, hs10]; omega)) rfl 81 (cellOf (varsStart Tryz.prog os tape) 7) (by as_aux_lemma => kernel_rfl) (by as_aux_lemma => kernel_rfl) ?_
    apply wpList_nil
    refine hK10 _ _ ?_
    refine wp_anyFrame 33 (by simp only [Act.size_put, hs10]) (by simp only [Act.defers_put', hd10]) fun a11 hs11 hd11 => ?_
    clear hK10 K10
    -- wire.go:62: pub-symmory/pub/protowire.errParse
    apply wp_seq_k; intro K11 hK11
    apply wp_region_lit
    refine wpList_callTo rfl (some 16) rfl 109 _ (by as_aux_lemma => kernel_rfl) _ _ (new_cAt ⟨#[112, 97, 114, 115, 101, 32, 101, 114, 114, 111, 114]⟩ _ ((varsStart Tryz.prog os tape).heap.size + 7) (by as_aux_lemma => kernel_rfl)) ?_
    refine wpList_store_oneTo rfl 81 _ _ rfl rfl 8 (.iface 215 (.pointer (some ⟨(varsStart Tryz.prog os tape).heap.size + 7, 0, none⟩))) rfl (Act.eval_put_same _ 16 _ (by simp only [Act.size_put, hs11]; omega)) rfl 81 (cellOf (varsStart Tryz.prog os tape) 8) (by as_aux_lemma => kernel_rfl) (by as_aux_lemma => kernel_rfl) ?_
    apply wpList_nil
    refine hK11 _ _ ?_
    refine wp_anyFrame 33 (by simp only [Act.size_put, hs11]) (by simp only [Act.defers_put', hd11]) fun a12 hs12 hd12 => ?_
    clear hK11 K11
    -- peer_record.go:10: pub-symmory/pub/libp2p/core/peer/pb.errNumber
    apply wp_seq_k; intro K12 hK12
    apply wp_region_lit
    refine wpList_callTo rfl (some 17) rfl 109 _ (by as_aux_lemma => kernel_rfl) _ _ (new_cAt ⟨#[112, 114, 111, 116, 111, 58, 32, 105, 110, 118, 97, 108, 105, 100, 32, 102, 105, 101, 108, 100, 32, 110, 117, 109, 98, 101, 114]⟩ _ ((varsStart Tryz.prog os tape).heap.size + 8) (by as_aux_lemma => kernel_rfl)) ?_
    refine wpList_store_oneTo rfl 81 _ _ rfl rfl 2 (.iface 215 (.pointer (some ⟨(varsStart Tryz.prog os tape).heap.size + 8, 0, none⟩))) rfl (Act.eval_put_same _ 17 _ (by simp only [Act.size_put, hs12]; omega)) rfl 81 (cellOf (varsStart Tryz.prog os tape) 2) (by as_aux_lemma => kernel_rfl) (by as_aux_lemma => kernel_rfl) ?_
    apply wpList_nil
    refine hK12 _ _ ?_
    refine wp_anyFrame 33 (by simp only [Act.size_put, hs12]) (by simp only [Act.defers_put', hd12]) fun a13 hs13 hd13 => ?_
    clear hK12 K12
    -- varint.go:11: pub-symmory/pub/govarint.ErrOverflow
    apply wp_seq_k; intro K13 hK13
    apply wp_region_lit
    refine wpList_callTo rfl (some 18) rfl 109 _ (by as_aux_lemma => kernel_rfl) _ _ (new_cAt ⟨#[118, 97, 114, 105, 110, 116, 115, 32, 108, 97, 114, 103, 101, 114, 32, 116, 104, 97, 110, 32, 117, 105, 110, 116, 54, 51, 32, 110, 111, 116, 32, 115, 117, 112, 112, 111, 114, 116, 101, 100]⟩ _ ((varsStart Tryz.prog os tape).heap.size + 9) (by as_aux_lemma => kernel_rfl)) ?_
    refine wpList_store_oneTo rfl 81 _ _ rfl rfl 10 (.iface 215 (.pointer (some ⟨(varsStart Tryz.prog os tape).heap.size + 9, 0, none⟩))) rfl (Act.eval_put_same _ 18 _ (by simp only [Act.size_put, hs13]; omega)) rfl 81 (cellOf (varsStart Tryz.prog os tape) 10) (by as_aux_lemma => kernel_rfl) (by as_aux_lemma => kernel_rfl) ?_
    apply wpList_nil
    refine hK13 _ _ ?_
    refine wp_anyFrame 33 (by simp only [Act.size_put, hs13]) (by simp only [Act.defers_put', hd13]) fun a14 hs14 hd14 => ?_
    clear hK13 K13
    -- varint.go:12: pub-symmory/pub/govarint.ErrUnderflow
    apply wp_seq_k; intro K14 hK14
    apply wp_region_lit
    refine wpList_callTo rfl (some 19) rfl 109 _ (by as_aux_lemma => kernel_rfl) _ _ (new_cAt ⟨#[118, 97, 114, 105, 110, 116, 115, 32, 109, 97, 108, 102, 111, 114, 109, 101, 100, 44, 32, 99, 111, 117, 108, 100, 32, 110, 111, 116, 32, 114, 101, 97, 99, 104, 32, 116, 104, 101, 32, 101, 110, 100]⟩ _ ((varsStart Tryz.prog os tape).heap.size + 10) (by as_aux_lemma => kernel_rfl)) ?_
    refine wpList_store_oneTo rfl 81 _ _ rfl rfl 12 (.iface 215 (.pointer (some ⟨(varsStart Tryz.prog os tape).heap.size + 10, 0, none⟩))) rfl (Act.eval_put_same _ 19 _ (by simp only [Act.size_put, hs14]; omega)) rfl 81 (cellOf (varsStart Tryz.prog os tape) 12) (by as_aux_lemma => kernel_rfl) (by as_aux_lemma => kernel_rfl) ?_
    apply wpList_nil
    refine hK14 _ _ ?_
    refine wp_anyFrame 33 (by simp only [Act.size_put, hs14]) (by simp only [Act.defers_put', hd14]) fun a15 hs15 hd15 => ?_
    clear hK14 K14
    -- varint.go:13: pub-symmory/pub/govarint.ErrNotMinimal
    apply wp_seq_k; intro K15 hK15
    apply wp_region_lit
    refine wpList_callTo rfl (some 20) rfl 109 _ (by as_aux_lemma => kernel_rfl) _ _ (new_cAt ⟨#[118, 97, 114, 105, 110, 116, 32, 110, 111, 116, 32, 109, 105, 110, 105, 109, 97, 108, 108, 121, 32, 101, 110, 99, 111, 100, 101, 100]⟩ _ ((varsStart Tryz.prog os tape).heap.size + 11) (by as_aux_lemma => kernel_rfl)) ?_
    refine wpList_store_oneTo rfl 81 _ _ rfl rfl 11 (.iface 215 (.pointer (some ⟨(varsStart Tryz.prog os tape).heap.size + 11, 0, none⟩))) rfl (Act.eval_put_same _ 20 _ (by simp only [Act.size_put, hs15]; omega)) rfl 81 (cellOf (varsStart Tryz.prog os tape) 11) (by as_aux_lemma => kernel_rfl) (by as_aux_lemma => kernel_rfl) ?_
    apply wpList_nil
    refine hK15 _ _ ?_
    refine wp_anyFrame 33 (by simp only [Act.size_put, hs15]) (by simp only [Act.defers_put', hd15]) fun a16 hs16 hd16 => ?_
    clear hK15 K15
    -- hex.go:67: encoding/hex.ErrLength
    apply wp_seq_k; intro K16 hK16
    apply wp_region_lit
    refine wpList_callTo rfl (some 21) rfl 109 _ (by as_aux_lemma => kernel_rfl) _ _ (new_cAt ⟨#[101, 110, 99, 111, 100, 105, 110, 103, 47, 104, 101, 120, 58, 32, 111, 100, 100, 32, 108, 101, 110, 103, 116, 104, 32, 104, 101, 120, 32, 115, 116, 114, 105, 110, 103]⟩ _ ((varsStart Tryz.prog os tape).heap.size + 12) (by as_aux_lemma => kernel_rfl)) ?_
    refine wpList_store_oneTo rfl 81 _ _ rfl rfl 24 (.iface 215 (.pointer (some ⟨(varsStart Tryz.prog os tape).heap.size + 12, 0, none⟩))) rfl (Act.eval_put_same _ 21 _ (by simp only [Act.size_put, hs16]; omega)) rfl 81 (cellOf (varsStart Tryz.prog os tape) 24) (by as_aux_lemma => kernel_rfl) (by as_aux_lemma => kernel_rfl) ?_
    apply wpList_nil
    refine hK16 _ _ ?_
    refine wp_anyFrame 33 (by simp only [Act.size_put, hs16]) (by simp only [Act.defers_put', hd16]) fun a17 hs17 hd17 => ?_
    clear hK16 K16
    -- base16.go:9: pub-symmory/pub/gomultibase.hexTableUppers
    apply wp_seq_k; intro K17 hK17
    apply wp_region_lit
    refine wpList_buildFlatArrTo rfl 298 5 16 _ rfl .u8 z26 (some 22) rfl (by as_aux_lemma => kernel_rfl) (by as_aux_lemma => kernel_rfl) (by as_aux_lemma => kernel_rfl) (by as_aux_lemma => kernel_rfl) ?_
    refine wpList_store_rowTo rfl 298 _ _ rfl rfl 26 (z26.map (Value.int .u8)).toArray rfl (Act.eval_put_same _ 22 _ (by simp only [Act.size_put, hs17]; omega)) 298 (rowOf (varsStart Tryz.prog os tape) 26) (by as_aux_lemma => kernel_rfl) (by as_aux_lemma => kernel_rfl) (by as_aux_lemma => kernel_rfl) (by as_aux_lemma => kernel_rfl) ?_
    apply wpList_nil
    refine hK17 _ _ ?_
    refine wp_anyFrame 33 (by simp only [Act.size_put, hs17]) (by simp only [Act.defers_put', hd17]) fun a18 hs18 hd18 => ?_
    clear hK17 K17
    -- base256emoji.go:9: pub-symmory/pub/gomultibase.base256emojiTable
    apply wp_seq_k; intro K18 hK18
    apply wp_region_lit
    refine wpList_buildFlatArrTo rfl 376 21 256 _ rfl .i32 z18 (some 23) rfl (by as_aux_lemma => kernel_rfl) (by as_aux_lemma => kernel_rfl) (by as_aux_lemma => kernel_rfl) (by as_aux_lemma => kernel_rfl) ?_
    refine wpList_store_rowTo rfl 376 _ _ rfl rfl 18 (z18.map (Value.int .i32)).toArray rfl (Act.eval_put_same _ 23 _ (by simp only [Act.size_put, hs18]; omega)) 376 (rowOf (varsStart Tryz.prog os tape) 18) (by as_aux_lemma => kernel_rfl) (by as_aux_lemma => kernel_rfl) (by as_aux_lemma => kernel_rfl) (by as_aux_lemma => kernel_rfl) ?_
    apply wpList_nil
    refine hK18 _ _ ?_
    refine wp_anyFrame 33 (by simp only [Act.size_put, hs18]) (by simp only [Act.defers_put', hd18]) fun a19 hs19 hd19 => ?_
    clear hK18 K18
    -- multibase.go:95: pub-symmory/pub/gomultibase.ErrUnsupportedEncoding
    apply wp_seq_k; intro K19 hK19
    apply wp_region_lit
    refine wpList_callTo rfl (some 24) rfl 109 _ (by as_aux_lemma => kernel_rfl) _ _ (new_cAt ⟨#[115, 101, 108, 101, 99, 116, 101, 100, 32, 101, 110, 99, 111, 100, 105, 110, 103, 32, 110, 111, 116, 32, 115, 117, 112, 112, 111, 114, 116, 101, 100]⟩ _ ((varsStart Tryz.prog os tape).heap.size + 13) (by as_aux_lemma => kernel_rfl)) ?_
    refine wpList_store_oneTo rfl 81 _ _ rfl rfl 14 (.iface 215 (.pointer (some ⟨(varsStart Tryz.prog os tape).heap.size + 13, 0, none⟩))) rfl (Act.eval_put_same _ 24 _ (by simp only [Act.size_put, hs19]; omega)) rfl 81 (cellOf (varsStart Tryz.prog os tape) 14) (by as_aux_lemma => kernel_rfl) (by as_aux_lemma => kernel_rfl) ?_
    apply wpList_nil
    refine hK19 _ _ ?_
    refine wp_anyFrame 33 (by simp only [Act.size_put, hs19]) (by simp only [Act.defers_put', hd19]) fun a20 hs20 hd20 => ?_
    clear hK19 K19
    -- multihash.go:18: pub-symmory/pub/gomultihash.ErrTooShort
    apply wp_seq_k; intro K20 hK20
    apply wp_region_lit
    refine wpList_callTo rfl (some 25) rfl 109 _ (by as_aux_lemma => kernel_rfl) _ _ (new_cAt ⟨#[109, 117, 108, 116, 105, 104, 97, 115, 104, 32, 116, 111, 111, 32, 115, 104, 111, 114, 116, 46, 32, 109, 117, 115, 116, 32, 98, 101, 32, 62, 61, 32, 50, 32, 98, 121, 116, 101, 115]⟩ _ ((varsStart Tryz.prog os tape).heap.size + 14) (by as_aux_lemma => kernel_rfl)) ?_
    refine wpList_store_oneTo rfl 81 _ _ rfl rfl 25 (.iface 215 (.pointer (some ⟨(varsStart Tryz.prog os tape).heap.size + 14, 0, none⟩))) rfl (Act.eval_put_same _ 25 _ (by simp only [Act.size_put, hs20]; omega)) rfl 81 (cellOf (varsStart Tryz.prog os tape) 25) (by as_aux_lemma => kernel_rfl) (by as_aux_lemma => kernel_rfl) ?_
    apply wpList_nil
    refine hK20 _ _ ?_
    refine wp_anyFrame 33 (by simp only [Act.size_put, hs20]) (by simp only [Act.defers_put', hd20]) fun a21 hs21 hd21 => ?_
    clear hK20 K20
    -- multihash.go:21: pub-symmory/pub/gomultihash.ErrInvalidMultihash
    apply wp_seq_k; intro K21 hK21
    apply wp_region_lit
    refine wpList_callTo rfl (some 26) rfl 109 _ (by as_aux_lemma => kernel_rfl) _ _ (new_cAt ⟨#[105, 110, 112, 117, 116, 32, 105, 115, 110, 39, 116, 32, 118, 97, 108, 105, 100, 32, 109, 117, 108, 116, 105, 104, 97, 115, 104]⟩ _ ((varsStart Tryz.prog os tape).heap.size + 15) (by as_aux_lemma => kernel_rfl)) ?_
    refine wpList_store_oneTo rfl 81 _ _ rfl rfl 15 (.iface 215 (.pointer (some ⟨(varsStart Tryz.prog os tape).heap.size + 15, 0, none⟩))) rfl (Act.eval_put_same _ 26 _ (by simp only [Act.size_put, hs21]; omega)) rfl 81 (cellOf (varsStart Tryz.prog os tape) 15) (by as_aux_lemma => kernel_rfl) (by as_aux_lemma => kernel_rfl) ?_
    apply wpList_nil
    refine hK21 _ _ ?_
    refine wp_anyFrame 33 (by simp only [Act.size_put, hs21]) (by simp only [Act.defers_put', hd21]) fun a22 hs22 hd22 => ?_
    clear hK21 K21
    -- multihash.go:23: pub-symmory/pub/gomultihash.ErrVarintBufferShort
    apply wp_seq_k; intro K22 hK22
    apply wp_region_lit
    refine wpList_callTo rfl (some 27) rfl 109 _ (by as_aux_lemma => kernel_rfl) _ _ (new_cAt ⟨#[117, 118, 97, 114, 105, 110, 116, 58, 32, 98, 117, 102, 102, 101, 114, 32, 116, 111, 111, 32, 115, 109, 97, 108, 108]⟩ _ ((varsStart Tryz.prog os tape).heap.size + 16) (by as_aux_lemma => kernel_rfl)) ?_
    refine wpList_store_oneTo rfl 81 _ _ rfl rfl 28 (.iface 215 (.pointer (some ⟨(varsStart Tryz.prog os tape).heap.size + 16, 0, none⟩))) rfl (Act.eval_put_same _ 27 _ (by simp only [Act.size_put, hs22]; omega)) rfl 81 (cellOf (varsStart Tryz.prog os tape) 28) (by as_aux_lemma => kernel_rfl) (by as_aux_lemma => kernel_rfl) ?_
    apply wpList_nil
    refine hK22 _ _ ?_
    refine wp_anyFrame 33 (by simp only [Act.size_put, hs22]) (by simp only [Act.defers_put', hd22]) fun a23 hs23 hd23 => ?_
    clear hK22 K22
    -- multihash.go:24: pub-symmory/pub/gomultihash.ErrVarintTooLong
    apply wp_seq_k; intro K23 hK23
    apply wp_region_lit
    refine wpList_callTo rfl (some 28) rfl 109 _ (by as_aux_lemma => kernel_rfl) _ _ (new_cAt ⟨#[117, 118, 97, 114, 105, 110, 116, 58, 32, 118, 97, 114, 105, 110, 116, 32, 116, 111, 111, 32, 98, 105, 103, 32, 40, 109, 97, 120, 32, 54, 52, 98, 105, 116, 41]⟩ _ ((varsStart Tryz.prog os tape).heap.size + 17) (by as_aux_lemma => kernel_rfl)) ?_
    refine wpList_store_oneTo rfl 81 _ _ rfl rfl 29 (.iface 215 (.pointer (some ⟨(varsStart Tryz.prog os tape).heap.size + 17, 0, none⟩))) rfl (Act.eval_put_same _ 28 _ (by simp only [Act.size_put, hs23]; omega)) rfl 81 (cellOf (varsStart Tryz.prog os tape) 29) (by as_aux_lemma => kernel_rfl) (by as_aux_lemma => kernel_rfl) ?_
    apply wpList_nil
    refine hK23 _ _ ?_
    refine wp_anyFrame 33 (by simp only [Act.size_put, hs23]) (by simp only [Act.defers_put', hd23]) fun a24 hs24 hd24 => ?_
    clear hK23 K23
    -- cid.go:61: pub-symmory/pub/gocid.errCidTooShort
    apply wp_seq_k; intro K24 hK24
    apply wp_region_lit
    refine wpList_callTo rfl (some 29) rfl 109 _ (by as_aux_lemma => kernel_rfl) _ _ (new_cAt ⟨#[99, 105, 100, 32, 116, 111, 111, 32, 115, 104, 111, 114, 116]⟩ _ ((varsStart Tryz.prog os tape).heap.size + 18) (by as_aux_lemma => kernel_rfl)) ?_
    refine wpList_store_oneTo rfl 81 _ _ rfl rfl 16 (.iface 215 (.pointer (some ⟨(varsStart Tryz.prog os tape).heap.size + 18, 0, none⟩))) rfl (Act.eval_put_same _ 29 _ (by simp only [Act.size_put, hs24]; omega)) rfl 81 (cellOf (varsStart Tryz.prog os tape) 16) (by as_aux_lemma => kernel_rfl) (by as_aux_lemma => kernel_rfl) ?_
    apply wpList_nil
    refine hK24 _ _ ?_
    refine wp_anyFrame 33 (by simp only [Act.size_put, hs24]) (by simp only [Act.defers_put', hd24]) fun a25 hs25 hd25 => ?_
    clear hK24 K24
    -- encoding_table.go:27: net/url.table
    apply wp_seq_k; intro K25 hK25
    apply wp_region_lit
    refine wpList_buildTo rfl 413 _ rfl (some 30) rfl (z27.map (Value.int .u8)).toArray (by as_aux_lemma => kernel_rfl) ?_
    refine wpList_store_rowTo rfl 413 _ _ rfl rfl 27 (z27.map (Value.int .u8)).toArray rfl (Act.eval_put_same _ 30 _ (by simp only [Act.size_put, hs25]; omega)) 413 (rowOf (varsStart Tryz.prog os tape) 27) (by as_aux_lemma => kernel_rfl) (by as_aux_lemma => kernel_rfl) (by as_aux_lemma => kernel_rfl) (by as_aux_lemma => kernel_rfl) ?_
    apply wpList_nil
    refine hK25 _ _ ?_
    refine wp_anyFrame 33 (by simp only [Act.size_put, hs25]) (by simp only [Act.defers_put', hd25]) fun a26 hs26 hd26 => ?_
    clear hK25 K25
    -- multiaddr.go:10: pub-symmory/pub/multiaddr.errNilPtr
    apply wp_seq_k; intro K26 hK26
    apply wp_region_lit
    refine wpList_callTo rfl (some 31) rfl 109 _ (by as_aux_lemma => kernel_rfl) _ _ (new_cAt ⟨#[110, 105, 108, 32, 112, 116, 114]⟩ _ ((varsStart Tryz.prog os tape).heap.size + 19) (by as_aux_lemma => kernel_rfl)) ?_
    refine wpList_store_oneTo rfl 81 _ _ rfl rfl 9 (.iface 215 (.pointer (some ⟨(varsStart Tryz.prog os tape).heap.size + 19, 0, none⟩))) rfl (Act.eval_put_same _ 31 _ (by simp only [Act.size_put, hs26]; omega)) rfl 81 (cellOf (varsStart Tryz.prog os tape) 9) (by as_aux_lemma => kernel_rfl) (by as_aux_lemma => kernel_rfl) ?_
    apply wpList_nil
    refine hK26 _ _ ?_
    refine wp_anyFrame 33 (by simp only [Act.size_put, hs26]) (by simp only [Act.defers_put', hd26]) fun a27 hs27 hd27 => ?_
    clear hK26 K26
    -- addrinfo.go:16: pub-symmory/pub/libp2p/core/peer.ErrInvalidAddr
    apply wp_region_lit
    refine wpList_callTo rfl (some 32) rfl 109 _ (by as_aux_lemma => kernel_rfl) _ _ (new_cAt ⟨#[105, 110, 118, 97, 108, 105, 100, 32, 112, 50, 112, 32, 109, 117, 108, 116, 105, 97, 100, 100, 114]⟩ _ ((varsStart Tryz.prog os tape).heap.size + 20) (by as_aux_lemma => kernel_rfl)) ?_
    refine wpList_store_oneTo rfl 81 _ _ rfl rfl 0 (.iface 215 (.pointer (some ⟨(varsStart Tryz.prog os tape).heap.size + 20, 0, none⟩))) rfl (Act.eval_put_same _ 32 _ (by simp only [Act.size_put, hs27]; omega)) rfl 81 (cellOf (varsStart Tryz.prog os tape) 0) (by as_aux_lemma => kernel_rfl) (by as_aux_lemma => kernel_rfl) ?_
    apply wpList_nil
    refine bodyPost_end0 rfl (by simp only [Act.defers_put', hd27]) ?_
    refine ⟨⟨_, rfl⟩, noHandle _ (laidMet_memory (LaidIn.met (B := [30, 31, 21, 23, 20, (varsStart Tryz.prog os tape).heap.size + 0, 19, (varsStart Tryz.prog os tape).heap.size + 1, 3, (varsStart Tryz.prog os tape).heap.size + 2, 4, (varsStart Tryz.prog os tape).heap.size + 3, 5, (varsStart Tryz.prog os tape).heap.size + 4, 6, (varsStart Tryz.prog os tape).heap.size + 5, 7, (varsStart Tryz.prog os tape).heap.size + 6, 8, (varsStart Tryz.prog os tape).heap.size + 7, 2, (varsStart Tryz.prog os tape).heap.size + 8, 10, (varsStart Tryz.prog os tape).heap.size + 9, 12, (varsStart Tryz.prog os tape).heap.size + 10, 11, (varsStart Tryz.prog os tape).heap.size + 11, 24, (varsStart Tryz.prog os tape).heap.size + 12, 26, 18, 14, (varsStart Tryz.prog os tape).heap.size + 13, 25, (varsStart Tryz.prog os tape).heap.size + 14, 15, (varsStart Tryz.prog os tape).heap.size + 15, 28, (varsStart Tryz.prog os tape).heap.size + 16, 29, (varsStart Tryz.prog os tape).heap.size + 17, 16, (varsStart Tryz.prog os tape).heap.size + 18, 27, 9, (varsStart Tryz.prog os tape).heap.size + 19, 0, (varsStart Tryz.prog os tape).heap.size + 20]) ?_))⟩
    unfold laidAll
    exact LaidIn.of_run [30, 31, 21, 23, 20, (varsStart Tryz.prog os tape).heap.size + 0, 19, (varsStart Tryz.prog os tape).heap.size + 1, 3, (varsStart Tryz.prog os tape).heap.size + 2, 4, (varsStart Tryz.prog os tape).heap.size + 3, 5, (varsStart Tryz.prog os tape).heap.size + 4, 6, (varsStart Tryz.prog os tape).heap.size + 5, 7, (varsStart Tryz.prog os tape).heap.size + 6, 8, (varsStart Tryz.prog os tape).heap.size + 7, 2, (varsStart Tryz.prog os tape).heap.size + 8, 10, (varsStart Tryz.prog os tape).heap.size + 9, 12, (varsStart Tryz.prog os tape).heap.size + 10, 11, (varsStart Tryz.prog os tape).heap.size + 11, 24, (varsStart Tryz.prog os tape).heap.size + 12, 26, 18, 14, (varsStart Tryz.prog os tape).heap.size + 13, 25, (varsStart Tryz.prog os tape).heap.size + 14, 15, (varsStart Tryz.prog os tape).heap.size + 15, 28, (varsStart Tryz.prog os tape).heap.size + 16, 29, (varsStart Tryz.prog os tape).heap.size + 17, 16, (varsStart Tryz.prog os tape).heap.size + 18, 27, 9, (varsStart Tryz.prog os tape).heap.size + 19, 0, (varsStart Tryz.prog os tape).heap.size + 20] 10 (by as_aux_lemma => kernel_rfl) (by as_aux_lemma => kernel_rfl) (by as_aux_lemma => kernel_rfl) (by as_aux_lemma => kernel_rfl)

end Go.Proofs.YtapkmoakbfpkeaaGreatDoor.Great
