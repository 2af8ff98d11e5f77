/- A world in which the listed variables lie as the rows list them. -/
import Derived.Test.YtapkmoakbfpkeaaGreatDoorRows
import Derived.Test.YtapkmoakbfpkeaaGreatDoorA6
import Derived.Lib.LaidIn
import Derived.Lib.LaidU8
import Derived.Stop.LaidErr
import Derived.MakeChecks
import Derived.ProofKit
namespace Go.Proofs.YtapkmoakbfpkeaaGreatDoor
open Go
noncomputable def laidWorld (os : Os) : World :=
  let N := (World.settled Tryz.prog os).heap.size
  let w0 := World.holding Tryz.prog os ⟨#[.cells #[.string ⟨#[118, 97, 114, 105, 110, 116, 115, 32, 108, 97, 114, 103, 101, 114, 32, 116, 104, 97, 110, 32, 117, 105, 110, 116, 54, 51, 32, 110, 111, 116, 32, 115, 117, 112, 112, 111, 114, 116, 101, 100]⟩] 217, .cells #[.string ⟨#[118, 97, 114, 105, 110, 116, 32, 110, 111, 116, 32, 109, 105, 110, 105, 109, 97, 108, 108, 121, 32, 101, 110, 99, 111, 100, 101, 100]⟩] 217, .cells #[.string ⟨#[118, 97, 114, 105, 110, 116, 115, 32, 109, 97, 108, 102, 111, 114, 109, 101, 100, 44, 32, 99, 111, 117, 108, 100, 32, 110, 111, 116, 32, 114, 101, 97, 99, 104, 32, 116, 104, 101, 32, 101, 110, 100]⟩] 217, .cells #[.string ⟨#[105, 110, 118, 97, 108, 105, 100, 32, 115, 121, 110, 116, 97, 120]⟩] 217, .cells #[.string ⟨#[118, 97, 108, 117, 101, 32, 111, 117, 116, 32, 111, 102, 32, 114, 97, 110, 103, 101]⟩] 217, .cells #[.string ⟨#[115, 101, 108, 101, 99, 116, 101, 100, 32, 101, 110, 99, 111, 100, 105, 110, 103, 32, 110, 111, 116, 32, 115, 117, 112, 112, 111, 114, 116, 101, 100]⟩] 217, .cells #[.string ⟨#[101, 110, 99, 111, 100, 105, 110, 103, 47, 104, 101, 120, 58, 32, 111, 100, 100, 32, 108, 101, 110, 103, 116, 104, 32, 104, 101, 120, 32, 115, 116, 114, 105, 110, 103]⟩] 217, .cells #[.string ⟨#[109, 117, 108, 116, 105, 104, 97, 115, 104, 32, 116, 111, 111, 32, 115, 104, 111, 114, 116, 46, 32, 109, 117, 115, 116, 32, 98, 101, 32, 62, 61, 32, 50, 32, 98, 121, 116, 101, 115]⟩] 217, .cells #[.string ⟨#[117, 118, 97, 114, 105, 110, 116, 58, 32, 98, 117, 102, 102, 101, 114, 32, 116, 111, 111, 32, 115, 109, 97, 108, 108]⟩] 217, .cells #[.string ⟨#[117, 118, 97, 114, 105, 110, 116, 58, 32, 118, 97, 114, 105, 110, 116, 32, 116, 111, 111, 32, 98, 105, 103, 32, 40, 109, 97, 120, 32, 54, 52, 98, 105, 116, 41]⟩] 217, .cells #[.string ⟨#[105, 110, 112, 117, 116, 32, 105, 115, 110, 39, 116, 32, 118, 97, 108, 105, 100, 32, 109, 117, 108, 116, 105, 104, 97, 115, 104]⟩] 217, .cells #[.string ⟨#[99, 105, 100, 32, 116, 111, 111, 32, 115, 104, 111, 114, 116]⟩] 217, .cells #[.string ⟨#[110, 105, 108, 32, 112, 116, 114]⟩] 217, .cells #[.string ⟨#[105, 110, 118, 97, 108, 105, 100, 32, 112, 50, 112, 32, 109, 117, 108, 116, 105, 97, 100, 100, 114]⟩] 217, .cells #[.string ⟨#[112, 114, 111, 116, 111, 58, 32, 105, 110, 118, 97, 108, 105, 100, 32, 102, 105, 101, 108, 100, 32, 110, 117, 109, 98, 101, 114]⟩] 217, .cells #[.string ⟨#[117, 110, 101, 120, 112, 101, 99, 116, 101, 100, 32, 69, 79, 70]⟩] 217, .cells #[.string ⟨#[105, 110, 118, 97, 108, 105, 100, 32, 102, 105, 101, 108, 100, 32, 110, 117, 109, 98, 101, 114]⟩] 217, .cells #[.string ⟨#[118, 97, 114, 105, 97, 98, 108, 101, 32, 108, 101, 110, 103, 116, 104, 32, 105, 110, 116, 101, 103, 101, 114, 32, 111, 118, 101, 114, 102, 108, 111, 119]⟩] 217, .cells #[.string ⟨#[99, 97, 110, 110, 111, 116, 32, 112, 97, 114, 115, 101, 32, 114, 101, 115, 101, 114, 118, 101, 100, 32, 119, 105, 114, 101, 32, 116, 121, 112, 101]⟩] 217, .cells #[.string ⟨#[109, 105, 115, 109, 97, 116, 99, 104, 105, 110, 103, 32, 101, 110, 100, 32, 103, 114, 111, 117, 112, 32, 109, 97, 114, 107, 101, 114]⟩] 217, .cells #[.string ⟨#[112, 97, 114, 115, 101, 32, 101, 114, 114, 111, 114]⟩] 217], #[], []⟩
  let put (h : Array Obj) (g : Nat) (cs : Array Value) : Array Obj := h.modify g fun
    | .cells _ t frozen => .cells cs t frozen
    | o => o
  let h0 := put w0.heap (10) #[.iface 215 (.pointer (some ⟨N + 0, 0, none⟩))]
  let h1 := put h0 (11) #[.iface 215 (.pointer (some ⟨N + 1, 0, none⟩))]
  let h2 := put h1 (12) #[.iface 215 (.pointer (some ⟨N + 2, 0, none⟩))]
  let h3 := put h2 (21) #[.int .u64 1, .int .u64 10, .int .u64 100, .int .u64 1000, .int .u64 10000, .int .u64 100000, .int .u64 1000000, .int .u64 10000000, .int .u64 100000000, .int .u64 1000000000, .int .u64 10000000000, .int .u64 100000000000, .int .u64 1000000000000, .int .u64 10000000000000, .int .u64 100000000000000, .int .u64 1000000000000000, .int .u64 10000000000000000, .int .u64 100000000000000000, .int .u64 1000000000000000000, .int .u64 10000000000000000000]
  let h4 := put h3 (30) #[.int .u8 0, .int .u8 1, .int .u8 28, .int .u8 2, .int .u8 29, .int .u8 14, .int .u8 24, .int .u8 3, .int .u8 30, .int .u8 22, .int .u8 20, .int .u8 15, .int .u8 25, .int .u8 17, .int .u8 4, .int .u8 8, .int .u8 31, .int .u8 27, .int .u8 13, .int .u8 23, .int .u8 21, .int .u8 19, .int .u8 16, .int .u8 7, .int .u8 26, .int .u8 12, .int .u8 18, .int .u8 6, .int .u8 11, .int .u8 5, .int .u8 10, .int .u8 9]
  let h5 := put h4 (31) #[.int .u8 0, .int .u8 1, .int .u8 56, .int .u8 2, .int .u8 57, .int .u8 49, .int .u8 28, .int .u8 3, .int .u8 61, .int .u8 58, .int .u8 42, .int .u8 50, .int .u8 38, .int .u8 29, .int .u8 17, .int .u8 4, .int .u8 62, .int .u8 47, .int .u8 59, .int .u8 36, .int .u8 45, .int .u8 43, .int .u8 51, .int .u8 22, .int .u8 53, .int .u8 39, .int .u8 33, .int .u8 30, .int .u8 24, .int .u8 18, .int .u8 12, .int .u8 5, .int .u8 63, .int .u8 55, .int .u8 48, .int .u8 27, .int .u8 60, .int .u8 41, .int .u8 37, .int .u8 16, .int .u8 46, .int .u8 35, .int .u8 44, .int .u8 21, .int .u8 52, .int .u8 32, .int .u8 23, .int .u8 11, .int .u8 54, .int .u8 26, .int .u8 40, .int .u8 15, .int .u8 34, .int .u8 20, .int .u8 31, .int .u8 10, .int .u8 25, .int .u8 14, .int .u8 19, .int .u8 9, .int .u8 13, .int .u8 8, .int .u8 7, .int .u8 6]
  let h6 := put h5 (19) #[.iface 215 (.pointer (some ⟨N + 3, 0, none⟩))]
  let h7 := put h6 (20) #[.iface 215 (.pointer (some ⟨N + 4, 0, none⟩))]
  let h8 := put h7 (14) #[.iface 215 (.pointer (some ⟨N + 5, 0, none⟩))]
  let h9 := put h8 (22) (Lib.firstTab.map (Value.int .u8)).toArray
  let h10 := put h9 (23) #[.int .u8 128, .int .u8 191, .int .u8 160, .int .u8 191, .int .u8 128, .int .u8 159, .int .u8 144, .int .u8 191, .int .u8 128, .int .u8 143, .int .u8 0, .int .u8 0, .int .u8 0, .int .u8 0, .int .u8 0, .int .u8 0, .int .u8 0, .int .u8 0, .int .u8 0, .int .u8 0, .int .u8 0, .int .u8 0, .int .u8 0, .int .u8 0, .int .u8 0, .int .u8 0, .int .u8 0, .int .u8 0, .int .u8 0, .int .u8 0, .int .u8 0, .int .u8 0]
  let h11 := put h10 (24) #[.iface 215 (.pointer (some ⟨N + 6, 0, none⟩))]
  let h12 := put h11 (18) #[.int .i32 128640, .int .i32 129680, .int .i32 9732, .int .i32 128752, .int .i32 127756, .int .i32 127761, .int .i32 127762, .int .i32 127763, .int .i32 127764, .int .i32 127765, .int .i32 127766, .int .i32 127767, .int .i32 127768, .int .i32 127757, .int .i32 127759, .int .i32 127758, .int .i32 128009, .int .i32 9728, .int .i32 128187, .int .i32 128421, .int .i32 128190, .int .i32 128191, .int .i32 128514, .int .i32 10084, .int .i32 128525, .int .i32 129315, .int .i32 128522, .int .i32 128591, .int .i32 128149, .int .i32 128557, .int .i32 128536, .int .i32 128077, .int .i32 128517, .int .i32 128079, .int .i32 128513, .int .i32 128293, .int .i32 129392, .int .i32 128148, .int .i32 128150, .int .i32 128153, .int .i32 128546, .int .i32 129300, .int .i32 128518, .int .i32 128580, .int .i32 128170, .int .i32 128521, .int .i32 9786, .int .i32 128076, .int .i32 129303, .int .i32 128156, .int .i32 128532, .int .i32 128526, .int .i32 128519, .int .i32 127801, .int .i32 129318, .int .i32 127881, .int .i32 128158, .int .i32 9996, .int .i32 10024, .int .i32 129335, .int .i32 128561, .int .i32 128524, .int .i32 127800, .int .i32 128588, .int .i32 128523, .int .i32 128151, .int .i32 128154, .int .i32 128527, .int .i32 128155, .int .i32 128578, .int .i32 128147, .int .i32 129321, .int .i32 128516, .int .i32 128512, .int .i32 128420, .int .i32 128515, .int .i32 128175, .int .i32 128584, .int .i32 128071, .int .i32 127926, .int .i32 128530, .int .i32 129325, .int .i32 10083, .int .i32 128540, .int .i32 128139, .int .i32 128064, .int .i32 128554, .int .i32 128529, .int .i32 128165, .int .i32 128587, .int .i32 128542, .int .i32 128553, .int .i32 128545, .int .i32 129322, .int .i32 128074, .int .i32 129395, .int .i32 128549, .int .i32 129316, .int .i32 128073, .int .i32 128131, .int .i32 128563, .int .i32 9995, .int .i32 128538, .int .i32 128541, .int .i32 128564, .int .i32 127775, .int .i32 128556, .int .i32 128579, .int .i32 127808, .int .i32 127799, .int .i32 128571, .int .i32 128531, .int .i32 11088, .int .i32 9989, .int .i32 129402, .int .i32 127752, .int .i32 128520, .int .i32 129304, .int .i32 128166, .int .i32 10004, .int .i32 128547, .int .i32 127939, .int .i32 128144, .int .i32 9785, .int .i32 127882, .int .i32 128152, .int .i32 128544, .int .i32 9757, .int .i32 128533, .int .i32 127802, .int .i32 127874, .int .i32 127803, .int .i32 128528, .int .i32 128405, .int .i32 128157, .int .i32 128586, .int .i32 128569, .int .i32 128483, .int .i32 128171, .int .i32 128128, .int .i32 128081, .int .i32 127925, .int .i32 129310, .int .i32 128539, .int .i32 128308, .int .i32 128548, .int .i32 127804, .int .i32 128555, .int .i32 9917, .int .i32 129305, .int .i32 9749, .int .i32 127942, .int .i32 129323, .int .i32 128072, .int .i32 128558, .int .i32 128582, .int .i32 127867, .int .i32 127811, .int .i32 128054, .int .i32 128129, .int .i32 128562, .int .i32 127807, .int .i32 129505, .int .i32 127873, .int .i32 9889, .int .i32 127774, .int .i32 127880, .int .i32 10060, .int .i32 9994, .int .i32 128075, .int .i32 128560, .int .i32 129320, .int .i32 128566, .int .i32 129309, .int .i32 128694, .int .i32 128176, .int .i32 127827, .int .i32 128162, .int .i32 129311, .int .i32 128577, .int .i32 128680, .int .i32 128168, .int .i32 129324, .int .i32 9992, .int .i32 127872, .int .i32 127866, .int .i32 129299, .int .i32 128537, .int .i32 128159, .int .i32 127793, .int .i32 128534, .int .i32 128118, .int .i32 129396, .int .i32 9654, .int .i32 10145, .int .i32 10067, .int .i32 128142, .int .i32 128184, .int .i32 11015, .int .i32 128552, .int .i32 127770, .int .i32 129419, .int .i32 128567, .int .i32 128378, .int .i32 9888, .int .i32 128581, .int .i32 128543, .int .i32 128565, .int .i32 128078, .int .i32 129330, .int .i32 129312, .int .i32 129319, .int .i32 128204, .int .i32 128309, .int .i32 128133, .int .i32 129488, .int .i32 128062, .int .i32 127826, .int .i32 128535, .int .i32 129297, .int .i32 127754, .int .i32 129327, .int .i32 128055, .int .i32 9742, .int .i32 128167, .int .i32 128559, .int .i32 128134, .int .i32 128070, .int .i32 127908, .int .i32 128583, .int .i32 127825, .int .i32 10052, .int .i32 127796, .int .i32 128163, .int .i32 128056, .int .i32 128140, .int .i32 128205, .int .i32 129344, .int .i32 129314, .int .i32 128069, .int .i32 128161, .int .i32 128169, .int .i32 128080, .int .i32 128248, .int .i32 128123, .int .i32 129296, .int .i32 129326, .int .i32 127932, .int .i32 129397, .int .i32 128681, .int .i32 127822, .int .i32 127818, .int .i32 128124, .int .i32 128141, .int .i32 128227, .int .i32 129346]
  let h13 := put h12 (25) #[.iface 215 (.pointer (some ⟨N + 7, 0, none⟩))]
  let h14 := put h13 (28) #[.iface 215 (.pointer (some ⟨N + 8, 0, none⟩))]
  let h15 := put h14 (29) #[.iface 215 (.pointer (some ⟨N + 9, 0, none⟩))]
  let h16 := put h15 (26) #[.int .u8 48, .int .u8 49, .int .u8 50, .int .u8 51, .int .u8 52, .int .u8 53, .int .u8 54, .int .u8 55, .int .u8 56, .int .u8 57, .int .u8 65, .int .u8 66, .int .u8 67, .int .u8 68, .int .u8 69, .int .u8 70]
  let h17 := put h16 (27) #[.int .u8 0, .int .u8 0, .int .u8 0, .int .u8 0, .int .u8 0, .int .u8 0, .int .u8 0, .int .u8 0, .int .u8 0, .int .u8 0, .int .u8 0, .int .u8 0, .int .u8 0, .int .u8 0, .int .u8 0, .int .u8 0, .int .u8 0, .int .u8 0, .int .u8 0, .int .u8 0, .int .u8 0, .int .u8 0, .int .u8 0, .int .u8 0, .int .u8 0, .int .u8 0, .int .u8 0, .int .u8 0, .int .u8 0, .int .u8 0, .int .u8 0, .int .u8 0, .int .u8 0, .int .u8 76, .int .u8 12, .int .u8 0, .int .u8 95, .int .u8 0, .int .u8 95, .int .u8 12, .int .u8 76, .int .u8 76, .int .u8 76, .int .u8 95, .int .u8 93, .int .u8 127, .int .u8 127, .int .u8 65, .int .u8 255, .int .u8 255, .int .u8 255, .int .u8 255, .int .u8 255, .int .u8 255, .int .u8 255, .int .u8 255, .int .u8 255, .int .u8 255, .int .u8 79, .int .u8 93, .int .u8 12, .int .u8 95, .int .u8 12, .int .u8 64, .int .u8 67, .int .u8 255, .int .u8 255, .int .u8 255, .int .u8 255, .int .u8 255, .int .u8 255, .int .u8 127, .int .u8 127, .int .u8 127, .int .u8 127, .int .u8 127, .int .u8 127, .int .u8 127, .int .u8 127, .int .u8 127, .int .u8 127, .int .u8 127, .int .u8 127, .int .u8 127, .int .u8 127, .int .u8 127, .int .u8 127, .int .u8 127, .int .u8 127, .int .u8 127, .int .u8 127, .int .u8 12, .int .u8 0, .int .u8 12, .int .u8 0, .int .u8 127, .int .u8 0, .int .u8 255, .int .u8 255, .int .u8 255, .int .u8 255, .int .u8 255, .int .u8 255, .int .u8 127, .int .u8 127, .int .u8 127, .int .u8 127, .int .u8 127, .int .u8 127, .int .u8 127, .int .u8 127, .int .u8 127, .int .u8 127, .int .u8 127, .int .u8 127, .int .u8 127, .int .u8 127, .int .u8 127, .int .u8 127, .int .u8 127, .int .u8 127, .int .u8 127, .int .u8 127, .int .u8 0, .int .u8 0, .int .u8 0, .int .u8 127, .int .u8 0, .int .u8 0, .int .u8 0, .int .u8 0, .int .u8 0, .int .u8 0, .int .u8 0, .int .u8 0, .int .u8 0, .int .u8 0, .int .u8 0, .int .u8 0, .int .u8 0, .int .u8 0, .int .u8 0, .int .u8 0, .int .u8 0, .int .u8 0, .int .u8 0, .int .u8 0, .int .u8 0, .int .u8 0, .int .u8 0, .int .u8 0, .int .u8 0, .int .u8 0, .int .u8 0, .int .u8 0, .int .u8 0, .int .u8 0, .int .u8 0, .int .u8 0, .int .u8 0, .int .u8 0, .int .u8 0, .int .u8 0, .int .u8 0, .int .u8 0, .int .u8 0, .int .u8 0, .int .u8 0, .int .u8 0, .int .u8 0, .int .u8 0, .int .u8 0, .int .u8 0, .int .u8 0, .int .u8 0, .int .u8 0, .int .u8 0, .int .u8 0, .int .u8 0, .int .u8 0, .int .u8 0, .int .u8 0, .int .u8 0, .int .u8 0, .int .u8 0, .int .u8 0, .int .u8 0, .int .u8 0, .int .u8 0, .int .u8 0, .int .u8 0, .int .u8 0, .int .u8 0, .int .u8 0, .int .u8 0, .int .u8 0, .int .u8 0, .int .u8 0, .int .u8 0, .int .u8 0, .int .u8 0, .int .u8 0, .int .u8 0, .int .u8 0, .int .u8 0, .int .u8 0, .int .u8 0, .int .u8 0, .int .u8 0, .int .u8 0, .int .u8 0, .int .u8 0, .int .u8 0, .int .u8 0, .int .u8 0, .int .u8 0, .int .u8 0, .int .u8 0, .int .u8 0, .int .u8 0, .int .u8 0, .int .u8 0, .int .u8 0, .int .u8 0, .int .u8 0, .int .u8 0, .int .u8 0, .int .u8 0, .int .u8 0, .int .u8 0, .int .u8 0, .int .u8 0, .int .u8 0, .int .u8 0, .int .u8 0, .int .u8 0, .int .u8 0, .int .u8 0, .int .u8 0, .int .u8 0, .int .u8 0, .int .u8 0, .int .u8 0, .int .u8 0, .int .u8 0, .int .u8 0, .int .u8 0, .int .u8 0, .int .u8 0, .int .u8 0, .int .u8 0, .int .u8 0, .int .u8 0, .int .u8 0, .int .u8 0, .int .u8 0]
  let h18 := put h17 (15) #[.iface 215 (.pointer (some ⟨N + 10, 0, none⟩))]
  let h19 := put h18 (16) #[.iface 215 (.pointer (some ⟨N + 11, 0, none⟩))]
  let h20 := put h19 (9) #[.iface 215 (.pointer (some ⟨N + 12, 0, none⟩))]
  let h21 := put h20 (0) #[.iface 215 (.pointer (some ⟨N + 13, 0, none⟩))]
  let h22 := put h21 (2) #[.iface 215 (.pointer (some ⟨N + 14, 0, none⟩))]
  let h23 := put h22 (3) #[.iface 215 (.pointer (some ⟨N + 15, 0, none⟩))]
  let h24 := put h23 (4) #[.iface 215 (.pointer (some ⟨N + 16, 0, none⟩))]
  let h25 := put h24 (5) #[.iface 215 (.pointer (some ⟨N + 17, 0, none⟩))]
  let h26 := put h25 (6) #[.iface 215 (.pointer (some ⟨N + 18, 0, none⟩))]
  let h27 := put h26 (7) #[.iface 215 (.pointer (some ⟨N + 19, 0, none⟩))]
  let h28 := put h27 (8) #[.iface 215 (.pointer (some ⟨N + 20, 0, none⟩))]
  { w0 with heap := h28 }
noncomputable abbrev N0 : Nat := (World.settled Tryz.prog default).heap.size
noncomputable abbrev lw (os : Os) (args : Array Value) : World := ((laidWorld os).forCall (fun _ _ => 0) ⟨#[], args, []⟩).memory
set_option maxRecDepth 1000000 in
theorem piece0 (os : Os) (args : Array Value) : LaidIn Tryz.prog (lw os args) [("pub-symmory/pub/govarint.ErrOverflow", Rows.laid_pub_symmory_pub_govarint_ErrOverflow)] [10, N0 + 0] :=
  LaidIn.of_run [10, N0 + 0] 10 (by kernel_rfl) (by kernel_rfl) (by kernel_rfl) (by kernel_rfl)
set_option maxRecDepth 1000000 in
theorem piece1 (os : Os) (args : Array Value) : LaidIn Tryz.prog (lw os args) [("pub-symmory/pub/govarint.ErrNotMinimal", Rows.laid_pub_symmory_pub_govarint_ErrNotMinimal)] [11, N0 + 1] :=
  LaidIn.of_run [11, N0 + 1] 10 (by kernel_rfl) (by kernel_rfl) (by kernel_rfl) (by kernel_rfl)
set_option maxRecDepth 1000000 in
theorem piece2 (os : Os) (args : Array Value) : LaidIn Tryz.prog (lw os args) [("pub-symmory/pub/govarint.ErrUnderflow", Rows.laid_pub_symmory_pub_govarint_ErrUnderflow)] [12, N0 + 2] :=
  LaidIn.of_run [12, N0 + 2] 10 (by kernel_rfl) (by kernel_rfl) (by kernel_rfl) (by kernel_rfl)
set_option maxRecDepth 1000000 in
theorem piece3 (os : Os) (args : Array Value) : LaidIn Tryz.prog (lw os args) [("internal/strconv.uint64pow10", Rows.laid_internal_strconv_uint64pow10)] [21] :=
  LaidIn.of_run [21] 10 (by kernel_rfl) (by kernel_rfl) (by kernel_rfl) (by kernel_rfl)
set_option maxRecDepth 1000000 in
theorem piece4 (os : Os) (args : Array Value) : LaidIn Tryz.prog (lw os args) [("math/bits.deBruijn32tab", Rows.laid_math_bits_deBruijn32tab)] [30] :=
  LaidIn.of_run [30] 10 (by kernel_rfl) (by kernel_rfl) (by kernel_rfl) (by kernel_rfl)
set_option maxRecDepth 1000000 in
theorem piece5 (os : Os) (args : Array Value) : LaidIn Tryz.prog (lw os args) [("math/bits.deBruijn64tab", Rows.laid_math_bits_deBruijn64tab)] [31] :=
  LaidIn.of_run [31] 10 (by kernel_rfl) (by kernel_rfl) (by kernel_rfl) (by kernel_rfl)
set_option maxRecDepth 1000000 in
theorem piece6 (os : Os) (args : Array Value) : LaidIn Tryz.prog (lw os args) [("strconv.ErrSyntax", Rows.laid_strconv_ErrSyntax)] [19, N0 + 3] :=
  LaidIn.of_run [19, N0 + 3] 10 (by kernel_rfl) (by kernel_rfl) (by kernel_rfl) (by kernel_rfl)
set_option maxRecDepth 1000000 in
theorem piece7 (os : Os) (args : Array Value) : LaidIn Tryz.prog (lw os args) [("strconv.ErrRange", Rows.laid_strconv_ErrRange)] [20, N0 + 4] :=
  LaidIn.of_run [20, N0 + 4] 10 (by kernel_rfl) (by kernel_rfl) (by kernel_rfl) (by kernel_rfl)
set_option maxRecDepth 1000000 in
theorem piece8 (os : Os) (args : Array Value) : LaidIn Tryz.prog (lw os args) [("pub-symmory/pub/gomultibase.ErrUnsupportedEncoding", Rows.laid_pub_symmory_pub_gomultibase_ErrUnsupportedEncoding)] [14, N0 + 5] :=
  LaidIn.of_run [14, N0 + 5] 10 (by kernel_rfl) (by kernel_rfl) (by kernel_rfl) (by kernel_rfl)
set_option maxRecDepth 1000000 in
theorem piece9 (os : Os) (args : Array Value) : LaidIn Tryz.prog (lw os args) [("unicode/utf8.first", Rows.laid_unicode_utf8_first)] [22] :=
  LaidIn.of_run [22] 10 (by kernel_rfl) (by kernel_rfl) (by kernel_rfl) (by kernel_rfl)
set_option maxRecDepth 1000000 in
theorem piece10 (os : Os) (args : Array Value) : LaidIn Tryz.prog (lw os args) [("unicode/utf8.acceptRanges", Rows.laid_unicode_utf8_acceptRanges)] [23] :=
  LaidIn.of_run [23] 10 (by kernel_rfl) (by kernel_rfl) (by kernel_rfl) (by kernel_rfl)
set_option maxRecDepth 1000000 in
theorem piece11 (os : Os) (args : Array Value) : LaidIn Tryz.prog (lw os args) [("encoding/hex.ErrLength", Rows.laid_encoding_hex_ErrLength)] [24, N0 + 6] :=
  LaidIn.of_run [24, N0 + 6] 10 (by kernel_rfl) (by kernel_rfl) (by kernel_rfl) (by kernel_rfl)
set_option maxRecDepth 1000000 in
theorem piece12 (os : Os) (args : Array Value) : LaidIn Tryz.prog (lw os args) [("pub-symmory/pub/gomultibase.base256emojiTable", Rows.laid_pub_symmory_pub_gomultibase_base256emojiTable)] [18] :=
  LaidIn.of_run [18] 10 (by kernel_rfl) (by kernel_rfl) (by kernel_rfl) (by kernel_rfl)
set_option maxRecDepth 1000000 in
theorem piece13 (os : Os) (args : Array Value) : LaidIn Tryz.prog (lw os args) [("pub-symmory/pub/gomultihash.ErrTooShort", Rows.laid_pub_symmory_pub_gomultihash_ErrTooShort)] [25, N0 + 7] :=
  LaidIn.of_run [25, N0 + 7] 10 (by kernel_rfl) (by kernel_rfl) (by kernel_rfl) (by kernel_rfl)
set_option maxRecDepth 1000000 in
theorem piece14 (os : Os) (args : Array Value) : LaidIn Tryz.prog (lw os args) [("pub-symmory/pub/gomultihash.ErrVarintBufferShort", Rows.laid_pub_symmory_pub_gomultihash_ErrVarintBufferShort)] [28, N0 + 8] :=
  LaidIn.of_run [28, N0 + 8] 10 (by kernel_rfl) (by kernel_rfl) (by kernel_rfl) (by kernel_rfl)
set_option maxRecDepth 1000000 in
theorem piece15 (os : Os) (args : Array Value) : LaidIn Tryz.prog (lw os args) [("pub-symmory/pub/gomultihash.ErrVarintTooLong", Rows.laid_pub_symmory_pub_gomultihash_ErrVarintTooLong)] [29, N0 + 9] :=
  LaidIn.of_run [29, N0 + 9] 10 (by kernel_rfl) (by kernel_rfl) (by kernel_rfl) (by kernel_rfl)
set_option maxRecDepth 1000000 in
theorem piece16 (os : Os) (args : Array Value) : LaidIn Tryz.prog (lw os args) [("pub-symmory/pub/gomultibase.hexTableUppers", Rows.laid_pub_symmory_pub_gomultibase_hexTableUppers)] [26] :=
  LaidIn.of_run [26] 10 (by kernel_rfl) (by kernel_rfl) (by kernel_rfl) (by kernel_rfl)
set_option maxRecDepth 1000000 in
theorem piece17 (os : Os) (args : Array Value) : LaidIn Tryz.prog (lw os args) [("net/url.table", Rows.laid_net_url_table)] [27] :=
  LaidIn.of_run [27] 10 (by kernel_rfl) (by kernel_rfl) (by kernel_rfl) (by kernel_rfl)
set_option maxRecDepth 1000000 in
theorem piece18 (os : Os) (args : Array Value) : LaidIn Tryz.prog (lw os args) [("pub-symmory/pub/gomultihash.ErrInvalidMultihash", Rows.laid_pub_symmory_pub_gomultihash_ErrInvalidMultihash)] [15, N0 + 10] :=
  LaidIn.of_run [15, N0 + 10] 10 (by kernel_rfl) (by kernel_rfl) (by kernel_rfl) (by kernel_rfl)
set_option maxRecDepth 1000000 in
theorem piece19 (os : Os) (args : Array Value) : LaidIn Tryz.prog (lw os args) [("pub-symmory/pub/gocid.errCidTooShort", Rows.laid_pub_symmory_pub_gocid_errCidTooShort)] [16, N0 + 11] :=
  LaidIn.of_run [16, N0 + 11] 10 (by kernel_rfl) (by kernel_rfl) (by kernel_rfl) (by kernel_rfl)
set_option maxRecDepth 1000000 in
theorem piece20 (os : Os) (args : Array Value) : LaidIn Tryz.prog (lw os args) [("pub-symmory/pub/multiaddr.errNilPtr", Rows.laid_pub_symmory_pub_multiaddr_errNilPtr)] [9, N0 + 12] :=
  LaidIn.of_run [9, N0 + 12] 10 (by kernel_rfl) (by kernel_rfl) (by kernel_rfl) (by kernel_rfl)
set_option maxRecDepth 1000000 in
theorem piece21 (os : Os) (args : Array Value) : LaidIn Tryz.prog (lw os args) [("pub-symmory/pub/libp2p/core/peer.ErrInvalidAddr", Rows.laid_pub_symmory_pub_libp2p_core_peer_ErrInvalidAddr)] [0, N0 + 13] :=
  LaidIn.of_run [0, N0 + 13] 10 (by kernel_rfl) (by kernel_rfl) (by kernel_rfl) (by kernel_rfl)
set_option maxRecDepth 1000000 in
theorem piece22 (os : Os) (args : Array Value) : LaidIn Tryz.prog (lw os args) [("pub-symmory/pub/libp2p/core/peer/pb.errNumber", Rows.laid_pub_symmory_pub_libp2p_core_peer_pb_errNumber)] [2, N0 + 14] :=
  LaidIn.of_run [2, N0 + 14] 10 (by kernel_rfl) (by kernel_rfl) (by kernel_rfl) (by kernel_rfl)
set_option maxRecDepth 1000000 in
theorem piece23 (os : Os) (args : Array Value) : LaidIn Tryz.prog (lw os args) [("io.ErrUnexpectedEOF", Rows.laid_io_ErrUnexpectedEOF)] [3, N0 + 15] :=
  LaidIn.of_run [3, N0 + 15] 10 (by kernel_rfl) (by kernel_rfl) (by kernel_rfl) (by kernel_rfl)
set_option maxRecDepth 1000000 in
theorem piece24 (os : Os) (args : Array Value) : LaidIn Tryz.prog (lw os args) [("pub-symmory/pub/protowire.errFieldNumber", Rows.laid_pub_symmory_pub_protowire_errFieldNumber)] [4, N0 + 16] :=
  LaidIn.of_run [4, N0 + 16] 10 (by kernel_rfl) (by kernel_rfl) (by kernel_rfl) (by kernel_rfl)
set_option maxRecDepth 1000000 in
theorem piece25 (os : Os) (args : Array Value) : LaidIn Tryz.prog (lw os args) [("pub-symmory/pub/protowire.errOverflow", Rows.laid_pub_symmory_pub_protowire_errOverflow)] [5, N0 + 17] :=
  LaidIn.of_run [5, N0 + 17] 10 (by kernel_rfl) (by kernel_rfl) (by kernel_rfl) (by kernel_rfl)
set_option maxRecDepth 1000000 in
theorem piece26 (os : Os) (args : Array Value) : LaidIn Tryz.prog (lw os args) [("pub-symmory/pub/protowire.errReserved", Rows.laid_pub_symmory_pub_protowire_errReserved)] [6, N0 + 18] :=
  LaidIn.of_run [6, N0 + 18] 10 (by kernel_rfl) (by kernel_rfl) (by kernel_rfl) (by kernel_rfl)
set_option maxRecDepth 1000000 in
theorem piece27 (os : Os) (args : Array Value) : LaidIn Tryz.prog (lw os args) [("pub-symmory/pub/protowire.errEndGroup", Rows.laid_pub_symmory_pub_protowire_errEndGroup)] [7, N0 + 19] :=
  LaidIn.of_run [7, N0 + 19] 10 (by kernel_rfl) (by kernel_rfl) (by kernel_rfl) (by kernel_rfl)
set_option maxRecDepth 1000000 in
theorem piece28 (os : Os) (args : Array Value) : LaidIn Tryz.prog (lw os args) [("pub-symmory/pub/protowire.errParse", Rows.laid_pub_symmory_pub_protowire_errParse)] [8, N0 + 20] :=
  LaidIn.of_run [8, N0 + 20] 10 (by kernel_rfl) (by kernel_rfl) (by kernel_rfl) (by kernel_rfl)
theorem metAddrCircuit (os : Os) (args : Array Value) : laidMetH Tryz.prog Rows.fnAddrCircuitRow.laid (lw os args) := by
  rw [MakeChecks.laidMetH_plain _ _ _ (by kernel_rfl)]
  exact (((piece0 os args).append ((piece1 os args).append ((piece2 os args).append ((piece3 os args).append ((piece4 os args).append ((piece5 os args).append ((piece6 os args).append ((piece7 os args).append ((piece8 os args).append ((piece9 os args).append ((piece10 os args).append ((piece11 os args).append ((piece12 os args).append ((piece13 os args).append ((piece14 os args).append ((piece15 os args).append ((piece16 os args).append ((piece17 os args).append ((piece18 os args).append ((piece19 os args).append ((piece20 os args).append (piece21 os args) (by kernel_rfl)) (by kernel_rfl)) (by kernel_rfl)) (by kernel_rfl)) (by kernel_rfl)) (by kernel_rfl)) (by kernel_rfl)) (by kernel_rfl)) (by kernel_rfl)) (by kernel_rfl)) (by kernel_rfl)) (by kernel_rfl)) (by kernel_rfl)) (by kernel_rfl)) (by kernel_rfl)) (by kernel_rfl)) (by kernel_rfl)) (by kernel_rfl)) (by kernel_rfl)) (by kernel_rfl)) (by kernel_rfl))).met
theorem tabAddrCircuit {W : World} (h : laidMetH Tryz.prog Rows.fnAddrCircuitRow.laid W) : Tab W := by
  rw [MakeChecks.laidMetH_plain _ _ _ (by kernel_rfl)] at h
  have h1 : laidMet Tryz.prog (("internal/strconv.uint64pow10", Lib.tabData .u64 Lib.pow10Tab) :: Rows.fnAddrCircuitRow.laid.drop 4) W := h.tail.tail.tail
  exact Lib.tabIs_of_head (t := 393) (e := 67) (n := 20) gPow (by kernel_rfl) (by kernel_rfl) (by kernel_rfl) (by kernel_rfl) (by kernel_rfl) h1
theorem metAddrTwice (os : Os) (args : Array Value) : laidMetH Tryz.prog Rows.fnAddrTwiceRow.laid (lw os args) := by
  rw [MakeChecks.laidMetH_plain _ _ _ (by kernel_rfl)]
  exact (((piece0 os args).append ((piece1 os args).append ((piece2 os args).append ((piece3 os args).append ((piece4 os args).append ((piece5 os args).append ((piece6 os args).append ((piece7 os args).append ((piece8 os args).append ((piece9 os args).append ((piece10 os args).append ((piece11 os args).append ((piece12 os args).append ((piece13 os args).append ((piece14 os args).append ((piece15 os args).append ((piece16 os args).append ((piece17 os args).append ((piece18 os args).append ((piece19 os args).append ((piece20 os args).append (piece21 os args) (by kernel_rfl)) (by kernel_rfl)) (by kernel_rfl)) (by kernel_rfl)) (by kernel_rfl)) (by kernel_rfl)) (by kernel_rfl)) (by kernel_rfl)) (by kernel_rfl)) (by kernel_rfl)) (by kernel_rfl)) (by kernel_rfl)) (by kernel_rfl)) (by kernel_rfl)) (by kernel_rfl)) (by kernel_rfl)) (by kernel_rfl)) (by kernel_rfl)) (by kernel_rfl)) (by kernel_rfl)) (by kernel_rfl))).met
theorem tabAddrTwice {W : World} (h : laidMetH Tryz.prog Rows.fnAddrTwiceRow.laid W) : Tab W := by
  rw [MakeChecks.laidMetH_plain _ _ _ (by kernel_rfl)] at h
  have h1 : laidMet Tryz.prog (("internal/strconv.uint64pow10", Lib.tabData .u64 Lib.pow10Tab) :: Rows.fnAddrTwiceRow.laid.drop 4) W := h.tail.tail.tail
  exact Lib.tabIs_of_head (t := 393) (e := 67) (n := 20) gPow (by kernel_rfl) (by kernel_rfl) (by kernel_rfl) (by kernel_rfl) (by kernel_rfl) h1
theorem metAddrDoors (os : Os) (args : Array Value) : laidMetH Tryz.prog Rows.fnAddrDoorsRow.laid (lw os args) := by
  rw [MakeChecks.laidMetH_plain _ _ _ (by kernel_rfl)]
  exact (((piece0 os args).append ((piece1 os args).append ((piece2 os args).append ((piece3 os args).append ((piece4 os args).append ((piece5 os args).append ((piece6 os args).append ((piece7 os args).append ((piece8 os args).append ((piece9 os args).append ((piece10 os args).append ((piece11 os args).append ((piece12 os args).append ((piece13 os args).append ((piece14 os args).append ((piece15 os args).append ((piece16 os args).append ((piece17 os args).append ((piece18 os args).append ((piece19 os args).append ((piece20 os args).append (piece21 os args) (by kernel_rfl)) (by kernel_rfl)) (by kernel_rfl)) (by kernel_rfl)) (by kernel_rfl)) (by kernel_rfl)) (by kernel_rfl)) (by kernel_rfl)) (by kernel_rfl)) (by kernel_rfl)) (by kernel_rfl)) (by kernel_rfl)) (by kernel_rfl)) (by kernel_rfl)) (by kernel_rfl)) (by kernel_rfl)) (by kernel_rfl)) (by kernel_rfl)) (by kernel_rfl)) (by kernel_rfl)) (by kernel_rfl))).met
theorem tabAddrDoors {W : World} (h : laidMetH Tryz.prog Rows.fnAddrDoorsRow.laid W) : Tab W := by
  rw [MakeChecks.laidMetH_plain _ _ _ (by kernel_rfl)] at h
  have h1 : laidMet Tryz.prog (("internal/strconv.uint64pow10", Lib.tabData .u64 Lib.pow10Tab) :: Rows.fnAddrDoorsRow.laid.drop 4) W := h.tail.tail.tail
  exact Lib.tabIs_of_head (t := 393) (e := 67) (n := 20) gPow (by kernel_rfl) (by kernel_rfl) (by kernel_rfl) (by kernel_rfl) (by kernel_rfl) h1
theorem metAddrInfos (os : Os) (args : Array Value) : laidMetH Tryz.prog Rows.fnAddrInfosRow.laid (lw os args) := by
  rw [MakeChecks.laidMetH_plain _ _ _ (by kernel_rfl)]
  exact (((piece0 os args).append ((piece1 os args).append ((piece2 os args).append ((piece3 os args).append ((piece4 os args).append ((piece5 os args).append ((piece6 os args).append ((piece7 os args).append ((piece8 os args).append ((piece9 os args).append ((piece10 os args).append ((piece11 os args).append ((piece12 os args).append ((piece13 os args).append ((piece14 os args).append ((piece15 os args).append ((piece16 os args).append ((piece17 os args).append ((piece18 os args).append ((piece19 os args).append ((piece20 os args).append (piece21 os args) (by kernel_rfl)) (by kernel_rfl)) (by kernel_rfl)) (by kernel_rfl)) (by kernel_rfl)) (by kernel_rfl)) (by kernel_rfl)) (by kernel_rfl)) (by kernel_rfl)) (by kernel_rfl)) (by kernel_rfl)) (by kernel_rfl)) (by kernel_rfl)) (by kernel_rfl)) (by kernel_rfl)) (by kernel_rfl)) (by kernel_rfl)) (by kernel_rfl)) (by kernel_rfl)) (by kernel_rfl)) (by kernel_rfl))).met
theorem tabAddrInfos {W : World} (h : laidMetH Tryz.prog Rows.fnAddrInfosRow.laid W) : Tab W := by
  rw [MakeChecks.laidMetH_plain _ _ _ (by kernel_rfl)] at h
  have h1 : laidMet Tryz.prog (("internal/strconv.uint64pow10", Lib.tabData .u64 Lib.pow10Tab) :: Rows.fnAddrInfosRow.laid.drop 4) W := h.tail.tail.tail
  exact Lib.tabIs_of_head (t := 393) (e := 67) (n := 20) gPow (by kernel_rfl) (by kernel_rfl) (by kernel_rfl) (by kernel_rfl) (by kernel_rfl) h1
theorem metAddrGroups (os : Os) (args : Array Value) : laidMetH Tryz.prog Rows.fnAddrGroupsRow.laid (lw os args) := by
  rw [MakeChecks.laidMetH_plain _ _ _ (by kernel_rfl)]
  exact (((piece0 os args).append ((piece1 os args).append ((piece2 os args).append ((piece3 os args).append ((piece4 os args).append ((piece5 os args).append ((piece6 os args).append ((piece7 os args).append ((piece8 os args).append ((piece9 os args).append ((piece10 os args).append ((piece11 os args).append ((piece12 os args).append ((piece13 os args).append ((piece14 os args).append ((piece15 os args).append ((piece16 os args).append ((piece17 os args).append ((piece18 os args).append ((piece19 os args).append ((piece20 os args).append (piece21 os args) (by kernel_rfl)) (by kernel_rfl)) (by kernel_rfl)) (by kernel_rfl)) (by kernel_rfl)) (by kernel_rfl)) (by kernel_rfl)) (by kernel_rfl)) (by kernel_rfl)) (by kernel_rfl)) (by kernel_rfl)) (by kernel_rfl)) (by kernel_rfl)) (by kernel_rfl)) (by kernel_rfl)) (by kernel_rfl)) (by kernel_rfl)) (by kernel_rfl)) (by kernel_rfl)) (by kernel_rfl)) (by kernel_rfl))).met
theorem tabAddrGroups {W : World} (h : laidMetH Tryz.prog Rows.fnAddrGroupsRow.laid W) : Tab W := by
  rw [MakeChecks.laidMetH_plain _ _ _ (by kernel_rfl)] at h
  have h1 : laidMet Tryz.prog (("internal/strconv.uint64pow10", Lib.tabData .u64 Lib.pow10Tab) :: Rows.fnAddrGroupsRow.laid.drop 4) W := h.tail.tail.tail
  exact Lib.tabIs_of_head (t := 393) (e := 67) (n := 20) gPow (by kernel_rfl) (by kernel_rfl) (by kernel_rfl) (by kernel_rfl) (by kernel_rfl) h1
theorem metAddrBack (os : Os) (args : Array Value) : laidMetH Tryz.prog Rows.fnAddrBackRow.laid (lw os args) := by
  rw [MakeChecks.laidMetH_plain _ _ _ (by kernel_rfl)]
  exact (((piece0 os args).append ((piece1 os args).append ((piece2 os args).append ((piece3 os args).append ((piece4 os args).append ((piece5 os args).append ((piece6 os args).append ((piece7 os args).append ((piece8 os args).append ((piece9 os args).append ((piece10 os args).append ((piece11 os args).append ((piece12 os args).append ((piece13 os args).append ((piece14 os args).append ((piece15 os args).append ((piece16 os args).append ((piece17 os args).append ((piece18 os args).append ((piece19 os args).append ((piece20 os args).append (piece21 os args) (by kernel_rfl)) (by kernel_rfl)) (by kernel_rfl)) (by kernel_rfl)) (by kernel_rfl)) (by kernel_rfl)) (by kernel_rfl)) (by kernel_rfl)) (by kernel_rfl)) (by kernel_rfl)) (by kernel_rfl)) (by kernel_rfl)) (by kernel_rfl)) (by kernel_rfl)) (by kernel_rfl)) (by kernel_rfl)) (by kernel_rfl)) (by kernel_rfl)) (by kernel_rfl)) (by kernel_rfl)) (by kernel_rfl))).met
theorem tabAddrBack {W : World} (h : laidMetH Tryz.prog Rows.fnAddrBackRow.laid W) : Tab W := by
  rw [MakeChecks.laidMetH_plain _ _ _ (by kernel_rfl)] at h
  have h1 : laidMet Tryz.prog (("internal/strconv.uint64pow10", Lib.tabData .u64 Lib.pow10Tab) :: Rows.fnAddrBackRow.laid.drop 4) W := h.tail.tail.tail
  exact Lib.tabIs_of_head (t := 393) (e := 67) (n := 20) gPow (by kernel_rfl) (by kernel_rfl) (by kernel_rfl) (by kernel_rfl) (by kernel_rfl) h1
theorem metAddrSeveral (os : Os) (args : Array Value) : laidMetH Tryz.prog Rows.fnAddrSeveralRow.laid (lw os args) := by
  rw [MakeChecks.laidMetH_plain _ _ _ (by kernel_rfl)]
  exact (((piece0 os args).append ((piece1 os args).append ((piece2 os args).append ((piece3 os args).append ((piece4 os args).append ((piece5 os args).append ((piece6 os args).append ((piece7 os args).append ((piece8 os args).append ((piece9 os args).append ((piece10 os args).append ((piece11 os args).append ((piece12 os args).append ((piece13 os args).append ((piece14 os args).append ((piece15 os args).append ((piece16 os args).append ((piece17 os args).append ((piece18 os args).append ((piece19 os args).append ((piece20 os args).append (piece21 os args) (by kernel_rfl)) (by kernel_rfl)) (by kernel_rfl)) (by kernel_rfl)) (by kernel_rfl)) (by kernel_rfl)) (by kernel_rfl)) (by kernel_rfl)) (by kernel_rfl)) (by kernel_rfl)) (by kernel_rfl)) (by kernel_rfl)) (by kernel_rfl)) (by kernel_rfl)) (by kernel_rfl)) (by kernel_rfl)) (by kernel_rfl)) (by kernel_rfl)) (by kernel_rfl)) (by kernel_rfl)) (by kernel_rfl))).met
theorem tabAddrSeveral {W : World} (h : laidMetH Tryz.prog Rows.fnAddrSeveralRow.laid W) : Tab W := by
  rw [MakeChecks.laidMetH_plain _ _ _ (by kernel_rfl)] at h
  have h1 : laidMet Tryz.prog (("internal/strconv.uint64pow10", Lib.tabData .u64 Lib.pow10Tab) :: Rows.fnAddrSeveralRow.laid.drop 4) W := h.tail.tail.tail
  exact Lib.tabIs_of_head (t := 393) (e := 67) (n := 20) gPow (by kernel_rfl) (by kernel_rfl) (by kernel_rfl) (by kernel_rfl) (by kernel_rfl) h1
theorem metAddrRecorded (os : Os) (args : Array Value) : laidMetH Tryz.prog Rows.fnAddrRecordedRow.laid (lw os args) := by
  rw [MakeChecks.laidMetH_plain _ _ _ (by kernel_rfl)]
  exact (((piece0 os args).append ((piece1 os args).append ((piece2 os args).append ((piece3 os args).append ((piece4 os args).append ((piece5 os args).append ((piece6 os args).append ((piece7 os args).append ((piece8 os args).append ((piece9 os args).append ((piece10 os args).append ((piece11 os args).append ((piece12 os args).append ((piece13 os args).append ((piece14 os args).append ((piece15 os args).append ((piece16 os args).append ((piece17 os args).append ((piece18 os args).append ((piece19 os args).append ((piece20 os args).append ((piece22 os args).append ((piece23 os args).append ((piece24 os args).append ((piece25 os args).append ((piece26 os args).append ((piece27 os args).append ((piece28 os args).append (piece21 os args) (by kernel_rfl)) (by kernel_rfl)) (by kernel_rfl)) (by kernel_rfl)) (by kernel_rfl)) (by kernel_rfl)) (by kernel_rfl)) (by kernel_rfl)) (by kernel_rfl)) (by kernel_rfl)) (by kernel_rfl)) (by kernel_rfl)) (by kernel_rfl)) (by kernel_rfl)) (by kernel_rfl)) (by kernel_rfl)) (by kernel_rfl)) (by kernel_rfl)) (by kernel_rfl)) (by kernel_rfl)) (by kernel_rfl)) (by kernel_rfl)) (by kernel_rfl)) (by kernel_rfl)) (by kernel_rfl)) (by kernel_rfl)) (by kernel_rfl)) (by kernel_rfl))).met
theorem tabAddrRecorded {W : World} (h : laidMetH Tryz.prog Rows.fnAddrRecordedRow.laid W) : Tab W := by
  rw [MakeChecks.laidMetH_plain _ _ _ (by kernel_rfl)] at h
  have h1 : laidMet Tryz.prog (("internal/strconv.uint64pow10", Lib.tabData .u64 Lib.pow10Tab) :: Rows.fnAddrRecordedRow.laid.drop 4) W := h.tail.tail.tail
  exact Lib.tabIs_of_head (t := 393) (e := 67) (n := 20) gPow (by kernel_rfl) (by kernel_rfl) (by kernel_rfl) (by kernel_rfl) (by kernel_rfl) h1
end Go.Proofs.YtapkmoakbfpkeaaGreatDoor
