/- shaKeys. -/
import Derived.Test.YtapkmoakbfpkeaaGreatDoorS1
import Derived.Great.BuildSlice
namespace Go.Proofs.YtapkmoakbfpkeaaGreatDoor
open Go Go.RowKit Go.Proofs Go.Sort
/-- The 64 words of shaKeys. -/
theorem results_one {P : Program} {w : World} (fn : Func) (tmps : Array Value) (t : Nat) (T : TypeId) (hr : fn.results = #[ResultVar.cell t T]) (a : Addr) (ht : tmps.getD t undef = .pointer (some a)) : (results fn tmps).run P w = (loadVar T a).run P w := by
  have ht2 : tmps[t]?.getD undef = .pointer (some a) := by simpa using ht
  unfold results
  simp [hr, ht2, go_sem]
def keyL : List Int := [1116352408, 1899447441, 3049323471, 3921009573, 961987163, 1508970993, 2453635748, 2870763221, 3624381080, 310598401, 607225278, 1426881987, 1925078388, 2162078206, 2614888103, 3248222580, 3835390401, 4022224774, 264347078, 604807628, 770255983, 1249150122, 1555081692, 1996064986, 2554220882, 2821834349, 2952996808, 3210313671, 3336571891, 3584528711, 113926993, 338241895, 666307205, 773529912, 1294757372, 1396182291, 1695183700, 1986661051, 2177026350, 2456956037, 2730485921, 2820302411, 3259730800, 3345764771, 3516065817, 3600352804, 4094571909, 275423344, 430227734, 506948616, 659060556, 883997877, 958139571, 1322822218, 1537002063, 1747873779, 1955562222, 2024104815, 2227730452, 2361852424, 2428436474, 2756734187, 3204031479, 3329325298]
def keyI (i : Nat) : Int := keyL.getD i 0
def keyA : Array Value := (keyL.map (Value.int .u32)).toArray
theorem keyL_len : keyL.length = 64 := by kernel_rfl
theorem keyA_size : keyA.size = 64 := by kernel_rfl
theorem keyA_at (i : Nat) (hi : i < 64) : keyA[i]? = some (.int .u32 (keyI i)) := by
  unfold keyA keyI
  have h : i < keyL.length := by rw [keyL_len]; exact hi
  simp [List.getD, h]
theorem keyA_one : keyA.all (·.oneCell') = true := by kernel_rfl
theorem keyInfo : (Tryz.prog.info? 190).map (·.size) = some 64 := by kernel_rfl
set_option maxRecDepth 100000 in
set_option maxHeartbeats 1000000 in
theorem shaKeys (w : World) : Calls Tryz.prog 112 #[] w fun e w' => e = .returned (.agg keyA) ∧ w' = w.alloc (.cells keyA 190) := by
  have hld : (loadVar 190 ⟨w.heap.size, 0, none⟩).run Tryz.prog (w.alloc (.cells keyA 190)) = .ok (.agg keyA) (w.alloc (.cells keyA 190)) := run_loadVar_new w 190 keyA 64 133 (by kernel_rfl) (by rw [keyA_size]; exact keyInfo)
  go_enter Tryz.func112, Tryz.ntmps112
  go_wp2_with (first
    | (refine wpList_buildFlatArrTo rfl 190 133 64 _ rfl .u32 keyL (some 1) rfl (by kernel_rfl) (by kernel_rfl) (by kernel_rfl) (by kernel_rfl) ?_; show wpList _ _ _ _ (Act.put _ (some 1) (.agg keyA)) _)
    | (refine wpList_store_rowTo rfl 190 (.tmp 0) (.tmp 1) rfl rfl w.heap.size keyA rfl rfl 190 #[.int .u32 0, .int .u32 0, .int .u32 0, .int .u32 0, .int .u32 0, .int .u32 0, .int .u32 0, .int .u32 0, .int .u32 0, .int .u32 0, .int .u32 0, .int .u32 0, .int .u32 0, .int .u32 0, .int .u32 0, .int .u32 0, .int .u32 0, .int .u32 0, .int .u32 0, .int .u32 0, .int .u32 0, .int .u32 0, .int .u32 0, .int .u32 0, .int .u32 0, .int .u32 0, .int .u32 0, .int .u32 0, .int .u32 0, .int .u32 0, .int .u32 0, .int .u32 0, .int .u32 0, .int .u32 0, .int .u32 0, .int .u32 0, .int .u32 0, .int .u32 0, .int .u32 0, .int .u32 0, .int .u32 0, .int .u32 0, .int .u32 0, .int .u32 0, .int .u32 0, .int .u32 0, .int .u32 0, .int .u32 0, .int .u32 0, .int .u32 0, .int .u32 0, .int .u32 0, .int .u32 0, .int .u32 0, .int .u32 0, .int .u32 0, .int .u32 0, .int .u32 0, .int .u32 0, .int .u32 0, .int .u32 0, .int .u32 0, .int .u32 0, .int .u32 0] (heap_alloc_last w _) (by rw [keyA_size]; exact keyInfo) (by rw [keyA_size]; rfl) keyA_one ?_; rw [World.setRow_alloc_new]))
  exact bodyPost_ret (v := .agg keyA) (by rw [results_one _ _ 0 190 Tryz.results112 ⟨w.heap.size, 0, none⟩ rfl]; exact hld) rfl ⟨rfl, rfl⟩
end Go.Proofs.YtapkmoakbfpkeaaGreatDoor
