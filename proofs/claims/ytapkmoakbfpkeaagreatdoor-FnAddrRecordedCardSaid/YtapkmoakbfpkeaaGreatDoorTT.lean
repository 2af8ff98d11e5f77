/- A tie, its list in another order. The rows' ties. -/
import Derived.Test.YtapkmoakbfpkeaaGreatDoorGreat
import Derived.LaidSub
import Derived.Deep.Slices
import Derived.Test.YtapkmoakbfpkeaaGreatDoorRows
import Derived.SevenTiedAt
namespace Go.Proofs.YtapkmoakbfpkeaaGreatDoor
open Go

theorem laidVars_perm {P : Program} {w : World} {l l' : List (String × DataW Unit)} (h : l.Perm l') : ∀ {ps : List MemPlace}, DataW.LaidVars P w l ps → ∃ ps', DataW.LaidVars P w l' ps' ∧ ps.Perm ps' := by
  induction h with
  | nil => exact fun {ps} h => ⟨ps, h, List.Perm.refl _⟩
  | cons x _ ih =>
    obtain ⟨n, d⟩ := x
    rintro ps ⟨g, t, cs, fuel, p, q, e1, e2, e3, e4, hr, rfl⟩
    obtain ⟨q', hq, hp⟩ := ih hr
    exact ⟨_, ⟨g, t, cs, fuel, p, q', e1, e2, e3, e4, hq, rfl⟩, List.Perm.append_left _ hp⟩
  | swap x y l =>
    obtain ⟨n, d⟩ := x
    obtain ⟨m, c⟩ := y
    rintro ps ⟨g, t, cs, fuel, p, q, e1, e2, e3, e4, ⟨g', t', cs', fuel', p', q', f1, f2, f3, f4, hr, rfl⟩, rfl⟩
    refine ⟨_, ⟨g', t', cs', fuel', p', _, f1, f2, f3, f4, ⟨g, t, cs, fuel, p, q', e1, e2, e3, e4, hr, rfl⟩, rfl⟩, ?_⟩
    rw [← List.append_assoc, ← List.append_assoc (MemPlace.row ⟨g', 0, none⟩ cs'.size ++ p')]
    exact List.Perm.append_right _ List.perm_append_comm
  | trans _ _ ih1 ih2 =>
    intro ps h
    obtain ⟨ps1, h1, p1⟩ := ih1 h
    obtain ⟨ps2, h2, p2⟩ := ih2 h1
    exact ⟨ps2, h2, p1.trans p2⟩
theorem laidMet_perm {P : Program} {w : World} {l l' : List (String × DataW Unit)} (hp : l.Perm l') (h : laidMet P l w) : laidMet P l' w := by
  obtain ⟨ps, hl, hnd, hrows⟩ := h
  obtain ⟨ps', hl', hs⟩ := laidVars_perm hp hl
  exact ⟨ps', hl', hs.nodup_iff.1 hnd, fun b off hb => hrows b off (hs.mem_iff.2 hb)⟩
theorem laidMetH_perm {P : Program} {w : World} {l l' : List (String × DataW Unit)} (hp : l.Perm l') (h : laidMetH P l w) : laidMetH P l' w := by
  obtain ⟨h1, h2⟩ := laidMetH_iff.1 h
  exact laidMetH_iff.2 ⟨laidMet_perm (hp.filter _) h1, fun x hx => h2 x ((hp.filter _).mem_iff.2 hx)⟩
theorem tie_perm {P : Program} {l l' : List (String × DataW Unit)} {k k' : List LaidKind} {tests : Bool} (h : P.laidByTextLater l k tests) (is : List Nat) (hi : is.Perm (List.range l.length)) (hl : l' = is.map fun i => l.getD i ("", .nil))
    (hk : l'.map (fun x => P.kindOfLater x.1) = k'.map some) : P.laidByTextLater l' k' tests := by
  have hp : l.Perm l' := by
    have e : l = (List.range l.length).map fun i => l.getD i ("", .nil) := by
      have h := Go.Deep.map_by_index l ("", .nil) id
      simpa using h
    rw [hl]
    conv => lhs; rw [e]
    exact (hi.symm).map _
  obtain ⟨⟨h1, h2, h3, _⟩, g, code, stored, hg, hc, hs, hall, hr⟩ := h
  refine ⟨⟨h1, h2, h3, hk⟩, g, code, stored, hg, hc, hs, List.all_eq_true.2 fun x hx => List.all_eq_true.1 hall x (hp.mem_iff.2 hx), fun os tape hos => ?_⟩
  obtain ⟨n, v, w', hn, hm⟩ := hr os tape hos
  exact ⟨n, v, w', hn, laidMetH_perm hp hm⟩
end Go.Proofs.YtapkmoakbfpkeaaGreatDoor
namespace Go.Proofs.YtapkmoakbfpkeaaGreatDoor
open Go
def kindsAll : List LaidKind := [.data, .data, .data, .data, .sentinel, .sentinel, .sentinel, .sentinel, .sentinel, .sentinel, .sentinel, .sentinel, .sentinel, .sentinel, .sentinel, .sentinel, .sentinel, .data, .data, .sentinel, .sentinel, .sentinel, .sentinel, .sentinel, .sentinel, .data, .sentinel, .sentinel]
def names_tie : List String := ["pub-symmory/pub/govarint.ErrOverflow", "pub-symmory/pub/govarint.ErrNotMinimal", "pub-symmory/pub/govarint.ErrUnderflow", "internal/strconv.uint64pow10", "math/bits.deBruijn32tab", "math/bits.deBruijn64tab", "strconv.ErrSyntax", "strconv.ErrRange", "pub-symmory/pub/gomultibase.ErrUnsupportedEncoding", "unicode/utf8.acceptRanges", "encoding/hex.ErrLength", "pub-symmory/pub/gomultibase.base256emojiTable", "pub-symmory/pub/gomultihash.ErrTooShort", "pub-symmory/pub/gomultihash.ErrVarintBufferShort", "pub-symmory/pub/gomultihash.ErrVarintTooLong", "pub-symmory/pub/gomultibase.hexTableUppers", "net/url.table", "pub-symmory/pub/gomultihash.ErrInvalidMultihash", "pub-symmory/pub/gocid.errCidTooShort", "pub-symmory/pub/multiaddr.errNilPtr", "pub-symmory/pub/libp2p/core/peer.ErrInvalidAddr"]
theorem sub_tie : Tryz.prog.laidByTextLater (Great.laidAll.filter fun x => names_tie.contains x.1) (((Great.laidAll.zip kindsAll).filter fun y => names_tie.contains y.1.1).map (·.2)) true := Great.tie.sub names_tie rfl rfl
set_option maxRecDepth 1000000 in
theorem tie : Tryz.prog.laidByTextLater [("pub-symmory/pub/govarint.ErrOverflow", Rows.laid_pub_symmory_pub_govarint_ErrOverflow), ("pub-symmory/pub/govarint.ErrNotMinimal", Rows.laid_pub_symmory_pub_govarint_ErrNotMinimal), ("pub-symmory/pub/govarint.ErrUnderflow", Rows.laid_pub_symmory_pub_govarint_ErrUnderflow), ("internal/strconv.uint64pow10", Rows.laid_internal_strconv_uint64pow10), ("math/bits.deBruijn32tab", Rows.laid_math_bits_deBruijn32tab), ("math/bits.deBruijn64tab", Rows.laid_math_bits_deBruijn64tab), ("strconv.ErrSyntax", Rows.laid_strconv_ErrSyntax), ("strconv.ErrRange", Rows.laid_strconv_ErrRange), ("pub-symmory/pub/gomultibase.ErrUnsupportedEncoding", Rows.laid_pub_symmory_pub_gomultibase_ErrUnsupportedEncoding), ("unicode/utf8.acceptRanges", Rows.laid_unicode_utf8_acceptRanges), ("encoding/hex.ErrLength", Rows.laid_encoding_hex_ErrLength), ("pub-symmory/pub/gomultibase.base256emojiTable", Rows.laid_pub_symmory_pub_gomultibase_base256emojiTable), ("pub-symmory/pub/gomultihash.ErrTooShort", Rows.laid_pub_symmory_pub_gomultihash_ErrTooShort), ("pub-symmory/pub/gomultihash.ErrVarintBufferShort", Rows.laid_pub_symmory_pub_gomultihash_ErrVarintBufferShort), ("pub-symmory/pub/gomultihash.ErrVarintTooLong", Rows.laid_pub_symmory_pub_gomultihash_ErrVarintTooLong), ("pub-symmory/pub/gomultibase.hexTableUppers", Rows.laid_pub_symmory_pub_gomultibase_hexTableUppers), ("net/url.table", Rows.laid_net_url_table), ("pub-symmory/pub/gomultihash.ErrInvalidMultihash", Rows.laid_pub_symmory_pub_gomultihash_ErrInvalidMultihash), ("pub-symmory/pub/gocid.errCidTooShort", Rows.laid_pub_symmory_pub_gocid_errCidTooShort), ("pub-symmory/pub/multiaddr.errNilPtr", Rows.laid_pub_symmory_pub_multiaddr_errNilPtr), ("pub-symmory/pub/libp2p/core/peer.ErrInvalidAddr", Rows.laid_pub_symmory_pub_libp2p_core_peer_ErrInvalidAddr)] [.sentinel, .sentinel, .sentinel, .data, .data, .data, .sentinel, .sentinel, .sentinel, .data, .sentinel, .data, .sentinel, .sentinel, .sentinel, .data, .data, .sentinel, .sentinel, .sentinel, .sentinel] true :=
  tie_perm sub_tie [6, 8, 7, 2, 0, 1, 5, 4, 12, 3, 9, 11, 13, 15, 16, 10, 18, 14, 17, 19, 20] (by decide +kernel) (by as_aux_lemma => kernel_rfl) (by as_aux_lemma => kernel_rfl)
theorem pin_laid_unicode_utf8_first : Tryz.pinned.checked.prog.pinnedFits "unicode/utf8.first" = true := by kernel_rfl
theorem noOwnUnsafe : Tryz.pinned.checked.prog.headLifts.contains "ownunsafe" = false := by kernel_rfl
theorem fits1 : Tryz.pinned.checked.prog.listedFits [("pub-symmory/pub/govarint.ErrOverflow", Rows.laid_pub_symmory_pub_govarint_ErrOverflow), ("pub-symmory/pub/govarint.ErrNotMinimal", Rows.laid_pub_symmory_pub_govarint_ErrNotMinimal), ("pub-symmory/pub/govarint.ErrUnderflow", Rows.laid_pub_symmory_pub_govarint_ErrUnderflow), ("internal/strconv.uint64pow10", Rows.laid_internal_strconv_uint64pow10), ("math/bits.deBruijn32tab", Rows.laid_math_bits_deBruijn32tab), ("math/bits.deBruijn64tab", Rows.laid_math_bits_deBruijn64tab), ("strconv.ErrSyntax", Rows.laid_strconv_ErrSyntax), ("strconv.ErrRange", Rows.laid_strconv_ErrRange), ("pub-symmory/pub/gomultibase.ErrUnsupportedEncoding", Rows.laid_pub_symmory_pub_gomultibase_ErrUnsupportedEncoding), ("unicode/utf8.first", Rows.laid_unicode_utf8_first), ("unicode/utf8.acceptRanges", Rows.laid_unicode_utf8_acceptRanges), ("encoding/hex.ErrLength", Rows.laid_encoding_hex_ErrLength), ("pub-symmory/pub/gomultibase.base256emojiTable", Rows.laid_pub_symmory_pub_gomultibase_base256emojiTable), ("pub-symmory/pub/gomultihash.ErrTooShort", Rows.laid_pub_symmory_pub_gomultihash_ErrTooShort), ("pub-symmory/pub/gomultihash.ErrVarintBufferShort", Rows.laid_pub_symmory_pub_gomultihash_ErrVarintBufferShort), ("pub-symmory/pub/gomultihash.ErrVarintTooLong", Rows.laid_pub_symmory_pub_gomultihash_ErrVarintTooLong), ("pub-symmory/pub/gomultibase.hexTableUppers", Rows.laid_pub_symmory_pub_gomultibase_hexTableUppers), ("net/url.table", Rows.laid_net_url_table), ("pub-symmory/pub/gomultihash.ErrInvalidMultihash", Rows.laid_pub_symmory_pub_gomultihash_ErrInvalidMultihash), ("pub-symmory/pub/gocid.errCidTooShort", Rows.laid_pub_symmory_pub_gocid_errCidTooShort), ("pub-symmory/pub/multiaddr.errNilPtr", Rows.laid_pub_symmory_pub_multiaddr_errNilPtr), ("pub-symmory/pub/libp2p/core/peer.ErrInvalidAddr", Rows.laid_pub_symmory_pub_libp2p_core_peer_ErrInvalidAddr)] = true := by
  unfold Program.listedFits
  rw [noOwnUnsafe]
  kernel_rfl
theorem fnAddrCircuit_row_tie : Rows.fnAddrCircuitRow.laidByTextAt .later Tryz.pinned [.sentinel, .sentinel, .sentinel, .data, .data, .data, .sentinel, .sentinel, .sentinel, .pinned, .data, .sentinel, .data, .sentinel, .sentinel, .sentinel, .data, .data, .sentinel, .sentinel, .sentinel, .sentinel] true :=
  OpenClaim.laidByTextAt_pinned rfl rfl tie rfl rfl rfl rfl (fun y hy _e => by
    simp only [Rows.fnAddrCircuitRow, List.zip_cons_cons, List.zip_nil_right, List.mem_cons, List.mem_nil_iff, or_false] at hy
    rcases hy with rfl | rfl | rfl | rfl | rfl | rfl | rfl | rfl | rfl | rfl | rfl | rfl | rfl | rfl | rfl | rfl | rfl | rfl | rfl | rfl | rfl | rfl
    · cases _e
    · cases _e
    · cases _e
    · cases _e
    · cases _e
    · cases _e
    · cases _e
    · cases _e
    · cases _e
    · exact ⟨pin_laid_unicode_utf8_first, by kernel_rfl⟩
    · cases _e
    · cases _e
    · cases _e
    · cases _e
    · cases _e
    · cases _e
    · cases _e
    · cases _e
    · cases _e
    · cases _e
    · cases _e
    · cases _e) fits1
theorem fnAddrTwice_row_tie : Rows.fnAddrTwiceRow.laidByTextAt .later Tryz.pinned [.sentinel, .sentinel, .sentinel, .data, .data, .data, .sentinel, .sentinel, .sentinel, .pinned, .data, .sentinel, .data, .sentinel, .sentinel, .sentinel, .data, .data, .sentinel, .sentinel, .sentinel, .sentinel] true :=
  OpenClaim.laidByTextAt_pinned rfl rfl tie rfl rfl rfl rfl (fun y hy _e => by
    simp only [Rows.fnAddrTwiceRow, List.zip_cons_cons, List.zip_nil_right, List.mem_cons, List.mem_nil_iff, or_false] at hy
    rcases hy with rfl | rfl | rfl | rfl | rfl | rfl | rfl | rfl | rfl | rfl | rfl | rfl | rfl | rfl | rfl | rfl | rfl | rfl | rfl | rfl | rfl | rfl
    · cases _e
    · cases _e
    · cases _e
    · cases _e
    · cases _e
    · cases _e
    · cases _e
    · cases _e
    · cases _e
    · exact ⟨pin_laid_unicode_utf8_first, by kernel_rfl⟩
    · cases _e
    · cases _e
    · cases _e
    · cases _e
    · cases _e
    · cases _e
    · cases _e
    · cases _e
    · cases _e
    · cases _e
    · cases _e
    · cases _e) fits1
theorem fnAddrDoors_row_tie : Rows.fnAddrDoorsRow.laidByTextAt .later Tryz.pinned [.sentinel, .sentinel, .sentinel, .data, .data, .data, .sentinel, .sentinel, .sentinel, .pinned, .data, .sentinel, .data, .sentinel, .sentinel, .sentinel, .data, .data, .sentinel, .sentinel, .sentinel, .sentinel] true :=
  OpenClaim.laidByTextAt_pinned rfl rfl tie rfl rfl rfl rfl (fun y hy _e => by
    simp only [Rows.fnAddrDoorsRow, List.zip_cons_cons, List.zip_nil_right, List.mem_cons, List.mem_nil_iff, or_false] at hy
    rcases hy with rfl | rfl | rfl | rfl | rfl | rfl | rfl | rfl | rfl | rfl | rfl | rfl | rfl | rfl | rfl | rfl | rfl | rfl | rfl | rfl | rfl | rfl
    · cases _e
    · cases _e
    · cases _e
    · cases _e
    · cases _e
    · cases _e
    · cases _e
    · cases _e
    · cases _e
    · exact ⟨pin_laid_unicode_utf8_first, by kernel_rfl⟩
    · cases _e
    · cases _e
    · cases _e
    · cases _e
    · cases _e
    · cases _e
    · cases _e
    · cases _e
    · cases _e
    · cases _e
    · cases _e
    · cases _e) fits1
theorem fnAddrInfos_row_tie : Rows.fnAddrInfosRow.laidByTextAt .later Tryz.pinned [.sentinel, .sentinel, .sentinel, .data, .data, .data, .sentinel, .sentinel, .sentinel, .pinned, .data, .sentinel, .data, .sentinel, .sentinel, .sentinel, .data, .data, .sentinel, .sentinel, .sentinel, .sentinel] true :=
  OpenClaim.laidByTextAt_pinned rfl rfl tie rfl rfl rfl rfl (fun y hy _e => by
    simp only [Rows.fnAddrInfosRow, List.zip_cons_cons, List.zip_nil_right, List.mem_cons, List.mem_nil_iff, or_false] at hy
    rcases hy with rfl | rfl | rfl | rfl | rfl | rfl | rfl | rfl | rfl | rfl | rfl | rfl | rfl | rfl | rfl | rfl | rfl | rfl | rfl | rfl | rfl | rfl
    · cases _e
    · cases _e
    · cases _e
    · cases _e
    · cases _e
    · cases _e
    · cases _e
    · cases _e
    · cases _e
    · exact ⟨pin_laid_unicode_utf8_first, by kernel_rfl⟩
    · cases _e
    · cases _e
    · cases _e
    · cases _e
    · cases _e
    · cases _e
    · cases _e
    · cases _e
    · cases _e
    · cases _e
    · cases _e
    · cases _e) fits1
theorem fnAddrGroups_row_tie : Rows.fnAddrGroupsRow.laidByTextAt .later Tryz.pinned [.sentinel, .sentinel, .sentinel, .data, .data, .data, .sentinel, .sentinel, .sentinel, .pinned, .data, .sentinel, .data, .sentinel, .sentinel, .sentinel, .data, .data, .sentinel, .sentinel, .sentinel, .sentinel] true :=
  OpenClaim.laidByTextAt_pinned rfl rfl tie rfl rfl rfl rfl (fun y hy _e => by
    simp only [Rows.fnAddrGroupsRow, List.zip_cons_cons, List.zip_nil_right, List.mem_cons, List.mem_nil_iff, or_false] at hy
    rcases hy with rfl | rfl | rfl | rfl | rfl | rfl | rfl | rfl | rfl | rfl | rfl | rfl | rfl | rfl | rfl | rfl | rfl | rfl | rfl | rfl | rfl | rfl
    · cases _e
    · cases _e
    · cases _e
    · cases _e
    · cases _e
    · cases _e
    · cases _e
    · cases _e
    · cases _e
    · exact ⟨pin_laid_unicode_utf8_first, by kernel_rfl⟩
    · cases _e
    · cases _e
    · cases _e
    · cases _e
    · cases _e
    · cases _e
    · cases _e
    · cases _e
    · cases _e
    · cases _e
    · cases _e
    · cases _e) fits1
theorem fnAddrBack_row_tie : Rows.fnAddrBackRow.laidByTextAt .later Tryz.pinned [.sentinel, .sentinel, .sentinel, .data, .data, .data, .sentinel, .sentinel, .sentinel, .pinned, .data, .sentinel, .data, .sentinel, .sentinel, .sentinel, .data, .data, .sentinel, .sentinel, .sentinel, .sentinel] true :=
  OpenClaim.laidByTextAt_pinned rfl rfl tie rfl rfl rfl rfl (fun y hy _e => by
    simp only [Rows.fnAddrBackRow, List.zip_cons_cons, List.zip_nil_right, List.mem_cons, List.mem_nil_iff, or_false] at hy
    rcases hy with rfl | rfl | rfl | rfl | rfl | rfl | rfl | rfl | rfl | rfl | rfl | rfl | rfl | rfl | rfl | rfl | rfl | rfl | rfl | rfl | rfl | rfl
    · cases _e
    · cases _e
    · cases _e
    · cases _e
    · cases _e
    · cases _e
    · cases _e
    · cases _e
    · cases _e
    · exact ⟨pin_laid_unicode_utf8_first, by kernel_rfl⟩
    · cases _e
    · cases _e
    · cases _e
    · cases _e
    · cases _e
    · cases _e
    · cases _e
    · cases _e
    · cases _e
    · cases _e
    · cases _e
    · cases _e) fits1
theorem fnAddrSeveral_row_tie : Rows.fnAddrSeveralRow.laidByTextAt .later Tryz.pinned [.sentinel, .sentinel, .sentinel, .data, .data, .data, .sentinel, .sentinel, .sentinel, .pinned, .data, .sentinel, .data, .sentinel, .sentinel, .sentinel, .data, .data, .sentinel, .sentinel, .sentinel, .sentinel] true :=
  OpenClaim.laidByTextAt_pinned rfl rfl tie rfl rfl rfl rfl (fun y hy _e => by
    simp only [Rows.fnAddrSeveralRow, List.zip_cons_cons, List.zip_nil_right, List.mem_cons, List.mem_nil_iff, or_false] at hy
    rcases hy with rfl | rfl | rfl | rfl | rfl | rfl | rfl | rfl | rfl | rfl | rfl | rfl | rfl | rfl | rfl | rfl | rfl | rfl | rfl | rfl | rfl | rfl
    · cases _e
    · cases _e
    · cases _e
    · cases _e
    · cases _e
    · cases _e
    · cases _e
    · cases _e
    · cases _e
    · exact ⟨pin_laid_unicode_utf8_first, by kernel_rfl⟩
    · cases _e
    · cases _e
    · cases _e
    · cases _e
    · cases _e
    · cases _e
    · cases _e
    · cases _e
    · cases _e
    · cases _e
    · cases _e
    · cases _e) fits1
def names_tie2 : List String := ["pub-symmory/pub/govarint.ErrOverflow", "pub-symmory/pub/govarint.ErrNotMinimal", "pub-symmory/pub/govarint.ErrUnderflow", "internal/strconv.uint64pow10", "math/bits.deBruijn32tab", "math/bits.deBruijn64tab", "strconv.ErrSyntax", "strconv.ErrRange", "pub-symmory/pub/gomultibase.ErrUnsupportedEncoding", "unicode/utf8.acceptRanges", "encoding/hex.ErrLength", "pub-symmory/pub/gomultibase.base256emojiTable", "pub-symmory/pub/gomultihash.ErrTooShort", "pub-symmory/pub/gomultihash.ErrVarintBufferShort", "pub-symmory/pub/gomultihash.ErrVarintTooLong", "pub-symmory/pub/gomultibase.hexTableUppers", "net/url.table", "pub-symmory/pub/gomultihash.ErrInvalidMultihash", "pub-symmory/pub/gocid.errCidTooShort", "pub-symmory/pub/multiaddr.errNilPtr", "pub-symmory/pub/libp2p/core/peer/pb.errNumber", "io.ErrUnexpectedEOF", "pub-symmory/pub/protowire.errFieldNumber", "pub-symmory/pub/protowire.errOverflow", "pub-symmory/pub/protowire.errReserved", "pub-symmory/pub/protowire.errEndGroup", "pub-symmory/pub/protowire.errParse", "pub-symmory/pub/libp2p/core/peer.ErrInvalidAddr"]
theorem sub_tie2 : Tryz.prog.laidByTextLater (Great.laidAll.filter fun x => names_tie2.contains x.1) (((Great.laidAll.zip kindsAll).filter fun y => names_tie2.contains y.1.1).map (·.2)) true := Great.tie.sub names_tie2 rfl rfl
set_option maxRecDepth 1000000 in
theorem tie2 : Tryz.prog.laidByTextLater [("pub-symmory/pub/govarint.ErrOverflow", Rows.laid_pub_symmory_pub_govarint_ErrOverflow), ("pub-symmory/pub/govarint.ErrNotMinimal", Rows.laid_pub_symmory_pub_govarint_ErrNotMinimal), ("pub-symmory/pub/govarint.ErrUnderflow", Rows.laid_pub_symmory_pub_govarint_ErrUnderflow), ("internal/strconv.uint64pow10", Rows.laid_internal_strconv_uint64pow10), ("math/bits.deBruijn32tab", Rows.laid_math_bits_deBruijn32tab), ("math/bits.deBruijn64tab", Rows.laid_math_bits_deBruijn64tab), ("strconv.ErrSyntax", Rows.laid_strconv_ErrSyntax), ("strconv.ErrRange", Rows.laid_strconv_ErrRange), ("pub-symmory/pub/gomultibase.ErrUnsupportedEncoding", Rows.laid_pub_symmory_pub_gomultibase_ErrUnsupportedEncoding), ("unicode/utf8.acceptRanges", Rows.laid_unicode_utf8_acceptRanges), ("encoding/hex.ErrLength", Rows.laid_encoding_hex_ErrLength), ("pub-symmory/pub/gomultibase.base256emojiTable", Rows.laid_pub_symmory_pub_gomultibase_base256emojiTable), ("pub-symmory/pub/gomultihash.ErrTooShort", Rows.laid_pub_symmory_pub_gomultihash_ErrTooShort), ("pub-symmory/pub/gomultihash.ErrVarintBufferShort", Rows.laid_pub_symmory_pub_gomultihash_ErrVarintBufferShort), ("pub-symmory/pub/gomultihash.ErrVarintTooLong", Rows.laid_pub_symmory_pub_gomultihash_ErrVarintTooLong), ("pub-symmory/pub/gomultibase.hexTableUppers", Rows.laid_pub_symmory_pub_gomultibase_hexTableUppers), ("net/url.table", Rows.laid_net_url_table), ("pub-symmory/pub/gomultihash.ErrInvalidMultihash", Rows.laid_pub_symmory_pub_gomultihash_ErrInvalidMultihash), ("pub-symmory/pub/gocid.errCidTooShort", Rows.laid_pub_symmory_pub_gocid_errCidTooShort), ("pub-symmory/pub/multiaddr.errNilPtr", Rows.laid_pub_symmory_pub_multiaddr_errNilPtr), ("pub-symmory/pub/libp2p/core/peer/pb.errNumber", Rows.laid_pub_symmory_pub_libp2p_core_peer_pb_errNumber), ("io.ErrUnexpectedEOF", Rows.laid_io_ErrUnexpectedEOF), ("pub-symmory/pub/protowire.errFieldNumber", Rows.laid_pub_symmory_pub_protowire_errFieldNumber), ("pub-symmory/pub/protowire.errOverflow", Rows.laid_pub_symmory_pub_protowire_errOverflow), ("pub-symmory/pub/protowire.errReserved", Rows.laid_pub_symmory_pub_protowire_errReserved), ("pub-symmory/pub/protowire.errEndGroup", Rows.laid_pub_symmory_pub_protowire_errEndGroup), ("pub-symmory/pub/protowire.errParse", Rows.laid_pub_symmory_pub_protowire_errParse), ("pub-symmory/pub/libp2p/core/peer.ErrInvalidAddr", Rows.laid_pub_symmory_pub_libp2p_core_peer_ErrInvalidAddr)] [.sentinel, .sentinel, .sentinel, .data, .data, .data, .sentinel, .sentinel, .sentinel, .data, .sentinel, .data, .sentinel, .sentinel, .sentinel, .data, .data, .sentinel, .sentinel, .sentinel, .sentinel, .sentinel, .sentinel, .sentinel, .sentinel, .sentinel, .sentinel, .sentinel] true :=
  tie_perm sub_tie2 [13, 15, 14, 2, 0, 1, 5, 4, 19, 3, 16, 18, 20, 22, 23, 17, 25, 21, 24, 26, 12, 6, 7, 8, 9, 10, 11, 27] (by decide +kernel) (by as_aux_lemma => kernel_rfl) (by as_aux_lemma => kernel_rfl)
theorem fits2 : Tryz.pinned.checked.prog.listedFits [("pub-symmory/pub/govarint.ErrOverflow", Rows.laid_pub_symmory_pub_govarint_ErrOverflow), ("pub-symmory/pub/govarint.ErrNotMinimal", Rows.laid_pub_symmory_pub_govarint_ErrNotMinimal), ("pub-symmory/pub/govarint.ErrUnderflow", Rows.laid_pub_symmory_pub_govarint_ErrUnderflow), ("internal/strconv.uint64pow10", Rows.laid_internal_strconv_uint64pow10), ("math/bits.deBruijn32tab", Rows.laid_math_bits_deBruijn32tab), ("math/bits.deBruijn64tab", Rows.laid_math_bits_deBruijn64tab), ("strconv.ErrSyntax", Rows.laid_strconv_ErrSyntax), ("strconv.ErrRange", Rows.laid_strconv_ErrRange), ("pub-symmory/pub/gomultibase.ErrUnsupportedEncoding", Rows.laid_pub_symmory_pub_gomultibase_ErrUnsupportedEncoding), ("unicode/utf8.first", Rows.laid_unicode_utf8_first), ("unicode/utf8.acceptRanges", Rows.laid_unicode_utf8_acceptRanges), ("encoding/hex.ErrLength", Rows.laid_encoding_hex_ErrLength), ("pub-symmory/pub/gomultibase.base256emojiTable", Rows.laid_pub_symmory_pub_gomultibase_base256emojiTable), ("pub-symmory/pub/gomultihash.ErrTooShort", Rows.laid_pub_symmory_pub_gomultihash_ErrTooShort), ("pub-symmory/pub/gomultihash.ErrVarintBufferShort", Rows.laid_pub_symmory_pub_gomultihash_ErrVarintBufferShort), ("pub-symmory/pub/gomultihash.ErrVarintTooLong", Rows.laid_pub_symmory_pub_gomultihash_ErrVarintTooLong), ("pub-symmory/pub/gomultibase.hexTableUppers", Rows.laid_pub_symmory_pub_gomultibase_hexTableUppers), ("net/url.table", Rows.laid_net_url_table), ("pub-symmory/pub/gomultihash.ErrInvalidMultihash", Rows.laid_pub_symmory_pub_gomultihash_ErrInvalidMultihash), ("pub-symmory/pub/gocid.errCidTooShort", Rows.laid_pub_symmory_pub_gocid_errCidTooShort), ("pub-symmory/pub/multiaddr.errNilPtr", Rows.laid_pub_symmory_pub_multiaddr_errNilPtr), ("pub-symmory/pub/libp2p/core/peer/pb.errNumber", Rows.laid_pub_symmory_pub_libp2p_core_peer_pb_errNumber), ("io.ErrUnexpectedEOF", Rows.laid_io_ErrUnexpectedEOF), ("pub-symmory/pub/protowire.errFieldNumber", Rows.laid_pub_symmory_pub_protowire_errFieldNumber), ("pub-symmory/pub/protowire.errOverflow", Rows.laid_pub_symmory_pub_protowire_errOverflow), ("pub-symmory/pub/protowire.errReserved", Rows.laid_pub_symmory_pub_protowire_errReserved), ("pub-symmory/pub/protowire.errEndGroup", Rows.laid_pub_symmory_pub_protowire_errEndGroup), ("pub-symmory/pub/protowire.errParse", Rows.laid_pub_symmory_pub_protowire_errParse), ("pub-symmory/pub/libp2p/core/peer.ErrInvalidAddr", Rows.laid_pub_symmory_pub_libp2p_core_peer_ErrInvalidAddr)] = true := by
  unfold Program.listedFits
  rw [noOwnUnsafe]
  kernel_rfl
theorem fnAddrRecorded_row_tie : Rows.fnAddrRecordedRow.laidByTextAt .later Tryz.pinned [.sentinel, .sentinel, .sentinel, .data, .data, .data, .sentinel, .sentinel, .sentinel, .pinned, .data, .sentinel, .data, .sentinel, .sentinel, .sentinel, .data, .data, .sentinel, .sentinel, .sentinel, .sentinel, .sentinel, .sentinel, .sentinel, .sentinel, .sentinel, .sentinel, .sentinel] true :=
  OpenClaim.laidByTextAt_pinned rfl rfl tie2 rfl rfl rfl rfl (fun y hy _e => by
    simp only [Rows.fnAddrRecordedRow, List.zip_cons_cons, List.zip_nil_right, List.mem_cons, List.mem_nil_iff, or_false] at hy
    rcases hy with rfl | rfl | rfl | rfl | rfl | rfl | rfl | rfl | rfl | rfl | rfl | rfl | rfl | rfl | rfl | rfl | rfl | rfl | rfl | rfl | rfl | rfl | rfl | rfl | rfl | rfl | rfl | rfl | rfl
    · cases _e
    · cases _e
    · cases _e
    · cases _e
    · cases _e
    · cases _e
    · cases _e
    · cases _e
    · cases _e
    · exact ⟨pin_laid_unicode_utf8_first, by kernel_rfl⟩
    · cases _e
    · cases _e
    · cases _e
    · cases _e
    · cases _e
    · cases _e
    · cases _e
    · cases _e
    · cases _e
    · cases _e
    · cases _e
    · cases _e
    · cases _e
    · cases _e
    · cases _e
    · cases _e
    · cases _e
    · cases _e
    · cases _e) fits2
end Go.Proofs.YtapkmoakbfpkeaaGreatDoor
