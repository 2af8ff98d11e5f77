/- The rows' ties. -/
import Derived.Test.YtapkmoakbfpkeaaGreatDoorT0
import Derived.Test.YtapkmoakbfpkeaaGreatDoorRows
import Derived.SevenTiedAt
namespace Go.Proofs.YtapkmoakbfpkeaaGreatDoor
open Go
def kindsAll : List LaidKind := [.data, .data, .data, .data, .sentinel, .sentinel, .sentinel, .sentinel, .sentinel, .sentinel, .sentinel, .sentinel, .sentinel, .sentinel, .sentinel, .sentinel, .sentinel, .data, .data, .sentinel, .sentinel, .sentinel, .sentinel, .sentinel, .sentinel, .data, .sentinel, .sentinel]
def names_tie : List String := ["pub-symmory/pub/govarint.ErrOverflow", "pub-symmory/pub/govarint.ErrNotMinimal", "pub-symmory/pub/govarint.ErrUnderflow", "internal/strconv.uint64pow10", "math/bits.deBruijn32tab", "math/bits.deBruijn64tab", "strconv.ErrSyntax", "strconv.ErrRange", "pub-symmory/pub/gomultibase.ErrUnsupportedEncoding", "unicode/utf8.acceptRanges", "encoding/hex.ErrLength", "pub-symmory/pub/gomultibase.base256emojiTable", "pub-symmory/pub/gomultihash.ErrTooShort", "pub-symmory/pub/gomultihash.ErrVarintBufferShort", "pub-symmory/pub/gomultihash.ErrVarintTooLong", "pub-symmory/pub/gomultibase.hexTableUppers", "net/url.table", "pub-symmory/pub/gomultihash.ErrInvalidMultihash", "pub-symmory/pub/gocid.errCidTooShort", "pub-symmory/pub/multiaddr.errNilPtr", "pub-symmory/pub/libp2p/core/peer.ErrInvalidAddr"]
theorem sub_tie : Tryz.prog.laidByTextLater (Great.laidAll.filter fun x => names_tie.contains x.1) (((Great.laidAll.zip kindsAll).filter fun y => names_tie.contains y.1.1).map (·.2)) true := Great.tie.sub names_tie rfl rfl
set_option maxRecDepth 1000000 in
theorem tie : Tryz.prog.laidByTextLater [("pub-symmory/pub/govarint.ErrOverflow", Rows.laid_pub_symmory_pub_govarint_ErrOverflow), ("pub-symmory/pub/govarint.ErrNotMinimal", Rows.laid_pub_symmory_pub_govarint_ErrNotMinimal), ("pub-symmory/pub/govarint.ErrUnderflow", Rows.laid_pub_symmory_pub_govarint_ErrUnderflow), ("internal/strconv.uint64pow10", Rows.laid_internal_strconv_uint64pow10), ("math/bits.deBruijn32tab", Rows.laid_math_bits_deBruijn32tab), ("math/bits.deBruijn64tab", Rows.laid_math_bits_deBruijn64tab), ("strconv.ErrSyntax", Rows.laid_strconv_ErrSyntax), ("strconv.ErrRange", Rows.laid_strconv_ErrRange), ("pub-symmory/pub/gomultibase.ErrUnsupportedEncoding", Rows.laid_pub_symmory_pub_gomultibase_ErrUnsupportedEncoding), ("unicode/utf8.acceptRanges", Rows.laid_unicode_utf8_acceptRanges), ("encoding/hex.ErrLength", Rows.laid_encoding_hex_ErrLength), ("pub-symmory/pub/gomultibase.base256emojiTable", Rows.laid_pub_symmory_pub_gomultibase_base256emojiTable), ("pub-symmory/pub/gomultihash.ErrTooShort", Rows.laid_pub_symmory_pub_gomultihash_ErrTooShort), ("pub-symmory/pub/gomultihash.ErrVarintBufferShort", Rows.laid_pub_symmory_pub_gomultihash_ErrVarintBufferShort), ("pub-symmory/pub/gomultihash.ErrVarintTooLong", Rows.laid_pub_symmory_pub_gomultihash_ErrVarintTooLong), ("pub-symmory/pub/gomultibase.hexTableUppers", Rows.laid_pub_symmory_pub_gomultibase_hexTableUppers), ("net/url.table", Rows.laid_net_url_table), ("pub-symmory/pub/gomultihash.ErrInvalidMultihash", Rows.laid_pub_symmory_pub_gomultihash_ErrInvalidMultihash), ("pub-symmory/pub/gocid.errCidTooShort", Rows.laid_pub_symmory_pub_gocid_errCidTooShort), ("pub-symmory/pub/multiaddr.errNilPtr", Rows.laid_pub_symmory_pub_multiaddr_errNilPtr), ("pub-symmory/pub/libp2p/core/peer.ErrInvalidAddr", Rows.laid_pub_symmory_pub_libp2p_core_peer_ErrInvalidAddr)] [.sentinel, .sentinel, .sentinel, .data, .data, .data, .sentinel, .sentinel, .sentinel, .data, .sentinel, .data, .sentinel, .sentinel, .sentinel, .data, .data, .sentinel, .sentinel, .sentinel, .sentinel] true :=
  tie_perm sub_tie [6, 8, 7, 2, 0, 1, 5, 4, 12, 3, 9, 11, 13, 15, 16, 10, 18, 14, 17, 19, 20] (by decide +kernel) (by as_aux_lemma => kernel_rfl) (by as_aux_lemma => kernel_rfl)
theorem pin_laid_unicode_utf8_first : Tryz.pinned.checked.prog.pinnedFits "unicode/utf8.first" = true := by kernel_rfl
theorem noOwnUnsafe : Tryz.pinned.checked.prog.headLifts.contains "ownunsafe" = false := by kernel_rfl
theorem fits1 : Tryz.pinned.checked.prog.listedFits [("pub-symmory/pub/govarint.ErrOverflow", Rows.laid_pub_symmory_pub_govarint_ErrOverflow), ("pub-symmory/pub/govarint.ErrNotMinimal", Rows.laid_pub_symmory_pub_govarint_ErrNotMinimal), ("pub-symmory/pub/govarint.ErrUnderflow", Rows.laid_pub_symmory_pub_govarint_ErrUnderflow), ("internal/strconv.uint64pow10", Rows.laid_internal_strconv_uint64pow10), ("math/bits.deBruijn32tab", Rows.laid_math_bits_deBruijn32tab), ("math/bits.deBruijn64tab", Rows.laid_math_bits_deBruijn64tab), ("strconv.ErrSyntax", Rows.laid_strconv_ErrSyntax), ("strconv.ErrRange", Rows.laid_strconv_ErrRange), ("pub-symmory/pub/gomultibase.ErrUnsupportedEncoding", Rows.laid_pub_symmory_pub_gomultibase_ErrUnsupportedEncoding), ("unicode/utf8.first", Rows.laid_unicode_utf8_first), ("unicode/utf8.acceptRanges", Rows.laid_unicode_utf8_acceptRanges), ("encoding/hex.ErrLength", Rows.laid_encoding_hex_ErrLength), ("pub-symmory/pub/gomultibase.base256emojiTable", Rows.laid_pub_symmory_pub_gomultibase_base256emojiTable), ("pub-symmory/pub/gomultihash.ErrTooShort", Rows.laid_pub_symmory_pub_gomultihash_ErrTooShort), ("pub-symmory/pub/gomultihash.ErrVarintBufferShort", Rows.laid_pub_symmory_pub_gomultihash_ErrVarintBufferShort), ("pub-symmory/pub/gomultihash.ErrVarintTooLong", Rows.laid_pub_symmory_pub_gomultihash_ErrVarintTooLong), ("pub-symmory/pub/gomultibase.hexTableUppers", Rows.laid_pub_symmory_pub_gomultibase_hexTableUppers), ("net/url.table", Rows.laid_net_url_table), ("pub-symmory/pub/gomultihash.ErrInvalidMultihash", Rows.laid_pub_symmory_pub_gomultihash_ErrInvalidMultihash), ("pub-symmory/pub/gocid.errCidTooShort", Rows.laid_pub_symmory_pub_gocid_errCidTooShort), ("pub-symmory/pub/multiaddr.errNilPtr", Rows.laid_pub_symmory_pub_multiaddr_errNilPtr), ("pub-symmory/pub/libp2p/core/peer.ErrInvalidAddr", Rows.laid_pub_symmory_pub_libp2p_core_peer_ErrInvalidAddr)] = true := by
  unfold Program.listedFits
  rw [noOwnUnsafe]
  kernel_rfl
theorem fnAddrCircuit_row_tie : Rows.fnAddrCircuitRow.laidByTextAt .later Tryz.pinned [.sentinel, .sentinel, .sentinel, .data, .data, .data, .sentinel, .sentinel, .sentinel, .pinned, .data, .sentinel, .data, .sentinel, .sentinel, .sentinel, .data, .data, .sentinel, .sentinel, .sentinel, .sentinel] true :=
  OpenClaim.laidByTextAt_pinned rfl rfl tie rfl rfl rfl rfl (fun y hy _e => by
    simp only [Rows.fnAddrCircuitRow, List.zip_cons_cons, List.zip_nil_right, List.mem_cons, List.mem_nil_iff, or_false] at hy
    rcases hy with rfl | rfl | rfl | rfl | rfl | rfl | rfl | rfl | rfl | rfl | rfl | rfl | rfl | rfl | rfl | rfl | rfl | rfl | rfl | rfl | rfl | rfl
    · cases _e
    · cases _e
    · cases _e
    · cases _e
    · cases _e
    · cases _e
    · cases _e
    · cases _e
    · cases _e
    · exact ⟨pin_laid_unicode_utf8_first, by kernel_rfl⟩
    · cases _e
    · cases _e
    · cases _e
    · cases _e
    · cases _e
    · cases _e
    · cases _e
    · cases _e
    · cases _e
    · cases _e
    · cases _e
    · cases _e) fits1
theorem fnAddrTwice_row_tie : Rows.fnAddrTwiceRow.laidByTextAt .later Tryz.pinned [.sentinel, .sentinel, .sentinel, .data, .data, .data, .sentinel, .sentinel, .sentinel, .pinned, .data, .sentinel, .data, .sentinel, .sentinel, .sentinel, .data, .data, .sentinel, .sentinel, .sentinel, .sentinel] true :=
  OpenClaim.laidByTextAt_pinned rfl rfl tie rfl rfl rfl rfl (fun y hy _e => by
    simp only [Rows.fnAddrTwiceRow, List.zip_cons_cons, List.zip_nil_right, List.mem_cons, List.mem_nil_iff, or_false] at hy
    rcases hy with rfl | rfl | rfl | rfl | rfl | rfl | rfl | rfl | rfl | rfl | rfl | rfl | rfl | rfl | rfl | rfl | rfl | rfl | rfl | rfl | rfl | rfl
    · cases _e
    · cases _e
    · cases _e
    · cases _e
    · cases _e
    · cases _e
    · cases _e
    · cases _e
    · cases _e
    · exact ⟨pin_laid_unicode_utf8_first, by kernel_rfl⟩
    · cases _e
    · cases _e
    · cases _e
    · cases _e
    · cases _e
    · cases _e
    · cases _e
    · cases _e
    · cases _e
    · cases _e
    · cases _e
    · cases _e) fits1
theorem fnAddrDoors_row_tie : Rows.fnAddrDoorsRow.laidByTextAt .later Tryz.pinned [.sentinel, .sentinel, .sentinel, .data, .data, .data, .sentinel, .sentinel, .sentinel, .pinned, .data, .sentinel, .data, .sentinel, .sentinel, .sentinel, .data, .data, .sentinel, .sentinel, .sentinel, .sentinel] true :=
  OpenClaim.laidByTextAt_pinned rfl rfl tie rfl rfl rfl rfl (fun y hy _e => by
    simp only [Rows.fnAddrDoorsRow, List.zip_cons_cons, List.zip_nil_right, List.mem_cons, List.mem_nil_iff, or_false] at hy
    rcases hy with rfl | rfl | rfl | rfl | rfl | rfl | rfl | rfl | rfl | rfl | rfl | rfl | rfl | rfl | rfl | rfl | rfl | rfl | rfl | rfl | rfl | rfl
    · cases _e
    · cases _e
    · cases _e
    · cases _e
    · cases _e
    · cases _e
    · cases _e
    · cases _e
    · cases _e
    · exact ⟨pin_laid_unicode_utf8_first, by kernel_rfl⟩
    · cases _e
    · cases _e
    · cases _e
    · cases _e
    · cases _e
    · cases _e
    · cases _e
    · cases _e
    · cases _e
    · cases _e
    · cases _e
    · cases _e) fits1
theorem fnAddrInfos_row_tie : Rows.fnAddrInfosRow.laidByTextAt .later Tryz.pinned [.sentinel, .sentinel, .sentinel, .data, .data, .data, .sentinel, .sentinel, .sentinel, .pinned, .data, .sentinel, .data, .sentinel, .sentinel, .sentinel, .data, .data, .sentinel, .sentinel, .sentinel, .sentinel] true :=
  OpenClaim.laidByTextAt_pinned rfl rfl tie rfl rfl rfl rfl (fun y hy _e => by
    simp only [Rows.fnAddrInfosRow, List.zip_cons_cons, List.zip_nil_right, List.mem_cons, List.mem_nil_iff, or_false] at hy
    rcases hy with rfl | rfl | rfl | rfl | rfl | rfl | rfl | rfl | rfl | rfl | rfl | rfl | rfl | rfl | rfl | rfl | rfl | rfl | rfl | rfl | rfl | rfl
    · cases _e
    · cases _e
    · cases _e
    · cases _e
    · cases _e
    · cases _e
    · cases _e
    · cases _e
    · cases _e
    · exact ⟨pin_laid_unicode_utf8_first, by kernel_rfl⟩
    · cases _e
    · cases _e
    · cases _e
    · cases _e
    · cases _e
    · cases _e
    · cases _e
    · cases _e
    · cases _e
    · cases _e
    · cases _e
    · cases _e) fits1
theorem fnAddrGroups_row_tie : Rows.fnAddrGroupsRow.laidByTextAt .later Tryz.pinned [.sentinel, .sentinel, .sentinel, .data, .data, .data, .sentinel, .sentinel, .sentinel, .pinned, .data, .sentinel, .data, .sentinel, .sentinel, .sentinel, .data, .data, .sentinel, .sentinel, .sentinel, .sentinel] true :=
  OpenClaim.laidByTextAt_pinned rfl rfl tie rfl rfl rfl rfl (fun y hy _e => by
    simp only [Rows.fnAddrGroupsRow, List.zip_cons_cons, List.zip_nil_right, List.mem_cons, List.mem_nil_iff, or_false] at hy
    rcases hy with rfl | rfl | rfl | rfl | rfl | rfl | rfl | rfl | rfl | rfl | rfl | rfl | rfl | rfl | rfl | rfl | rfl | rfl | rfl | rfl | rfl | rfl
    · cases _e
    · cases _e
    · cases _e
    · cases _e
    · cases _e
    · cases _e
    · cases _e
    · cases _e
    · cases _e
    · exact ⟨pin_laid_unicode_utf8_first, by kernel_rfl⟩
    · cases _e
    · cases _e
    · cases _e
    · cases _e
    · cases _e
    · cases _e
    · cases _e
    · cases _e
    · cases _e
    · cases _e
    · cases _e
    · cases _e) fits1
theorem fnAddrBack_row_tie : Rows.fnAddrBackRow.laidByTextAt .later Tryz.pinned [.sentinel, .sentinel, .sentinel, .data, .data, .data, .sentinel, .sentinel, .sentinel, .pinned, .data, .sentinel, .data, .sentinel, .sentinel, .sentinel, .data, .data, .sentinel, .sentinel, .sentinel, .sentinel] true :=
  OpenClaim.laidByTextAt_pinned rfl rfl tie rfl rfl rfl rfl (fun y hy _e => by
    simp only [Rows.fnAddrBackRow, List.zip_cons_cons, List.zip_nil_right, List.mem_cons, List.mem_nil_iff, or_false] at hy
    rcases hy with rfl | rfl | rfl | rfl | rfl | rfl | rfl | rfl | rfl | rfl | rfl | rfl | rfl | rfl | rfl | rfl | rfl | rfl | rfl | rfl | rfl | rfl
    · cases _e
    · cases _e
    · cases _e
    · cases _e
    · cases _e
    · cases _e
    · cases _e
    · cases _e
    · cases _e
    · exact ⟨pin_laid_unicode_utf8_first, by kernel_rfl⟩
    · cases _e
    · cases _e
    · cases _e
    · cases _e
    · cases _e
    · cases _e
    · cases _e
    · cases _e
    · cases _e
    · cases _e
    · cases _e
    · cases _e) fits1
theorem fnAddrSeveral_row_tie : Rows.fnAddrSeveralRow.laidByTextAt .later Tryz.pinned [.sentinel, .sentinel, .sentinel, .data, .data, .data, .sentinel, .sentinel, .sentinel, .pinned, .data, .sentinel, .data, .sentinel, .sentinel, .sentinel, .data, .data, .sentinel, .sentinel, .sentinel, .sentinel] true :=
  OpenClaim.laidByTextAt_pinned rfl rfl tie rfl rfl rfl rfl (fun y hy _e => by
    simp only [Rows.fnAddrSeveralRow, List.zip_cons_cons, List.zip_nil_right, List.mem_cons, List.mem_nil_iff, or_false] at hy
    rcases hy with rfl | rfl | rfl | rfl | rfl | rfl | rfl | rfl | rfl | rfl | rfl | rfl | rfl | rfl | rfl | rfl | rfl | rfl | rfl | rfl | rfl | rfl
    · cases _e
    · cases _e
    · cases _e
    · cases _e
    · cases _e
    · cases _e
    · cases _e
    · cases _e
    · cases _e
    · exact ⟨pin_laid_unicode_utf8_first, by kernel_rfl⟩
    · cases _e
    · cases _e
    · cases _e
    · cases _e
    · cases _e
    · cases _e
    · cases _e
    · cases _e
    · cases _e
    · cases _e
    · cases _e
    · cases _e) fits1
def names_tie2 : List String := ["pub-symmory/pub/govarint.ErrOverflow", "pub-symmory/pub/govarint.ErrNotMinimal", "pub-symmory/pub/govarint.ErrUnderflow", "internal/strconv.uint64pow10", "math/bits.deBruijn32tab", "math/bits.deBruijn64tab", "strconv.ErrSyntax", "strconv.ErrRange", "pub-symmory/pub/gomultibase.ErrUnsupportedEncoding", "unicode/utf8.acceptRanges", "encoding/hex.ErrLength", "pub-symmory/pub/gomultibase.base256emojiTable", "pub-symmory/pub/gomultihash.ErrTooShort", "pub-symmory/pub/gomultihash.ErrVarintBufferShort", "pub-symmory/pub/gomultihash.ErrVarintTooLong", "pub-symmory/pub/gomultibase.hexTableUppers", "net/url.table", "pub-symmory/pub/gomultihash.ErrInvalidMultihash", "pub-symmory/pub/gocid.errCidTooShort", "pub-symmory/pub/multiaddr.errNilPtr", "pub-symmory/pub/libp2p/core/peer/pb.errNumber", "io.ErrUnexpectedEOF", "pub-symmory/pub/protowire.errFieldNumber", "pub-symmory/pub/protowire.errOverflow", "pub-symmory/pub/protowire.errReserved", "pub-symmory/pub/protowire.errEndGroup", "pub-symmory/pub/protowire.errParse", "pub-symmory/pub/libp2p/core/peer.ErrInvalidAddr"]
theorem sub_tie2 : Tryz.prog.laidByTextLater (Great.laidAll.filter fun x => names_tie2.contains x.1) (((Great.laidAll.zip kindsAll).filter fun y => names_tie2.contains y.1.1).map (·.2)) true := Great.tie.sub names_tie2 rfl rfl
set_option maxRecDepth 1000000 in
theorem tie2 : Tryz.prog.laidByTextLater [("pub-symmory/pub/govarint.ErrOverflow", Rows.laid_pub_symmory_pub_govarint_ErrOverflow), ("pub-symmory/pub/govarint.ErrNotMinimal", Rows.laid_pub_symmory_pub_govarint_ErrNotMinimal), ("pub-symmory/pub/govarint.ErrUnderflow", Rows.laid_pub_symmory_pub_govarint_ErrUnderflow), ("internal/strconv.uint64pow10", Rows.laid_internal_strconv_uint64pow10), ("math/bits.deBruijn32tab", Rows.laid_math_bits_deBruijn32tab), ("math/bits.deBruijn64tab", Rows.laid_math_bits_deBruijn64tab), ("strconv.ErrSyntax", Rows.laid_strconv_ErrSyntax), ("strconv.ErrRange", Rows.laid_strconv_ErrRange), ("pub-symmory/pub/gomultibase.ErrUnsupportedEncoding", Rows.laid_pub_symmory_pub_gomultibase_ErrUnsupportedEncoding), ("unicode/utf8.acceptRanges", Rows.laid_unicode_utf8_acceptRanges), ("encoding/hex.ErrLength", Rows.laid_encoding_hex_ErrLength), ("pub-symmory/pub/gomultibase.base256emojiTable", Rows.laid_pub_symmory_pub_gomultibase_base256emojiTable), ("pub-symmory/pub/gomultihash.ErrTooShort", Rows.laid_pub_symmory_pub_gomultihash_ErrTooShort), ("pub-symmory/pub/gomultihash.ErrVarintBufferShort", Rows.laid_pub_symmory_pub_gomultihash_ErrVarintBufferShort), ("pub-symmory/pub/gomultihash.ErrVarintTooLong", Rows.laid_pub_symmory_pub_gomultihash_ErrVarintTooLong), ("pub-symmory/pub/gomultibase.hexTableUppers", Rows.laid_pub_symmory_pub_gomultibase_hexTableUppers), ("net/url.table", Rows.laid_net_url_table), ("pub-symmory/pub/gomultihash.ErrInvalidMultihash", Rows.laid_pub_symmory_pub_gomultihash_ErrInvalidMultihash), ("pub-symmory/pub/gocid.errCidTooShort", Rows.laid_pub_symmory_pub_gocid_errCidTooShort), ("pub-symmory/pub/multiaddr.errNilPtr", Rows.laid_pub_symmory_pub_multiaddr_errNilPtr), ("pub-symmory/pub/libp2p/core/peer/pb.errNumber", Rows.laid_pub_symmory_pub_libp2p_core_peer_pb_errNumber), ("io.ErrUnexpectedEOF", Rows.laid_io_ErrUnexpectedEOF), ("pub-symmory/pub/protowire.errFieldNumber", Rows.laid_pub_symmory_pub_protowire_errFieldNumber), ("pub-symmory/pub/protowire.errOverflow", Rows.laid_pub_symmory_pub_protowire_errOverflow), ("pub-symmory/pub/protowire.errReserved", Rows.laid_pub_symmory_pub_protowire_errReserved), ("pub-symmory/pub/protowire.errEndGroup", Rows.laid_pub_symmory_pub_protowire_errEndGroup), ("pub-symmory/pub/protowire.errParse", Rows.laid_pub_symmory_pub_protowire_errParse), ("pub-symmory/pub/libp2p/core/peer.ErrInvalidAddr", Rows.laid_pub_symmory_pub_libp2p_core_peer_ErrInvalidAddr)] [.sentinel, .sentinel, .sentinel, .data, .data, .data, .sentinel, .sentinel, .sentinel, .data, .sentinel, .data, .sentinel, .sentinel, .sentinel, .data, .data, .sentinel, .sentinel, .sentinel, .sentinel, .sentinel, .sentinel, .sentinel, .sentinel, .sentinel, .sentinel, .sentinel] true :=
  tie_perm sub_tie2 [13, 15, 14, 2, 0, 1, 5, 4, 19, 3, 16, 18, 20, 22, 23, 17, 25, 21, 24, 26, 12, 6, 7, 8, 9, 10, 11, 27] (by decide +kernel) (by as_aux_lemma => kernel_rfl) (by as_aux_lemma => kernel_rfl)
theorem fits2 : Tryz.pinned.checked.prog.listedFits [("pub-symmory/pub/govarint.ErrOverflow", Rows.laid_pub_symmory_pub_govarint_ErrOverflow), ("pub-symmory/pub/govarint.ErrNotMinimal", Rows.laid_pub_symmory_pub_govarint_ErrNotMinimal), ("pub-symmory/pub/govarint.ErrUnderflow", Rows.laid_pub_symmory_pub_govarint_ErrUnderflow), ("internal/strconv.uint64pow10", Rows.laid_internal_strconv_uint64pow10), ("math/bits.deBruijn32tab", Rows.laid_math_bits_deBruijn32tab), ("math/bits.deBruijn64tab", Rows.laid_math_bits_deBruijn64tab), ("strconv.ErrSyntax", Rows.laid_strconv_ErrSyntax), ("strconv.ErrRange", Rows.laid_strconv_ErrRange), ("pub-symmory/pub/gomultibase.ErrUnsupportedEncoding", Rows.laid_pub_symmory_pub_gomultibase_ErrUnsupportedEncoding), ("unicode/utf8.first", Rows.laid_unicode_utf8_first), ("unicode/utf8.acceptRanges", Rows.laid_unicode_utf8_acceptRanges), ("encoding/hex.ErrLength", Rows.laid_encoding_hex_ErrLength), ("pub-symmory/pub/gomultibase.base256emojiTable", Rows.laid_pub_symmory_pub_gomultibase_base256emojiTable), ("pub-symmory/pub/gomultihash.ErrTooShort", Rows.laid_pub_symmory_pub_gomultihash_ErrTooShort), ("pub-symmory/pub/gomultihash.ErrVarintBufferShort", Rows.laid_pub_symmory_pub_gomultihash_ErrVarintBufferShort), ("pub-symmory/pub/gomultihash.ErrVarintTooLong", Rows.laid_pub_symmory_pub_gomultihash_ErrVarintTooLong), ("pub-symmory/pub/gomultibase.hexTableUppers", Rows.laid_pub_symmory_pub_gomultibase_hexTableUppers), ("net/url.table", Rows.laid_net_url_table), ("pub-symmory/pub/gomultihash.ErrInvalidMultihash", Rows.laid_pub_symmory_pub_gomultihash_ErrInvalidMultihash), ("pub-symmory/pub/gocid.errCidTooShort", Rows.laid_pub_symmory_pub_gocid_errCidTooShort), ("pub-symmory/pub/multiaddr.errNilPtr", Rows.laid_pub_symmory_pub_multiaddr_errNilPtr), ("pub-symmory/pub/libp2p/core/peer/pb.errNumber", Rows.laid_pub_symmory_pub_libp2p_core_peer_pb_errNumber), ("io.ErrUnexpectedEOF", Rows.laid_io_ErrUnexpectedEOF), ("pub-symmory/pub/protowire.errFieldNumber", Rows.laid_pub_symmory_pub_protowire_errFieldNumber), ("pub-symmory/pub/protowire.errOverflow", Rows.laid_pub_symmory_pub_protowire_errOverflow), ("pub-symmory/pub/protowire.errReserved", Rows.laid_pub_symmory_pub_protowire_errReserved), ("pub-symmory/pub/protowire.errEndGroup", Rows.laid_pub_symmory_pub_protowire_errEndGroup), ("pub-symmory/pub/protowire.errParse", Rows.laid_pub_symmory_pub_protowire_errParse), ("pub-symmory/pub/libp2p/core/peer.ErrInvalidAddr", Rows.laid_pub_symmory_pub_libp2p_core_peer_ErrInvalidAddr)] = true := by
  unfold Program.listedFits
  rw [noOwnUnsafe]
  kernel_rfl
theorem fnAddrRecorded_row_tie : Rows.fnAddrRecordedRow.laidByTextAt .later Tryz.pinned [.sentinel, .sentinel, .sentinel, .data, .data, .data, .sentinel, .sentinel, .sentinel, .pinned, .data, .sentinel, .data, .sentinel, .sentinel, .sentinel, .data, .data, .sentinel, .sentinel, .sentinel, .sentinel, .sentinel, .sentinel, .sentinel, .sentinel, .sentinel, .sentinel, .sentinel] true :=
  OpenClaim.laidByTextAt_pinned rfl rfl tie2 rfl rfl rfl rfl (fun y hy _e => by
    simp only [Rows.fnAddrRecordedRow, List.zip_cons_cons, List.zip_nil_right, List.mem_cons, List.mem_nil_iff, or_false] at hy
    rcases hy with rfl | rfl | rfl | rfl | rfl | rfl | rfl | rfl | rfl | rfl | rfl | rfl | rfl | rfl | rfl | rfl | rfl | rfl | rfl | rfl | rfl | rfl | rfl | rfl | rfl | rfl | rfl | rfl | rfl
    · cases _e
    · cases _e
    · cases _e
    · cases _e
    · cases _e
    · cases _e
    · cases _e
    · cases _e
    · cases _e
    · exact ⟨pin_laid_unicode_utf8_first, by kernel_rfl⟩
    · cases _e
    · cases _e
    · cases _e
    · cases _e
    · cases _e
    · cases _e
    · cases _e
    · cases _e
    · cases _e
    · cases _e
    · cases _e
    · cases _e
    · cases _e
    · cases _e
    · cases _e
    · cases _e
    · cases _e
    · cases _e
    · cases _e) fits2
end Go.Proofs.YtapkmoakbfpkeaaGreatDoor
