/-
  DERIVED. GIVEN WITH THE SEED: THE PROGRAM's TIES (one call each: nine closed facts by the kernel) AND EACH ROW's TIE, after the 31st guide's Derived/Test/Toyas{Tie, Card}.lean. No idea stands in it: it is a product of the set-up. Laid BY PROGRAM, IN A SANDBOX (cutbox-door.mjs). By AI agents, Wed Nov 11 2026. No macro, syntax, notation, axiom, sorry.
-/
import Derived.Test.YtlkpeeoippbdoaaDoorRows
import Derived.LaidByTextLater
import Derived.SevenTiedAt
import Derived.LaidSub
import Derived.LaidOnce
namespace Go.Proofs.YtlkpeeoippbdoaaDoor
open Go
set_option maxRecDepth 100000
theorem seatTie1 : Tryd.prog.laidByTextLater [("bytes.ErrTooLarge", Rows.laid_bytes_ErrTooLarge), ("loop.example/pub-g03022/pub/hpack.ErrStringLength", Rows.laid_loop_example_pub_g03022_pub_hpack_ErrStringLength), ("loop.example/pub-g03022/pub/hpack.errNeedMore", Rows.laid_loop_example_pub_g03022_pub_hpack_errNeedMore), ("loop.example/pub-g03022/pub/hpack.ErrInvalidHuffman", Rows.laid_loop_example_pub_g03022_pub_hpack_ErrInvalidHuffman), ("loop.example/pub-g03022/pub/hpack.huffmanCodes", Rows.laid_loop_example_pub_g03022_pub_hpack_huffmanCodes), ("loop.example/pub-g03022/pub/hpack.huffmanCodeLen", Rows.laid_loop_example_pub_g03022_pub_hpack_huffmanCodeLen)] [.sentinel, .sentinel, .sentinel, .sentinel, .data, .data] true :=
  Program.laidByTextLater_by_one 95 8 257 (by kernel_rfl) (by kernel_rfl) (by kernel_rfl) (by kernel_rfl) (by kernel_rfl) (by kernel_rfl) (fun _ _ => by kernel_rfl)
theorem noOwnUnsafe : Tryd.pinned.checked.prog.headLifts.contains "ownunsafe" = false := by kernel_rfl
theorem tie : Tryd.prog.laidByTextLater [("bytes.ErrTooLarge", Rows.laid_bytes_ErrTooLarge), ("loop.example/pub-g03022/pub/hpack.ErrStringLength", Rows.laid_loop_example_pub_g03022_pub_hpack_ErrStringLength), ("loop.example/pub-g03022/pub/hpack.errNeedMore", Rows.laid_loop_example_pub_g03022_pub_hpack_errNeedMore), ("loop.example/pub-g03022/pub/hpack.ErrInvalidHuffman", Rows.laid_loop_example_pub_g03022_pub_hpack_ErrInvalidHuffman), ("loop.example/pub-g03022/pub/hpack.huffmanCodes", Rows.laid_loop_example_pub_g03022_pub_hpack_huffmanCodes), ("loop.example/pub-g03022/pub/hpack.huffmanCodeLen", Rows.laid_loop_example_pub_g03022_pub_hpack_huffmanCodeLen)] [.sentinel, .sentinel, .sentinel, .sentinel, .data, .data] true :=
  Program.laidByTextLater.sub seatTie1 ["bytes.ErrTooLarge", "loop.example/pub-g03022/pub/hpack.ErrStringLength", "loop.example/pub-g03022/pub/hpack.errNeedMore", "loop.example/pub-g03022/pub/hpack.ErrInvalidHuffman", "loop.example/pub-g03022/pub/hpack.huffmanCodes", "loop.example/pub-g03022/pub/hpack.huffmanCodeLen"] (by kernel_rfl) (by kernel_rfl)
theorem fnDecodeCuts_row_tie : Rows.fnDecodeCutsRow.laidByTextAt .later Tryd.pinned [.sentinel, .sentinel, .sentinel, .sentinel, .data, .data] true :=
  OpenClaim.laidByTextAt_later rfl rfl tie noOwnUnsafe
theorem fnDecodeFullIs_row_tie : Rows.fnDecodeFullIsRow.laidByTextAt .later Tryd.pinned [.sentinel, .sentinel, .sentinel, .sentinel, .data, .data] true :=
  OpenClaim.laidByTextAt_later rfl rfl tie noOwnUnsafe
theorem fnDecodeIndex_row_tie : Rows.fnDecodeIndexRow.laidByTextAt .later Tryd.pinned [.sentinel, .sentinel, .sentinel, .sentinel, .data, .data] true :=
  OpenClaim.laidByTextAt_later rfl rfl tie noOwnUnsafe
theorem fnDecodeQuiet_row_tie : Rows.fnDecodeQuietRow.laidByTextAt .later Tryd.pinned [.sentinel, .sentinel, .sentinel, .sentinel, .data, .data] true :=
  OpenClaim.laidByTextAt_later rfl rfl tie noOwnUnsafe
theorem fnDecodeTooLarge_row_tie : Rows.fnDecodeTooLargeRow.laidByTextAt .later Tryd.pinned [.sentinel, .sentinel, .sentinel, .sentinel, .data, .data] true :=
  OpenClaim.laidByTextAt_later rfl rfl tie noOwnUnsafe
theorem fnDecodeHuffman_row_tie : Rows.fnDecodeHuffmanRow.laidByTextAt .later Tryd.pinned [.sentinel, .sentinel, .sentinel, .sentinel, .data, .data] true :=
  OpenClaim.laidByTextAt_later rfl rfl tie noOwnUnsafe
theorem fnDecodeCutsUpto_row_tie : Rows.fnDecodeCutsUptoRow.laidByTextAt .later Tryd.pinned [.sentinel, .sentinel, .sentinel, .sentinel, .data, .data] true :=
  OpenClaim.laidByTextAt_later rfl rfl tie noOwnUnsafe
theorem fnDecodeFullIsUpto_row_tie : Rows.fnDecodeFullIsUptoRow.laidByTextAt .later Tryd.pinned [.sentinel, .sentinel, .sentinel, .sentinel, .data, .data] true :=
  OpenClaim.laidByTextAt_later rfl rfl tie noOwnUnsafe
theorem fnDecodeIndexUpto_row_tie : Rows.fnDecodeIndexUptoRow.laidByTextAt .later Tryd.pinned [.sentinel, .sentinel, .sentinel, .sentinel, .data, .data] true :=
  OpenClaim.laidByTextAt_later rfl rfl tie noOwnUnsafe
theorem fnDecodeQuietUpto_row_tie : Rows.fnDecodeQuietUptoRow.laidByTextAt .later Tryd.pinned [.sentinel, .sentinel, .sentinel, .sentinel, .data, .data] true :=
  OpenClaim.laidByTextAt_later rfl rfl tie noOwnUnsafe
theorem fnDecodeTooLargeUpto_row_tie : Rows.fnDecodeTooLargeUptoRow.laidByTextAt .later Tryd.pinned [.sentinel, .sentinel, .sentinel, .sentinel, .data, .data] true :=
  OpenClaim.laidByTextAt_later rfl rfl tie noOwnUnsafe
theorem fnDecodeHuffmanUpto_row_tie : Rows.fnDecodeHuffmanUptoRow.laidByTextAt .later Tryd.pinned [.sentinel, .sentinel, .sentinel, .sentinel, .data, .data] true :=
  OpenClaim.laidByTextAt_later rfl rfl tie noOwnUnsafe
end Go.Proofs.YtlkpeeoippbdoaaDoor
