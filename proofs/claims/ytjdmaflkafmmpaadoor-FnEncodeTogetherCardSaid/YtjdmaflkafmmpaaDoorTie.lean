/-
  DERIVED. GIVEN WITH THE SEED: THE PROGRAM's TIES (one call each: nine closed facts by the kernel) AND EACH ROW's TIE, after the 31st guide's Derived/Test/Toyas{Tie, Card}.lean. No idea stands in it: it is a product of the set-up. Laid BY PROGRAM, IN A SANDBOX (cutbox-door.mjs). By AI agents, Wed Nov 11 2026. No macro, syntax, notation, axiom, sorry.
-/
import Derived.Test.YtjdmaflkafmmpaaDoorRows
import Derived.LaidByTextLater
import Derived.SevenTiedAt
import Derived.LaidSub
import Derived.LaidOnce
namespace Go.Proofs.YtjdmaflkafmmpaaDoor
open Go
set_option maxRecDepth 100000
theorem seatTie1 : Tryd.prog.laidByTextLater [("io.ErrShortWrite", Rows.laid_io_ErrShortWrite), ("bytes.ErrTooLarge", Rows.laid_bytes_ErrTooLarge), ("loop.example/pub-g03022/pub/hpack.ErrStringLength", Rows.laid_loop_example_pub_g03022_pub_hpack_ErrStringLength), ("loop.example/pub-g03022/pub/hpack.errNeedMore", Rows.laid_loop_example_pub_g03022_pub_hpack_errNeedMore), ("loop.example/pub-g03022/pub/hpack.ErrInvalidHuffman", Rows.laid_loop_example_pub_g03022_pub_hpack_ErrInvalidHuffman), ("loop.example/pub-g03022/pub/hpack.huffmanCodes", Rows.laid_loop_example_pub_g03022_pub_hpack_huffmanCodes), ("loop.example/pub-g03022/pub/hpack.huffmanCodeLen", Rows.laid_loop_example_pub_g03022_pub_hpack_huffmanCodeLen)] [.sentinel, .sentinel, .sentinel, .sentinel, .sentinel, .data, .data] true :=
  Program.laidByTextLater_by_one 114 8 257 (by kernel_rfl) (by kernel_rfl) (by kernel_rfl) (by kernel_rfl) (by kernel_rfl) (by kernel_rfl) (fun _ _ => by kernel_rfl)
theorem seatTie2 : Tryd.prog.laidByTextLater [("io.ErrShortWrite", Rows.laid_io_ErrShortWrite), ("loop.example/pub-g03022/pub/hpack.ErrStringLength", Rows.laid_loop_example_pub_g03022_pub_hpack_ErrStringLength), ("loop.example/pub-g03022/pub/hpack.ErrInvalidHuffman", Rows.laid_loop_example_pub_g03022_pub_hpack_ErrInvalidHuffman), ("loop.example/pub-g03022/pub/hpack.huffmanCodes", Rows.laid_loop_example_pub_g03022_pub_hpack_huffmanCodes), ("loop.example/pub-g03022/pub/hpack.huffmanCodeLen", Rows.laid_loop_example_pub_g03022_pub_hpack_huffmanCodeLen)] [.sentinel, .sentinel, .sentinel, .data, .data] true :=
  Program.laidByTextLater_by_one 114 8 257 (by kernel_rfl) (by kernel_rfl) (by kernel_rfl) (by kernel_rfl) (by kernel_rfl) (by kernel_rfl) (fun _ _ => by kernel_rfl)
theorem noOwnUnsafe : Tryd.pinned.checked.prog.headLifts.contains "ownunsafe" = false := by kernel_rfl
theorem tie : Tryd.prog.laidByTextLater [("io.ErrShortWrite", Rows.laid_io_ErrShortWrite), ("bytes.ErrTooLarge", Rows.laid_bytes_ErrTooLarge), ("loop.example/pub-g03022/pub/hpack.ErrStringLength", Rows.laid_loop_example_pub_g03022_pub_hpack_ErrStringLength), ("loop.example/pub-g03022/pub/hpack.errNeedMore", Rows.laid_loop_example_pub_g03022_pub_hpack_errNeedMore), ("loop.example/pub-g03022/pub/hpack.ErrInvalidHuffman", Rows.laid_loop_example_pub_g03022_pub_hpack_ErrInvalidHuffman), ("loop.example/pub-g03022/pub/hpack.huffmanCodes", Rows.laid_loop_example_pub_g03022_pub_hpack_huffmanCodes), ("loop.example/pub-g03022/pub/hpack.huffmanCodeLen", Rows.laid_loop_example_pub_g03022_pub_hpack_huffmanCodeLen)] [.sentinel, .sentinel, .sentinel, .sentinel, .sentinel, .data, .data] true :=
  Program.laidByTextLater.sub seatTie1 ["io.ErrShortWrite", "bytes.ErrTooLarge", "loop.example/pub-g03022/pub/hpack.ErrStringLength", "loop.example/pub-g03022/pub/hpack.errNeedMore", "loop.example/pub-g03022/pub/hpack.ErrInvalidHuffman", "loop.example/pub-g03022/pub/hpack.huffmanCodes", "loop.example/pub-g03022/pub/hpack.huffmanCodeLen"] (by kernel_rfl) (by kernel_rfl)
theorem fnEncodeTogether_row_tie : Rows.fnEncodeTogetherRow.laidByTextAt .later Tryd.pinned [.sentinel, .sentinel, .sentinel, .sentinel, .sentinel, .data, .data] true :=
  OpenClaim.laidByTextAt_later rfl rfl tie noOwnUnsafe
theorem tie2 : Tryd.prog.laidByTextLater [("io.ErrShortWrite", Rows.laid_io_ErrShortWrite), ("loop.example/pub-g03022/pub/hpack.ErrStringLength", Rows.laid_loop_example_pub_g03022_pub_hpack_ErrStringLength), ("loop.example/pub-g03022/pub/hpack.ErrInvalidHuffman", Rows.laid_loop_example_pub_g03022_pub_hpack_ErrInvalidHuffman), ("loop.example/pub-g03022/pub/hpack.huffmanCodes", Rows.laid_loop_example_pub_g03022_pub_hpack_huffmanCodes), ("loop.example/pub-g03022/pub/hpack.huffmanCodeLen", Rows.laid_loop_example_pub_g03022_pub_hpack_huffmanCodeLen)] [.sentinel, .sentinel, .sentinel, .data, .data] true :=
  Program.laidByTextLater.sub seatTie2 ["io.ErrShortWrite", "loop.example/pub-g03022/pub/hpack.ErrStringLength", "loop.example/pub-g03022/pub/hpack.ErrInvalidHuffman", "loop.example/pub-g03022/pub/hpack.huffmanCodes", "loop.example/pub-g03022/pub/hpack.huffmanCodeLen"] (by kernel_rfl) (by kernel_rfl)
theorem fnEncodeOneWrite_row_tie : Rows.fnEncodeOneWriteRow.laidByTextAt .later Tryd.pinned [.sentinel, .sentinel, .sentinel, .data, .data] true :=
  OpenClaim.laidByTextAt_later rfl rfl tie2 noOwnUnsafe
theorem fnEncodeSizes_row_tie : Rows.fnEncodeSizesRow.laidByTextAt .later Tryd.pinned [.sentinel, .sentinel, .sentinel, .data, .data] true :=
  OpenClaim.laidByTextAt_later rfl rfl tie2 noOwnUnsafe
theorem fnEncodeTogetherUpto_row_tie : Rows.fnEncodeTogetherUptoRow.laidByTextAt .later Tryd.pinned [.sentinel, .sentinel, .sentinel, .sentinel, .sentinel, .data, .data] true :=
  OpenClaim.laidByTextAt_later rfl rfl tie noOwnUnsafe
theorem fnEncodeOneWriteUpto_row_tie : Rows.fnEncodeOneWriteUptoRow.laidByTextAt .later Tryd.pinned [.sentinel, .sentinel, .sentinel, .data, .data] true :=
  OpenClaim.laidByTextAt_later rfl rfl tie2 noOwnUnsafe
theorem fnEncodeSizesUpto_row_tie : Rows.fnEncodeSizesUptoRow.laidByTextAt .later Tryd.pinned [.sentinel, .sentinel, .sentinel, .data, .data] true :=
  OpenClaim.laidByTextAt_later rfl rfl tie2 noOwnUnsafe
end Go.Proofs.YtjdmaflkafmmpaaDoor
