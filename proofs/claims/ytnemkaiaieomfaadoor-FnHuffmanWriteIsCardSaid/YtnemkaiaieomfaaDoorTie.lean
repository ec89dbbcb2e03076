/-
  DERIVED. GIVEN WITH THE SEED: THE PROGRAM's TIES (one call each: nine closed facts by the kernel) AND EACH ROW's TIE, after the 31st guide's Derived/Test/Toyas{Tie, Card}.lean. No idea stands in it: it is a product of the set-up. Laid BY PROGRAM, IN A SANDBOX (cutbox-door.mjs). By AI agents, Wed Nov 11 2026. No macro, syntax, notation, axiom, sorry.
-/
import Derived.Test.YtnemkaiaieomfaaDoorRows
import Derived.LaidByTextLater
import Derived.SevenTiedAt
import Derived.LaidSub
import Derived.LaidOnce
namespace Go.Proofs.YtnemkaiaieomfaaDoor
open Go
set_option maxRecDepth 100000
theorem seatTie1 : Tryd.prog.laidByTextLater [("loop.example/pub-g03022/pub/hpack.huffmanCodes", Rows.laid_loop_example_pub_g03022_pub_hpack_huffmanCodes), ("loop.example/pub-g03022/pub/hpack.huffmanCodeLen", Rows.laid_loop_example_pub_g03022_pub_hpack_huffmanCodeLen)] [.data, .data] true :=
  Program.laidByTextLater_by_one 76 8 257 (by kernel_rfl) (by kernel_rfl) (by kernel_rfl) (by kernel_rfl) (by kernel_rfl) (by kernel_rfl) (fun _ _ => by kernel_rfl)
theorem seatTie2 : Tryd.prog.laidByTextLater [("bytes.ErrTooLarge", Rows.laid_bytes_ErrTooLarge), ("loop.example/pub-g03022/pub/hpack.ErrStringLength", Rows.laid_loop_example_pub_g03022_pub_hpack_ErrStringLength), ("loop.example/pub-g03022/pub/hpack.ErrInvalidHuffman", Rows.laid_loop_example_pub_g03022_pub_hpack_ErrInvalidHuffman), ("loop.example/pub-g03022/pub/hpack.huffmanCodes", Rows.laid_loop_example_pub_g03022_pub_hpack_huffmanCodes), ("loop.example/pub-g03022/pub/hpack.huffmanCodeLen", Rows.laid_loop_example_pub_g03022_pub_hpack_huffmanCodeLen)] [.sentinel, .sentinel, .sentinel, .data, .data] true :=
  Program.laidByTextLater_by_one 76 8 257 (by kernel_rfl) (by kernel_rfl) (by kernel_rfl) (by kernel_rfl) (by kernel_rfl) (by kernel_rfl) (fun _ _ => by kernel_rfl)
theorem noOwnUnsafe : Tryd.pinned.checked.prog.headLifts.contains "ownunsafe" = false := by kernel_rfl
theorem tie : Tryd.prog.laidByTextLater [("loop.example/pub-g03022/pub/hpack.huffmanCodes", Rows.laid_loop_example_pub_g03022_pub_hpack_huffmanCodes), ("loop.example/pub-g03022/pub/hpack.huffmanCodeLen", Rows.laid_loop_example_pub_g03022_pub_hpack_huffmanCodeLen)] [.data, .data] true :=
  Program.laidByTextLater.sub seatTie1 ["loop.example/pub-g03022/pub/hpack.huffmanCodes", "loop.example/pub-g03022/pub/hpack.huffmanCodeLen"] (by kernel_rfl) (by kernel_rfl)
theorem fnHuffmanJoin_row_tie : Rows.fnHuffmanJoinRow.laidByTextAt .later Tryd.pinned [.data, .data] true :=
  OpenClaim.laidByTextAt_later rfl rfl tie noOwnUnsafe
theorem tie2 : Tryd.prog.laidByTextLater [("bytes.ErrTooLarge", Rows.laid_bytes_ErrTooLarge), ("loop.example/pub-g03022/pub/hpack.ErrStringLength", Rows.laid_loop_example_pub_g03022_pub_hpack_ErrStringLength), ("loop.example/pub-g03022/pub/hpack.ErrInvalidHuffman", Rows.laid_loop_example_pub_g03022_pub_hpack_ErrInvalidHuffman), ("loop.example/pub-g03022/pub/hpack.huffmanCodes", Rows.laid_loop_example_pub_g03022_pub_hpack_huffmanCodes), ("loop.example/pub-g03022/pub/hpack.huffmanCodeLen", Rows.laid_loop_example_pub_g03022_pub_hpack_huffmanCodeLen)] [.sentinel, .sentinel, .sentinel, .data, .data] true :=
  Program.laidByTextLater.sub seatTie2 ["bytes.ErrTooLarge", "loop.example/pub-g03022/pub/hpack.ErrStringLength", "loop.example/pub-g03022/pub/hpack.ErrInvalidHuffman", "loop.example/pub-g03022/pub/hpack.huffmanCodes", "loop.example/pub-g03022/pub/hpack.huffmanCodeLen"] (by kernel_rfl) (by kernel_rfl)
theorem fnHuffmanBack_row_tie : Rows.fnHuffmanBackRow.laidByTextAt .later Tryd.pinned [.sentinel, .sentinel, .sentinel, .data, .data] true :=
  OpenClaim.laidByTextAt_later rfl rfl tie2 noOwnUnsafe
theorem fnHuffmanForth_row_tie : Rows.fnHuffmanForthRow.laidByTextAt .later Tryd.pinned [.sentinel, .sentinel, .sentinel, .data, .data] true :=
  OpenClaim.laidByTextAt_later rfl rfl tie2 noOwnUnsafe
theorem fnHuffmanWriteIs_row_tie : Rows.fnHuffmanWriteIsRow.laidByTextAt .later Tryd.pinned [.sentinel, .sentinel, .sentinel, .data, .data] true :=
  OpenClaim.laidByTextAt_later rfl rfl tie2 noOwnUnsafe
theorem fnHuffmanJoinUpto_row_tie : Rows.fnHuffmanJoinUptoRow.laidByTextAt .later Tryd.pinned [.data, .data] true :=
  OpenClaim.laidByTextAt_later rfl rfl tie noOwnUnsafe
theorem fnHuffmanBackUpto_row_tie : Rows.fnHuffmanBackUptoRow.laidByTextAt .later Tryd.pinned [.sentinel, .sentinel, .sentinel, .data, .data] true :=
  OpenClaim.laidByTextAt_later rfl rfl tie2 noOwnUnsafe
theorem fnHuffmanForthUpto_row_tie : Rows.fnHuffmanForthUptoRow.laidByTextAt .later Tryd.pinned [.sentinel, .sentinel, .sentinel, .data, .data] true :=
  OpenClaim.laidByTextAt_later rfl rfl tie2 noOwnUnsafe
theorem fnHuffmanWriteIsUpto_row_tie : Rows.fnHuffmanWriteIsUptoRow.laidByTextAt .later Tryd.pinned [.sentinel, .sentinel, .sentinel, .data, .data] true :=
  OpenClaim.laidByTextAt_later rfl rfl tie2 noOwnUnsafe
end Go.Proofs.YtnemkaiaieomfaaDoor
