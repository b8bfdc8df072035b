/-
  DERIVED. GIVEN WITH THE SEED: THE PROGRAM's TIES (one call each: nine closed facts by the kernel) AND EACH ROW's TIE, after the 31st guide's Derived/Test/Toyas{Tie, Card}.lean. No idea stands in it: it is a product of the set-up. Laid BY PROGRAM, IN A SANDBOX (cutbox-door.mjs). By AI agents, Wed Nov 11 2026. No macro, syntax, notation, axiom, sorry.
-/
import Derived.Test.YtkbegfihdpiacaaDoorRows
import Derived.LaidByTextLater
import Derived.SevenTiedAt
import Derived.LaidSub
import Derived.LaidOnce
namespace Go.Proofs.YtkbegfihdpiacaaDoor
open Go
set_option maxRecDepth 100000
theorem seatTie1 : Tryd.prog.laidByTextLater [("unicode/utf8.acceptRanges", Rows.laid_unicode_utf8_acceptRanges), ("unicode.White_Space", Rows.laid_unicode_White_Space), ("bytes.ErrTooLarge", Rows.laid_bytes_ErrTooLarge), ("loop.example/pub-notesandsignatures/pub/sumdbnote.errMalformedNote", Rows.laid_loop_example_pub_notesandsignatures_pub_sumdbnote_errMalformedNote), ("loop.example/pub-notesandsignatures/pub/sumdbnote.errInvalidSigner", Rows.laid_loop_example_pub_notesandsignatures_pub_sumdbnote_errInvalidSigner), ("loop.example/pub-notesandsignatures/pub/sumdbnote.errMismatchedVerifier", Rows.laid_loop_example_pub_notesandsignatures_pub_sumdbnote_errMismatchedVerifier)] [.data, .listed, .sentinel, .sentinel, .sentinel, .sentinel] true :=
  Program.laidByTextLater_by_one 114 8 33 (by kernel_rfl) (by kernel_rfl) (by kernel_rfl) (by kernel_rfl) (by kernel_rfl) (by kernel_rfl) (fun _ _ => by kernel_rfl)
theorem pin_laid_unicode_utf8_first : Tryd.pinned.checked.prog.pinnedFits "unicode/utf8.first" = true := by kernel_rfl
theorem noOwnUnsafe : Tryd.pinned.checked.prog.headLifts.contains "ownunsafe" = false := by kernel_rfl
theorem fits1 : Tryd.pinned.checked.prog.listedFits [("unicode/utf8.acceptRanges", Rows.laid_unicode_utf8_acceptRanges), ("unicode.White_Space", Rows.laid_unicode_White_Space), ("loop.example/pub-notesandsignatures/pub/sumdbnote.errMalformedNote", Rows.laid_loop_example_pub_notesandsignatures_pub_sumdbnote_errMalformedNote), ("loop.example/pub-notesandsignatures/pub/sumdbnote.errMismatchedVerifier", Rows.laid_loop_example_pub_notesandsignatures_pub_sumdbnote_errMismatchedVerifier), ("unicode/utf8.first", Rows.laid_unicode_utf8_first)] = true := by
  unfold Program.listedFits
  rw [noOwnUnsafe]
  kernel_rfl
theorem tie : Tryd.prog.laidByTextLater [("unicode/utf8.acceptRanges", Rows.laid_unicode_utf8_acceptRanges), ("unicode.White_Space", Rows.laid_unicode_White_Space), ("loop.example/pub-notesandsignatures/pub/sumdbnote.errMalformedNote", Rows.laid_loop_example_pub_notesandsignatures_pub_sumdbnote_errMalformedNote), ("loop.example/pub-notesandsignatures/pub/sumdbnote.errMismatchedVerifier", Rows.laid_loop_example_pub_notesandsignatures_pub_sumdbnote_errMismatchedVerifier)] [.data, .listed, .sentinel, .sentinel] true :=
  Program.laidByTextLater.sub seatTie1 ["unicode/utf8.acceptRanges", "unicode.White_Space", "loop.example/pub-notesandsignatures/pub/sumdbnote.errMalformedNote", "loop.example/pub-notesandsignatures/pub/sumdbnote.errMismatchedVerifier"] (by kernel_rfl) (by kernel_rfl)
theorem fnMoreKeys_row_tie : Rows.fnMoreKeysRow.laidByTextAt .later Tryd.pinned [.data, .listed, .sentinel, .sentinel, .pinned] true :=
  OpenClaim.laidByTextAt_pinned rfl rfl tie rfl rfl rfl rfl (fun y hy _e => by
    simp only [Rows.fnMoreKeysRow, List.zip_cons_cons, List.zip_nil_right, List.mem_cons, List.mem_nil_iff, or_false] at hy
    rcases hy with rfl | rfl | rfl | rfl | rfl
    · cases _e
    · cases _e
    · cases _e
    · cases _e
    · exact ⟨pin_laid_unicode_utf8_first, by kernel_rfl⟩) fits1
theorem fnOpen_row_tie : Rows.fnOpenRow.laidByTextAt .later Tryd.pinned [.data, .listed, .sentinel, .sentinel, .pinned] true :=
  OpenClaim.laidByTextAt_pinned rfl rfl tie rfl rfl rfl rfl (fun y hy _e => by
    simp only [Rows.fnOpenRow, List.zip_cons_cons, List.zip_nil_right, List.mem_cons, List.mem_nil_iff, or_false] at hy
    rcases hy with rfl | rfl | rfl | rfl | rfl
    · cases _e
    · cases _e
    · cases _e
    · cases _e
    · exact ⟨pin_laid_unicode_utf8_first, by kernel_rfl⟩) fits1
theorem fnOpenKind_row_tie : Rows.fnOpenKindRow.laidByTextAt .later Tryd.pinned [.data, .listed, .sentinel, .sentinel, .pinned] true :=
  OpenClaim.laidByTextAt_pinned rfl rfl tie rfl rfl rfl rfl (fun y hy _e => by
    simp only [Rows.fnOpenKindRow, List.zip_cons_cons, List.zip_nil_right, List.mem_cons, List.mem_nil_iff, or_false] at hy
    rcases hy with rfl | rfl | rfl | rfl | rfl
    · cases _e
    · cases _e
    · cases _e
    · cases _e
    · exact ⟨pin_laid_unicode_utf8_first, by kernel_rfl⟩) fits1
theorem fits2 : Tryd.pinned.checked.prog.listedFits [("unicode/utf8.acceptRanges", Rows.laid_unicode_utf8_acceptRanges), ("unicode.White_Space", Rows.laid_unicode_White_Space), ("bytes.ErrTooLarge", Rows.laid_bytes_ErrTooLarge), ("loop.example/pub-notesandsignatures/pub/sumdbnote.errMalformedNote", Rows.laid_loop_example_pub_notesandsignatures_pub_sumdbnote_errMalformedNote), ("loop.example/pub-notesandsignatures/pub/sumdbnote.errInvalidSigner", Rows.laid_loop_example_pub_notesandsignatures_pub_sumdbnote_errInvalidSigner), ("loop.example/pub-notesandsignatures/pub/sumdbnote.errMismatchedVerifier", Rows.laid_loop_example_pub_notesandsignatures_pub_sumdbnote_errMismatchedVerifier), ("unicode/utf8.first", Rows.laid_unicode_utf8_first)] = true := by
  unfold Program.listedFits
  rw [noOwnUnsafe]
  kernel_rfl
theorem tie2 : Tryd.prog.laidByTextLater [("unicode/utf8.acceptRanges", Rows.laid_unicode_utf8_acceptRanges), ("unicode.White_Space", Rows.laid_unicode_White_Space), ("bytes.ErrTooLarge", Rows.laid_bytes_ErrTooLarge), ("loop.example/pub-notesandsignatures/pub/sumdbnote.errMalformedNote", Rows.laid_loop_example_pub_notesandsignatures_pub_sumdbnote_errMalformedNote), ("loop.example/pub-notesandsignatures/pub/sumdbnote.errInvalidSigner", Rows.laid_loop_example_pub_notesandsignatures_pub_sumdbnote_errInvalidSigner), ("loop.example/pub-notesandsignatures/pub/sumdbnote.errMismatchedVerifier", Rows.laid_loop_example_pub_notesandsignatures_pub_sumdbnote_errMismatchedVerifier)] [.data, .listed, .sentinel, .sentinel, .sentinel, .sentinel] true :=
  Program.laidByTextLater.sub seatTie1 ["unicode/utf8.acceptRanges", "unicode.White_Space", "bytes.ErrTooLarge", "loop.example/pub-notesandsignatures/pub/sumdbnote.errMalformedNote", "loop.example/pub-notesandsignatures/pub/sumdbnote.errInvalidSigner", "loop.example/pub-notesandsignatures/pub/sumdbnote.errMismatchedVerifier"] (by kernel_rfl) (by kernel_rfl)
theorem fnSignNothing_row_tie : Rows.fnSignNothingRow.laidByTextAt .later Tryd.pinned [.data, .listed, .sentinel, .sentinel, .sentinel, .sentinel, .pinned] true :=
  OpenClaim.laidByTextAt_pinned rfl rfl tie2 rfl rfl rfl rfl (fun y hy _e => by
    simp only [Rows.fnSignNothingRow, List.zip_cons_cons, List.zip_nil_right, List.mem_cons, List.mem_nil_iff, or_false] at hy
    rcases hy with rfl | rfl | rfl | rfl | rfl | rfl | rfl
    · cases _e
    · cases _e
    · cases _e
    · cases _e
    · cases _e
    · cases _e
    · exact ⟨pin_laid_unicode_utf8_first, by kernel_rfl⟩) fits2
theorem fnMoreKeysUpto_row_tie : Rows.fnMoreKeysUptoRow.laidByTextAt .later Tryd.pinned [.data, .listed, .sentinel, .sentinel, .pinned] true :=
  OpenClaim.laidByTextAt_pinned rfl rfl tie rfl rfl rfl rfl (fun y hy _e => by
    simp only [Rows.fnMoreKeysUptoRow, List.zip_cons_cons, List.zip_nil_right, List.mem_cons, List.mem_nil_iff, or_false] at hy
    rcases hy with rfl | rfl | rfl | rfl | rfl
    · cases _e
    · cases _e
    · cases _e
    · cases _e
    · exact ⟨pin_laid_unicode_utf8_first, by kernel_rfl⟩) fits1
theorem fnOpenUpto_row_tie : Rows.fnOpenUptoRow.laidByTextAt .later Tryd.pinned [.data, .listed, .sentinel, .sentinel, .pinned] true :=
  OpenClaim.laidByTextAt_pinned rfl rfl tie rfl rfl rfl rfl (fun y hy _e => by
    simp only [Rows.fnOpenUptoRow, List.zip_cons_cons, List.zip_nil_right, List.mem_cons, List.mem_nil_iff, or_false] at hy
    rcases hy with rfl | rfl | rfl | rfl | rfl
    · cases _e
    · cases _e
    · cases _e
    · cases _e
    · exact ⟨pin_laid_unicode_utf8_first, by kernel_rfl⟩) fits1
theorem fnOpenKindUpto_row_tie : Rows.fnOpenKindUptoRow.laidByTextAt .later Tryd.pinned [.data, .listed, .sentinel, .sentinel, .pinned] true :=
  OpenClaim.laidByTextAt_pinned rfl rfl tie rfl rfl rfl rfl (fun y hy _e => by
    simp only [Rows.fnOpenKindUptoRow, List.zip_cons_cons, List.zip_nil_right, List.mem_cons, List.mem_nil_iff, or_false] at hy
    rcases hy with rfl | rfl | rfl | rfl | rfl
    · cases _e
    · cases _e
    · cases _e
    · cases _e
    · exact ⟨pin_laid_unicode_utf8_first, by kernel_rfl⟩) fits1
theorem fnSignNothingUpto_row_tie : Rows.fnSignNothingUptoRow.laidByTextAt .later Tryd.pinned [.data, .listed, .sentinel, .sentinel, .sentinel, .sentinel, .pinned] true :=
  OpenClaim.laidByTextAt_pinned rfl rfl tie2 rfl rfl rfl rfl (fun y hy _e => by
    simp only [Rows.fnSignNothingUptoRow, List.zip_cons_cons, List.zip_nil_right, List.mem_cons, List.mem_nil_iff, or_false] at hy
    rcases hy with rfl | rfl | rfl | rfl | rfl | rfl | rfl
    · cases _e
    · cases _e
    · cases _e
    · cases _e
    · cases _e
    · cases _e
    · exact ⟨pin_laid_unicode_utf8_first, by kernel_rfl⟩) fits2
end Go.Proofs.YtkbegfihdpiacaaDoor
