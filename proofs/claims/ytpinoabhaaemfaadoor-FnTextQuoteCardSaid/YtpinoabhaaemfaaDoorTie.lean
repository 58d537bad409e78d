/-
  DERIVED. GIVEN WITH THE SEED: THE PROGRAM's TIES (one call each: nine closed facts by the kernel) AND EACH ROW's TIE, after the 31st guide's Derived/Test/Toyas{Tie, Card}.lean. No idea stands in it: it is a product of the set-up. Laid BY PROGRAM, IN A SANDBOX (cutbox-door.mjs). By AI agents, Wed Nov 11 2026. No macro, syntax, notation, axiom, sorry.
-/
import Derived.Test.YtpinoabhaaemfaaDoorRows
import Derived.LaidByTextLater
import Derived.SevenTiedAt
import Derived.LaidSub
import Derived.LaidOnce
namespace Go.Proofs.YtpinoabhaaemfaaDoor
open Go
set_option maxRecDepth 100000
theorem seatTie1 : Tryd.prog.laidByTextLater [("unicode/utf8.acceptRanges", Rows.laid_unicode_utf8_acceptRanges), ("bytes.ErrTooLarge", Rows.laid_bytes_ErrTooLarge), ("pub-gunnysack/pub/bson.safeSet", Rows.laid_pub_gunnysack_pub_bson_safeSet), ("pub-gunnysack/pub/bson.htmlSafeSet", Rows.laid_pub_gunnysack_pub_bson_htmlSafeSet)] [.data, .sentinel, .data, .data] true :=
  Program.laidByTextLater_by_one 58 8 129 (by kernel_rfl) (by kernel_rfl) (by kernel_rfl) (by kernel_rfl) (by kernel_rfl) (by kernel_rfl) (fun _ _ => by kernel_rfl)
theorem seatTie2 : Tryd.prog.laidByTextLater [("unicode/utf8.acceptRanges", Rows.laid_unicode_utf8_acceptRanges), ("bytes.ErrTooLarge", Rows.laid_bytes_ErrTooLarge), ("pub-gunnysack/pub/bsoncore.safeSet", Rows.laid_pub_gunnysack_pub_bsoncore_safeSet), ("pub-gunnysack/pub/bsoncore.htmlSafeSet", Rows.laid_pub_gunnysack_pub_bsoncore_htmlSafeSet), ("pub-gunnysack/pub/bson.safeSet", Rows.laid_pub_gunnysack_pub_bson_safeSet), ("pub-gunnysack/pub/bson.htmlSafeSet", Rows.laid_pub_gunnysack_pub_bson_htmlSafeSet)] [.data, .sentinel, .data, .data, .data, .data] true :=
  Program.laidByTextLater_by_one 58 8 129 (by kernel_rfl) (by kernel_rfl) (by kernel_rfl) (by kernel_rfl) (by kernel_rfl) (by kernel_rfl) (fun _ _ => by kernel_rfl)
theorem pin_laid_unicode_utf8_first : Tryd.pinned.checked.prog.pinnedFits "unicode/utf8.first" = true := by kernel_rfl
theorem noOwnUnsafe : Tryd.pinned.checked.prog.headLifts.contains "ownunsafe" = false := by kernel_rfl
theorem fits1 : Tryd.pinned.checked.prog.listedFits [("unicode/utf8.acceptRanges", Rows.laid_unicode_utf8_acceptRanges), ("bytes.ErrTooLarge", Rows.laid_bytes_ErrTooLarge), ("pub-gunnysack/pub/bson.safeSet", Rows.laid_pub_gunnysack_pub_bson_safeSet), ("pub-gunnysack/pub/bson.htmlSafeSet", Rows.laid_pub_gunnysack_pub_bson_htmlSafeSet), ("unicode/utf8.first", Rows.laid_unicode_utf8_first)] = true := by
  unfold Program.listedFits
  rw [noOwnUnsafe]
  kernel_rfl
theorem tie : Tryd.prog.laidByTextLater [("unicode/utf8.acceptRanges", Rows.laid_unicode_utf8_acceptRanges), ("bytes.ErrTooLarge", Rows.laid_bytes_ErrTooLarge), ("pub-gunnysack/pub/bson.safeSet", Rows.laid_pub_gunnysack_pub_bson_safeSet), ("pub-gunnysack/pub/bson.htmlSafeSet", Rows.laid_pub_gunnysack_pub_bson_htmlSafeSet)] [.data, .sentinel, .data, .data] true :=
  Program.laidByTextLater.sub seatTie1 ["unicode/utf8.acceptRanges", "bytes.ErrTooLarge", "pub-gunnysack/pub/bson.safeSet", "pub-gunnysack/pub/bson.htmlSafeSet"] (by kernel_rfl) (by kernel_rfl)
theorem fnExtQuoteText_row_tie : Rows.fnExtQuoteTextRow.laidByTextAt .later Tryd.pinned [.data, .sentinel, .data, .data, .pinned] true :=
  OpenClaim.laidByTextAt_pinned rfl rfl tie rfl rfl rfl rfl (fun y hy _e => by
    simp only [Rows.fnExtQuoteTextRow, List.zip_cons_cons, List.zip_nil_right, List.mem_cons, List.mem_nil_iff, or_false] at hy
    rcases hy with rfl | rfl | rfl | rfl | rfl
    · cases _e
    · cases _e
    · cases _e
    · cases _e
    · exact ⟨pin_laid_unicode_utf8_first, by kernel_rfl⟩) fits1
theorem fits2 : Tryd.pinned.checked.prog.listedFits [("unicode/utf8.acceptRanges", Rows.laid_unicode_utf8_acceptRanges), ("bytes.ErrTooLarge", Rows.laid_bytes_ErrTooLarge), ("pub-gunnysack/pub/bsoncore.safeSet", Rows.laid_pub_gunnysack_pub_bsoncore_safeSet), ("pub-gunnysack/pub/bsoncore.htmlSafeSet", Rows.laid_pub_gunnysack_pub_bsoncore_htmlSafeSet), ("pub-gunnysack/pub/bson.safeSet", Rows.laid_pub_gunnysack_pub_bson_safeSet), ("pub-gunnysack/pub/bson.htmlSafeSet", Rows.laid_pub_gunnysack_pub_bson_htmlSafeSet), ("unicode/utf8.first", Rows.laid_unicode_utf8_first)] = true := by
  unfold Program.listedFits
  rw [noOwnUnsafe]
  kernel_rfl
theorem tie2 : Tryd.prog.laidByTextLater [("unicode/utf8.acceptRanges", Rows.laid_unicode_utf8_acceptRanges), ("bytes.ErrTooLarge", Rows.laid_bytes_ErrTooLarge), ("pub-gunnysack/pub/bsoncore.safeSet", Rows.laid_pub_gunnysack_pub_bsoncore_safeSet), ("pub-gunnysack/pub/bsoncore.htmlSafeSet", Rows.laid_pub_gunnysack_pub_bsoncore_htmlSafeSet), ("pub-gunnysack/pub/bson.safeSet", Rows.laid_pub_gunnysack_pub_bson_safeSet), ("pub-gunnysack/pub/bson.htmlSafeSet", Rows.laid_pub_gunnysack_pub_bson_htmlSafeSet)] [.data, .sentinel, .data, .data, .data, .data] true :=
  Program.laidByTextLater.sub seatTie2 ["unicode/utf8.acceptRanges", "bytes.ErrTooLarge", "pub-gunnysack/pub/bsoncore.safeSet", "pub-gunnysack/pub/bsoncore.htmlSafeSet", "pub-gunnysack/pub/bson.safeSet", "pub-gunnysack/pub/bson.htmlSafeSet"] (by kernel_rfl) (by kernel_rfl)
theorem fnTextQuote_row_tie : Rows.fnTextQuoteRow.laidByTextAt .later Tryd.pinned [.data, .sentinel, .data, .data, .data, .data, .pinned] true :=
  OpenClaim.laidByTextAt_pinned rfl rfl tie2 rfl rfl rfl rfl (fun y hy _e => by
    simp only [Rows.fnTextQuoteRow, List.zip_cons_cons, List.zip_nil_right, List.mem_cons, List.mem_nil_iff, or_false] at hy
    rcases hy with rfl | rfl | rfl | rfl | rfl | rfl | rfl
    · cases _e
    · cases _e
    · cases _e
    · cases _e
    · cases _e
    · cases _e
    · exact ⟨pin_laid_unicode_utf8_first, by kernel_rfl⟩) fits2
theorem fnExtQuoteTextUpto_row_tie : Rows.fnExtQuoteTextUptoRow.laidByTextAt .later Tryd.pinned [.data, .sentinel, .data, .data, .pinned] true :=
  OpenClaim.laidByTextAt_pinned rfl rfl tie rfl rfl rfl rfl (fun y hy _e => by
    simp only [Rows.fnExtQuoteTextUptoRow, List.zip_cons_cons, List.zip_nil_right, List.mem_cons, List.mem_nil_iff, or_false] at hy
    rcases hy with rfl | rfl | rfl | rfl | rfl
    · cases _e
    · cases _e
    · cases _e
    · cases _e
    · exact ⟨pin_laid_unicode_utf8_first, by kernel_rfl⟩) fits1
theorem fnTextQuoteUpto_row_tie : Rows.fnTextQuoteUptoRow.laidByTextAt .later Tryd.pinned [.data, .sentinel, .data, .data, .data, .data, .pinned] true :=
  OpenClaim.laidByTextAt_pinned rfl rfl tie2 rfl rfl rfl rfl (fun y hy _e => by
    simp only [Rows.fnTextQuoteUptoRow, List.zip_cons_cons, List.zip_nil_right, List.mem_cons, List.mem_nil_iff, or_false] at hy
    rcases hy with rfl | rfl | rfl | rfl | rfl | rfl | rfl
    · cases _e
    · cases _e
    · cases _e
    · cases _e
    · cases _e
    · cases _e
    · exact ⟨pin_laid_unicode_utf8_first, by kernel_rfl⟩) fits2
end Go.Proofs.YtpinoabhaaemfaaDoor
