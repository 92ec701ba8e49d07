/-
  DERIVED. GIVEN WITH THE SEED: THE PROGRAM's TIES (one call each: nine closed facts by the kernel) AND EACH ROW's TIE, after the 31st guide's Derived/Test/Toyas{Tie, Card}.lean. No idea stands in it: it is a product of the set-up. Laid BY PROGRAM, IN A SANDBOX (cutbox-door.mjs). By AI agents, Wed Nov 11 2026. No macro, syntax, notation, axiom, sorry.
-/
import Derived.Test.YtcllaplddebilaaGreatDoorRows
import Derived.LaidByTextLater
import Derived.SevenTiedAt
import Derived.LaidSub
import Derived.LaidOnce
namespace Go.Proofs.YtcllaplddebilaaGreatDoor
open Go
set_option maxRecDepth 100000
theorem seatTie1 : Tryz.prog.laidByTextLater [("math/bits.deBruijn32tab", Rows.laid_math_bits_deBruijn32tab), ("math/bits.deBruijn64tab", Rows.laid_math_bits_deBruijn64tab), ("internal/strconv.uint64pow10", Rows.laid_internal_strconv_uint64pow10), ("unicode/utf8.acceptRanges", Rows.laid_unicode_utf8_acceptRanges), ("given.example/pub-calendrier/pub/ztime.errBad", Rows.laid_given_example_pub_calendrier_pub_ztime_errBad), ("given.example/pub-calendrier/pub/ztime.errAtoi", Rows.laid_given_example_pub_calendrier_pub_ztime_errAtoi), ("given.example/pub-calendrier/pub/ztime.errLeadingInt", Rows.laid_given_example_pub_calendrier_pub_ztime_errLeadingInt), ("given.example/pub-calendrier/pub/ztime.std0x", Rows.laid_given_example_pub_calendrier_pub_ztime_std0x), ("given.example/pub-calendrier/pub/ztime.longDayNames", Rows.laid_given_example_pub_calendrier_pub_ztime_longDayNames), ("given.example/pub-calendrier/pub/ztime.longMonthNames", Rows.laid_given_example_pub_calendrier_pub_ztime_longMonthNames), ("strconv.ErrRange", Rows.laid_strconv_ErrRange), ("strconv.ErrSyntax", Rows.laid_strconv_ErrSyntax), ("io.EOF", Rows.laid_io_EOF), ("io.ErrNoProgress", Rows.laid_io_ErrNoProgress), ("bufio.ErrInvalidUnreadRune", Rows.laid_bufio_ErrInvalidUnreadRune), ("bufio.ErrBufferFull", Rows.laid_bufio_ErrBufferFull), ("bufio.errNegativeRead", Rows.laid_bufio_errNegativeRead), ("given.example/pub-calendrier/pub/rrule.MO", Rows.laid_given_example_pub_calendrier_pub_rrule_MO), ("given.example/pub-calendrier/pub/rrule.TU", Rows.laid_given_example_pub_calendrier_pub_rrule_TU), ("given.example/pub-calendrier/pub/rrule.WE", Rows.laid_given_example_pub_calendrier_pub_rrule_WE), ("given.example/pub-calendrier/pub/rrule.TH", Rows.laid_given_example_pub_calendrier_pub_rrule_TH), ("given.example/pub-calendrier/pub/rrule.FR", Rows.laid_given_example_pub_calendrier_pub_rrule_FR), ("given.example/pub-calendrier/pub/rrule.SA", Rows.laid_given_example_pub_calendrier_pub_rrule_SA), ("given.example/pub-calendrier/pub/rrule.SU", Rows.laid_given_example_pub_calendrier_pub_rrule_SU), ("given.example/pub-calendrier/pub/goical.defaultValueTypes", Rows.laid_given_example_pub_calendrier_pub_goical_defaultValueTypes)] [.data, .data, .data, .data, .sentinel, .sentinel, .sentinel, .data, .widerDeep, .widerDeep, .sentinel, .sentinel, .sentinel, .sentinel, .sentinel, .sentinel, .sentinel, .data, .data, .data, .data, .data, .data, .data, .mapped] true :=
  Program.laidByTextLater_by_one 539 8 65 (by kernel_rfl) (by kernel_rfl) (by kernel_rfl) (by kernel_rfl) (by kernel_rfl) (by kernel_rfl) (fun _ _ => by kernel_rfl)
theorem pin_laid_unicode_utf8_first : Tryz.pinned.checked.prog.pinnedFits "unicode/utf8.first" = true := by kernel_rfl
theorem noOwnUnsafe : Tryz.pinned.checked.prog.headLifts.contains "ownunsafe" = false := by kernel_rfl
theorem fits1 : Tryz.pinned.checked.prog.listedFits [("math/bits.deBruijn32tab", Rows.laid_math_bits_deBruijn32tab), ("math/bits.deBruijn64tab", Rows.laid_math_bits_deBruijn64tab), ("internal/strconv.uint64pow10", Rows.laid_internal_strconv_uint64pow10), ("unicode/utf8.acceptRanges", Rows.laid_unicode_utf8_acceptRanges), ("given.example/pub-calendrier/pub/ztime.errBad", Rows.laid_given_example_pub_calendrier_pub_ztime_errBad), ("given.example/pub-calendrier/pub/ztime.errAtoi", Rows.laid_given_example_pub_calendrier_pub_ztime_errAtoi), ("given.example/pub-calendrier/pub/ztime.errLeadingInt", Rows.laid_given_example_pub_calendrier_pub_ztime_errLeadingInt), ("given.example/pub-calendrier/pub/ztime.std0x", Rows.laid_given_example_pub_calendrier_pub_ztime_std0x), ("given.example/pub-calendrier/pub/ztime.longDayNames", Rows.laid_given_example_pub_calendrier_pub_ztime_longDayNames), ("given.example/pub-calendrier/pub/ztime.longMonthNames", Rows.laid_given_example_pub_calendrier_pub_ztime_longMonthNames), ("strconv.ErrRange", Rows.laid_strconv_ErrRange), ("strconv.ErrSyntax", Rows.laid_strconv_ErrSyntax), ("io.EOF", Rows.laid_io_EOF), ("io.ErrNoProgress", Rows.laid_io_ErrNoProgress), ("bufio.ErrInvalidUnreadRune", Rows.laid_bufio_ErrInvalidUnreadRune), ("bufio.ErrBufferFull", Rows.laid_bufio_ErrBufferFull), ("bufio.errNegativeRead", Rows.laid_bufio_errNegativeRead), ("given.example/pub-calendrier/pub/rrule.MO", Rows.laid_given_example_pub_calendrier_pub_rrule_MO), ("given.example/pub-calendrier/pub/rrule.TU", Rows.laid_given_example_pub_calendrier_pub_rrule_TU), ("given.example/pub-calendrier/pub/rrule.WE", Rows.laid_given_example_pub_calendrier_pub_rrule_WE), ("given.example/pub-calendrier/pub/rrule.TH", Rows.laid_given_example_pub_calendrier_pub_rrule_TH), ("given.example/pub-calendrier/pub/rrule.FR", Rows.laid_given_example_pub_calendrier_pub_rrule_FR), ("given.example/pub-calendrier/pub/rrule.SA", Rows.laid_given_example_pub_calendrier_pub_rrule_SA), ("given.example/pub-calendrier/pub/rrule.SU", Rows.laid_given_example_pub_calendrier_pub_rrule_SU), ("given.example/pub-calendrier/pub/goical.defaultValueTypes", Rows.laid_given_example_pub_calendrier_pub_goical_defaultValueTypes), ("unicode/utf8.first", Rows.laid_unicode_utf8_first)] = true := by
  unfold Program.listedFits
  rw [noOwnUnsafe]
  kernel_rfl
theorem tie : Tryz.prog.laidByTextLater [("math/bits.deBruijn32tab", Rows.laid_math_bits_deBruijn32tab), ("math/bits.deBruijn64tab", Rows.laid_math_bits_deBruijn64tab), ("internal/strconv.uint64pow10", Rows.laid_internal_strconv_uint64pow10), ("unicode/utf8.acceptRanges", Rows.laid_unicode_utf8_acceptRanges), ("given.example/pub-calendrier/pub/ztime.errBad", Rows.laid_given_example_pub_calendrier_pub_ztime_errBad), ("given.example/pub-calendrier/pub/ztime.errAtoi", Rows.laid_given_example_pub_calendrier_pub_ztime_errAtoi), ("given.example/pub-calendrier/pub/ztime.errLeadingInt", Rows.laid_given_example_pub_calendrier_pub_ztime_errLeadingInt), ("given.example/pub-calendrier/pub/ztime.std0x", Rows.laid_given_example_pub_calendrier_pub_ztime_std0x), ("given.example/pub-calendrier/pub/ztime.longDayNames", Rows.laid_given_example_pub_calendrier_pub_ztime_longDayNames), ("given.example/pub-calendrier/pub/ztime.longMonthNames", Rows.laid_given_example_pub_calendrier_pub_ztime_longMonthNames), ("strconv.ErrRange", Rows.laid_strconv_ErrRange), ("strconv.ErrSyntax", Rows.laid_strconv_ErrSyntax), ("io.EOF", Rows.laid_io_EOF), ("io.ErrNoProgress", Rows.laid_io_ErrNoProgress), ("bufio.ErrInvalidUnreadRune", Rows.laid_bufio_ErrInvalidUnreadRune), ("bufio.ErrBufferFull", Rows.laid_bufio_ErrBufferFull), ("bufio.errNegativeRead", Rows.laid_bufio_errNegativeRead), ("given.example/pub-calendrier/pub/rrule.MO", Rows.laid_given_example_pub_calendrier_pub_rrule_MO), ("given.example/pub-calendrier/pub/rrule.TU", Rows.laid_given_example_pub_calendrier_pub_rrule_TU), ("given.example/pub-calendrier/pub/rrule.WE", Rows.laid_given_example_pub_calendrier_pub_rrule_WE), ("given.example/pub-calendrier/pub/rrule.TH", Rows.laid_given_example_pub_calendrier_pub_rrule_TH), ("given.example/pub-calendrier/pub/rrule.FR", Rows.laid_given_example_pub_calendrier_pub_rrule_FR), ("given.example/pub-calendrier/pub/rrule.SA", Rows.laid_given_example_pub_calendrier_pub_rrule_SA), ("given.example/pub-calendrier/pub/rrule.SU", Rows.laid_given_example_pub_calendrier_pub_rrule_SU), ("given.example/pub-calendrier/pub/goical.defaultValueTypes", Rows.laid_given_example_pub_calendrier_pub_goical_defaultValueTypes)] [.data, .data, .data, .data, .sentinel, .sentinel, .sentinel, .data, .widerDeep, .widerDeep, .sentinel, .sentinel, .sentinel, .sentinel, .sentinel, .sentinel, .sentinel, .data, .data, .data, .data, .data, .data, .data, .mapped] true :=
  Program.laidByTextLater.sub seatTie1 ["math/bits.deBruijn32tab", "math/bits.deBruijn64tab", "internal/strconv.uint64pow10", "unicode/utf8.acceptRanges", "given.example/pub-calendrier/pub/ztime.errBad", "given.example/pub-calendrier/pub/ztime.errAtoi", "given.example/pub-calendrier/pub/ztime.errLeadingInt", "given.example/pub-calendrier/pub/ztime.std0x", "given.example/pub-calendrier/pub/ztime.longDayNames", "given.example/pub-calendrier/pub/ztime.longMonthNames", "strconv.ErrRange", "strconv.ErrSyntax", "io.EOF", "io.ErrNoProgress", "bufio.ErrInvalidUnreadRune", "bufio.ErrBufferFull", "bufio.errNegativeRead", "given.example/pub-calendrier/pub/rrule.MO", "given.example/pub-calendrier/pub/rrule.TU", "given.example/pub-calendrier/pub/rrule.WE", "given.example/pub-calendrier/pub/rrule.TH", "given.example/pub-calendrier/pub/rrule.FR", "given.example/pub-calendrier/pub/rrule.SA", "given.example/pub-calendrier/pub/rrule.SU", "given.example/pub-calendrier/pub/goical.defaultValueTypes"] (by kernel_rfl) (by kernel_rfl)
theorem fnKHappens_row_tie : Rows.fnKHappensRow.laidByTextAt .later Tryz.pinned [.data, .data, .data, .data, .sentinel, .sentinel, .sentinel, .data, .widerDeep, .widerDeep, .sentinel, .sentinel, .sentinel, .sentinel, .sentinel, .sentinel, .sentinel, .data, .data, .data, .data, .data, .data, .data, .mapped, .pinned] true :=
  OpenClaim.laidByTextAt_pinned rfl rfl tie rfl rfl rfl rfl (fun y hy _e => by
    simp only [Rows.fnKHappensRow, List.zip_cons_cons, List.zip_nil_right, List.mem_cons, List.mem_nil_iff, or_false] at hy
    rcases hy with rfl | rfl | rfl | rfl | rfl | rfl | rfl | rfl | rfl | rfl | rfl | rfl | rfl | rfl | rfl | rfl | rfl | rfl | rfl | rfl | rfl | rfl | rfl | rfl | rfl | rfl
    · cases _e
    · cases _e
    · cases _e
    · cases _e
    · cases _e
    · cases _e
    · cases _e
    · cases _e
    · cases _e
    · cases _e
    · cases _e
    · cases _e
    · cases _e
    · cases _e
    · cases _e
    · cases _e
    · cases _e
    · cases _e
    · cases _e
    · cases _e
    · cases _e
    · cases _e
    · cases _e
    · cases _e
    · cases _e
    · exact ⟨pin_laid_unicode_utf8_first, by kernel_rfl⟩) fits1
theorem fnKMatch_row_tie : Rows.fnKMatchRow.laidByTextAt .later Tryz.pinned [.data, .data, .data, .data, .sentinel, .sentinel, .sentinel, .data, .widerDeep, .widerDeep, .sentinel, .sentinel, .sentinel, .sentinel, .sentinel, .sentinel, .sentinel, .data, .data, .data, .data, .data, .data, .data, .mapped, .pinned] true :=
  OpenClaim.laidByTextAt_pinned rfl rfl tie rfl rfl rfl rfl (fun y hy _e => by
    simp only [Rows.fnKMatchRow, List.zip_cons_cons, List.zip_nil_right, List.mem_cons, List.mem_nil_iff, or_false] at hy
    rcases hy with rfl | rfl | rfl | rfl | rfl | rfl | rfl | rfl | rfl | rfl | rfl | rfl | rfl | rfl | rfl | rfl | rfl | rfl | rfl | rfl | rfl | rfl | rfl | rfl | rfl | rfl
    · cases _e
    · cases _e
    · cases _e
    · cases _e
    · cases _e
    · cases _e
    · cases _e
    · cases _e
    · cases _e
    · cases _e
    · cases _e
    · cases _e
    · cases _e
    · cases _e
    · cases _e
    · cases _e
    · cases _e
    · cases _e
    · cases _e
    · cases _e
    · cases _e
    · cases _e
    · cases _e
    · cases _e
    · cases _e
    · exact ⟨pin_laid_unicode_utf8_first, by kernel_rfl⟩) fits1
theorem fnKHappensUpto_row_tie : Rows.fnKHappensUptoRow.laidByTextAt .later Tryz.pinned [.data, .data, .data, .data, .sentinel, .sentinel, .sentinel, .data, .widerDeep, .widerDeep, .sentinel, .sentinel, .sentinel, .sentinel, .sentinel, .sentinel, .sentinel, .data, .data, .data, .data, .data, .data, .data, .mapped, .pinned] true :=
  OpenClaim.laidByTextAt_pinned rfl rfl tie rfl rfl rfl rfl (fun y hy _e => by
    simp only [Rows.fnKHappensUptoRow, List.zip_cons_cons, List.zip_nil_right, List.mem_cons, List.mem_nil_iff, or_false] at hy
    rcases hy with rfl | rfl | rfl | rfl | rfl | rfl | rfl | rfl | rfl | rfl | rfl | rfl | rfl | rfl | rfl | rfl | rfl | rfl | rfl | rfl | rfl | rfl | rfl | rfl | rfl | rfl
    · cases _e
    · cases _e
    · cases _e
    · cases _e
    · cases _e
    · cases _e
    · cases _e
    · cases _e
    · cases _e
    · cases _e
    · cases _e
    · cases _e
    · cases _e
    · cases _e
    · cases _e
    · cases _e
    · cases _e
    · cases _e
    · cases _e
    · cases _e
    · cases _e
    · cases _e
    · cases _e
    · cases _e
    · cases _e
    · exact ⟨pin_laid_unicode_utf8_first, by kernel_rfl⟩) fits1
theorem fnKMatchUpto_row_tie : Rows.fnKMatchUptoRow.laidByTextAt .later Tryz.pinned [.data, .data, .data, .data, .sentinel, .sentinel, .sentinel, .data, .widerDeep, .widerDeep, .sentinel, .sentinel, .sentinel, .sentinel, .sentinel, .sentinel, .sentinel, .data, .data, .data, .data, .data, .data, .data, .mapped, .pinned] true :=
  OpenClaim.laidByTextAt_pinned rfl rfl tie rfl rfl rfl rfl (fun y hy _e => by
    simp only [Rows.fnKMatchUptoRow, List.zip_cons_cons, List.zip_nil_right, List.mem_cons, List.mem_nil_iff, or_false] at hy
    rcases hy with rfl | rfl | rfl | rfl | rfl | rfl | rfl | rfl | rfl | rfl | rfl | rfl | rfl | rfl | rfl | rfl | rfl | rfl | rfl | rfl | rfl | rfl | rfl | rfl | rfl | rfl
    · cases _e
    · cases _e
    · cases _e
    · cases _e
    · cases _e
    · cases _e
    · cases _e
    · cases _e
    · cases _e
    · cases _e
    · cases _e
    · cases _e
    · cases _e
    · cases _e
    · cases _e
    · cases _e
    · cases _e
    · cases _e
    · cases _e
    · cases _e
    · cases _e
    · cases _e
    · cases _e
    · cases _e
    · cases _e
    · exact ⟨pin_laid_unicode_utf8_first, by kernel_rfl⟩) fits1
end Go.Proofs.YtcllaplddebilaaGreatDoor
