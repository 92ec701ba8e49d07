/- laws.FnKMatch: a part of the proof: KTie. -/
import Derived.KernelRfl
import Derived.LaidByTextLater
import Derived.LaidOnce
import Derived.LaidSub
import Derived.SevenTiedAt
import Derived.Test.YtcllaplddebilaaGreatDoorProg
import Derived.Test.YtcllaplddebilaaGreatDoorRows
import Derived.Test.YtcllaplddebilaaGreatDoorK00
set_option maxRecDepth 1000000
set_option maxHeartbeats 64000000
set_option linter.unusedVariables false
set_option linter.unusedSimpArgs false
namespace Go.Proofs.YtcllaplddebilaaGreatDoor
open Go.RowKit Go.Sort
attribute [local go_sem] cell?_grow frozen?_grow cell?_redrawn frozen?_redrawn size_redrawn size_grow ba_get ba_extract
attribute [local simp] size_redrawn
noncomputable def kL : List (String × DataW Unit) := [("math/bits.deBruijn32tab", Rows.laid_math_bits_deBruijn32tab), ("math/bits.deBruijn64tab", Rows.laid_math_bits_deBruijn64tab), ("internal/strconv.uint64pow10", Rows.laid_internal_strconv_uint64pow10), ("unicode/utf8.acceptRanges", Rows.laid_unicode_utf8_acceptRanges), ("given.example/pub-calendrier/pub/ztime.errBad", Rows.laid_given_example_pub_calendrier_pub_ztime_errBad), ("given.example/pub-calendrier/pub/ztime.errAtoi", Rows.laid_given_example_pub_calendrier_pub_ztime_errAtoi), ("given.example/pub-calendrier/pub/ztime.errLeadingInt", Rows.laid_given_example_pub_calendrier_pub_ztime_errLeadingInt), ("given.example/pub-calendrier/pub/ztime.std0x", Rows.laid_given_example_pub_calendrier_pub_ztime_std0x), ("given.example/pub-calendrier/pub/ztime.longDayNames", Rows.laid_given_example_pub_calendrier_pub_ztime_longDayNames), ("given.example/pub-calendrier/pub/ztime.longMonthNames", Rows.laid_given_example_pub_calendrier_pub_ztime_longMonthNames), ("strconv.ErrRange", Rows.laid_strconv_ErrRange), ("strconv.ErrSyntax", Rows.laid_strconv_ErrSyntax), ("io.EOF", Rows.laid_io_EOF), ("io.ErrNoProgress", Rows.laid_io_ErrNoProgress), ("bufio.ErrInvalidUnreadRune", Rows.laid_bufio_ErrInvalidUnreadRune), ("bufio.ErrBufferFull", Rows.laid_bufio_ErrBufferFull), ("bufio.errNegativeRead", Rows.laid_bufio_errNegativeRead), ("given.example/pub-calendrier/pub/rrule.MO", Rows.laid_given_example_pub_calendrier_pub_rrule_MO), ("given.example/pub-calendrier/pub/rrule.TU", Rows.laid_given_example_pub_calendrier_pub_rrule_TU), ("given.example/pub-calendrier/pub/rrule.WE", Rows.laid_given_example_pub_calendrier_pub_rrule_WE), ("given.example/pub-calendrier/pub/rrule.TH", Rows.laid_given_example_pub_calendrier_pub_rrule_TH), ("given.example/pub-calendrier/pub/rrule.FR", Rows.laid_given_example_pub_calendrier_pub_rrule_FR), ("given.example/pub-calendrier/pub/rrule.SA", Rows.laid_given_example_pub_calendrier_pub_rrule_SA), ("given.example/pub-calendrier/pub/rrule.SU", Rows.laid_given_example_pub_calendrier_pub_rrule_SU), ("given.example/pub-calendrier/pub/goical.defaultValueTypes", Rows.laid_given_example_pub_calendrier_pub_goical_defaultValueTypes)]
theorem kT1 : Tryz.prog.worded (varsWordLater true) = true := by kernel_rfl
theorem kT2 : Tryz.prog.worded (varsWordLater !true) = false := by kernel_rfl
theorem kT3 : Tryz.prog.worded rootWordLater = true := by kernel_rfl
theorem kT4 : kL.map (fun x => Tryz.prog.kindOfLater x.1) = ([.data, .data, .data, .data, .sentinel, .sentinel, .sentinel, .data, .widerDeep, .widerDeep, .sentinel, .sentinel, .sentinel, .sentinel, .sentinel, .sentinel, .sentinel, .data, .data, .data, .data, .data, .data, .data, .mapped] : List LaidKind).map some := by kernel_rfl
theorem kT5 : (Tryz.prog.funcNamed "gosem.cut.vars").isSome = true := by kernel_rfl
theorem kT6 : varsNamedLaterB Tryz.prog (varsId Tryz.prog) kL = true := by kernel_rfl
theorem kT7 (os : Os) (tape : Tape) : doorLeaves Tryz.prog 539 8 65 kL os tape = some (kL.filter fun x => x.2.handleName?.isNone, (funcsListed kL).map (·.2.funcsOut)) := by kernel_rfl
theorem kTied : Tryz.prog.laidByTextLater kL [.data, .data, .data, .data, .sentinel, .sentinel, .sentinel, .data, .widerDeep, .widerDeep, .sentinel, .sentinel, .sentinel, .sentinel, .sentinel, .sentinel, .sentinel, .data, .data, .data, .data, .data, .data, .data, .mapped] true := Program.laidByTextLater_by_one 539 8 65 kT1 kT2 kT3 kT4 kT5 kT6 kT7
theorem kPin : Tryz.pinned.checked.prog.pinnedFits "unicode/utf8.first" = true := by kernel_rfl
theorem kUns : Tryz.pinned.checked.prog.headLifts.contains "ownunsafe" = false := by kernel_rfl
theorem kFits : Tryz.pinned.checked.prog.listedFits Rows.fnKMatchRow.laid = true := by
 unfold Program.listedFits
 rw [kUns]
 kernel_rfl
theorem kRowTie : Rows.fnKMatchRow.laidByTextAt .later Tryz.pinned [.data, .data, .data, .data, .sentinel, .sentinel, .sentinel, .data, .widerDeep, .widerDeep, .sentinel, .sentinel, .sentinel, .sentinel, .sentinel, .sentinel, .sentinel, .data, .data, .data, .data, .data, .data, .data, .mapped, .pinned] true :=
 OpenClaim.laidByTextAt_pinned rfl rfl kTied rfl rfl rfl rfl (fun y hy _e => by
  simp only [Rows.fnKMatchRow, List.zip_cons_cons, List.zip_nil_right, List.mem_cons, List.mem_nil_iff, or_false] at hy
  rcases hy with rfl | rfl | rfl | rfl | rfl | rfl | rfl | rfl | rfl | rfl | rfl | rfl | rfl | rfl | rfl | rfl | rfl | rfl | rfl | rfl | rfl | rfl | rfl | rfl | rfl | rfl
  all_goals (first | (cases _e; done) | exact ⟨kPin, by kernel_rfl⟩)) kFits
end Go.Proofs.YtcllaplddebilaaGreatDoor
