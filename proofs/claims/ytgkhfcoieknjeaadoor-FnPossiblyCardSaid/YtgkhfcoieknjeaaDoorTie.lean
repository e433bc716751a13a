/-
  DERIVED. GIVEN WITH THE SEED: THE PROGRAM's TIES (one call each: nine closed facts by the kernel) AND EACH ROW's TIE, after the 31st guide's Derived/Test/Toyas{Tie, Card}.lean. No idea stands in it: it is a product of the set-up. Laid BY PROGRAM, IN A SANDBOX (cutbox-door.mjs). By AI agents, Wed Nov 11 2026. No macro, syntax, notation, axiom, sorry.
-/
import Derived.Test.YtgkhfcoieknjeaaDoorRows
import Derived.LaidByTextLater
import Derived.SevenTiedAt
import Derived.LaidSub
import Derived.LaidOnce
namespace Go.Proofs.YtgkhfcoieknjeaaDoor
open Go
set_option maxRecDepth 100000
theorem seatTie1 : Tryd.prog.laidByTextLater [("unicode.properties", Rows.laid_unicode_properties), ("loop.example/pub-routepatterns/pub/neturl.table", Rows.laid_loop_example_pub_routepatterns_pub_neturl_table)] [.data, .data] true :=
  Program.laidByTextLater_by_one 19 8 257 (by kernel_rfl) (by kernel_rfl) (by kernel_rfl) (by kernel_rfl) (by kernel_rfl) (by kernel_rfl) (fun _ _ => by kernel_rfl)
theorem pin_laid_unicode_Digit : Tryd.pinned.checked.prog.pinnedFits "unicode.Digit" = true := by kernel_rfl
theorem pin_laid_unicode_Letter : Tryd.pinned.checked.prog.pinnedFits "unicode.Letter" = true := by kernel_rfl
theorem noOwnUnsafe : Tryd.pinned.checked.prog.headLifts.contains "ownunsafe" = false := by kernel_rfl
theorem fits1 : Tryd.pinned.checked.prog.listedFits [("unicode.properties", Rows.laid_unicode_properties), ("loop.example/pub-routepatterns/pub/neturl.table", Rows.laid_loop_example_pub_routepatterns_pub_neturl_table), ("unicode.Digit", Rows.laid_unicode_Digit), ("unicode.Letter", Rows.laid_unicode_Letter)] = true := by
  unfold Program.listedFits
  rw [noOwnUnsafe]
  kernel_rfl
theorem tie : Tryd.prog.laidByTextLater [("unicode.properties", Rows.laid_unicode_properties), ("loop.example/pub-routepatterns/pub/neturl.table", Rows.laid_loop_example_pub_routepatterns_pub_neturl_table)] [.data, .data] true :=
  Program.laidByTextLater.sub seatTie1 ["unicode.properties", "loop.example/pub-routepatterns/pub/neturl.table"] (by kernel_rfl) (by kernel_rfl)
theorem fnMatchOrder_row_tie : Rows.fnMatchOrderRow.laidByTextAt .later Tryd.pinned [.data, .data, .pinned, .pinned] true :=
  OpenClaim.laidByTextAt_pinned rfl rfl tie rfl rfl rfl rfl (fun y hy _e => by
    simp only [Rows.fnMatchOrderRow, List.zip_cons_cons, List.zip_nil_right, List.mem_cons, List.mem_nil_iff, or_false] at hy
    rcases hy with rfl | rfl | rfl | rfl
    · cases _e
    · cases _e
    · exact ⟨pin_laid_unicode_Digit, by kernel_rfl⟩
    · exact ⟨pin_laid_unicode_Letter, by kernel_rfl⟩) fits1
theorem fnMatchSound_row_tie : Rows.fnMatchSoundRow.laidByTextAt .later Tryd.pinned [.data, .data, .pinned, .pinned] true :=
  OpenClaim.laidByTextAt_pinned rfl rfl tie rfl rfl rfl rfl (fun y hy _e => by
    simp only [Rows.fnMatchSoundRow, List.zip_cons_cons, List.zip_nil_right, List.mem_cons, List.mem_nil_iff, or_false] at hy
    rcases hy with rfl | rfl | rfl | rfl
    · cases _e
    · cases _e
    · exact ⟨pin_laid_unicode_Digit, by kernel_rfl⟩
    · exact ⟨pin_laid_unicode_Letter, by kernel_rfl⟩) fits1
theorem fnPossibly_row_tie : Rows.fnPossiblyRow.laidByTextAt .later Tryd.pinned [.data, .data, .pinned, .pinned] true :=
  OpenClaim.laidByTextAt_pinned rfl rfl tie rfl rfl rfl rfl (fun y hy _e => by
    simp only [Rows.fnPossiblyRow, List.zip_cons_cons, List.zip_nil_right, List.mem_cons, List.mem_nil_iff, or_false] at hy
    rcases hy with rfl | rfl | rfl | rfl
    · cases _e
    · cases _e
    · exact ⟨pin_laid_unicode_Digit, by kernel_rfl⟩
    · exact ⟨pin_laid_unicode_Letter, by kernel_rfl⟩) fits1
theorem fnMatch_row_tie : Rows.fnMatchRow.laidByTextAt .later Tryd.pinned [.data, .data, .pinned, .pinned] true :=
  OpenClaim.laidByTextAt_pinned rfl rfl tie rfl rfl rfl rfl (fun y hy _e => by
    simp only [Rows.fnMatchRow, List.zip_cons_cons, List.zip_nil_right, List.mem_cons, List.mem_nil_iff, or_false] at hy
    rcases hy with rfl | rfl | rfl | rfl
    · cases _e
    · cases _e
    · exact ⟨pin_laid_unicode_Digit, by kernel_rfl⟩
    · exact ⟨pin_laid_unicode_Letter, by kernel_rfl⟩) fits1
theorem fnMatchMore_row_tie : Rows.fnMatchMoreRow.laidByTextAt .later Tryd.pinned [.data, .data, .pinned, .pinned] true :=
  OpenClaim.laidByTextAt_pinned rfl rfl tie rfl rfl rfl rfl (fun y hy _e => by
    simp only [Rows.fnMatchMoreRow, List.zip_cons_cons, List.zip_nil_right, List.mem_cons, List.mem_nil_iff, or_false] at hy
    rcases hy with rfl | rfl | rfl | rfl
    · cases _e
    · cases _e
    · exact ⟨pin_laid_unicode_Digit, by kernel_rfl⟩
    · exact ⟨pin_laid_unicode_Letter, by kernel_rfl⟩) fits1
theorem fnMatchOrderUpto_row_tie : Rows.fnMatchOrderUptoRow.laidByTextAt .later Tryd.pinned [.data, .data, .pinned, .pinned] true :=
  OpenClaim.laidByTextAt_pinned rfl rfl tie rfl rfl rfl rfl (fun y hy _e => by
    simp only [Rows.fnMatchOrderUptoRow, List.zip_cons_cons, List.zip_nil_right, List.mem_cons, List.mem_nil_iff, or_false] at hy
    rcases hy with rfl | rfl | rfl | rfl
    · cases _e
    · cases _e
    · exact ⟨pin_laid_unicode_Digit, by kernel_rfl⟩
    · exact ⟨pin_laid_unicode_Letter, by kernel_rfl⟩) fits1
theorem fnMatchSoundUpto_row_tie : Rows.fnMatchSoundUptoRow.laidByTextAt .later Tryd.pinned [.data, .data, .pinned, .pinned] true :=
  OpenClaim.laidByTextAt_pinned rfl rfl tie rfl rfl rfl rfl (fun y hy _e => by
    simp only [Rows.fnMatchSoundUptoRow, List.zip_cons_cons, List.zip_nil_right, List.mem_cons, List.mem_nil_iff, or_false] at hy
    rcases hy with rfl | rfl | rfl | rfl
    · cases _e
    · cases _e
    · exact ⟨pin_laid_unicode_Digit, by kernel_rfl⟩
    · exact ⟨pin_laid_unicode_Letter, by kernel_rfl⟩) fits1
theorem fnPossiblyUpto_row_tie : Rows.fnPossiblyUptoRow.laidByTextAt .later Tryd.pinned [.data, .data, .pinned, .pinned] true :=
  OpenClaim.laidByTextAt_pinned rfl rfl tie rfl rfl rfl rfl (fun y hy _e => by
    simp only [Rows.fnPossiblyUptoRow, List.zip_cons_cons, List.zip_nil_right, List.mem_cons, List.mem_nil_iff, or_false] at hy
    rcases hy with rfl | rfl | rfl | rfl
    · cases _e
    · cases _e
    · exact ⟨pin_laid_unicode_Digit, by kernel_rfl⟩
    · exact ⟨pin_laid_unicode_Letter, by kernel_rfl⟩) fits1
theorem fnMatchUpto_row_tie : Rows.fnMatchUptoRow.laidByTextAt .later Tryd.pinned [.data, .data, .pinned, .pinned] true :=
  OpenClaim.laidByTextAt_pinned rfl rfl tie rfl rfl rfl rfl (fun y hy _e => by
    simp only [Rows.fnMatchUptoRow, List.zip_cons_cons, List.zip_nil_right, List.mem_cons, List.mem_nil_iff, or_false] at hy
    rcases hy with rfl | rfl | rfl | rfl
    · cases _e
    · cases _e
    · exact ⟨pin_laid_unicode_Digit, by kernel_rfl⟩
    · exact ⟨pin_laid_unicode_Letter, by kernel_rfl⟩) fits1
theorem fnMatchMoreUpto_row_tie : Rows.fnMatchMoreUptoRow.laidByTextAt .later Tryd.pinned [.data, .data, .pinned, .pinned] true :=
  OpenClaim.laidByTextAt_pinned rfl rfl tie rfl rfl rfl rfl (fun y hy _e => by
    simp only [Rows.fnMatchMoreUptoRow, List.zip_cons_cons, List.zip_nil_right, List.mem_cons, List.mem_nil_iff, or_false] at hy
    rcases hy with rfl | rfl | rfl | rfl
    · cases _e
    · cases _e
    · exact ⟨pin_laid_unicode_Digit, by kernel_rfl⟩
    · exact ⟨pin_laid_unicode_Letter, by kernel_rfl⟩) fits1
end Go.Proofs.YtgkhfcoieknjeaaDoor
