import Derived.Test.YtbobbognjmofdaaGreatDoorRows
import Derived.WalkKit
import Derived.ProofKit
import Derived.LaidMore
import Derived.Stop.Joined
import Derived.Lib.LaidU8T
import Derived.SevenTiedAt
section
section
namespace Go.Proofs.YtbobbognjmofdaaGreatDoor
open Go Go.RowKit
set_option linter.unusedVariables false
abbrev laid3:List (String × DataW Unit):=[("unicode/utf8.acceptRanges", Rows.laid_unicode_utf8_acceptRanges),("bytes.ErrTooLarge", Rows.laid_bytes_ErrTooLarge),("unicode/utf8.first", Rows.laid_unicode_utf8_first)]
def renU:Go.Shelf.Ren:=⟨fun n=>n,fun | 119=>279 | 138=>281 | 139=>282 | n=>n,fun | 3=>1 | 4=>2 | n=>n⟩
theorem typesU:U8Types Tryz.prog renU:=⟨Tryz.underlying5,Tryz.underlying279,Tryz.underlying281,Tryz.underlying282⟩
theorem extraU:U8Extra Tryz.prog renU:=⟨by kernel_rfl,by kernel_rfl,by kernel_rfl,by kernel_rfl,by kernel_rfl,by kernel_rfl,by kernel_rfl⟩
theorem firstSame:Rows.laid_unicode_utf8_first = Lib.firstData:=by kernel_rfl
theorem acceptSame:(Rows.laid_unicode_utf8_acceptRanges:DataW Unit) = Lib.acceptData:=by kernel_rfl
theorem tabs_of_laid {W:World} (h:laidMetH Tryz.prog laid3 W):Lib.Utf8Tabs 1 2 W:=by
 rw [MakeChecks.laidMetH_plain _ _ _ (by kernel_rfl)] at h
 have h3:=Lib.laidMet.reads h (n := "unicode/utf8.first") (d:=Rows.laid_unicode_utf8_first) (by simp)
 have h4:=Lib.laidMet.reads h (n := "unicode/utf8.acceptRanges") (d:=Rows.laid_unicode_utf8_acceptRanges) (by simp)
 rw [firstSame] at h3
 rw [acceptSame] at h4
 exact utf8Tabs_of_readsT typesU extraU h3 h4
end Go.Proofs.YtbobbognjmofdaaGreatDoor
end
end
