/-
  DERIVED: THE SHELF's CONTRACTS AT THIS DUMP, IN PLAIN WORDS (tools/lay-plain.mjs out of 'Qxb6600491aShelf.lean', which tools/lay-shelf.mjs wrote): THE SAME DECLARATIONS UNDER THE SAME NAMES: 'import', 'namespace', 'open', 'def', 'theorem' AND NOTHING ELSE: no command of the shelf's: FOR A HAND-IN. Each laying: the table of numbers ('.._ren') and one theorem, a field a fact of the dump's own or the kernel's comparison; each contract: ONE APPLICATION.
-/
import Derived.Shelf.Strings.Prefix
import Derived.Shelf.Strings.Repeat
import Derived.Test.Qxb6600491aProg
namespace Go.Proofs
open Go.Shelf
def Try.lays206_ren : Go.Shelf.Ren := ⟨fun | 206 => 37 | n => n, fun | 9 => 9 | 4 => 4 | 3 => 3 | n => n, fun | n => n⟩
theorem Try.lays206 : Go.Proofs.Lays.n206 Try.prog Try.lays206_ren := {
  mixed := by kernel_rfl
  f206 := Try.func37.trans (congrArg some (by kernel_rfl))
  t3 := Try.underlying3
  a3 := Try.isAgg3
  z3 := Try.sizeOf3
  v3 := Try.zeroValue3
  t4 := Try.underlying4
  a4 := Try.isAgg4
  z4 := Try.sizeOf4
  v4 := Try.zeroValue4
  t9 := Try.underlying9
  a9 := Try.isAgg9
  z9 := Try.sizeOf9
  v9 := Try.zeroValue9 }
open Go.RowKit Go.Lib in
/-- internal/stringslite.HasPrefix (what strings.HasPrefix calls). (LAID: no walk: one application.) -/
theorem Try.stringslite_HasPrefix (s p : ByteArray) (w : World) :
    Calls Try.prog 37 #[.string s, .string p] w fun e w' => e = .returned (.bool (Lib.hasPrefix s.data.toList p.data.toList)) ∧ w' = w := Any.stringslite_HasPrefix Try.lays206 s p w
def Try.lays99_ren : Go.Shelf.Ren := ⟨fun | 99 => 31 | 206 => 37 | n => n, fun | 9 => 9 | 4 => 4 | 3 => 3 | n => n, fun | n => n⟩
theorem Try.lays99 : Go.Proofs.Lays.n99 Try.prog Try.lays99_ren := {
  mixed := by kernel_rfl
  f99 := Try.func31.trans (congrArg some (by kernel_rfl))
  f206 := Try.func37.trans (congrArg some (by kernel_rfl))
  t3 := Try.underlying3
  a3 := Try.isAgg3
  z3 := Try.sizeOf3
  v3 := Try.zeroValue3
  t4 := Try.underlying4
  a4 := Try.isAgg4
  z4 := Try.sizeOf4
  v4 := Try.zeroValue4
  t9 := Try.underlying9
  a9 := Try.isAgg9
  z9 := Try.sizeOf9
  v9 := Try.zeroValue9 }
open Go.RowKit Go.Lib in
/-- strings.HasPrefix: it tells whether the first string opens with the second; the world is as it was. (Laid: one application.) -/
theorem Try.strings_HasPrefix (s p : ByteArray) (w : World) :
    Calls Try.prog 31 #[.string s, .string p] w fun e w' => e = .returned (.bool (Lib.hasPrefix s.data.toList p.data.toList)) ∧ w' = w := Any.strings_HasPrefix Try.lays99 s p w
def Try.lays105_ren : Go.Shelf.Ren := ⟨fun | 105 => 30 | 212 => 32 | 99 => 31 | 165 => 33 | 166 => 34 | 170 => 35 | 169 => 36 | 263 => 38 | 264 => 39 | 206 => 37 | 240 => 40 | 241 => 41 | 276 => 42 | 277 => 43 | n => n, fun | 9 => 9 | 3 => 3 | 4 => 4 | 20 => 20 | 0 => 0 | 46 => 39 | 109 => 40 | 5 => 5 | 72 => 44 | 76 => 48 | 51 => 52 | 146 => 53 | 53 => 55 | 148 => 56 | 70 => 42 | 37 => 32 | 75 => 47 | 127 => 58 | 164 => 59 | 80 => 51 | n => n, fun | n => n⟩
theorem Try.lays105 : Go.Proofs.Lays.n105 Try.prog Try.lays105_ren := {
  mixed := by kernel_rfl
  f99 := Try.func31.trans (congrArg some (by kernel_rfl))
  f105 := Try.func30.trans (congrArg some (by kernel_rfl))
  f165 := Try.func33.trans (congrArg some (by kernel_rfl))
  f166 := Try.func34.trans (congrArg some (by kernel_rfl))
  f169 := Try.func36.trans (congrArg some (by kernel_rfl))
  f170 := Try.func35.trans (congrArg some (by kernel_rfl))
  f206 := Try.func37.trans (congrArg some (by kernel_rfl))
  f212 := Try.func32.trans (congrArg some (by kernel_rfl))
  f240 := Try.func40.trans (congrArg some (by kernel_rfl))
  f241 := Try.func41.trans (congrArg some (by kernel_rfl))
  f263 := Try.func38.trans (congrArg some (by kernel_rfl))
  f264 := Try.func39.trans (congrArg some (by kernel_rfl))
  f276 := Try.func42.trans (congrArg some (by kernel_rfl))
  f277 := Try.func43.trans (congrArg some (by kernel_rfl))
  t0 := Try.underlying0
  a0 := Try.isAgg0
  z0 := Try.sizeOf0
  v0 := Try.zeroValue0
  t3 := Try.underlying3
  a3 := Try.isAgg3
  z3 := Try.sizeOf3
  v3 := Try.zeroValue3
  t4 := Try.underlying4
  a4 := Try.isAgg4
  z4 := Try.sizeOf4
  v4 := Try.zeroValue4
  t5 := Try.underlying5
  a5 := Try.isAgg5
  z5 := Try.sizeOf5
  v5 := Try.zeroValue5
  t9 := Try.underlying9
  a9 := Try.isAgg9
  z9 := Try.sizeOf9
  v9 := Try.zeroValue9
  t20 := Try.underlying20
  a20 := Try.isAgg20
  z20 := Try.sizeOf20
  v20 := Try.zeroValue20
  t37 := Try.underlying32
  a37 := Try.isAgg32
  z37 := Try.sizeOf32
  v37 := Try.zeroValue32
  t46 := Try.underlying39
  a46 := Try.isAgg39
  z46 := Try.sizeOf39
  v46 := Try.zeroValue39
  t51 := Try.underlying52
  a51 := Try.isAgg52
  z51 := Try.sizeOf52
  v51 := Try.zeroValue52
  t53 := Try.underlying55
  a53 := Try.isAgg55
  z53 := Try.sizeOf55
  v53 := Try.zeroValue55
  t70 := Try.underlying42
  a70 := Try.isAgg42
  z70 := Try.sizeOf42
  v70 := Try.zeroValue42
  t72 := Try.underlying44
  a72 := Try.isAgg44
  z72 := Try.sizeOf44
  v72 := Try.zeroValue44
  t75 := Try.underlying47
  a75 := Try.isAgg47
  z75 := Try.sizeOf47
  v75 := Try.zeroValue47
  t76 := Try.underlying48
  a76 := Try.isAgg48
  z76 := Try.sizeOf48
  v76 := Try.zeroValue48
  t109 := Try.underlying40
  a109 := Try.isAgg40
  z109 := Try.sizeOf40
  v109 := Try.zeroValue40
  t127 := Try.underlying58
  a127 := Try.isAgg58
  z127 := Try.sizeOf58
  v127 := Try.zeroValue58
  t146 := Try.underlying53
  a146 := Try.isAgg53
  z146 := Try.sizeOf53
  v146 := Try.zeroValue53
  t148 := Try.underlying56
  a148 := Try.isAgg56
  z148 := Try.sizeOf56
  v148 := Try.zeroValue56
  t164 := Try.underlying59
  a164 := Try.isAgg59
  z164 := Try.sizeOf59
  v164 := Try.zeroValue59 }
theorem Try.Builder_Extra_105 : Builder.Extra Try.prog Try.lays105_ren := {
  sizeBuilder := by kernel_rfl
  liesBuilder := by kernel_rfl
  t5 := Try.underlying5
  a5 := Try.isAgg5
  z5 := Try.sizeOf5
  v5 := Try.zeroValue5
  infoByte := by kernel_rfl
  cellsByte := by kernel_rfl
  sizeByte := by kernel_rfl
  neB5 := by decide }
open Go.RowKit Go.Lib in
/-- THE MAIN CASE: at least two copies of a string that is not empty. (LAID: no walk: one application.) -/
theorem Try.strings_Repeat_main (s : ByteArray) (c : Nat) (w : World) (hc2 : 2 ≤ c) (hc : c ≤ 9223372036854775807) (hlen : s.size * c ≤ 140737488355328) (h0 : 0 < s.size) :
    Calls Try.prog 30 #[.string s, .int .i64 c] w fun e w' => e = .returned (.string ⟨(Lib.repeatL s.data.toList c).toArray⟩) ∧ Below w.heap.size w w' := Any.strings_Repeat_main Try.lays105 Try.Builder_Extra_105 s c w hc2 hc hlen h0
end Go.Proofs
