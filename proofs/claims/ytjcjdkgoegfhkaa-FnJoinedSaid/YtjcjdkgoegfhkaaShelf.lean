/- The library's contracts strings.Join and strings.TrimSuffix at this dump, in plain words, as the kit's tools (lay-shelf, lay-plain) write them; cut down to these. -/
import Derived.Shelf.Strings.OnBuilder
import Derived.Shelf.Strings.Prefix
import Derived.Test.YtjcjdkgoegfhkaaProg
namespace Go.Proofs
open Go.Shelf
def Try.lays156_ren : Go.Shelf.Ren := ⟨fun | 156 => 41 | 165 => 47 | 166 => 48 | 169 => 49 | 240 => 53 | 241 => 54 | 276 => 56 | 277 => 57 | n => n, fun | 31 => 22 | 9 => 9 | 3 => 3 | 4 => 4 | 0 => 0 | 20 => 20 | 72 => 84 | 76 => 88 | 70 => 82 | 37 => 73 | 75 => 87 | 127 => 91 | 164 => 92 | 5 => 5 | 80 => 64 | n => n, fun | n => n⟩
theorem Try.lays156 : Go.Proofs.Lays.n156 Try.prog Try.lays156_ren := {
  mixed := by kernel_rfl
  f156 := Try.func41.trans (congrArg some (by kernel_rfl))
  f165 := Try.func47.trans (congrArg some (by kernel_rfl))
  f166 := Try.func48.trans (congrArg some (by kernel_rfl))
  f169 := Try.func49.trans (congrArg some (by kernel_rfl))
  f240 := Try.func53.trans (congrArg some (by kernel_rfl))
  f241 := Try.func54.trans (congrArg some (by kernel_rfl))
  f276 := Try.func56.trans (congrArg some (by kernel_rfl))
  f277 := Try.func57.trans (congrArg some (by kernel_rfl))
  t0 := Try.underlying0
  a0 := Try.isAgg0
  z0 := Try.sizeOf0
  v0 := Try.zeroValue0
  t3 := Try.underlying3
  a3 := Try.isAgg3
  z3 := Try.sizeOf3
  v3 := Try.zeroValue3
  t4 := Try.underlying4
  a4 := Try.isAgg4
  z4 := Try.sizeOf4
  v4 := Try.zeroValue4
  t9 := Try.underlying9
  a9 := Try.isAgg9
  z9 := Try.sizeOf9
  v9 := Try.zeroValue9
  t20 := Try.underlying20
  a20 := Try.isAgg20
  z20 := Try.sizeOf20
  v20 := Try.zeroValue20
  t31 := Try.underlying22
  a31 := Try.isAgg22
  z31 := Try.sizeOf22
  v31 := Try.zeroValue22
  t37 := Try.underlying73
  a37 := Try.isAgg73
  z37 := Try.sizeOf73
  v37 := Try.zeroValue73
  t70 := Try.underlying82
  a70 := Try.isAgg82
  z70 := Try.sizeOf82
  v70 := Try.zeroValue82
  t72 := Try.underlying84
  a72 := Try.isAgg84
  z72 := Try.sizeOf84
  v72 := Try.zeroValue84
  t75 := Try.underlying87
  a75 := Try.isAgg87
  z75 := Try.sizeOf87
  v75 := Try.zeroValue87
  t76 := Try.underlying88
  a76 := Try.isAgg88
  z76 := Try.sizeOf88
  v76 := Try.zeroValue88
  t127 := Try.underlying91
  a127 := Try.isAgg91
  z127 := Try.sizeOf91
  v127 := Try.zeroValue91
  t164 := Try.underlying92
  a164 := Try.isAgg92
  z164 := Try.sizeOf92
  v164 := Try.zeroValue92 }
theorem Try.Builder_Extra_156 : Builder.Extra Try.prog Try.lays156_ren := {
  sizeBuilder := by kernel_rfl
  liesBuilder := by kernel_rfl
  t5 := Try.underlying5
  a5 := Try.isAgg5
  z5 := Try.sizeOf5
  v5 := Try.zeroValue5
  infoByte := by kernel_rfl
  cellsByte := by kernel_rfl
  sizeByte := by kernel_rfl
  neB5 := by decide }
open Go.RowKit in
/-- No element: the empty string; the world is as it was. (Whatever the slice's address and capacity: a nil slice too.) (LAID: no walk: one application.) -/
theorem Try.strings_Join_none (a : Option Addr) (c : Nat) (sep : ByteArray) (w : World) :
    Calls Try.prog 41 #[.slice a 0 c, .string sep] w fun e w' => e = .returned (.string ⟨#[]⟩) ∧ w' = w := Any.strings_Join_none Try.lays156 Try.Builder_Extra_156 a c sep w
open Go.RowKit in
/-- strings.Join: "Join concatenates the elements of its first argument to create a single string. The separator string sep is placed between elements in the resulting string.": HOWEVER MANY ELEMENTS. Below the heap's end the world is as it was. (LAID: no walk: one application.) -/
theorem Try.strings_Join (bk o c : Nat) (xs : List ByteArray) (sep : ByteArray) (w : World) (hcells : ∀ (j : Nat) x, xs[j]? = some x → w.cell? ⟨bk, o + j, none⟩ = some (.string x)) (hbk : bk < w.heap.size) (hN : xs.length ≤ 140737488355328) (hcap : xs.length ≤ c) (hlen : (Lib.join (xs.map (·.data.toList)) sep.data.toList).length ≤ 140737488355328) :
    Calls Try.prog 41 #[.slice (some ⟨bk, o, none⟩) xs.length c, .string sep] w fun e w' => e = .returned (.string ⟨(Lib.join (xs.map (·.data.toList)) sep.data.toList).toArray⟩) ∧ Below w.heap.size w w' := Any.strings_Join Try.lays156 Try.Builder_Extra_156 bk o c xs sep w hcells hbk hN hcap hlen
def Try.lays207_ren : Go.Shelf.Ren := ⟨fun | 207 => 55 | n => n, fun | 9 => 9 | 4 => 4 | 3 => 3 | n => n, fun | n => n⟩
theorem Try.lays207 : Go.Proofs.Lays.n207 Try.prog Try.lays207_ren := {
  mixed := by kernel_rfl
  f207 := Try.func55.trans (congrArg some (by kernel_rfl))
  t3 := Try.underlying3
  a3 := Try.isAgg3
  z3 := Try.sizeOf3
  v3 := Try.zeroValue3
  t4 := Try.underlying4
  a4 := Try.isAgg4
  z4 := Try.sizeOf4
  v4 := Try.zeroValue4
  t9 := Try.underlying9
  a9 := Try.isAgg9
  z9 := Try.sizeOf9
  v9 := Try.zeroValue9 }
open Go.RowKit Go.Lib in
/-- internal/stringslite.HasSuffix (what strings.HasSuffix calls). (LAID: no walk: one application.) -/
theorem Try.stringslite_HasSuffix (s p : ByteArray) (w : World) (hs : s.size ≤ 9223372036854775807) :
    Calls Try.prog 55 #[.string s, .string p] w fun e w' => e = .returned (.bool (Lib.hasSuffix s.data.toList p.data.toList)) ∧ w' = w := Any.stringslite_HasSuffix Try.lays207 s p w hs
def Try.lays209_ren : Go.Shelf.Ren := ⟨fun | 209 => 52 | 207 => 55 | n => n, fun | 9 => 9 | 4 => 4 | 3 => 3 | n => n, fun | n => n⟩
theorem Try.lays209 : Go.Proofs.Lays.n209 Try.prog Try.lays209_ren := {
  mixed := by kernel_rfl
  f207 := Try.func55.trans (congrArg some (by kernel_rfl))
  f209 := Try.func52.trans (congrArg some (by kernel_rfl))
  t3 := Try.underlying3
  a3 := Try.isAgg3
  z3 := Try.sizeOf3
  v3 := Try.zeroValue3
  t4 := Try.underlying4
  a4 := Try.isAgg4
  z4 := Try.sizeOf4
  v4 := Try.zeroValue4
  t9 := Try.underlying9
  a9 := Try.isAgg9
  z9 := Try.sizeOf9
  v9 := Try.zeroValue9 }
open Go.RowKit Go.Lib in
/-- internal/stringslite.TrimSuffix (what strings.TrimSuffix calls). (LAID: no walk: one application.) -/
theorem Try.stringslite_TrimSuffix (s p : ByteArray) (w : World) (hs : s.size ≤ 9223372036854775807) :
    Calls Try.prog 52 #[.string s, .string p] w fun e w' => e = .returned (.string ⟨(Lib.trimSuffix s.data.toList p.data.toList).toArray⟩) ∧ w' = w := Any.stringslite_TrimSuffix Try.lays209 s p w hs
def Try.lays102_ren : Go.Shelf.Ren := ⟨fun | 102 => 43 | 209 => 52 | 207 => 55 | n => n, fun | 9 => 9 | 4 => 4 | 3 => 3 | n => n, fun | n => n⟩
theorem Try.lays102 : Go.Proofs.Lays.n102 Try.prog Try.lays102_ren := {
  mixed := by kernel_rfl
  f102 := Try.func43.trans (congrArg some (by kernel_rfl))
  f207 := Try.func55.trans (congrArg some (by kernel_rfl))
  f209 := Try.func52.trans (congrArg some (by kernel_rfl))
  t3 := Try.underlying3
  a3 := Try.isAgg3
  z3 := Try.sizeOf3
  v3 := Try.zeroValue3
  t4 := Try.underlying4
  a4 := Try.isAgg4
  z4 := Try.sizeOf4
  v4 := Try.zeroValue4
  t9 := Try.underlying9
  a9 := Try.isAgg9
  z9 := Try.sizeOf9
  v9 := Try.zeroValue9 }
open Go.RowKit Go.Lib in
/-- strings.TrimSuffix: "TrimSuffix returns s without the provided trailing suffix string. If s doesn't end with suffix, s is returned unchanged.": IT RETURNS 'Lib.trimSuffix s suffix'; the world is as it was. (LAID: no walk: one application.) -/
theorem Try.strings_TrimSuffix (s p : ByteArray) (w : World) (hs : s.size ≤ 9223372036854775807) :
    Calls Try.prog 43 #[.string s, .string p] w fun e w' => e = .returned (.string ⟨(Lib.trimSuffix s.data.toList p.data.toList).toArray⟩) ∧ w' = w := Any.strings_TrimSuffix Try.lays102 s p w hs
end Go.Proofs
