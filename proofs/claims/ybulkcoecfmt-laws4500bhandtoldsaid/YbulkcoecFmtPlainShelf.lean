import Derived.Shelf.Strings.Repeat
import Derived.Shelf.Slices.Equal
import Derived.Test.YbulkcoecFmtProg
namespace Go.Proofs
open Go.Shelf
def Ybaf.lays105_ren : Go.Shelf.Ren := ⟨fun | 105 => 24 | 212 => 43 | 99 => 44 | 165 => 45 | 166 => 46 | 170 => 47 | 169 => 48 | 263 => 78 | 264 => 79 | 206 => 80 | 240 => 81 | 241 => 82 | 276 => 108 | 277 => 109 | n => n, fun | 9 => 9 | 3 => 3 | 4 => 4 | 20 => 20 | 0 => 0 | 46 => 111 | 109 => 121 | 5 => 5 | 72 => 125 | 76 => 127 | 51 => 57 | 146 => 156 | 53 => 26 | 148 => 158 | 70 => 123 | 37 => 24 | 75 => 39 | 127 => 160 | 164 => 141 | 80 => 130 | n => n, fun | n => n⟩
theorem Ybaf.lays105 : Go.Proofs.Lays.n105 Ybaf.prog Ybaf.lays105_ren := {
  mixed := by kernel_rfl
  f99 := Ybaf.func44.trans (congrArg some (by kernel_rfl))
  f105 := Ybaf.func24.trans (congrArg some (by kernel_rfl))
  f165 := Ybaf.func45.trans (congrArg some (by kernel_rfl))
  f166 := Ybaf.func46.trans (congrArg some (by kernel_rfl))
  f169 := Ybaf.func48.trans (congrArg some (by kernel_rfl))
  f170 := Ybaf.func47.trans (congrArg some (by kernel_rfl))
  f206 := Ybaf.func80.trans (congrArg some (by kernel_rfl))
  f212 := Ybaf.func43.trans (congrArg some (by kernel_rfl))
  f240 := Ybaf.func81.trans (congrArg some (by kernel_rfl))
  f241 := Ybaf.func82.trans (congrArg some (by kernel_rfl))
  f263 := Ybaf.func78.trans (congrArg some (by kernel_rfl))
  f264 := Ybaf.func79.trans (congrArg some (by kernel_rfl))
  f276 := Ybaf.func108.trans (congrArg some (by kernel_rfl))
  f277 := Ybaf.func109.trans (congrArg some (by kernel_rfl))
  t0 := Ybaf.underlying0
  a0 := Ybaf.isAgg0
  z0 := Ybaf.sizeOf0
  v0 := Ybaf.zeroValue0
  t3 := Ybaf.underlying3
  a3 := Ybaf.isAgg3
  z3 := Ybaf.sizeOf3
  v3 := Ybaf.zeroValue3
  t4 := Ybaf.underlying4
  a4 := Ybaf.isAgg4
  z4 := Ybaf.sizeOf4
  v4 := Ybaf.zeroValue4
  t5 := Ybaf.underlying5
  a5 := Ybaf.isAgg5
  z5 := Ybaf.sizeOf5
  v5 := Ybaf.zeroValue5
  t9 := Ybaf.underlying9
  a9 := Ybaf.isAgg9
  z9 := Ybaf.sizeOf9
  v9 := Ybaf.zeroValue9
  t20 := Ybaf.underlying20
  a20 := Ybaf.isAgg20
  z20 := Ybaf.sizeOf20
  v20 := Ybaf.zeroValue20
  t37 := Ybaf.underlying24
  a37 := Ybaf.isAgg24
  z37 := Ybaf.sizeOf24
  v37 := Ybaf.zeroValue24
  t46 := Ybaf.underlying111
  a46 := Ybaf.isAgg111
  z46 := Ybaf.sizeOf111
  v46 := Ybaf.zeroValue111
  t51 := Ybaf.underlying57
  a51 := Ybaf.isAgg57
  z51 := Ybaf.sizeOf57
  v51 := Ybaf.zeroValue57
  t53 := Ybaf.underlying26
  a53 := Ybaf.isAgg26
  z53 := Ybaf.sizeOf26
  v53 := Ybaf.zeroValue26
  t70 := Ybaf.underlying123
  a70 := Ybaf.isAgg123
  z70 := Ybaf.sizeOf123
  v70 := Ybaf.zeroValue123
  t72 := Ybaf.underlying125
  a72 := Ybaf.isAgg125
  z72 := Ybaf.sizeOf125
  v72 := Ybaf.zeroValue125
  t75 := Ybaf.underlying39
  a75 := Ybaf.isAgg39
  z75 := Ybaf.sizeOf39
  v75 := Ybaf.zeroValue39
  t76 := Ybaf.underlying127
  a76 := Ybaf.isAgg127
  z76 := Ybaf.sizeOf127
  v76 := Ybaf.zeroValue127
  t109 := Ybaf.underlying121
  a109 := Ybaf.isAgg121
  z109 := Ybaf.sizeOf121
  v109 := Ybaf.zeroValue121
  t127 := Ybaf.underlying160
  a127 := Ybaf.isAgg160
  z127 := Ybaf.sizeOf160
  v127 := Ybaf.zeroValue160
  t146 := Ybaf.underlying156
  a146 := Ybaf.isAgg156
  z146 := Ybaf.sizeOf156
  v146 := Ybaf.zeroValue156
  t148 := Ybaf.underlying158
  a148 := Ybaf.isAgg158
  z148 := Ybaf.sizeOf158
  v148 := Ybaf.zeroValue158
  t164 := Ybaf.underlying141
  a164 := Ybaf.isAgg141
  z164 := Ybaf.sizeOf141
  v164 := Ybaf.zeroValue141 }
theorem Ybaf.Builder_Extra_105 : Builder.Extra Ybaf.prog Ybaf.lays105_ren := {
  sizeBuilder := by kernel_rfl
  liesBuilder := by kernel_rfl
  t5 := Ybaf.underlying5
  a5 := Ybaf.isAgg5
  z5 := Ybaf.sizeOf5
  v5 := Ybaf.zeroValue5
  infoByte := by kernel_rfl
  cellsByte := by kernel_rfl
  sizeByte := by kernel_rfl
  neB5 := by decide }
open Go.RowKit Go.Lib in
theorem Ybaf.strings_Repeat (s : ByteArray) (c : Nat) (w : World) (hc : c ≤ 9223372036854775807) (hlen : s.size * c ≤ 140737488355328) :
    Calls Ybaf.prog 24 #[.string s, .int .i64 c] w fun e w' => e = .returned (.string ⟨(Lib.repeatL s.data.toList c).toArray⟩) ∧ Below w.heap.size w w' := Any.strings_Repeat Ybaf.lays105 Ybaf.Builder_Extra_105 s c w hc hlen
def Ybaf.lays193_ren : Go.Shelf.Ren := ⟨fun | 193 => 26 | n => n, fun | 31 => 22 | 9 => 9 | 4 => 4 | 3 => 3 | 0 => 0 | n => n, fun | n => n⟩
theorem Ybaf.lays193 : Go.Proofs.Lays.n193 Ybaf.prog Ybaf.lays193_ren := {
  mixed := by kernel_rfl
  f193 := Ybaf.func26.trans (congrArg some (by kernel_rfl))
  t0 := Ybaf.underlying0
  a0 := Ybaf.isAgg0
  z0 := Ybaf.sizeOf0
  v0 := Ybaf.zeroValue0
  t3 := Ybaf.underlying3
  a3 := Ybaf.isAgg3
  z3 := Ybaf.sizeOf3
  v3 := Ybaf.zeroValue3
  t4 := Ybaf.underlying4
  a4 := Ybaf.isAgg4
  z4 := Ybaf.sizeOf4
  v4 := Ybaf.zeroValue4
  t9 := Ybaf.underlying9
  a9 := Ybaf.isAgg9
  z9 := Ybaf.sizeOf9
  v9 := Ybaf.zeroValue9
  t31 := Ybaf.underlying22
  a31 := Ybaf.isAgg22
  z31 := Ybaf.sizeOf22
  v31 := Ybaf.zeroValue22 }
open Go.RowKit Go.Lib in
theorem Ybaf.slices_Equal_string (b1 o1 n c b2 o2 m d : Nat) (xs ys : List ByteArray) (w : World) (hx : n ≤ xs.length) (hy : m ≤ ys.length) (hbig : n ≤ 9223372036854775807) (hbig2 : m ≤ 9223372036854775807) (hc1 : ∀ j, j < xs.length → w.cell? ⟨b1, o1 + j, none⟩ = some (.string (xs.getD j ByteArray.empty))) (hc2 : ∀ j, j < ys.length → w.cell? ⟨b2, o2 + j, none⟩ = some (.string (ys.getD j ByteArray.empty))) :
    Calls Ybaf.prog 26 #[.slice (some ⟨b1, o1, none⟩) n c, .slice (some ⟨b2, o2, none⟩) m d] w fun e w' => e = .returned (.bool (decide (xs.take n = ys.take m))) ∧ ∃ q, w' = w.drewN q := Any.slices_Equal_string Ybaf.lays193 b1 o1 n c b2 o2 m d xs ys w hx hy hbig hbig2 hc1 hc2
end Go.Proofs
