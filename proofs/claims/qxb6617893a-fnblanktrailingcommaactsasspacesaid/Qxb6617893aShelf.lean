/-
  THE LIBRARY CONTRACTS THAT THIS SEAT's PROOFS USE, AT THIS PROGRAM (laid by the guide's tool, in plain words; cut to what is used).
-/
import Derived.Shelf.Strings.Repeat
import Derived.Ground.SlbCloneProg
import Derived.Shelf.Bytes.SlClone
import Derived.Shelf.Bytes.SlSmallAll
import Derived.Test.Qxb6617893aProg
namespace Go.Proofs
open Go.Shelf
def Try.lays105_ren : Go.Shelf.Ren := ⟨fun | 105 => 20 | 212 => 22 | 99 => 23 | 165 => 24 | 166 => 25 | 170 => 26 | 169 => 27 | 263 => 28 | 264 => 29 | 206 => 30 | 240 => 31 | 241 => 32 | 276 => 33 | 277 => 34 | n => n, fun | 9 => 9 | 3 => 3 | 4 => 4 | 20 => 20 | 0 => 0 | 46 => 33 | 109 => 34 | 5 => 5 | 72 => 39 | 76 => 43 | 51 => 47 | 146 => 48 | 53 => 50 | 148 => 51 | 70 => 37 | 37 => 22 | 75 => 42 | 127 => 53 | 164 => 54 | 80 => 46 | n => n, fun | n => n⟩
theorem Try.lays105 : Go.Proofs.Lays.n105 Try.prog Try.lays105_ren := {
  mixed := by kernel_rfl
  f99 := Try.func23.trans (congrArg some (by kernel_rfl))
  f105 := Try.func20.trans (congrArg some (by kernel_rfl))
  f165 := Try.func24.trans (congrArg some (by kernel_rfl))
  f166 := Try.func25.trans (congrArg some (by kernel_rfl))
  f169 := Try.func27.trans (congrArg some (by kernel_rfl))
  f170 := Try.func26.trans (congrArg some (by kernel_rfl))
  f206 := Try.func30.trans (congrArg some (by kernel_rfl))
  f212 := Try.func22.trans (congrArg some (by kernel_rfl))
  f240 := Try.func31.trans (congrArg some (by kernel_rfl))
  f241 := Try.func32.trans (congrArg some (by kernel_rfl))
  f263 := Try.func28.trans (congrArg some (by kernel_rfl))
  f264 := Try.func29.trans (congrArg some (by kernel_rfl))
  f276 := Try.func33.trans (congrArg some (by kernel_rfl))
  f277 := Try.func34.trans (congrArg some (by kernel_rfl))
  t0 := Try.underlying0
  a0 := Try.isAgg0
  z0 := Try.sizeOf0
  v0 := Try.zeroValue0
  t3 := Try.underlying3
  a3 := Try.isAgg3
  z3 := Try.sizeOf3
  v3 := Try.zeroValue3
  t4 := Try.underlying4
  a4 := Try.isAgg4
  z4 := Try.sizeOf4
  v4 := Try.zeroValue4
  t5 := Try.underlying5
  a5 := Try.isAgg5
  z5 := Try.sizeOf5
  v5 := Try.zeroValue5
  t9 := Try.underlying9
  a9 := Try.isAgg9
  z9 := Try.sizeOf9
  v9 := Try.zeroValue9
  t20 := Try.underlying20
  a20 := Try.isAgg20
  z20 := Try.sizeOf20
  v20 := Try.zeroValue20
  t37 := Try.underlying22
  a37 := Try.isAgg22
  z37 := Try.sizeOf22
  v37 := Try.zeroValue22
  t46 := Try.underlying33
  a46 := Try.isAgg33
  z46 := Try.sizeOf33
  v46 := Try.zeroValue33
  t51 := Try.underlying47
  a51 := Try.isAgg47
  z51 := Try.sizeOf47
  v51 := Try.zeroValue47
  t53 := Try.underlying50
  a53 := Try.isAgg50
  z53 := Try.sizeOf50
  v53 := Try.zeroValue50
  t70 := Try.underlying37
  a70 := Try.isAgg37
  z70 := Try.sizeOf37
  v70 := Try.zeroValue37
  t72 := Try.underlying39
  a72 := Try.isAgg39
  z72 := Try.sizeOf39
  v72 := Try.zeroValue39
  t75 := Try.underlying42
  a75 := Try.isAgg42
  z75 := Try.sizeOf42
  v75 := Try.zeroValue42
  t76 := Try.underlying43
  a76 := Try.isAgg43
  z76 := Try.sizeOf43
  v76 := Try.zeroValue43
  t109 := Try.underlying34
  a109 := Try.isAgg34
  z109 := Try.sizeOf34
  v109 := Try.zeroValue34
  t127 := Try.underlying53
  a127 := Try.isAgg53
  z127 := Try.sizeOf53
  v127 := Try.zeroValue53
  t146 := Try.underlying48
  a146 := Try.isAgg48
  z146 := Try.sizeOf48
  v146 := Try.zeroValue48
  t148 := Try.underlying51
  a148 := Try.isAgg51
  z148 := Try.sizeOf51
  v148 := Try.zeroValue51
  t164 := Try.underlying54
  a164 := Try.isAgg54
  z164 := Try.sizeOf54
  v164 := Try.zeroValue54 }
theorem Try.Builder_Extra_105 : Builder.Extra Try.prog Try.lays105_ren := {
  sizeBuilder := by kernel_rfl
  liesBuilder := by kernel_rfl
  t5 := Try.underlying5
  a5 := Try.isAgg5
  z5 := Try.sizeOf5
  v5 := Try.zeroValue5
  infoByte := by kernel_rfl
  cellsByte := by kernel_rfl
  sizeByte := by kernel_rfl
  neB5 := by decide }
open Go.RowKit Go.Lib in
theorem Try.strings_Repeat_main (s : ByteArray) (c : Nat) (w : World) (hc2 : 2 ≤ c) (hc : c ≤ 9223372036854775807) (hlen : s.size * c ≤ 140737488355328) (h0 : 0 < s.size) :
    Calls Try.prog 20 #[.string s, .int .i64 c] w fun e w' => e = .returned (.string ⟨(Lib.repeatL s.data.toList c).toArray⟩) ∧ Below w.heap.size w w' := Any.strings_Repeat_main Try.lays105 Try.Builder_Extra_105 s c w hc2 hc hlen h0
def Try.laysSlK4_ren : Go.Shelf.Ren := ⟨fun | 4 => 18 | n => n, fun | 22 => 22 | 4 => 4 | 5 => 5 | n => n, fun | n => n⟩
theorem Try.laysSlK4 : Go.Proofs.SlLaysK.n4 Try.prog Try.laysSlK4_ren := {
  mixed := by kernel_rfl
  f4 := Try.func18.trans (congrArg some (by kernel_rfl))
  t4 := Try.underlying4
  a4 := Try.isAgg4
  z4 := Try.sizeOf4
  v4 := Try.zeroValue4
  t22 := Try.underlying22
  a22 := Try.isAgg22
  z22 := Try.sizeOf22
  v22 := Try.zeroValue22
  t5 := Try.underlying5
  i5 := by kernel_rfl }
open Go.RowKit Go.Lib in
theorem Try.bytes_Clone_at (a : Addr) (n c : Nat) (xs : List Int) (w : World) (hx : xs.length = n) (hbig : n ≤ 140737488355328) (hc : ∀ i, i < n → w.cell? (a.add i) = some (.int .u8 (xs.getD i 0))) :
    Calls Try.prog 18 #[.slice (some a) n c] w fun e w' => ∃ v', e = .returned v' ∧ w'.ownsRow w.heap.size 5 1 v' n (xs.map (Value.int .u8)) ∧ v' ≠ .slice none 0 0 ∧ Below w.heap.size w w' := Any.bytes_Clone_at Try.laysSlK4 a n c xs w hx hbig hc
open Go.RowKit Go.Lib in
theorem Try.bytes_Clone_nil (n c : Nat) (w : World) :
    Calls Try.prog 18 #[.slice none n c] w fun e w' => e = .returned (.slice none 0 0) ∧ w' = w := Any.bytes_Clone_nil Try.laysSlK4 n c w
def Try.laysnb116_ren : Go.Shelf.Ren := ⟨fun | 116 => 19 | 115 => 21 | n => n, fun | 37 => 22 | 4 => 4 | 3 => 3 | 9 => 9 | 5 => 5 | n => n, fun | n => n⟩
theorem Try.laysnb116 : Go.Proofs.Lays.nb116 Try.prog Try.laysnb116_ren := {
  mixed := by kernel_rfl
  f115 := Try.func21.trans (congrArg some (by kernel_rfl))
  f116 := Try.func19.trans (congrArg some (by kernel_rfl))
  t3 := Try.underlying3
  a3 := Try.isAgg3
  z3 := Try.sizeOf3
  v3 := Try.zeroValue3
  t4 := Try.underlying4
  a4 := Try.isAgg4
  z4 := Try.sizeOf4
  v4 := Try.zeroValue4
  t9 := Try.underlying9
  a9 := Try.isAgg9
  z9 := Try.sizeOf9
  v9 := Try.zeroValue9
  t37 := Try.underlying22
  a37 := Try.isAgg22
  z37 := Try.sizeOf22
  v37 := Try.zeroValue22
  t5 := Try.underlying5
  a5 := Try.isAgg5
  z5 := Try.sizeOf5
  v5 := Try.zeroValue5 }
theorem Try.bytes_HasPrefix_all (p1 p2 : Option Addr) (n c m d : Nat) (xs ys : List Int) (w : World) (hx : xs.length = n) (hy : ys.length = m) (hnc : n ≤ c) (h1 : Lib.BytesIn w p1 n xs) (h2 : Lib.BytesIn w p2 m ys) :
    Calls Try.prog 19 #[.slice p1 n c, .slice p2 m d] w fun e w' => e = .returned (.bool (Lib.hasPrefix (Lib.bytesOf xs) (Lib.bytesOf ys))) ∧ w' = w := Any.bytes_HasPrefix_all Try.laysnb116 p1 p2 n c m d xs ys w hx hy hnc h1 h2
end Go.Proofs
