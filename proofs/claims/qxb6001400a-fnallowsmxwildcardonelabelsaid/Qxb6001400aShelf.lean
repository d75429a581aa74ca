/-
  DERIVED: THE SHELF's CONTRACTS AT THIS DUMP, IN PLAIN WORDS (tools/lay-plain.mjs out of 'TryShelf.lean', which tools/lay-shelf.mjs wrote): THE SAME DECLARATIONS UNDER THE SAME NAMES: 'import', 'namespace', 'open', 'def', 'theorem' AND NOTHING ELSE: no command of the shelf's: FOR A HAND-IN. Each laying: the table of numbers ('.._ren') and one theorem, a field a fact of the dump's own or the kernel's comparison; each contract: ONE APPLICATION.
-/
import Derived.Shelf.Small.Wraps
import Derived.Shelf.Strings.Search1
import Derived.Shelf.Strings.Search2
import Derived.Shelf.Strings.Cut
import Derived.Shelf.LaysM
import Derived.Shelf.Strings.Shaped
import Derived.Shelf.GgClosure.StringsIndexFunc
import Derived.Ground.GgwProg
import Derived.Shelf.GgClosure.StringsIndexFuncTop
import Derived.Shelf.Strings.Prefix
import Derived.Test.Qxb6001400aProg
namespace Go.Proofs
open Go.Shelf
def Try.lays210_ren : Go.Shelf.Ren := ⟨fun | 210 => 45 | 206 => 50 | n => n, fun | 9 => 9 | 4 => 4 | 3 => 3 | n => n, fun | n => n⟩
theorem Try.lays210 : Go.Proofs.Lays.n210 Try.prog Try.lays210_ren := {
  mixed := by kernel_rfl
  f206 := Try.func50.trans (congrArg some (by kernel_rfl))
  f210 := Try.func45.trans (congrArg some (by kernel_rfl))
  t3 := Try.underlying3
  a3 := Try.isAgg3
  z3 := Try.sizeOf3
  v3 := Try.zeroValue3
  t4 := Try.underlying4
  a4 := Try.isAgg4
  z4 := Try.sizeOf4
  v4 := Try.zeroValue4
  t9 := Try.underlying9
  a9 := Try.isAgg9
  z9 := Try.sizeOf9
  v9 := Try.zeroValue9 }
open Go.RowKit in
theorem Try.stringslite_CutPrefix (s p : ByteArray) (w : World) :
    Calls Try.prog 45 #[.string s, .string p] w fun e w' => e = .returned (.tuple #[.string ⟨(Lib.trimPrefix s.data.toList p.data.toList).toArray⟩, .bool (Lib.hasPrefix s.data.toList p.data.toList)]) ∧ w' = w := Any.stringslite_CutPrefix Try.lays210 s p w
def Try.lays103_ren : Go.Shelf.Ren := ⟨fun | 103 => 42 | 210 => 45 | 206 => 50 | n => n, fun | 9 => 9 | 4 => 4 | 24 => 48 | 3 => 3 | n => n, fun | n => n⟩
theorem Try.lays103 : Go.Proofs.Lays.n103 Try.prog Try.lays103_ren := {
  mixed := by kernel_rfl
  f103 := Try.func42.trans (congrArg some (by kernel_rfl))
  f206 := Try.func50.trans (congrArg some (by kernel_rfl))
  f210 := Try.func45.trans (congrArg some (by kernel_rfl))
  t3 := Try.underlying3
  a3 := Try.isAgg3
  z3 := Try.sizeOf3
  v3 := Try.zeroValue3
  t4 := Try.underlying4
  a4 := Try.isAgg4
  z4 := Try.sizeOf4
  v4 := Try.zeroValue4
  t9 := Try.underlying9
  a9 := Try.isAgg9
  z9 := Try.sizeOf9
  v9 := Try.zeroValue9
  t24 := Try.underlying48
  a24 := Try.isAgg48
  z24 := Try.sizeOf48
  v24 := Try.zeroValue48 }
open Go.RowKit in
theorem Try.strings_CutPrefix (s p : ByteArray) (w : World) :
    Calls Try.prog 42 #[.string s, .string p] w fun e w' => e = .returned (.tuple #[.string ⟨(Lib.trimPrefix s.data.toList p.data.toList).toArray⟩, .bool (Lib.hasPrefix s.data.toList p.data.toList)]) ∧ w' = w := Any.strings_CutPrefix Try.lays103 s p w
def Try.lays217_ren : Go.Shelf.Ren := ⟨fun | 217 => 46 | 266 => 51 | n => n, fun | 9 => 9 | 5 => 5 | 3 => 3 | n => n, fun | n => n⟩
theorem Try.lays217 : Go.Proofs.Lays.n217 Try.prog Try.lays217_ren := {
  mixed := by kernel_rfl
  f217 := Try.func46.trans (congrArg some (by kernel_rfl))
  f266 := Try.func51.trans (congrArg some (by kernel_rfl))
  t3 := Try.underlying3
  a3 := Try.isAgg3
  z3 := Try.sizeOf3
  v3 := Try.zeroValue3
  t5 := Try.underlying5
  a5 := Try.isAgg5
  z5 := Try.sizeOf5
  v5 := Try.zeroValue5
  t9 := Try.underlying9
  a9 := Try.isAgg9
  z9 := Try.sizeOf9
  v9 := Try.zeroValue9 }
open Go.RowKit Go.Lib in
theorem Try.stringslite_IndexByte (s : ByteArray) (c : Int) (w : World) :
    Calls Try.prog 46 #[.string s, .int .u8 c] w fun e w' => e = .returned (.int .i64 (Lib.indexByte s.data.toList c.toNat.toUInt8)) ∧ w' = w := Any.stringslite_IndexByte Try.lays217 s c w
def Try.lays224_ren : Go.Shelf.Ren := ⟨fun | 224 => 48 | n => n, fun | 3 => 3 | n => n, fun | n => n⟩
theorem Try.lays224 : Go.Proofs.Lays.n224 Try.prog Try.lays224_ren := {
  mixed := by kernel_rfl
  f224 := Try.func48.trans (congrArg some (by kernel_rfl))
  t3 := Try.underlying3
  a3 := Try.isAgg3
  z3 := Try.sizeOf3
  v3 := Try.zeroValue3 }
open Go.RowKit Go.Lib in
theorem Try.bytealg_Cutover (n : Int) (h0 : 0 ≤ n) (h1 : n < 4611686018427387904) (w : World) :
    Calls Try.prog 48 #[.int .i64 n] w fun e w' => e = .returned (.int .i64 ((n + 16) / 8)) ∧ w' = w := Any.bytealg_Cutover Try.lays224 n h0 h1 w
def Try.lays314_ren : Go.Shelf.Ren := ⟨fun | 314 => 52 | n => n, fun | 9 => 9 | 51 => 29 | 3 => 3 | 4 => 4 | 5 => 5 | 46 => 54 | n => n, fun | n => n⟩
theorem Try.lays314 : Go.Proofs.Lays.n314 Try.prog Try.lays314_ren := {
  mixed := by kernel_rfl
  f314 := Try.func52.trans (congrArg some (by kernel_rfl))
  t3 := Try.underlying3
  a3 := Try.isAgg3
  z3 := Try.sizeOf3
  v3 := Try.zeroValue3
  t4 := Try.underlying4
  a4 := Try.isAgg4
  z4 := Try.sizeOf4
  v4 := Try.zeroValue4
  t5 := Try.underlying5
  a5 := Try.isAgg5
  z5 := Try.sizeOf5
  v5 := Try.zeroValue5
  t9 := Try.underlying9
  a9 := Try.isAgg9
  z9 := Try.sizeOf9
  v9 := Try.zeroValue9
  t46 := Try.underlying54
  a46 := Try.isAgg54
  z46 := Try.sizeOf54
  v46 := Try.zeroValue54
  t51 := Try.underlying29
  a51 := Try.isAgg29
  z51 := Try.sizeOf29
  v51 := Try.zeroValue29 }
open Go.RowKit Go.Lib in
theorem Try.bytealg_hashStr (sep : ByteArray) (hs : sep.size < 4294967281) (w : World) :
    Calls Try.prog 52 #[.string sep] w fun e w' => e = .returned (.tuple #[.int .u32 (RK.H sep.data.toList % 4294967296), .int .u32 (16777619 ^ sep.size % 4294967296)]) ∧ w' = w := Any.bytealg_hashStr Try.lays314 sep hs w
def Try.lays267_ren : Go.Shelf.Ren := ⟨fun | 267 => 49 | 314 => 52 | n => n, fun | 9 => 9 | 3 => 3 | 146 => 55 | 51 => 29 | 4 => 4 | 5 => 5 | 46 => 54 | n => n, fun | n => n⟩
theorem Try.lays267 : Go.Proofs.Lays.n267 Try.prog Try.lays267_ren := {
  mixed := by kernel_rfl
  f267 := Try.func49.trans (congrArg some (by kernel_rfl))
  f314 := Try.func52.trans (congrArg some (by kernel_rfl))
  t3 := Try.underlying3
  a3 := Try.isAgg3
  z3 := Try.sizeOf3
  v3 := Try.zeroValue3
  t4 := Try.underlying4
  a4 := Try.isAgg4
  z4 := Try.sizeOf4
  v4 := Try.zeroValue4
  t5 := Try.underlying5
  a5 := Try.isAgg5
  z5 := Try.sizeOf5
  v5 := Try.zeroValue5
  t9 := Try.underlying9
  a9 := Try.isAgg9
  z9 := Try.sizeOf9
  v9 := Try.zeroValue9
  t46 := Try.underlying54
  a46 := Try.isAgg54
  z46 := Try.sizeOf54
  v46 := Try.zeroValue54
  t51 := Try.underlying29
  a51 := Try.isAgg29
  z51 := Try.sizeOf29
  v51 := Try.zeroValue29
  t146 := Try.underlying55
  a146 := Try.isAgg55
  z146 := Try.sizeOf55
  v146 := Try.zeroValue55 }
open Go.RowKit Go.Lib in
theorem Try.bytealg_IndexRabinKarp (s sep : ByteArray) (h1 : 1 ≤ sep.size) (h2 : sep.size ≤ s.size) (hs : s.size < 4294967281) (w : World) :
    Calls Try.prog 49 #[.string s, .string sep] w fun e w' => e = .returned (.int .i64 (Lib.index s.data.toList sep.data.toList)) ∧ w' = w := Any.bytealg_IndexRabinKarp Try.lays267 s sep h1 h2 hs w
def Try.lays219_ren : Go.Shelf.Ren := ⟨fun | 219 => 44 | 217 => 46 | 225 => 47 | 224 => 48 | 267 => 49 | 266 => 51 | 314 => 52 | n => n, fun | 9 => 9 | 3 => 3 | 4 => 4 | 5 => 5 | 46 => 54 | 146 => 55 | 51 => 29 | n => n, fun | 1 => 0 | n => n⟩
theorem Try.lays219 : Go.Proofs.Lays.n219 Try.prog Try.lays219_ren := {
  mixed := by kernel_rfl
  f217 := Try.func46.trans (congrArg some (by kernel_rfl))
  f219 := Try.func44.trans (congrArg some (by kernel_rfl))
  f224 := Try.func48.trans (congrArg some (by kernel_rfl))
  f225 := Try.func47.trans (congrArg some (by kernel_rfl))
  f266 := Try.func51.trans (congrArg some (by kernel_rfl))
  f267 := Try.func49.trans (congrArg some (by kernel_rfl))
  f314 := Try.func52.trans (congrArg some (by kernel_rfl))
  t3 := Try.underlying3
  a3 := Try.isAgg3
  z3 := Try.sizeOf3
  v3 := Try.zeroValue3
  t4 := Try.underlying4
  a4 := Try.isAgg4
  z4 := Try.sizeOf4
  v4 := Try.zeroValue4
  t5 := Try.underlying5
  a5 := Try.isAgg5
  z5 := Try.sizeOf5
  v5 := Try.zeroValue5
  t9 := Try.underlying9
  a9 := Try.isAgg9
  z9 := Try.sizeOf9
  v9 := Try.zeroValue9
  t46 := Try.underlying54
  a46 := Try.isAgg54
  z46 := Try.sizeOf54
  v46 := Try.zeroValue54
  t51 := Try.underlying29
  a51 := Try.isAgg29
  z51 := Try.sizeOf29
  v51 := Try.zeroValue29
  t146 := Try.underlying55
  a146 := Try.isAgg55
  z146 := Try.sizeOf55
  v146 := Try.zeroValue55
  g1 := by kernel_rfl }
open Go.RowKit Go.Lib in
theorem Try.stringslite_Index_one (s : ByteArray) (c : UInt8) (w : World) :
    Calls Try.prog 44 #[.string s, .string ⟨#[c]⟩] w fun e w' => e = .returned (.int .i64 (Lib.indexByte s.data.toList c)) ∧ w' = w := Any.stringslite_Index_one Try.lays219 s c w
open Go.RowKit Go.Lib in
theorem Try.stringslite_Index (s sub : ByteArray) (m : Int) (w : World) (hs : s.size < 4294967281) (hm : w.cell? ⟨0, 0, none⟩ = some (.int .i64 m)) :
    Calls Try.prog 44 #[.string s, .string sub] w fun e w' => e = .returned (.int .i64 (Lib.index s.data.toList sub.data.toList)) ∧ w' = w := Any.stringslite_Index Try.lays219 s sub m w hs hm
def Try.lays220_ren : Go.Shelf.Ren := ⟨fun | 220 => 41 | 219 => 44 | 217 => 46 | 225 => 47 | 224 => 48 | 267 => 49 | 266 => 51 | 314 => 52 | n => n, fun | 9 => 9 | 4 => 4 | 3 => 3 | 5 => 5 | 46 => 54 | 146 => 55 | 51 => 29 | n => n, fun | 1 => 0 | n => n⟩
theorem Try.lays220 : Go.Proofs.Lays.n220 Try.prog Try.lays220_ren := {
  mixed := by kernel_rfl
  f217 := Try.func46.trans (congrArg some (by kernel_rfl))
  f219 := Try.func44.trans (congrArg some (by kernel_rfl))
  f220 := Try.func41.trans (congrArg some (by kernel_rfl))
  f224 := Try.func48.trans (congrArg some (by kernel_rfl))
  f225 := Try.func47.trans (congrArg some (by kernel_rfl))
  f266 := Try.func51.trans (congrArg some (by kernel_rfl))
  f267 := Try.func49.trans (congrArg some (by kernel_rfl))
  f314 := Try.func52.trans (congrArg some (by kernel_rfl))
  t3 := Try.underlying3
  a3 := Try.isAgg3
  z3 := Try.sizeOf3
  v3 := Try.zeroValue3
  t4 := Try.underlying4
  a4 := Try.isAgg4
  z4 := Try.sizeOf4
  v4 := Try.zeroValue4
  t5 := Try.underlying5
  a5 := Try.isAgg5
  z5 := Try.sizeOf5
  v5 := Try.zeroValue5
  t9 := Try.underlying9
  a9 := Try.isAgg9
  z9 := Try.sizeOf9
  v9 := Try.zeroValue9
  t46 := Try.underlying54
  a46 := Try.isAgg54
  z46 := Try.sizeOf54
  v46 := Try.zeroValue54
  t51 := Try.underlying29
  a51 := Try.isAgg29
  z51 := Try.sizeOf29
  v51 := Try.zeroValue29
  t146 := Try.underlying55
  a146 := Try.isAgg55
  z146 := Try.sizeOf55
  v146 := Try.zeroValue55
  g1 := by kernel_rfl }
open Go.RowKit Go.Lib in
theorem Try.stringslite_Cut (s sep : ByteArray) (m : Int) (w : World) (hs : s.size < 4294967281) (hm : w.cell? ⟨0, 0, none⟩ = some (.int .i64 m)) :
    Calls Try.prog 41 #[.string s, .string sep] w fun e w' => e = .returned (.tuple #[.string ⟨(Lib.cut s.data.toList sep.data.toList).1.toArray⟩, .string ⟨(Lib.cut s.data.toList sep.data.toList).2.1.toArray⟩, .bool (Lib.cut s.data.toList sep.data.toList).2.2]) ∧ ∃ n, w' = w.drewN n := Any.stringslite_Cut Try.lays220 s sep m w hs hm
def Try.lays145_ren : Go.Shelf.Ren := ⟨fun | 145 => 33 | 220 => 41 | 219 => 44 | 217 => 46 | 225 => 47 | 224 => 48 | 267 => 49 | 266 => 51 | 314 => 52 | n => n, fun | 9 => 9 | 4 => 4 | 59 => 40 | 3 => 3 | 5 => 5 | 46 => 54 | 146 => 55 | 51 => 29 | n => n, fun | 1 => 0 | n => n⟩
theorem Try.lays145 : Go.Proofs.Lays.n145 Try.prog Try.lays145_ren := {
  mixed := by kernel_rfl
  f145 := Try.func33.trans (congrArg some (by kernel_rfl))
  f217 := Try.func46.trans (congrArg some (by kernel_rfl))
  f219 := Try.func44.trans (congrArg some (by kernel_rfl))
  f220 := Try.func41.trans (congrArg some (by kernel_rfl))
  f224 := Try.func48.trans (congrArg some (by kernel_rfl))
  f225 := Try.func47.trans (congrArg some (by kernel_rfl))
  f266 := Try.func51.trans (congrArg some (by kernel_rfl))
  f267 := Try.func49.trans (congrArg some (by kernel_rfl))
  f314 := Try.func52.trans (congrArg some (by kernel_rfl))
  t3 := Try.underlying3
  a3 := Try.isAgg3
  z3 := Try.sizeOf3
  v3 := Try.zeroValue3
  t4 := Try.underlying4
  a4 := Try.isAgg4
  z4 := Try.sizeOf4
  v4 := Try.zeroValue4
  t5 := Try.underlying5
  a5 := Try.isAgg5
  z5 := Try.sizeOf5
  v5 := Try.zeroValue5
  t9 := Try.underlying9
  a9 := Try.isAgg9
  z9 := Try.sizeOf9
  v9 := Try.zeroValue9
  t46 := Try.underlying54
  a46 := Try.isAgg54
  z46 := Try.sizeOf54
  v46 := Try.zeroValue54
  t51 := Try.underlying29
  a51 := Try.isAgg29
  z51 := Try.sizeOf29
  v51 := Try.zeroValue29
  t59 := Try.underlying40
  a59 := Try.isAgg40
  z59 := Try.sizeOf40
  v59 := Try.zeroValue40
  t146 := Try.underlying55
  a146 := Try.isAgg55
  z146 := Try.sizeOf55
  v146 := Try.zeroValue55
  g1 := by kernel_rfl }
open Go.RowKit Go.Lib in
theorem Try.strings_Cut (s sep : ByteArray) (m : Int) (w : World) (hs : s.size < 4294967281) (hm : w.cell? ⟨0, 0, none⟩ = some (.int .i64 m)) :
    Calls Try.prog 33 #[.string s, .string sep] w fun e w' => e = .returned (.tuple #[.string ⟨(Lib.cut s.data.toList sep.data.toList).1.toArray⟩, .string ⟨(Lib.cut s.data.toList sep.data.toList).2.1.toArray⟩, .bool (Lib.cut s.data.toList sep.data.toList).2.2]) ∧ ∃ n, w' = w.drewN n := Any.strings_Cut Try.lays145 s sep m w hs hm
def Try.laysM219_ren : Go.Shelf.Ren := ⟨fun | 219 => 44 | 217 => 46 | 225 => 47 | 224 => 48 | 267 => 49 | 266 => 51 | 314 => 52 | n => n, fun | 9 => 9 | 3 => 3 | 4 => 4 | 5 => 5 | 46 => 54 | 146 => 55 | 51 => 29 | n => n, fun | 1 => 0 | n => n⟩
theorem Try.laysM219 : Go.Proofs.LaysM.n219 Try.prog Try.laysM219_ren := {
  mixed := by kernel_rfl
  f217 := Try.func46.trans (congrArg some (by kernel_rfl))
  f219 := Try.func44.trans (congrArg some (by kernel_rfl))
  f224 := Try.func48.trans (congrArg some (by kernel_rfl))
  f225 := Try.func47.trans (congrArg some (by kernel_rfl))
  f266 := Try.func51.trans (congrArg some (by kernel_rfl))
  f267 := Try.func49.trans (congrArg some (by kernel_rfl))
  f314 := Try.func52.trans (congrArg some (by kernel_rfl))
  t3 := Try.underlying3
  a3 := Try.isAgg3
  z3 := Try.sizeOf3
  v3 := Try.zeroValue3
  t4 := Try.underlying4
  a4 := Try.isAgg4
  z4 := Try.sizeOf4
  v4 := Try.zeroValue4
  t5 := Try.underlying5
  a5 := Try.isAgg5
  z5 := Try.sizeOf5
  v5 := Try.zeroValue5
  t9 := Try.underlying9
  a9 := Try.isAgg9
  z9 := Try.sizeOf9
  v9 := Try.zeroValue9
  t46 := Try.underlying54
  a46 := Try.isAgg54
  z46 := Try.sizeOf54
  v46 := Try.zeroValue54
  t51 := Try.underlying29
  a51 := Try.isAgg29
  z51 := Try.sizeOf29
  v51 := Try.zeroValue29
  t146 := Try.underlying55
  a146 := Try.isAgg55
  z146 := Try.sizeOf55
  v146 := Try.zeroValue55
  g1 := by kernel_rfl
  i3 := by kernel_rfl
  i4 := by kernel_rfl
  i5 := by kernel_rfl
  i9 := by kernel_rfl
  i46 := by kernel_rfl
  i51 := by kernel_rfl
  i146 := by kernel_rfl
  m1 := by kernel_rfl
  s1_3 := fun w h => Go.Proofs.cell_of_shapedOpen_int (zero := #[.int .i64 0]) (t := 3) h (of_decide_eq_true (by kernel_rfl)) (by kernel_rfl) rfl (by kernel_rfl) (by kernel_rfl) Try.underlying3 }
open Go.RowKit Go.Lib in
theorem Try.stringslite_Index_shaped (s sub : ByteArray) (w : World) (h : w.ShapedOpen Try.prog) (hs : s.size < 4294967281) :
    Calls Try.prog 44 #[.string s, .string sub] w fun e w' => e = .returned (.int .i64 (Lib.index s.data.toList sub.data.toList)) ∧ w' = w := Any.stringslite_Index_shaped Try.laysM219 s sub w h hs
def Try.laysM220_ren : Go.Shelf.Ren := ⟨fun | 220 => 41 | 219 => 44 | 217 => 46 | 225 => 47 | 224 => 48 | 267 => 49 | 266 => 51 | 314 => 52 | n => n, fun | 9 => 9 | 4 => 4 | 3 => 3 | 5 => 5 | 46 => 54 | 146 => 55 | 51 => 29 | n => n, fun | 1 => 0 | n => n⟩
theorem Try.laysM220 : Go.Proofs.LaysM.n220 Try.prog Try.laysM220_ren := {
  mixed := by kernel_rfl
  f217 := Try.func46.trans (congrArg some (by kernel_rfl))
  f219 := Try.func44.trans (congrArg some (by kernel_rfl))
  f220 := Try.func41.trans (congrArg some (by kernel_rfl))
  f224 := Try.func48.trans (congrArg some (by kernel_rfl))
  f225 := Try.func47.trans (congrArg some (by kernel_rfl))
  f266 := Try.func51.trans (congrArg some (by kernel_rfl))
  f267 := Try.func49.trans (congrArg some (by kernel_rfl))
  f314 := Try.func52.trans (congrArg some (by kernel_rfl))
  t3 := Try.underlying3
  a3 := Try.isAgg3
  z3 := Try.sizeOf3
  v3 := Try.zeroValue3
  t4 := Try.underlying4
  a4 := Try.isAgg4
  z4 := Try.sizeOf4
  v4 := Try.zeroValue4
  t5 := Try.underlying5
  a5 := Try.isAgg5
  z5 := Try.sizeOf5
  v5 := Try.zeroValue5
  t9 := Try.underlying9
  a9 := Try.isAgg9
  z9 := Try.sizeOf9
  v9 := Try.zeroValue9
  t46 := Try.underlying54
  a46 := Try.isAgg54
  z46 := Try.sizeOf54
  v46 := Try.zeroValue54
  t51 := Try.underlying29
  a51 := Try.isAgg29
  z51 := Try.sizeOf29
  v51 := Try.zeroValue29
  t146 := Try.underlying55
  a146 := Try.isAgg55
  z146 := Try.sizeOf55
  v146 := Try.zeroValue55
  g1 := by kernel_rfl
  i3 := by kernel_rfl
  i4 := by kernel_rfl
  i5 := by kernel_rfl
  i9 := by kernel_rfl
  i46 := by kernel_rfl
  i51 := by kernel_rfl
  i146 := by kernel_rfl
  m1 := by kernel_rfl
  s1_3 := fun w h => Go.Proofs.cell_of_shapedOpen_int (zero := #[.int .i64 0]) (t := 3) h (of_decide_eq_true (by kernel_rfl)) (by kernel_rfl) rfl (by kernel_rfl) (by kernel_rfl) Try.underlying3 }
open Go.RowKit Go.Lib in
theorem Try.stringslite_Cut_shaped (s sep : ByteArray) (w : World) (h : w.ShapedOpen Try.prog) (hs : s.size < 4294967281) :
    Calls Try.prog 41 #[.string s, .string sep] w fun e w' => e = .returned (.tuple #[.string ⟨(Lib.cut s.data.toList sep.data.toList).1.toArray⟩, .string ⟨(Lib.cut s.data.toList sep.data.toList).2.1.toArray⟩, .bool (Lib.cut s.data.toList sep.data.toList).2.2]) ∧ ∃ n, w' = w.drewN n := Any.stringslite_Cut_shaped Try.laysM220 s sep w h hs
def Try.laysM145_ren : Go.Shelf.Ren := ⟨fun | 145 => 33 | 220 => 41 | 219 => 44 | 217 => 46 | 225 => 47 | 224 => 48 | 267 => 49 | 266 => 51 | 314 => 52 | n => n, fun | 9 => 9 | 4 => 4 | 59 => 40 | 3 => 3 | 5 => 5 | 46 => 54 | 146 => 55 | 51 => 29 | n => n, fun | 1 => 0 | n => n⟩
theorem Try.laysM145 : Go.Proofs.LaysM.n145 Try.prog Try.laysM145_ren := {
  mixed := by kernel_rfl
  f145 := Try.func33.trans (congrArg some (by kernel_rfl))
  f217 := Try.func46.trans (congrArg some (by kernel_rfl))
  f219 := Try.func44.trans (congrArg some (by kernel_rfl))
  f220 := Try.func41.trans (congrArg some (by kernel_rfl))
  f224 := Try.func48.trans (congrArg some (by kernel_rfl))
  f225 := Try.func47.trans (congrArg some (by kernel_rfl))
  f266 := Try.func51.trans (congrArg some (by kernel_rfl))
  f267 := Try.func49.trans (congrArg some (by kernel_rfl))
  f314 := Try.func52.trans (congrArg some (by kernel_rfl))
  t3 := Try.underlying3
  a3 := Try.isAgg3
  z3 := Try.sizeOf3
  v3 := Try.zeroValue3
  t4 := Try.underlying4
  a4 := Try.isAgg4
  z4 := Try.sizeOf4
  v4 := Try.zeroValue4
  t5 := Try.underlying5
  a5 := Try.isAgg5
  z5 := Try.sizeOf5
  v5 := Try.zeroValue5
  t9 := Try.underlying9
  a9 := Try.isAgg9
  z9 := Try.sizeOf9
  v9 := Try.zeroValue9
  t46 := Try.underlying54
  a46 := Try.isAgg54
  z46 := Try.sizeOf54
  v46 := Try.zeroValue54
  t51 := Try.underlying29
  a51 := Try.isAgg29
  z51 := Try.sizeOf29
  v51 := Try.zeroValue29
  t59 := Try.underlying40
  a59 := Try.isAgg40
  z59 := Try.sizeOf40
  v59 := Try.zeroValue40
  t146 := Try.underlying55
  a146 := Try.isAgg55
  z146 := Try.sizeOf55
  v146 := Try.zeroValue55
  g1 := by kernel_rfl
  i3 := by kernel_rfl
  i4 := by kernel_rfl
  i5 := by kernel_rfl
  i9 := by kernel_rfl
  i46 := by kernel_rfl
  i51 := by kernel_rfl
  i59 := by kernel_rfl
  i146 := by kernel_rfl
  m1 := by kernel_rfl
  s1_3 := fun w h => Go.Proofs.cell_of_shapedOpen_int (zero := #[.int .i64 0]) (t := 3) h (of_decide_eq_true (by kernel_rfl)) (by kernel_rfl) rfl (by kernel_rfl) (by kernel_rfl) Try.underlying3 }
open Go.RowKit Go.Lib in
theorem Try.strings_Cut_shaped (s sep : ByteArray) (w : World) (h : w.ShapedOpen Try.prog) (hs : s.size < 4294967281) :
    Calls Try.prog 33 #[.string s, .string sep] w fun e w' => e = .returned (.tuple #[.string ⟨(Lib.cut s.data.toList sep.data.toList).1.toArray⟩, .string ⟨(Lib.cut s.data.toList sep.data.toList).2.1.toArray⟩, .bool (Lib.cut s.data.toList sep.data.toList).2.2]) ∧ ∃ n, w' = w.drewN n := Any.strings_Cut_shaped Try.laysM145 s sep w h hs
def Try.lays315_ren : Go.Shelf.Ren := ⟨fun | 315 => 43 | n => n, fun | 9 => 9 | 40 => 43 | 4 => 4 | 3 => 3 | 0 => 0 | 21 => 21 | n => n, fun | n => n⟩
theorem Try.lays315 : Go.Proofs.Lays.n315 Try.prog Try.lays315_ren := {
  mixed := by kernel_rfl
  f315 := Try.func43.trans (congrArg some (by kernel_rfl))
  t0 := Try.underlying0
  a0 := Try.isAgg0
  z0 := Try.sizeOf0
  v0 := Try.zeroValue0
  t3 := Try.underlying3
  a3 := Try.isAgg3
  z3 := Try.sizeOf3
  v3 := Try.zeroValue3
  t4 := Try.underlying4
  a4 := Try.isAgg4
  z4 := Try.sizeOf4
  v4 := Try.zeroValue4
  t9 := Try.underlying9
  a9 := Try.isAgg9
  z9 := Try.sizeOf9
  v9 := Try.zeroValue9
  t21 := Try.underlying21
  a21 := Try.isAgg21
  z21 := Try.sizeOf21
  v21 := Try.zeroValue21
  t40 := Try.underlying43
  a40 := Try.isAgg43
  z40 := Try.sizeOf43
  v40 := Try.zeroValue43 }
open Go.RowKit Go.Lib in
theorem Try.strings_indexFunc (g : Nat) (lb : Array Value) (eg : ∀ args w, (callFunc g args).run Try.prog w = .ok (.enter g args) w) (p : Nat → Bool) (truth : Bool) (s : ByteArray) (w : World) (hp : PredAt Try.prog g lb encR p w) :
    Calls Try.prog 43 #[.string s, .func (.func g) #[] lb, .bool truth] w fun e w' => e = .returned (.int .i64 (Lib.idxFunc p truth s)) ∧ Below w.heap.size w w' := Any.strings_indexFunc Try.lays315 g lb eg p truth s w hp
def Try.laysGw15_ren : Go.Shelf.Ren := ⟨fun | 15 => 39 | 20 => 43 | n => n, fun | 9 => 9 | 23 => 43 | 3 => 3 | 4 => 4 | 0 => 0 | 21 => 21 | n => n, fun | n => n⟩
theorem Try.laysGw15 : Go.Proofs.LaysGw.n15 Try.prog Try.laysGw15_ren := {
  mixed := by kernel_rfl
  f15 := Try.func39.trans (congrArg some (by kernel_rfl))
  f20 := Try.func43.trans (congrArg some (by kernel_rfl))
  t0 := Try.underlying0
  a0 := Try.isAgg0
  z0 := Try.sizeOf0
  v0 := Try.zeroValue0
  i0 := by kernel_rfl
  t3 := Try.underlying3
  a3 := Try.isAgg3
  z3 := Try.sizeOf3
  v3 := Try.zeroValue3
  i3 := by kernel_rfl
  t4 := Try.underlying4
  a4 := Try.isAgg4
  z4 := Try.sizeOf4
  v4 := Try.zeroValue4
  i4 := by kernel_rfl
  t9 := Try.underlying9
  a9 := Try.isAgg9
  z9 := Try.sizeOf9
  v9 := Try.zeroValue9
  i9 := by kernel_rfl
  t21 := Try.underlying21
  a21 := Try.isAgg21
  z21 := Try.sizeOf21
  v21 := Try.zeroValue21
  i21 := by kernel_rfl
  t23 := Try.underlying43
  a23 := Try.isAgg43
  z23 := Try.sizeOf43
  v23 := Try.zeroValue43
  i23 := by kernel_rfl }
open Go.RowKit Go.Lib in
theorem Try.strings_IndexFunc (g : Nat) (lb : Array Value) (eg : ∀ args w, (callFunc g args).run Try.prog w = .ok (.enter g args) w) (p : Nat → Bool) (s : ByteArray) (w : World) (hp : PredAt Try.prog g lb encR p w) :
    Calls Try.prog 39 #[.string s, .func (.func g) #[] lb] w fun e w' => e = .returned (.int .i64 (Lib.idxFunc p true s)) ∧ Below w.heap.size w w' := Any.strings_IndexFunc Try.laysGw15 g lb eg p s w hp
def Try.laysGw17_ren : Go.Shelf.Ren := ⟨fun | 17 => 35 | 15 => 39 | 20 => 43 | n => n, fun | 9 => 9 | 23 => 43 | 4 => 4 | 3 => 3 | 0 => 0 | 21 => 21 | n => n, fun | n => n⟩
theorem Try.laysGw17 : Go.Proofs.LaysGw.n17 Try.prog Try.laysGw17_ren := {
  mixed := by kernel_rfl
  f15 := Try.func39.trans (congrArg some (by kernel_rfl))
  f17 := Try.func35.trans (congrArg some (by kernel_rfl))
  f20 := Try.func43.trans (congrArg some (by kernel_rfl))
  t0 := Try.underlying0
  a0 := Try.isAgg0
  z0 := Try.sizeOf0
  v0 := Try.zeroValue0
  i0 := by kernel_rfl
  t3 := Try.underlying3
  a3 := Try.isAgg3
  z3 := Try.sizeOf3
  v3 := Try.zeroValue3
  i3 := by kernel_rfl
  t4 := Try.underlying4
  a4 := Try.isAgg4
  z4 := Try.sizeOf4
  v4 := Try.zeroValue4
  i4 := by kernel_rfl
  t9 := Try.underlying9
  a9 := Try.isAgg9
  z9 := Try.sizeOf9
  v9 := Try.zeroValue9
  i9 := by kernel_rfl
  t21 := Try.underlying21
  a21 := Try.isAgg21
  z21 := Try.sizeOf21
  v21 := Try.zeroValue21
  i21 := by kernel_rfl
  t23 := Try.underlying43
  a23 := Try.isAgg43
  z23 := Try.sizeOf43
  v23 := Try.zeroValue43
  i23 := by kernel_rfl }
open Go.RowKit Go.Lib in
theorem Try.strings_ContainsFunc (g : Nat) (lb : Array Value) (eg : ∀ args w, (callFunc g args).run Try.prog w = .ok (.enter g args) w) (p : Nat → Bool) (s : ByteArray) (w : World) (hp : PredAt Try.prog g lb encR p w) :
    Calls Try.prog 35 #[.string s, .func (.func g) #[] lb] w fun e w' => e = .returned (.bool (decide (0 ≤ Lib.idxFunc p true s))) ∧ Below w.heap.size w w' := Any.strings_ContainsFunc Try.laysGw17 g lb eg p s w hp
def Try.lays206_ren : Go.Shelf.Ren := ⟨fun | 206 => 50 | n => n, fun | 9 => 9 | 4 => 4 | 3 => 3 | n => n, fun | n => n⟩
theorem Try.lays206 : Go.Proofs.Lays.n206 Try.prog Try.lays206_ren := {
  mixed := by kernel_rfl
  f206 := Try.func50.trans (congrArg some (by kernel_rfl))
  t3 := Try.underlying3
  a3 := Try.isAgg3
  z3 := Try.sizeOf3
  v3 := Try.zeroValue3
  t4 := Try.underlying4
  a4 := Try.isAgg4
  z4 := Try.sizeOf4
  v4 := Try.zeroValue4
  t9 := Try.underlying9
  a9 := Try.isAgg9
  z9 := Try.sizeOf9
  v9 := Try.zeroValue9 }
open Go.RowKit Go.Lib in
theorem Try.stringslite_HasPrefix (s p : ByteArray) (w : World) :
    Calls Try.prog 50 #[.string s, .string p] w fun e w' => e = .returned (.bool (Lib.hasPrefix s.data.toList p.data.toList)) ∧ w' = w := Any.stringslite_HasPrefix Try.lays206 s p w
end Go.Proofs
