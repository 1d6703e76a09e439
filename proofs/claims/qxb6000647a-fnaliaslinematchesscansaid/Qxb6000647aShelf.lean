/-
  The shelf's contracts at this program, laid by the kit's tools (lay-shelf, lay-plain), remarks struck.
-/
import Derived.Shelf.Small.Wraps
import Derived.Shelf.Utf8.RuneCount
import Derived.Shelf.Strings.Search1
import Derived.Shelf.Strings.Search2
import Derived.Shelf.Strings.Search3
import Derived.Shelf.Strings.Count
import Derived.Shelf.LaysM
import Derived.Shelf.Strings.Shaped
import Derived.Shelf.Strings.Prefix
import Derived.Shelf.Strings.Split
import Derived.Shelf.Strings.RuneCount
import Derived.Shelf.Bytes.SlIndexSmall
import Derived.Shelf.Bytes.SlIndexAt
import Derived.Shelf.Bytes.SlSearch0
import Derived.Shelf.Bytes.SlSearch1
import Derived.Shelf.Bytes.SlSearch2
import Derived.Shelf.Bytes.SlIndexWhole
import Derived.Shelf.Bytes.SlEqualAll
import Derived.Shelf.Bytes.Small
import Derived.Shelf.Bytes.IndexByte
import Derived.Test.Qxb6000647aProg
namespace Go.Proofs
open Go.Shelf
def Try.lays210_ren : Go.Shelf.Ren := ⟨fun | 210 => 31 | 206 => 32 | n => n, fun | 9 => 9 | 4 => 4 | 3 => 3 | n => n, fun | n => n⟩
theorem Try.lays210 : Go.Proofs.Lays.n210 Try.prog Try.lays210_ren := {
  mixed := by kernel_rfl
  f206 := Try.func32.trans (congrArg some (by kernel_rfl))
  f210 := Try.func31.trans (congrArg some (by kernel_rfl))
  t3 := Try.underlying3
  a3 := Try.isAgg3
  z3 := Try.sizeOf3
  v3 := Try.zeroValue3
  t4 := Try.underlying4
  a4 := Try.isAgg4
  z4 := Try.sizeOf4
  v4 := Try.zeroValue4
  t9 := Try.underlying9
  a9 := Try.isAgg9
  z9 := Try.sizeOf9
  v9 := Try.zeroValue9 }
open Go.RowKit in
theorem Try.stringslite_CutPrefix (s p : ByteArray) (w : World) :
    Calls Try.prog 31 #[.string s, .string p] w fun e w' => e = .returned (.tuple #[.string ⟨(Lib.trimPrefix s.data.toList p.data.toList).toArray⟩, .bool (Lib.hasPrefix s.data.toList p.data.toList)]) ∧ w' = w := Any.stringslite_CutPrefix Try.lays210 s p w
def Try.lays103_ren : Go.Shelf.Ren := ⟨fun | 103 => 25 | 210 => 31 | 206 => 32 | n => n, fun | 9 => 9 | 4 => 4 | 24 => 30 | 3 => 3 | n => n, fun | n => n⟩
theorem Try.lays103 : Go.Proofs.Lays.n103 Try.prog Try.lays103_ren := {
  mixed := by kernel_rfl
  f103 := Try.func25.trans (congrArg some (by kernel_rfl))
  f206 := Try.func32.trans (congrArg some (by kernel_rfl))
  f210 := Try.func31.trans (congrArg some (by kernel_rfl))
  t3 := Try.underlying3
  a3 := Try.isAgg3
  z3 := Try.sizeOf3
  v3 := Try.zeroValue3
  t4 := Try.underlying4
  a4 := Try.isAgg4
  z4 := Try.sizeOf4
  v4 := Try.zeroValue4
  t9 := Try.underlying9
  a9 := Try.isAgg9
  z9 := Try.sizeOf9
  v9 := Try.zeroValue9
  t24 := Try.underlying30
  a24 := Try.isAgg30
  z24 := Try.sizeOf30
  v24 := Try.zeroValue30 }
open Go.RowKit in
theorem Try.strings_CutPrefix (s p : ByteArray) (w : World) :
    Calls Try.prog 25 #[.string s, .string p] w fun e w' => e = .returned (.tuple #[.string ⟨(Lib.trimPrefix s.data.toList p.data.toList).toArray⟩, .bool (Lib.hasPrefix s.data.toList p.data.toList)]) ∧ w' = w := Any.strings_CutPrefix Try.lays103 s p w
def Try.lays195_ren : Go.Shelf.Ren := ⟨fun | 195 => 41 | n => n, fun | 9 => 9 | 3 => 3 | 0 => 0 | 4 => 4 | n => n, fun | n => n⟩
theorem Try.lays195 : Go.Proofs.Lays.n195 Try.prog Try.lays195_ren := {
  mixed := by kernel_rfl
  f195 := Try.func41.trans (congrArg some (by kernel_rfl))
  t0 := Try.underlying0
  a0 := Try.isAgg0
  z0 := Try.sizeOf0
  v0 := Try.zeroValue0
  t3 := Try.underlying3
  a3 := Try.isAgg3
  z3 := Try.sizeOf3
  v3 := Try.zeroValue3
  t4 := Try.underlying4
  a4 := Try.isAgg4
  z4 := Try.sizeOf4
  v4 := Try.zeroValue4
  t9 := Try.underlying9
  a9 := Try.isAgg9
  z9 := Try.sizeOf9
  v9 := Try.zeroValue9 }
open Go.RowKit in
theorem Try.utf8_RuneCountInString (s : ByteArray) (w : World) (hs : s.size < 9223372036854775807) :
    Calls Try.prog 41 #[.string s] w fun e w' => e = .returned (.int .i64 (Lib.runeCount s)) ∧ ∃ pos, w' = w.iter s pos := Any.utf8_RuneCountInString Try.lays195 s w hs
def Try.lays217_ren : Go.Shelf.Ren := ⟨fun | 217 => 45 | 266 => 48 | n => n, fun | 9 => 9 | 5 => 5 | 3 => 3 | n => n, fun | n => n⟩
theorem Try.lays217 : Go.Proofs.Lays.n217 Try.prog Try.lays217_ren := {
  mixed := by kernel_rfl
  f217 := Try.func45.trans (congrArg some (by kernel_rfl))
  f266 := Try.func48.trans (congrArg some (by kernel_rfl))
  t3 := Try.underlying3
  a3 := Try.isAgg3
  z3 := Try.sizeOf3
  v3 := Try.zeroValue3
  t5 := Try.underlying5
  a5 := Try.isAgg5
  z5 := Try.sizeOf5
  v5 := Try.zeroValue5
  t9 := Try.underlying9
  a9 := Try.isAgg9
  z9 := Try.sizeOf9
  v9 := Try.zeroValue9 }
open Go.RowKit Go.Lib in
theorem Try.stringslite_IndexByte (s : ByteArray) (c : Int) (w : World) :
    Calls Try.prog 45 #[.string s, .int .u8 c] w fun e w' => e = .returned (.int .i64 (Lib.indexByte s.data.toList c.toNat.toUInt8)) ∧ w' = w := Any.stringslite_IndexByte Try.lays217 s c w
def Try.lays224_ren : Go.Shelf.Ren := ⟨fun | 224 => 35 | n => n, fun | 3 => 3 | n => n, fun | n => n⟩
theorem Try.lays224 : Go.Proofs.Lays.n224 Try.prog Try.lays224_ren := {
  mixed := by kernel_rfl
  f224 := Try.func35.trans (congrArg some (by kernel_rfl))
  t3 := Try.underlying3
  a3 := Try.isAgg3
  z3 := Try.sizeOf3
  v3 := Try.zeroValue3 }
open Go.RowKit Go.Lib in
theorem Try.bytealg_Cutover (n : Int) (h0 : 0 ≤ n) (h1 : n < 4611686018427387904) (w : World) :
    Calls Try.prog 35 #[.int .i64 n] w fun e w' => e = .returned (.int .i64 ((n + 16) / 8)) ∧ w' = w := Any.bytealg_Cutover Try.lays224 n h0 h1 w
def Try.lays314_ren : Go.Shelf.Ren := ⟨fun | 314 => 49 | n => n, fun | 9 => 9 | 51 => 40 | 3 => 3 | 4 => 4 | 5 => 5 | 46 => 39 | n => n, fun | n => n⟩
theorem Try.lays314 : Go.Proofs.Lays.n314 Try.prog Try.lays314_ren := {
  mixed := by kernel_rfl
  f314 := Try.func49.trans (congrArg some (by kernel_rfl))
  t3 := Try.underlying3
  a3 := Try.isAgg3
  z3 := Try.sizeOf3
  v3 := Try.zeroValue3
  t4 := Try.underlying4
  a4 := Try.isAgg4
  z4 := Try.sizeOf4
  v4 := Try.zeroValue4
  t5 := Try.underlying5
  a5 := Try.isAgg5
  z5 := Try.sizeOf5
  v5 := Try.zeroValue5
  t9 := Try.underlying9
  a9 := Try.isAgg9
  z9 := Try.sizeOf9
  v9 := Try.zeroValue9
  t46 := Try.underlying39
  a46 := Try.isAgg39
  z46 := Try.sizeOf39
  v46 := Try.zeroValue39
  t51 := Try.underlying40
  a51 := Try.isAgg40
  z51 := Try.sizeOf40
  v51 := Try.zeroValue40 }
open Go.RowKit Go.Lib in
theorem Try.bytealg_hashStr (sep : ByteArray) (hs : sep.size < 4294967281) (w : World) :
    Calls Try.prog 49 #[.string sep] w fun e w' => e = .returned (.tuple #[.int .u32 (RK.H sep.data.toList % 4294967296), .int .u32 (16777619 ^ sep.size % 4294967296)]) ∧ w' = w := Any.bytealg_hashStr Try.lays314 sep hs w
def Try.lays267_ren : Go.Shelf.Ren := ⟨fun | 267 => 47 | 314 => 49 | n => n, fun | 9 => 9 | 3 => 3 | 146 => 41 | 51 => 40 | 4 => 4 | 5 => 5 | 46 => 39 | n => n, fun | n => n⟩
theorem Try.lays267 : Go.Proofs.Lays.n267 Try.prog Try.lays267_ren := {
  mixed := by kernel_rfl
  f267 := Try.func47.trans (congrArg some (by kernel_rfl))
  f314 := Try.func49.trans (congrArg some (by kernel_rfl))
  t3 := Try.underlying3
  a3 := Try.isAgg3
  z3 := Try.sizeOf3
  v3 := Try.zeroValue3
  t4 := Try.underlying4
  a4 := Try.isAgg4
  z4 := Try.sizeOf4
  v4 := Try.zeroValue4
  t5 := Try.underlying5
  a5 := Try.isAgg5
  z5 := Try.sizeOf5
  v5 := Try.zeroValue5
  t9 := Try.underlying9
  a9 := Try.isAgg9
  z9 := Try.sizeOf9
  v9 := Try.zeroValue9
  t46 := Try.underlying39
  a46 := Try.isAgg39
  z46 := Try.sizeOf39
  v46 := Try.zeroValue39
  t51 := Try.underlying40
  a51 := Try.isAgg40
  z51 := Try.sizeOf40
  v51 := Try.zeroValue40
  t146 := Try.underlying41
  a146 := Try.isAgg41
  z146 := Try.sizeOf41
  v146 := Try.zeroValue41 }
open Go.RowKit Go.Lib in
theorem Try.bytealg_IndexRabinKarp (s sep : ByteArray) (h1 : 1 ≤ sep.size) (h2 : sep.size ≤ s.size) (hs : s.size < 4294967281) (w : World) :
    Calls Try.prog 47 #[.string s, .string sep] w fun e w' => e = .returned (.int .i64 (Lib.index s.data.toList sep.data.toList)) ∧ w' = w := Any.bytealg_IndexRabinKarp Try.lays267 s sep h1 h2 hs w
def Try.lays219_ren : Go.Shelf.Ren := ⟨fun | 219 => 44 | 217 => 45 | 225 => 46 | 224 => 35 | 267 => 47 | 266 => 48 | 314 => 49 | n => n, fun | 9 => 9 | 3 => 3 | 4 => 4 | 5 => 5 | 46 => 39 | 146 => 41 | 51 => 40 | n => n, fun | 1 => 0 | n => n⟩
theorem Try.lays219 : Go.Proofs.Lays.n219 Try.prog Try.lays219_ren := {
  mixed := by kernel_rfl
  f217 := Try.func45.trans (congrArg some (by kernel_rfl))
  f219 := Try.func44.trans (congrArg some (by kernel_rfl))
  f224 := Try.func35.trans (congrArg some (by kernel_rfl))
  f225 := Try.func46.trans (congrArg some (by kernel_rfl))
  f266 := Try.func48.trans (congrArg some (by kernel_rfl))
  f267 := Try.func47.trans (congrArg some (by kernel_rfl))
  f314 := Try.func49.trans (congrArg some (by kernel_rfl))
  t3 := Try.underlying3
  a3 := Try.isAgg3
  z3 := Try.sizeOf3
  v3 := Try.zeroValue3
  t4 := Try.underlying4
  a4 := Try.isAgg4
  z4 := Try.sizeOf4
  v4 := Try.zeroValue4
  t5 := Try.underlying5
  a5 := Try.isAgg5
  z5 := Try.sizeOf5
  v5 := Try.zeroValue5
  t9 := Try.underlying9
  a9 := Try.isAgg9
  z9 := Try.sizeOf9
  v9 := Try.zeroValue9
  t46 := Try.underlying39
  a46 := Try.isAgg39
  z46 := Try.sizeOf39
  v46 := Try.zeroValue39
  t51 := Try.underlying40
  a51 := Try.isAgg40
  z51 := Try.sizeOf40
  v51 := Try.zeroValue40
  t146 := Try.underlying41
  a146 := Try.isAgg41
  z146 := Try.sizeOf41
  v146 := Try.zeroValue41
  g1 := by kernel_rfl }
open Go.RowKit Go.Lib in
theorem Try.stringslite_Index_one (s : ByteArray) (c : UInt8) (w : World) :
    Calls Try.prog 44 #[.string s, .string ⟨#[c]⟩] w fun e w' => e = .returned (.int .i64 (Lib.indexByte s.data.toList c)) ∧ w' = w := Any.stringslite_Index_one Try.lays219 s c w
open Go.RowKit Go.Lib in
theorem Try.stringslite_Index (s sub : ByteArray) (m : Int) (w : World) (hs : s.size < 4294967281) (hm : w.cell? ⟨0, 0, none⟩ = some (.int .i64 m)) :
    Calls Try.prog 44 #[.string s, .string sub] w fun e w' => e = .returned (.int .i64 (Lib.index s.data.toList sub.data.toList)) ∧ w' = w := Any.stringslite_Index Try.lays219 s sub m w hs hm
def Try.lays143_ren : Go.Shelf.Ren := ⟨fun | 143 => 43 | 219 => 44 | 217 => 45 | 225 => 46 | 224 => 35 | 267 => 47 | 266 => 48 | 314 => 49 | n => n, fun | 9 => 9 | 3 => 3 | 4 => 4 | 5 => 5 | 46 => 39 | 146 => 41 | 51 => 40 | n => n, fun | 1 => 0 | n => n⟩
theorem Try.lays143 : Go.Proofs.Lays.n143 Try.prog Try.lays143_ren := {
  mixed := by kernel_rfl
  f143 := Try.func43.trans (congrArg some (by kernel_rfl))
  f217 := Try.func45.trans (congrArg some (by kernel_rfl))
  f219 := Try.func44.trans (congrArg some (by kernel_rfl))
  f224 := Try.func35.trans (congrArg some (by kernel_rfl))
  f225 := Try.func46.trans (congrArg some (by kernel_rfl))
  f266 := Try.func48.trans (congrArg some (by kernel_rfl))
  f267 := Try.func47.trans (congrArg some (by kernel_rfl))
  f314 := Try.func49.trans (congrArg some (by kernel_rfl))
  t3 := Try.underlying3
  a3 := Try.isAgg3
  z3 := Try.sizeOf3
  v3 := Try.zeroValue3
  t4 := Try.underlying4
  a4 := Try.isAgg4
  z4 := Try.sizeOf4
  v4 := Try.zeroValue4
  t5 := Try.underlying5
  a5 := Try.isAgg5
  z5 := Try.sizeOf5
  v5 := Try.zeroValue5
  t9 := Try.underlying9
  a9 := Try.isAgg9
  z9 := Try.sizeOf9
  v9 := Try.zeroValue9
  t46 := Try.underlying39
  a46 := Try.isAgg39
  z46 := Try.sizeOf39
  v46 := Try.zeroValue39
  t51 := Try.underlying40
  a51 := Try.isAgg40
  z51 := Try.sizeOf40
  v51 := Try.zeroValue40
  t146 := Try.underlying41
  a146 := Try.isAgg41
  z146 := Try.sizeOf41
  v146 := Try.zeroValue41
  g1 := by kernel_rfl }
open Go.RowKit Go.Lib in
theorem Try.strings_Index_one (s : ByteArray) (c : UInt8) (w : World) :
    Calls Try.prog 43 #[.string s, .string ⟨#[c]⟩] w fun e w' => e = .returned (.int .i64 (Lib.indexByte s.data.toList c)) ∧ w' = w := Any.strings_Index_one Try.lays143 s c w
open Go.RowKit Go.Lib in
theorem Try.strings_Index (s sub : ByteArray) (m : Int) (w : World) (hs : s.size < 4294967281) (hm : w.cell? ⟨0, 0, none⟩ = some (.int .i64 m)) :
    Calls Try.prog 43 #[.string s, .string sub] w fun e w' => e = .returned (.int .i64 (Lib.index s.data.toList sub.data.toList)) ∧ w' = w := Any.strings_Index Try.lays143 s sub m w hs hm
def Try.lays138_ren : Go.Shelf.Ren := ⟨fun | 138 => 40 | 195 => 41 | 218 => 42 | 143 => 43 | 219 => 44 | 217 => 45 | 225 => 46 | 224 => 35 | 267 => 47 | 266 => 48 | 314 => 49 | n => n, fun | 9 => 9 | 3 => 3 | 4 => 4 | 5 => 5 | 0 => 0 | 46 => 39 | 146 => 41 | 51 => 40 | n => n, fun | 1 => 0 | n => n⟩
theorem Try.lays138 : Go.Proofs.Lays.n138 Try.prog Try.lays138_ren := {
  mixed := by kernel_rfl
  f138 := Try.func40.trans (congrArg some (by kernel_rfl))
  f143 := Try.func43.trans (congrArg some (by kernel_rfl))
  f195 := Try.func41.trans (congrArg some (by kernel_rfl))
  f217 := Try.func45.trans (congrArg some (by kernel_rfl))
  f218 := Try.func42.trans (congrArg some (by kernel_rfl))
  f219 := Try.func44.trans (congrArg some (by kernel_rfl))
  f224 := Try.func35.trans (congrArg some (by kernel_rfl))
  f225 := Try.func46.trans (congrArg some (by kernel_rfl))
  f266 := Try.func48.trans (congrArg some (by kernel_rfl))
  f267 := Try.func47.trans (congrArg some (by kernel_rfl))
  f314 := Try.func49.trans (congrArg some (by kernel_rfl))
  t0 := Try.underlying0
  a0 := Try.isAgg0
  z0 := Try.sizeOf0
  v0 := Try.zeroValue0
  t3 := Try.underlying3
  a3 := Try.isAgg3
  z3 := Try.sizeOf3
  v3 := Try.zeroValue3
  t4 := Try.underlying4
  a4 := Try.isAgg4
  z4 := Try.sizeOf4
  v4 := Try.zeroValue4
  t5 := Try.underlying5
  a5 := Try.isAgg5
  z5 := Try.sizeOf5
  v5 := Try.zeroValue5
  t9 := Try.underlying9
  a9 := Try.isAgg9
  z9 := Try.sizeOf9
  v9 := Try.zeroValue9
  t46 := Try.underlying39
  a46 := Try.isAgg39
  z46 := Try.sizeOf39
  v46 := Try.zeroValue39
  t51 := Try.underlying40
  a51 := Try.isAgg40
  z51 := Try.sizeOf40
  v51 := Try.zeroValue40
  t146 := Try.underlying41
  a146 := Try.isAgg41
  z146 := Try.sizeOf41
  v146 := Try.zeroValue41
  g1 := by kernel_rfl }
open Go.RowKit Go.Lib in
theorem Try.strings_Count_one (s : ByteArray) (c : UInt8) (w : World) :
    Calls Try.prog 40 #[.string s, .string ⟨#[c]⟩] w fun e w' => e = .returned (.int .i64 (Lib.countByte s.data.toList c)) ∧ w' = w := Any.strings_Count_one Try.lays138 s c w
open Go.RowKit Go.Lib in
theorem Try.strings_Count (s sub : ByteArray) (m : Int) (w : World) (hs : s.size < 4294967281) (hm : w.cell? ⟨0, 0, none⟩ = some (.int .i64 m)) (h2 : 2 ≤ sub.size) :
    Calls Try.prog 40 #[.string s, .string sub] w fun e w' => e = .returned (.int .i64 (Lib.countB s sub)) ∧ w' = w := Any.strings_Count Try.lays138 s sub m w hs hm h2
def Try.laysM219_ren : Go.Shelf.Ren := ⟨fun | 219 => 44 | 217 => 45 | 225 => 46 | 224 => 35 | 267 => 47 | 266 => 48 | 314 => 49 | n => n, fun | 9 => 9 | 3 => 3 | 4 => 4 | 5 => 5 | 46 => 39 | 146 => 41 | 51 => 40 | n => n, fun | 1 => 0 | n => n⟩
theorem Try.laysM219 : Go.Proofs.LaysM.n219 Try.prog Try.laysM219_ren := {
  mixed := by kernel_rfl
  f217 := Try.func45.trans (congrArg some (by kernel_rfl))
  f219 := Try.func44.trans (congrArg some (by kernel_rfl))
  f224 := Try.func35.trans (congrArg some (by kernel_rfl))
  f225 := Try.func46.trans (congrArg some (by kernel_rfl))
  f266 := Try.func48.trans (congrArg some (by kernel_rfl))
  f267 := Try.func47.trans (congrArg some (by kernel_rfl))
  f314 := Try.func49.trans (congrArg some (by kernel_rfl))
  t3 := Try.underlying3
  a3 := Try.isAgg3
  z3 := Try.sizeOf3
  v3 := Try.zeroValue3
  t4 := Try.underlying4
  a4 := Try.isAgg4
  z4 := Try.sizeOf4
  v4 := Try.zeroValue4
  t5 := Try.underlying5
  a5 := Try.isAgg5
  z5 := Try.sizeOf5
  v5 := Try.zeroValue5
  t9 := Try.underlying9
  a9 := Try.isAgg9
  z9 := Try.sizeOf9
  v9 := Try.zeroValue9
  t46 := Try.underlying39
  a46 := Try.isAgg39
  z46 := Try.sizeOf39
  v46 := Try.zeroValue39
  t51 := Try.underlying40
  a51 := Try.isAgg40
  z51 := Try.sizeOf40
  v51 := Try.zeroValue40
  t146 := Try.underlying41
  a146 := Try.isAgg41
  z146 := Try.sizeOf41
  v146 := Try.zeroValue41
  g1 := by kernel_rfl
  i3 := by kernel_rfl
  i4 := by kernel_rfl
  i5 := by kernel_rfl
  i9 := by kernel_rfl
  i46 := by kernel_rfl
  i51 := by kernel_rfl
  i146 := by kernel_rfl
  m1 := by kernel_rfl
  s1_3 := fun w h => Go.Proofs.cell_of_shapedOpen_int (zero := #[.int .i64 0]) (t := 3) h (of_decide_eq_true (by kernel_rfl)) (by kernel_rfl) rfl (by kernel_rfl) (by kernel_rfl) Try.underlying3 }
open Go.RowKit Go.Lib in
theorem Try.stringslite_Index_shaped (s sub : ByteArray) (w : World) (h : w.ShapedOpen Try.prog) (hs : s.size < 4294967281) :
    Calls Try.prog 44 #[.string s, .string sub] w fun e w' => e = .returned (.int .i64 (Lib.index s.data.toList sub.data.toList)) ∧ w' = w := Any.stringslite_Index_shaped Try.laysM219 s sub w h hs
def Try.laysM143_ren : Go.Shelf.Ren := ⟨fun | 143 => 43 | 219 => 44 | 217 => 45 | 225 => 46 | 224 => 35 | 267 => 47 | 266 => 48 | 314 => 49 | n => n, fun | 9 => 9 | 3 => 3 | 4 => 4 | 5 => 5 | 46 => 39 | 146 => 41 | 51 => 40 | n => n, fun | 1 => 0 | n => n⟩
theorem Try.laysM143 : Go.Proofs.LaysM.n143 Try.prog Try.laysM143_ren := {
  mixed := by kernel_rfl
  f143 := Try.func43.trans (congrArg some (by kernel_rfl))
  f217 := Try.func45.trans (congrArg some (by kernel_rfl))
  f219 := Try.func44.trans (congrArg some (by kernel_rfl))
  f224 := Try.func35.trans (congrArg some (by kernel_rfl))
  f225 := Try.func46.trans (congrArg some (by kernel_rfl))
  f266 := Try.func48.trans (congrArg some (by kernel_rfl))
  f267 := Try.func47.trans (congrArg some (by kernel_rfl))
  f314 := Try.func49.trans (congrArg some (by kernel_rfl))
  t3 := Try.underlying3
  a3 := Try.isAgg3
  z3 := Try.sizeOf3
  v3 := Try.zeroValue3
  t4 := Try.underlying4
  a4 := Try.isAgg4
  z4 := Try.sizeOf4
  v4 := Try.zeroValue4
  t5 := Try.underlying5
  a5 := Try.isAgg5
  z5 := Try.sizeOf5
  v5 := Try.zeroValue5
  t9 := Try.underlying9
  a9 := Try.isAgg9
  z9 := Try.sizeOf9
  v9 := Try.zeroValue9
  t46 := Try.underlying39
  a46 := Try.isAgg39
  z46 := Try.sizeOf39
  v46 := Try.zeroValue39
  t51 := Try.underlying40
  a51 := Try.isAgg40
  z51 := Try.sizeOf40
  v51 := Try.zeroValue40
  t146 := Try.underlying41
  a146 := Try.isAgg41
  z146 := Try.sizeOf41
  v146 := Try.zeroValue41
  g1 := by kernel_rfl
  i3 := by kernel_rfl
  i4 := by kernel_rfl
  i5 := by kernel_rfl
  i9 := by kernel_rfl
  i46 := by kernel_rfl
  i51 := by kernel_rfl
  i146 := by kernel_rfl
  m1 := by kernel_rfl
  s1_3 := fun w h => Go.Proofs.cell_of_shapedOpen_int (zero := #[.int .i64 0]) (t := 3) h (of_decide_eq_true (by kernel_rfl)) (by kernel_rfl) rfl (by kernel_rfl) (by kernel_rfl) Try.underlying3 }
open Go.RowKit Go.Lib in
theorem Try.strings_Index_shaped (s sub : ByteArray) (w : World) (h : w.ShapedOpen Try.prog) (hs : s.size < 4294967281) :
    Calls Try.prog 43 #[.string s, .string sub] w fun e w' => e = .returned (.int .i64 (Lib.index s.data.toList sub.data.toList)) ∧ w' = w := Any.strings_Index_shaped Try.laysM143 s sub w h hs
def Try.laysM138_ren : Go.Shelf.Ren := ⟨fun | 138 => 40 | 195 => 41 | 218 => 42 | 143 => 43 | 219 => 44 | 217 => 45 | 225 => 46 | 224 => 35 | 267 => 47 | 266 => 48 | 314 => 49 | n => n, fun | 9 => 9 | 3 => 3 | 4 => 4 | 5 => 5 | 0 => 0 | 46 => 39 | 146 => 41 | 51 => 40 | n => n, fun | 1 => 0 | n => n⟩
theorem Try.laysM138 : Go.Proofs.LaysM.n138 Try.prog Try.laysM138_ren := {
  mixed := by kernel_rfl
  f138 := Try.func40.trans (congrArg some (by kernel_rfl))
  f143 := Try.func43.trans (congrArg some (by kernel_rfl))
  f195 := Try.func41.trans (congrArg some (by kernel_rfl))
  f217 := Try.func45.trans (congrArg some (by kernel_rfl))
  f218 := Try.func42.trans (congrArg some (by kernel_rfl))
  f219 := Try.func44.trans (congrArg some (by kernel_rfl))
  f224 := Try.func35.trans (congrArg some (by kernel_rfl))
  f225 := Try.func46.trans (congrArg some (by kernel_rfl))
  f266 := Try.func48.trans (congrArg some (by kernel_rfl))
  f267 := Try.func47.trans (congrArg some (by kernel_rfl))
  f314 := Try.func49.trans (congrArg some (by kernel_rfl))
  t0 := Try.underlying0
  a0 := Try.isAgg0
  z0 := Try.sizeOf0
  v0 := Try.zeroValue0
  t3 := Try.underlying3
  a3 := Try.isAgg3
  z3 := Try.sizeOf3
  v3 := Try.zeroValue3
  t4 := Try.underlying4
  a4 := Try.isAgg4
  z4 := Try.sizeOf4
  v4 := Try.zeroValue4
  t5 := Try.underlying5
  a5 := Try.isAgg5
  z5 := Try.sizeOf5
  v5 := Try.zeroValue5
  t9 := Try.underlying9
  a9 := Try.isAgg9
  z9 := Try.sizeOf9
  v9 := Try.zeroValue9
  t46 := Try.underlying39
  a46 := Try.isAgg39
  z46 := Try.sizeOf39
  v46 := Try.zeroValue39
  t51 := Try.underlying40
  a51 := Try.isAgg40
  z51 := Try.sizeOf40
  v51 := Try.zeroValue40
  t146 := Try.underlying41
  a146 := Try.isAgg41
  z146 := Try.sizeOf41
  v146 := Try.zeroValue41
  g1 := by kernel_rfl
  i0 := by kernel_rfl
  i3 := by kernel_rfl
  i4 := by kernel_rfl
  i5 := by kernel_rfl
  i9 := by kernel_rfl
  i46 := by kernel_rfl
  i51 := by kernel_rfl
  i146 := by kernel_rfl
  m1 := by kernel_rfl
  s1_3 := fun w h => Go.Proofs.cell_of_shapedOpen_int (zero := #[.int .i64 0]) (t := 3) h (of_decide_eq_true (by kernel_rfl)) (by kernel_rfl) rfl (by kernel_rfl) (by kernel_rfl) Try.underlying3 }
open Go.RowKit Go.Lib in
theorem Try.strings_Count_shaped (s sub : ByteArray) (w : World) (h : w.ShapedOpen Try.prog) (hs : s.size < 4294967281) (h2 : 2 ≤ sub.size) :
    Calls Try.prog 40 #[.string s, .string sub] w fun e w' => e = .returned (.int .i64 (Lib.countB s sub)) ∧ w' = w := Any.strings_Count_shaped Try.laysM138 s sub w h hs h2
def Try.lays206_ren : Go.Shelf.Ren := ⟨fun | 206 => 32 | n => n, fun | 9 => 9 | 4 => 4 | 3 => 3 | n => n, fun | n => n⟩
theorem Try.lays206 : Go.Proofs.Lays.n206 Try.prog Try.lays206_ren := {
  mixed := by kernel_rfl
  f206 := Try.func32.trans (congrArg some (by kernel_rfl))
  t3 := Try.underlying3
  a3 := Try.isAgg3
  z3 := Try.sizeOf3
  v3 := Try.zeroValue3
  t4 := Try.underlying4
  a4 := Try.isAgg4
  z4 := Try.sizeOf4
  v4 := Try.zeroValue4
  t9 := Try.underlying9
  a9 := Try.isAgg9
  z9 := Try.sizeOf9
  v9 := Try.zeroValue9 }
open Go.RowKit Go.Lib in
theorem Try.stringslite_HasPrefix (s p : ByteArray) (w : World) :
    Calls Try.prog 32 #[.string s, .string p] w fun e w' => e = .returned (.bool (Lib.hasPrefix s.data.toList p.data.toList)) ∧ w' = w := Any.stringslite_HasPrefix Try.lays206 s p w
def Try.lays99_ren : Go.Shelf.Ren := ⟨fun | 99 => 27 | 206 => 32 | n => n, fun | 9 => 9 | 4 => 4 | 3 => 3 | n => n, fun | n => n⟩
theorem Try.lays99 : Go.Proofs.Lays.n99 Try.prog Try.lays99_ren := {
  mixed := by kernel_rfl
  f99 := Try.func27.trans (congrArg some (by kernel_rfl))
  f206 := Try.func32.trans (congrArg some (by kernel_rfl))
  t3 := Try.underlying3
  a3 := Try.isAgg3
  z3 := Try.sizeOf3
  v3 := Try.zeroValue3
  t4 := Try.underlying4
  a4 := Try.isAgg4
  z4 := Try.sizeOf4
  v4 := Try.zeroValue4
  t9 := Try.underlying9
  a9 := Try.isAgg9
  z9 := Try.sizeOf9
  v9 := Try.zeroValue9 }
open Go.RowKit Go.Lib in
theorem Try.strings_HasPrefix (s p : ByteArray) (w : World) :
    Calls Try.prog 27 #[.string s, .string p] w fun e w' => e = .returned (.bool (Lib.hasPrefix s.data.toList p.data.toList)) ∧ w' = w := Any.strings_HasPrefix Try.lays99 s p w
open Go.RowKit Go.Lib in
theorem Try.strings_Count_any (s sep : ByteArray) (m : Int) (w : World) (hs : s.size < 4294967281) (hm : w.cell? ⟨0, 0, none⟩ = some (.int .i64 m)) (h1 : 1 ≤ sep.size) :
    Calls Try.prog 40 #[.string s, .string sep] w fun e w' => e = .returned (.int .i64 (Lib.countB s sep)) ∧ w' = w := Any.strings_Count_any Try.lays138 s sep m w hs hm h1
open Go.RowKit Go.Lib in
theorem Try.utf8_RuneCountInString_ascii (s : ByteArray) (w : World) (hs : s.size < 4294967281) (hascii : ∀ (j : Nat) b, s.data.toList[j]? = some b → b.toNat < 128) :
    Calls Try.prog 41 #[.string s] w fun e w' => e = .returned (.int .i64 s.size) ∧ w' = w.iter s s.size := Any.utf8_RuneCountInString_ascii Try.lays195 s w hs hascii
def Try.lays185_ren : Go.Shelf.Ren := ⟨fun | 185 => 28 | 187 => 29 | 115 => 33 | 253 => 34 | 224 => 35 | 254 => 36 | 255 => 37 | 291 => 39 | n => n, fun | 37 => 24 | 3 => 3 | 4 => 4 | 0 => 0 | 5 => 5 | 46 => 39 | 9 => 9 | 146 => 41 | 51 => 40 | n => n, fun | 1 => 0 | n => n⟩
theorem Try.lays185 : Go.Proofs.Lays.n185 Try.prog Try.lays185_ren := {
  mixed := by kernel_rfl
  f115 := Try.func33.trans (congrArg some (by kernel_rfl))
  f185 := Try.func28.trans (congrArg some (by kernel_rfl))
  f187 := Try.func29.trans (congrArg some (by kernel_rfl))
  f224 := Try.func35.trans (congrArg some (by kernel_rfl))
  f253 := Try.func34.trans (congrArg some (by kernel_rfl))
  f254 := Try.func36.trans (congrArg some (by kernel_rfl))
  f255 := Try.func37.trans (congrArg some (by kernel_rfl))
  f291 := Try.func39.trans (congrArg some (by kernel_rfl))
  t0 := Try.underlying0
  a0 := Try.isAgg0
  z0 := Try.sizeOf0
  v0 := Try.zeroValue0
  t3 := Try.underlying3
  a3 := Try.isAgg3
  z3 := Try.sizeOf3
  v3 := Try.zeroValue3
  t4 := Try.underlying4
  a4 := Try.isAgg4
  z4 := Try.sizeOf4
  v4 := Try.zeroValue4
  t5 := Try.underlying5
  a5 := Try.isAgg5
  z5 := Try.sizeOf5
  v5 := Try.zeroValue5
  t9 := Try.underlying9
  a9 := Try.isAgg9
  z9 := Try.sizeOf9
  v9 := Try.zeroValue9
  t37 := Try.underlying24
  a37 := Try.isAgg24
  z37 := Try.sizeOf24
  v37 := Try.zeroValue24
  t46 := Try.underlying39
  a46 := Try.isAgg39
  z46 := Try.sizeOf39
  v46 := Try.zeroValue39
  t51 := Try.underlying40
  a51 := Try.isAgg40
  z51 := Try.sizeOf40
  v51 := Try.zeroValue40
  t146 := Try.underlying41
  a146 := Try.isAgg41
  z146 := Try.sizeOf41
  v146 := Try.zeroValue41
  g1 := by kernel_rfl }
open Go.RowKit Go.Lib in
theorem Try.bytes_Index_one (b o n c b2 o2 d : Nat) (xs : List Int) (cv : Int) (w : World) (hx : xs.length = n) (hc : ∀ i, i < n → w.cell? ⟨b, o + i, none⟩ = some (.int .u8 (xs.getD i 0))) (hc2 : w.cell? ⟨b2, o2, none⟩ = some (.int .u8 cv)) :
    Calls Try.prog 28 #[.slice (some ⟨b, o, none⟩) n c, .slice (some ⟨b2, o2, none⟩) 1 d] w fun e w' => e = .returned (.int .i64 (Lib.indexByte (Lib.bytesOf xs) cv.toNat.toUInt8)) ∧ w' = w := Any.bytes_Index_one Try.lays185 b o n c b2 o2 d xs cv w hx hc hc2
open Go.RowKit Go.Lib in
theorem Try.bytes_Index_one_nil (b2 o2 d : Nat) (cv : Int) (w : World) (hc2 : w.cell? ⟨b2, o2, none⟩ = some (.int .u8 cv)) :
    Calls Try.prog 28 #[.slice none 0 0, .slice (some ⟨b2, o2, none⟩) 1 d] w fun e w' => e = .returned (.int .i64 (-1)) ∧ w' = w := Any.bytes_Index_one_nil Try.lays185 b2 o2 d cv w hc2
open Go.RowKit Go.Lib in
theorem Try.bytes_Index_none (p q : Option Addr) (n c d : Nat) (w : World) :
    Calls Try.prog 28 #[.slice p n c, .slice q 0 d] w fun e w' => e = .returned (.int .i64 0) ∧ w' = w := Any.bytes_Index_none Try.lays185 p q n c d w
open Go.RowKit Go.Lib in
theorem Try.bytes_Index_longer (p q : Option Addr) (n c m d : Nat) (w : World) (h2 : 2 ≤ m) (hnm : n < m) (hm : m ≤ 9223372036854775807) :
    Calls Try.prog 28 #[.slice p n c, .slice q m d] w fun e w' => e = .returned (.int .i64 (-1)) ∧ w' = w := Any.bytes_Index_longer Try.lays185 p q n c m d w h2 hnm hm
open Go.RowKit Go.Lib in
theorem Try.bytes_Index_same (b o c b2 o2 d n : Nat) (xs ys : List Int) (w : World) (h2 : 2 ≤ n) (hm : n ≤ 9223372036854775807) (hx : xs.length = n) (hy : ys.length = n) (hc : ∀ i, i < n → w.cell? ⟨b, o + i, none⟩ = some (.int .u8 (xs.getD i 0))) (hc2 : ∀ i, i < n → w.cell? ⟨b2, o2 + i, none⟩ = some (.int .u8 (ys.getD i 0))) :
    Calls Try.prog 28 #[.slice (some ⟨b, o, none⟩) n c, .slice (some ⟨b2, o2, none⟩) n d] w fun e w' => e = .returned (.int .i64 (if Lib.bytesOf ys == Lib.bytesOf xs then 0 else -1)) ∧ w' = w := Any.bytes_Index_same Try.lays185 b o c b2 o2 d n xs ys w h2 hm hx hy hc hc2
def Try.lays187_ren : Go.Shelf.Ren := ⟨fun | 187 => 29 | 255 => 37 | n => n, fun | 37 => 24 | 5 => 5 | 3 => 3 | n => n, fun | n => n⟩
theorem Try.lays187 : Go.Proofs.Lays.n187 Try.prog Try.lays187_ren := {
  mixed := by kernel_rfl
  f187 := Try.func29.trans (congrArg some (by kernel_rfl))
  f255 := Try.func37.trans (congrArg some (by kernel_rfl))
  t3 := Try.underlying3
  a3 := Try.isAgg3
  z3 := Try.sizeOf3
  v3 := Try.zeroValue3
  t5 := Try.underlying5
  a5 := Try.isAgg5
  z5 := Try.sizeOf5
  v5 := Try.zeroValue5
  t37 := Try.underlying24
  a37 := Try.isAgg24
  z37 := Try.sizeOf24
  v37 := Try.zeroValue24 }
open Go.RowKit Go.Lib in
theorem Try.bytes_IndexByte_at (a : Addr) (n c : Nat) (xs : List Int) (cv : Int) (w : World) (hx : xs.length = n) (hc : ∀ i, i < n → w.cell? (a.add i) = some (.int .u8 (xs.getD i 0))) :
    Calls Try.prog 29 #[.slice (some a) n c, .int .u8 cv] w fun e w' => e = .returned (.int .i64 (Lib.indexByte (Lib.bytesOf xs) cv.toNat.toUInt8)) ∧ w' = w := Any.bytes_IndexByte_at Try.lays187 a n c xs cv w hx hc
open Go.RowKit Go.Lib in
theorem Try.bytes_Index_one_at (a : Addr) (n c b2 o2 d : Nat) (xs : List Int) (cv : Int) (w : World) (hx : xs.length = n) (hc : ∀ i, i < n → w.cell? (a.add i) = some (.int .u8 (xs.getD i 0))) (hc2 : w.cell? ⟨b2, o2, none⟩ = some (.int .u8 cv)) :
    Calls Try.prog 28 #[.slice (some a) n c, .slice (some ⟨b2, o2, none⟩) 1 d] w fun e w' => e = .returned (.int .i64 (Lib.indexByte (Lib.bytesOf xs) cv.toNat.toUInt8)) ∧ w' = w := Any.bytes_Index_one_at Try.lays185 a n c b2 o2 d xs cv w hx hc hc2
open Go.Proofs Go.RowKit Go.Lib in
theorem Try.bytes_IndexByte_bytes (b o cap : Nat) (t : ByteArray) (cv : Int) (w : World) (hc : Lib.Bytes w b o t) :
    Calls Try.prog 29 #[.slice (some ⟨b, o, none⟩) t.size cap, .int .u8 cv] w fun e w' => e = .returned (.int .i64 (Lib.indexByte t.data.toList cv.toNat.toUInt8)) ∧ w' = w := Any.bytes_IndexByte_bytes Try.lays187 b o cap t cv w hc
def Try.lays115_ren : Go.Shelf.Ren := ⟨fun | 115 => 33 | n => n, fun | 37 => 24 | 4 => 4 | 9 => 9 | 5 => 5 | n => n, fun | n => n⟩
theorem Try.lays115 : Go.Proofs.Lays.n115 Try.prog Try.lays115_ren := {
  mixed := by kernel_rfl
  f115 := Try.func33.trans (congrArg some (by kernel_rfl))
  t4 := Try.underlying4
  a4 := Try.isAgg4
  z4 := Try.sizeOf4
  v4 := Try.zeroValue4
  t9 := Try.underlying9
  a9 := Try.isAgg9
  z9 := Try.sizeOf9
  v9 := Try.zeroValue9
  t37 := Try.underlying24
  a37 := Try.isAgg24
  z37 := Try.sizeOf24
  v37 := Try.zeroValue24 }
open Go.Proofs Go.RowKit Go.Lib in
theorem Try.bytes_Equal_strs (v1 v2 : Value) (t1 t2 : ByteArray) (w : World) (h1 : (convert 24 9 v1).run Try.prog w = .ok (.string t1) w) (h2 : (convert 24 9 v2).run Try.prog w = .ok (.string t2) w) :
    Calls Try.prog 33 #[v1, v2] w fun e w' => e = .returned (.bool (t1.toList == t2.toList)) ∧ w' = w := Any.bytes_Equal_strs Try.lays115 v1 v2 t1 t2 w h1 h2
def Try.lays291_ren : Go.Shelf.Ren := ⟨fun | 291 => 39 | n => n, fun | 37 => 24 | 51 => 40 | 3 => 3 | 4 => 4 | 0 => 0 | 5 => 5 | 46 => 39 | n => n, fun | n => n⟩
theorem Try.lays291 : Go.Proofs.Lays.n291 Try.prog Try.lays291_ren := {
  mixed := by kernel_rfl
  f291 := Try.func39.trans (congrArg some (by kernel_rfl))
  t0 := Try.underlying0
  a0 := Try.isAgg0
  z0 := Try.sizeOf0
  v0 := Try.zeroValue0
  t3 := Try.underlying3
  a3 := Try.isAgg3
  z3 := Try.sizeOf3
  v3 := Try.zeroValue3
  t4 := Try.underlying4
  a4 := Try.isAgg4
  z4 := Try.sizeOf4
  v4 := Try.zeroValue4
  t5 := Try.underlying5
  a5 := Try.isAgg5
  z5 := Try.sizeOf5
  v5 := Try.zeroValue5
  t37 := Try.underlying24
  a37 := Try.isAgg24
  z37 := Try.sizeOf24
  v37 := Try.zeroValue24
  t46 := Try.underlying39
  a46 := Try.isAgg39
  z46 := Try.sizeOf39
  v46 := Try.zeroValue39
  t51 := Try.underlying40
  a51 := Try.isAgg40
  z51 := Try.sizeOf40
  v51 := Try.zeroValue40 }
open Go.RowKit Go.Lib in
theorem Try.bytealg_hashStr_bytes (b o c : Nat) (sep : ByteArray) (hs : sep.size < 4294967281) (w : World) (hc : Lib.Bytes w b o sep) :
    Calls Try.prog 39 #[.slice (some ⟨b, o, none⟩) sep.size c] w fun e w' => e = .returned (.tuple #[.int .u32 (RK.H sep.data.toList % 4294967296), .int .u32 (16777619 ^ sep.size % 4294967296)]) ∧ w' = w := Any.bytealg_hashStr_bytes Try.lays291 b o c sep hs w hc
def Try.lays254_ren : Go.Shelf.Ren := ⟨fun | 254 => 36 | 291 => 39 | n => n, fun | 37 => 24 | 3 => 3 | 146 => 41 | 51 => 40 | 4 => 4 | 0 => 0 | 5 => 5 | 9 => 9 | 46 => 39 | n => n, fun | n => n⟩
theorem Try.lays254 : Go.Proofs.Lays.n254 Try.prog Try.lays254_ren := {
  mixed := by kernel_rfl
  f254 := Try.func36.trans (congrArg some (by kernel_rfl))
  f291 := Try.func39.trans (congrArg some (by kernel_rfl))
  t0 := Try.underlying0
  a0 := Try.isAgg0
  z0 := Try.sizeOf0
  v0 := Try.zeroValue0
  t3 := Try.underlying3
  a3 := Try.isAgg3
  z3 := Try.sizeOf3
  v3 := Try.zeroValue3
  t4 := Try.underlying4
  a4 := Try.isAgg4
  z4 := Try.sizeOf4
  v4 := Try.zeroValue4
  t5 := Try.underlying5
  a5 := Try.isAgg5
  z5 := Try.sizeOf5
  v5 := Try.zeroValue5
  t9 := Try.underlying9
  a9 := Try.isAgg9
  z9 := Try.sizeOf9
  v9 := Try.zeroValue9
  t37 := Try.underlying24
  a37 := Try.isAgg24
  z37 := Try.sizeOf24
  v37 := Try.zeroValue24
  t46 := Try.underlying39
  a46 := Try.isAgg39
  z46 := Try.sizeOf39
  v46 := Try.zeroValue39
  t51 := Try.underlying40
  a51 := Try.isAgg40
  z51 := Try.sizeOf40
  v51 := Try.zeroValue40
  t146 := Try.underlying41
  a146 := Try.isAgg41
  z146 := Try.sizeOf41
  v146 := Try.zeroValue41 }
open Go.RowKit Go.Lib in
theorem Try.bytealg_IndexRabinKarp_bytes (b1 o1 c1 b2 o2 c2 : Nat) (s sep : ByteArray) (h1 : 1 ≤ sep.size) (h2 : sep.size ≤ s.size) (hs : s.size < 4294967281) (w : World) (hc1 : Lib.Bytes w b1 o1 s) (hc2 : Lib.Bytes w b2 o2 sep) (hcap : s.size ≤ c1) :
    Calls Try.prog 36 #[.slice (some ⟨b1, o1, none⟩) s.size c1, .slice (some ⟨b2, o2, none⟩) sep.size c2] w fun e w' => e = .returned (.int .i64 (Lib.index s.data.toList sep.data.toList)) ∧ ∃ q, w' = w.drewN q := Any.bytealg_IndexRabinKarp_bytes Try.lays254 b1 o1 c1 b2 o2 c2 s sep h1 h2 hs w hc1 hc2 hcap
open Go.RowKit Go.Lib in
theorem Try.bytes_Index_search (b1 o1 c1 b2 o2 c2 : Nat) (s sub : ByteArray) (m : Int) (w : World) (hs : s.size < 4294967281) (hm : w.cell? ⟨0, 0, none⟩ = some (.int .i64 m)) (hc1 : Lib.Bytes w b1 o1 s) (hc2 : Lib.Bytes w b2 o2 sub) (hcap : s.size ≤ c1) (hn2 : 2 ≤ sub.size) (hls : sub.size < s.size) :
    Calls Try.prog 28 #[.slice (some ⟨b1, o1, none⟩) s.size c1, .slice (some ⟨b2, o2, none⟩) sub.size c2] w fun e w' => e = .returned (.int .i64 (Lib.index s.data.toList sub.data.toList)) ∧ ∃ q, w' = w.drewN q := Any.bytes_Index_search Try.lays185 b1 o1 c1 b2 o2 c2 s sub m w hs hm hc1 hc2 hcap hn2 hls
open Go.Proofs Go.RowKit Go.Lib in
theorem Try.bytes_Index_at (a1 a2 : Addr) (n c1 k c2 : Nat) (xs ys : List Int) (m : Int) (w : World) (hx : xs.length = n) (hy : ys.length = k) (hr1 : ∀ x ∈ xs, 0 ≤ x ∧ x < 256) (hr2 : ∀ y ∈ ys, 0 ≤ y ∧ y < 256) (hc1 : ∀ i, i < n → w.cell? (a1.add i) = some (.int .u8 (xs.getD i 0))) (hc2 : ∀ i, i < k → w.cell? (a2.add i) = some (.int .u8 (ys.getD i 0))) (hcap : n ≤ c1) (hs : n < 4294967281) (hk : k ≤ 9223372036854775807) (hm : w.cell? ⟨0, 0, none⟩ = some (.int .i64 m)) :
    Calls Try.prog 28 #[.slice (some a1) n c1, .slice (some a2) k c2] w fun e w' => e = .returned (.int .i64 (Lib.index (Lib.bytesOf xs) (Lib.bytesOf ys))) ∧ ∃ q, w' = w.drewN q := Any.bytes_Index_at Try.lays185 a1 a2 n c1 k c2 xs ys m w hx hy hr1 hr2 hc1 hc2 hcap hs hk hm
open Go.Proofs Go.RowKit Go.Lib in
theorem Try.bytes_Index_nil (p2 : Option Addr) (k c2 : Nat) (w : World) (hk : k ≤ 9223372036854775807) (h1 : k = 1 → ∃ b2 o2 cv, p2 = some ⟨b2, o2, none⟩ ∧ w.cell? ⟨b2, o2, none⟩ = some (.int .u8 cv)) :
    Calls Try.prog 28 #[.slice none 0 0, .slice p2 k c2] w fun e w' => e = .returned (.int .i64 (if k = 0 then 0 else -1)) ∧ w' = w := Any.bytes_Index_nil Try.lays185 p2 k c2 w hk h1
def Try.laysM185_ren : Go.Shelf.Ren := ⟨fun | 185 => 28 | 187 => 29 | 115 => 33 | 253 => 34 | 224 => 35 | 254 => 36 | 255 => 37 | 291 => 39 | n => n, fun | 37 => 24 | 3 => 3 | 4 => 4 | 0 => 0 | 5 => 5 | 46 => 39 | 9 => 9 | 146 => 41 | 51 => 40 | n => n, fun | 1 => 0 | n => n⟩
theorem Try.laysM185 : Go.Proofs.LaysM.n185 Try.prog Try.laysM185_ren := {
  mixed := by kernel_rfl
  f115 := Try.func33.trans (congrArg some (by kernel_rfl))
  f185 := Try.func28.trans (congrArg some (by kernel_rfl))
  f187 := Try.func29.trans (congrArg some (by kernel_rfl))
  f224 := Try.func35.trans (congrArg some (by kernel_rfl))
  f253 := Try.func34.trans (congrArg some (by kernel_rfl))
  f254 := Try.func36.trans (congrArg some (by kernel_rfl))
  f255 := Try.func37.trans (congrArg some (by kernel_rfl))
  f291 := Try.func39.trans (congrArg some (by kernel_rfl))
  t0 := Try.underlying0
  a0 := Try.isAgg0
  z0 := Try.sizeOf0
  v0 := Try.zeroValue0
  t3 := Try.underlying3
  a3 := Try.isAgg3
  z3 := Try.sizeOf3
  v3 := Try.zeroValue3
  t4 := Try.underlying4
  a4 := Try.isAgg4
  z4 := Try.sizeOf4
  v4 := Try.zeroValue4
  t5 := Try.underlying5
  a5 := Try.isAgg5
  z5 := Try.sizeOf5
  v5 := Try.zeroValue5
  t9 := Try.underlying9
  a9 := Try.isAgg9
  z9 := Try.sizeOf9
  v9 := Try.zeroValue9
  t37 := Try.underlying24
  a37 := Try.isAgg24
  z37 := Try.sizeOf24
  v37 := Try.zeroValue24
  t46 := Try.underlying39
  a46 := Try.isAgg39
  z46 := Try.sizeOf39
  v46 := Try.zeroValue39
  t51 := Try.underlying40
  a51 := Try.isAgg40
  z51 := Try.sizeOf40
  v51 := Try.zeroValue40
  t146 := Try.underlying41
  a146 := Try.isAgg41
  z146 := Try.sizeOf41
  v146 := Try.zeroValue41
  g1 := by kernel_rfl
  i0 := by kernel_rfl
  i3 := by kernel_rfl
  i4 := by kernel_rfl
  i5 := by kernel_rfl
  i9 := by kernel_rfl
  i37 := by kernel_rfl
  i46 := by kernel_rfl
  i51 := by kernel_rfl
  i146 := by kernel_rfl
  m1 := by kernel_rfl
  s1_3 := fun w h => Go.Proofs.cell_of_shapedOpen_int (zero := #[.int .i64 0]) (t := 3) h (of_decide_eq_true (by kernel_rfl)) (by kernel_rfl) rfl (by kernel_rfl) (by kernel_rfl) Try.underlying3 }
open Go.Proofs Go.RowKit Go.Lib in
theorem Try.bytes_Index_at_shaped (a1 a2 : Addr) (n c1 k c2 : Nat) (xs ys : List Int) (w : World) (hx : xs.length = n) (hy : ys.length = k) (hr1 : ∀ x ∈ xs, 0 ≤ x ∧ x < 256) (hr2 : ∀ y ∈ ys, 0 ≤ y ∧ y < 256) (hc1 : ∀ i, i < n → w.cell? (a1.add i) = some (.int .u8 (xs.getD i 0))) (hc2 : ∀ i, i < k → w.cell? (a2.add i) = some (.int .u8 (ys.getD i 0))) (hcap : n ≤ c1) (hs : n < 4294967281) (hk : k ≤ 9223372036854775807) (h : w.ShapedOpen Try.prog) :
    Calls Try.prog 28 #[.slice (some a1) n c1, .slice (some a2) k c2] w fun e w' => e = .returned (.int .i64 (Lib.index (Lib.bytesOf xs) (Lib.bytesOf ys))) ∧ ∃ q, w' = w.drewN q := Any.bytes_Index_at_shaped Try.laysM185 a1 a2 n c1 k c2 xs ys w hx hy hr1 hr2 hc1 hc2 hcap hs hk h
def Try.laysnb115_ren : Go.Shelf.Ren := ⟨fun | 115 => 33 | n => n, fun | 37 => 24 | 4 => 4 | 9 => 9 | 5 => 5 | n => n, fun | n => n⟩
theorem Try.laysnb115 : Go.Proofs.Lays.nb115 Try.prog Try.laysnb115_ren := {
  mixed := by kernel_rfl
  f115 := Try.func33.trans (congrArg some (by kernel_rfl))
  t4 := Try.underlying4
  a4 := Try.isAgg4
  z4 := Try.sizeOf4
  v4 := Try.zeroValue4
  t9 := Try.underlying9
  a9 := Try.isAgg9
  z9 := Try.sizeOf9
  v9 := Try.zeroValue9
  t37 := Try.underlying24
  a37 := Try.isAgg24
  z37 := Try.sizeOf24
  v37 := Try.zeroValue24
  t5 := Try.underlying5
  a5 := Try.isAgg5
  z5 := Try.sizeOf5
  v5 := Try.zeroValue5 }
theorem Try.bytes_Equal_all (p1 p2 : Option Addr) (n c m d : Nat) (xs ys : List Int) (w : World) (hx : xs.length = n) (hy : ys.length = m) (h1 : Lib.BytesIn w p1 n xs) (h2 : Lib.BytesIn w p2 m ys) :
    Calls Try.prog 33 #[.slice p1 n c, .slice p2 m d] w fun e w' => e = .returned (.bool (Lib.bytesOf xs == Lib.bytesOf ys)) ∧ w' = w := Any.bytes_Equal_all Try.laysnb115 p1 p2 n c m d xs ys w hx hy h1 h2
theorem Try.bytes_Equal (v1 v2 : Value) (xs ys : List Int) (w : World) (h1 : (convert 24 9 v1).run Try.prog w = .ok (.string (strOfNums xs)) w) (h2 : (convert 24 9 v2).run Try.prog w = .ok (.string (strOfNums ys)) w) :
    Calls Try.prog 33 #[v1, v2] w fun e w' => e = .returned (.bool (Lib.bytesOf xs == Lib.bytesOf ys)) ∧ w' = w := Any.bytes_Equal Try.lays115 v1 v2 xs ys w h1 h2
theorem Try.bytes_IndexByte (b o n c : Nat) (xs : List Int) (cv : Int) (w : World) (hx : xs.length = n) (hc : ∀ i, i < n → w.cell? ⟨b, o + i, none⟩ = some (.int .u8 (xs.getD i 0))) :
    Calls Try.prog 29 #[.slice (some ⟨b, o, none⟩) n c, .int .u8 cv] w fun e w' => e = .returned (.int .i64 (Lib.indexByte (Lib.bytesOf xs) cv.toNat.toUInt8)) ∧ w' = w := Any.bytes_IndexByte Try.lays187 b o n c xs cv w hx hc
theorem Try.bytes_IndexByte_nil (cv : Int) (w : World) :
    Calls Try.prog 29 #[.slice none 0 0, .int .u8 cv] w fun e w' => e = .returned (.int .i64 (-1)) ∧ w' = w := Any.bytes_IndexByte_nil Try.lays187 cv w
end Go.Proofs
