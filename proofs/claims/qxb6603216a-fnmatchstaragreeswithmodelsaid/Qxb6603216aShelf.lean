import Derived.Shelf.Strings.Search1
import Derived.Shelf.Strings.Search2
import Derived.Shelf.Strings.Search3
import Derived.Shelf.LaysM
import Derived.Shelf.Strings.Shaped
import Derived.Test.Qxb6603216aProg
namespace Go.Proofs
open Go.Shelf
def Try.lays217_ren : Go.Shelf.Ren := ⟨fun | 217 => 36 | 266 => 40 | n => n, fun | 9 => 9 | 5 => 5 | 3 => 3 | n => n, fun | n => n⟩
theorem Try.lays217 : Go.Proofs.Lays.n217 Try.prog Try.lays217_ren := {
  mixed := by kernel_rfl
  f217 := Try.func36.trans (congrArg some (by kernel_rfl))
  f266 := Try.func40.trans (congrArg some (by kernel_rfl))
  t3 := Try.underlying3
  a3 := Try.isAgg3
  z3 := Try.sizeOf3
  v3 := Try.zeroValue3
  t5 := Try.underlying5
  a5 := Try.isAgg5
  z5 := Try.sizeOf5
  v5 := Try.zeroValue5
  t9 := Try.underlying9
  a9 := Try.isAgg9
  z9 := Try.sizeOf9
  v9 := Try.zeroValue9 }
open Go.RowKit Go.Lib in
theorem Try.stringslite_IndexByte (s : ByteArray) (c : Int) (w : World) :
    Calls Try.prog 36 #[.string s, .int .u8 c] w fun e w' => e = .returned (.int .i64 (Lib.indexByte s.data.toList c.toNat.toUInt8)) ∧ w' = w := Any.stringslite_IndexByte Try.lays217 s c w
def Try.lays224_ren : Go.Shelf.Ren := ⟨fun | 224 => 38 | n => n, fun | 3 => 3 | n => n, fun | n => n⟩
theorem Try.lays224 : Go.Proofs.Lays.n224 Try.prog Try.lays224_ren := {
  mixed := by kernel_rfl
  f224 := Try.func38.trans (congrArg some (by kernel_rfl))
  t3 := Try.underlying3
  a3 := Try.isAgg3
  z3 := Try.sizeOf3
  v3 := Try.zeroValue3 }
open Go.RowKit Go.Lib in
theorem Try.bytealg_Cutover (n : Int) (h0 : 0 ≤ n) (h1 : n < 4611686018427387904) (w : World) :
    Calls Try.prog 38 #[.int .i64 n] w fun e w' => e = .returned (.int .i64 ((n + 16) / 8)) ∧ w' = w := Any.bytealg_Cutover Try.lays224 n h0 h1 w
def Try.lays314_ren : Go.Shelf.Ren := ⟨fun | 314 => 41 | n => n, fun | 9 => 9 | 51 => 59 | 3 => 3 | 4 => 4 | 5 => 5 | 46 => 53 | n => n, fun | n => n⟩
theorem Try.lays314 : Go.Proofs.Lays.n314 Try.prog Try.lays314_ren := {
  mixed := by kernel_rfl
  f314 := Try.func41.trans (congrArg some (by kernel_rfl))
  t3 := Try.underlying3
  a3 := Try.isAgg3
  z3 := Try.sizeOf3
  v3 := Try.zeroValue3
  t4 := Try.underlying4
  a4 := Try.isAgg4
  z4 := Try.sizeOf4
  v4 := Try.zeroValue4
  t5 := Try.underlying5
  a5 := Try.isAgg5
  z5 := Try.sizeOf5
  v5 := Try.zeroValue5
  t9 := Try.underlying9
  a9 := Try.isAgg9
  z9 := Try.sizeOf9
  v9 := Try.zeroValue9
  t46 := Try.underlying53
  a46 := Try.isAgg53
  z46 := Try.sizeOf53
  v46 := Try.zeroValue53
  t51 := Try.underlying59
  a51 := Try.isAgg59
  z51 := Try.sizeOf59
  v51 := Try.zeroValue59 }
open Go.RowKit Go.Lib in
theorem Try.bytealg_hashStr (sep : ByteArray) (hs : sep.size < 4294967281) (w : World) :
    Calls Try.prog 41 #[.string sep] w fun e w' => e = .returned (.tuple #[.int .u32 (RK.H sep.data.toList % 4294967296), .int .u32 (16777619 ^ sep.size % 4294967296)]) ∧ w' = w := Any.bytealg_hashStr Try.lays314 sep hs w
def Try.lays267_ren : Go.Shelf.Ren := ⟨fun | 267 => 39 | 314 => 41 | n => n, fun | 9 => 9 | 3 => 3 | 146 => 60 | 51 => 59 | 4 => 4 | 5 => 5 | 46 => 53 | n => n, fun | n => n⟩
theorem Try.lays267 : Go.Proofs.Lays.n267 Try.prog Try.lays267_ren := {
  mixed := by kernel_rfl
  f267 := Try.func39.trans (congrArg some (by kernel_rfl))
  f314 := Try.func41.trans (congrArg some (by kernel_rfl))
  t3 := Try.underlying3
  a3 := Try.isAgg3
  z3 := Try.sizeOf3
  v3 := Try.zeroValue3
  t4 := Try.underlying4
  a4 := Try.isAgg4
  z4 := Try.sizeOf4
  v4 := Try.zeroValue4
  t5 := Try.underlying5
  a5 := Try.isAgg5
  z5 := Try.sizeOf5
  v5 := Try.zeroValue5
  t9 := Try.underlying9
  a9 := Try.isAgg9
  z9 := Try.sizeOf9
  v9 := Try.zeroValue9
  t46 := Try.underlying53
  a46 := Try.isAgg53
  z46 := Try.sizeOf53
  v46 := Try.zeroValue53
  t51 := Try.underlying59
  a51 := Try.isAgg59
  z51 := Try.sizeOf59
  v51 := Try.zeroValue59
  t146 := Try.underlying60
  a146 := Try.isAgg60
  z146 := Try.sizeOf60
  v146 := Try.zeroValue60 }
open Go.RowKit Go.Lib in
theorem Try.bytealg_IndexRabinKarp (s sep : ByteArray) (h1 : 1 ≤ sep.size) (h2 : sep.size ≤ s.size) (hs : s.size < 4294967281) (w : World) :
    Calls Try.prog 39 #[.string s, .string sep] w fun e w' => e = .returned (.int .i64 (Lib.index s.data.toList sep.data.toList)) ∧ w' = w := Any.bytealg_IndexRabinKarp Try.lays267 s sep h1 h2 hs w
def Try.lays219_ren : Go.Shelf.Ren := ⟨fun | 219 => 35 | 217 => 36 | 225 => 37 | 224 => 38 | 267 => 39 | 266 => 40 | 314 => 41 | n => n, fun | 9 => 9 | 3 => 3 | 4 => 4 | 5 => 5 | 46 => 53 | 146 => 60 | 51 => 59 | n => n, fun | 1 => 0 | n => n⟩
theorem Try.lays219 : Go.Proofs.Lays.n219 Try.prog Try.lays219_ren := {
  mixed := by kernel_rfl
  f217 := Try.func36.trans (congrArg some (by kernel_rfl))
  f219 := Try.func35.trans (congrArg some (by kernel_rfl))
  f224 := Try.func38.trans (congrArg some (by kernel_rfl))
  f225 := Try.func37.trans (congrArg some (by kernel_rfl))
  f266 := Try.func40.trans (congrArg some (by kernel_rfl))
  f267 := Try.func39.trans (congrArg some (by kernel_rfl))
  f314 := Try.func41.trans (congrArg some (by kernel_rfl))
  t3 := Try.underlying3
  a3 := Try.isAgg3
  z3 := Try.sizeOf3
  v3 := Try.zeroValue3
  t4 := Try.underlying4
  a4 := Try.isAgg4
  z4 := Try.sizeOf4
  v4 := Try.zeroValue4
  t5 := Try.underlying5
  a5 := Try.isAgg5
  z5 := Try.sizeOf5
  v5 := Try.zeroValue5
  t9 := Try.underlying9
  a9 := Try.isAgg9
  z9 := Try.sizeOf9
  v9 := Try.zeroValue9
  t46 := Try.underlying53
  a46 := Try.isAgg53
  z46 := Try.sizeOf53
  v46 := Try.zeroValue53
  t51 := Try.underlying59
  a51 := Try.isAgg59
  z51 := Try.sizeOf59
  v51 := Try.zeroValue59
  t146 := Try.underlying60
  a146 := Try.isAgg60
  z146 := Try.sizeOf60
  v146 := Try.zeroValue60
  g1 := by kernel_rfl }
open Go.RowKit Go.Lib in
theorem Try.stringslite_Index_one (s : ByteArray) (c : UInt8) (w : World) :
    Calls Try.prog 35 #[.string s, .string ⟨#[c]⟩] w fun e w' => e = .returned (.int .i64 (Lib.indexByte s.data.toList c)) ∧ w' = w := Any.stringslite_Index_one Try.lays219 s c w
open Go.RowKit Go.Lib in
theorem Try.stringslite_Index (s sub : ByteArray) (m : Int) (w : World) (hs : s.size < 4294967281) (hm : w.cell? ⟨0, 0, none⟩ = some (.int .i64 m)) :
    Calls Try.prog 35 #[.string s, .string sub] w fun e w' => e = .returned (.int .i64 (Lib.index s.data.toList sub.data.toList)) ∧ w' = w := Any.stringslite_Index Try.lays219 s sub m w hs hm
def Try.lays143_ren : Go.Shelf.Ren := ⟨fun | 143 => 34 | 219 => 35 | 217 => 36 | 225 => 37 | 224 => 38 | 267 => 39 | 266 => 40 | 314 => 41 | n => n, fun | 9 => 9 | 3 => 3 | 4 => 4 | 5 => 5 | 46 => 53 | 146 => 60 | 51 => 59 | n => n, fun | 1 => 0 | n => n⟩
theorem Try.lays143 : Go.Proofs.Lays.n143 Try.prog Try.lays143_ren := {
  mixed := by kernel_rfl
  f143 := Try.func34.trans (congrArg some (by kernel_rfl))
  f217 := Try.func36.trans (congrArg some (by kernel_rfl))
  f219 := Try.func35.trans (congrArg some (by kernel_rfl))
  f224 := Try.func38.trans (congrArg some (by kernel_rfl))
  f225 := Try.func37.trans (congrArg some (by kernel_rfl))
  f266 := Try.func40.trans (congrArg some (by kernel_rfl))
  f267 := Try.func39.trans (congrArg some (by kernel_rfl))
  f314 := Try.func41.trans (congrArg some (by kernel_rfl))
  t3 := Try.underlying3
  a3 := Try.isAgg3
  z3 := Try.sizeOf3
  v3 := Try.zeroValue3
  t4 := Try.underlying4
  a4 := Try.isAgg4
  z4 := Try.sizeOf4
  v4 := Try.zeroValue4
  t5 := Try.underlying5
  a5 := Try.isAgg5
  z5 := Try.sizeOf5
  v5 := Try.zeroValue5
  t9 := Try.underlying9
  a9 := Try.isAgg9
  z9 := Try.sizeOf9
  v9 := Try.zeroValue9
  t46 := Try.underlying53
  a46 := Try.isAgg53
  z46 := Try.sizeOf53
  v46 := Try.zeroValue53
  t51 := Try.underlying59
  a51 := Try.isAgg59
  z51 := Try.sizeOf59
  v51 := Try.zeroValue59
  t146 := Try.underlying60
  a146 := Try.isAgg60
  z146 := Try.sizeOf60
  v146 := Try.zeroValue60
  g1 := by kernel_rfl }
open Go.RowKit Go.Lib in
theorem Try.strings_Index_one (s : ByteArray) (c : UInt8) (w : World) :
    Calls Try.prog 34 #[.string s, .string ⟨#[c]⟩] w fun e w' => e = .returned (.int .i64 (Lib.indexByte s.data.toList c)) ∧ w' = w := Any.strings_Index_one Try.lays143 s c w
open Go.RowKit Go.Lib in
theorem Try.strings_Index (s sub : ByteArray) (m : Int) (w : World) (hs : s.size < 4294967281) (hm : w.cell? ⟨0, 0, none⟩ = some (.int .i64 m)) :
    Calls Try.prog 34 #[.string s, .string sub] w fun e w' => e = .returned (.int .i64 (Lib.index s.data.toList sub.data.toList)) ∧ w' = w := Any.strings_Index Try.lays143 s sub m w hs hm
def Try.lays144_ren : Go.Shelf.Ren := ⟨fun | 144 => 33 | 143 => 34 | 219 => 35 | 217 => 36 | 225 => 37 | 224 => 38 | 267 => 39 | 266 => 40 | 314 => 41 | n => n, fun | 9 => 9 | 4 => 4 | 3 => 3 | 5 => 5 | 46 => 53 | 146 => 60 | 51 => 59 | n => n, fun | 1 => 0 | n => n⟩
theorem Try.lays144 : Go.Proofs.Lays.n144 Try.prog Try.lays144_ren := {
  mixed := by kernel_rfl
  f143 := Try.func34.trans (congrArg some (by kernel_rfl))
  f144 := Try.func33.trans (congrArg some (by kernel_rfl))
  f217 := Try.func36.trans (congrArg some (by kernel_rfl))
  f219 := Try.func35.trans (congrArg some (by kernel_rfl))
  f224 := Try.func38.trans (congrArg some (by kernel_rfl))
  f225 := Try.func37.trans (congrArg some (by kernel_rfl))
  f266 := Try.func40.trans (congrArg some (by kernel_rfl))
  f267 := Try.func39.trans (congrArg some (by kernel_rfl))
  f314 := Try.func41.trans (congrArg some (by kernel_rfl))
  t3 := Try.underlying3
  a3 := Try.isAgg3
  z3 := Try.sizeOf3
  v3 := Try.zeroValue3
  t4 := Try.underlying4
  a4 := Try.isAgg4
  z4 := Try.sizeOf4
  v4 := Try.zeroValue4
  t5 := Try.underlying5
  a5 := Try.isAgg5
  z5 := Try.sizeOf5
  v5 := Try.zeroValue5
  t9 := Try.underlying9
  a9 := Try.isAgg9
  z9 := Try.sizeOf9
  v9 := Try.zeroValue9
  t46 := Try.underlying53
  a46 := Try.isAgg53
  z46 := Try.sizeOf53
  v46 := Try.zeroValue53
  t51 := Try.underlying59
  a51 := Try.isAgg59
  z51 := Try.sizeOf59
  v51 := Try.zeroValue59
  t146 := Try.underlying60
  a146 := Try.isAgg60
  z146 := Try.sizeOf60
  v146 := Try.zeroValue60
  g1 := by kernel_rfl }
open Go.RowKit Go.Lib in
theorem Try.strings_Contains_one (s : ByteArray) (c : UInt8) (w : World) :
    Calls Try.prog 33 #[.string s, .string ⟨#[c]⟩] w fun e w' => e = .returned (.bool (decide (0 ≤ Lib.indexByte s.data.toList c))) ∧ w' = w := Any.strings_Contains_one Try.lays144 s c w
open Go.RowKit Go.Lib in
theorem Try.strings_Contains (s sub : ByteArray) (m : Int) (w : World) (hs : s.size < 4294967281) (hm : w.cell? ⟨0, 0, none⟩ = some (.int .i64 m)) :
    Calls Try.prog 33 #[.string s, .string sub] w fun e w' => e = .returned (.bool (Lib.contains s.data.toList sub.data.toList)) ∧ w' = w := Any.strings_Contains Try.lays144 s sub m w hs hm
def Try.laysM219_ren : Go.Shelf.Ren := ⟨fun | 219 => 35 | 217 => 36 | 225 => 37 | 224 => 38 | 267 => 39 | 266 => 40 | 314 => 41 | n => n, fun | 9 => 9 | 3 => 3 | 4 => 4 | 5 => 5 | 46 => 53 | 146 => 60 | 51 => 59 | n => n, fun | 1 => 0 | n => n⟩
theorem Try.laysM219 : Go.Proofs.LaysM.n219 Try.prog Try.laysM219_ren := {
  mixed := by kernel_rfl
  f217 := Try.func36.trans (congrArg some (by kernel_rfl))
  f219 := Try.func35.trans (congrArg some (by kernel_rfl))
  f224 := Try.func38.trans (congrArg some (by kernel_rfl))
  f225 := Try.func37.trans (congrArg some (by kernel_rfl))
  f266 := Try.func40.trans (congrArg some (by kernel_rfl))
  f267 := Try.func39.trans (congrArg some (by kernel_rfl))
  f314 := Try.func41.trans (congrArg some (by kernel_rfl))
  t3 := Try.underlying3
  a3 := Try.isAgg3
  z3 := Try.sizeOf3
  v3 := Try.zeroValue3
  t4 := Try.underlying4
  a4 := Try.isAgg4
  z4 := Try.sizeOf4
  v4 := Try.zeroValue4
  t5 := Try.underlying5
  a5 := Try.isAgg5
  z5 := Try.sizeOf5
  v5 := Try.zeroValue5
  t9 := Try.underlying9
  a9 := Try.isAgg9
  z9 := Try.sizeOf9
  v9 := Try.zeroValue9
  t46 := Try.underlying53
  a46 := Try.isAgg53
  z46 := Try.sizeOf53
  v46 := Try.zeroValue53
  t51 := Try.underlying59
  a51 := Try.isAgg59
  z51 := Try.sizeOf59
  v51 := Try.zeroValue59
  t146 := Try.underlying60
  a146 := Try.isAgg60
  z146 := Try.sizeOf60
  v146 := Try.zeroValue60
  g1 := by kernel_rfl
  i3 := by kernel_rfl
  i4 := by kernel_rfl
  i5 := by kernel_rfl
  i9 := by kernel_rfl
  i46 := by kernel_rfl
  i51 := by kernel_rfl
  i146 := by kernel_rfl
  m1 := by kernel_rfl
  s1_3 := fun w h => Go.Proofs.cell_of_shapedOpen_int (zero := #[.int .i64 0]) (t := 3) h (of_decide_eq_true (by kernel_rfl)) (by kernel_rfl) rfl (by kernel_rfl) (by kernel_rfl) Try.underlying3 }
open Go.RowKit Go.Lib in
theorem Try.stringslite_Index_shaped (s sub : ByteArray) (w : World) (h : w.ShapedOpen Try.prog) (hs : s.size < 4294967281) :
    Calls Try.prog 35 #[.string s, .string sub] w fun e w' => e = .returned (.int .i64 (Lib.index s.data.toList sub.data.toList)) ∧ w' = w := Any.stringslite_Index_shaped Try.laysM219 s sub w h hs
def Try.laysM143_ren : Go.Shelf.Ren := ⟨fun | 143 => 34 | 219 => 35 | 217 => 36 | 225 => 37 | 224 => 38 | 267 => 39 | 266 => 40 | 314 => 41 | n => n, fun | 9 => 9 | 3 => 3 | 4 => 4 | 5 => 5 | 46 => 53 | 146 => 60 | 51 => 59 | n => n, fun | 1 => 0 | n => n⟩
theorem Try.laysM143 : Go.Proofs.LaysM.n143 Try.prog Try.laysM143_ren := {
  mixed := by kernel_rfl
  f143 := Try.func34.trans (congrArg some (by kernel_rfl))
  f217 := Try.func36.trans (congrArg some (by kernel_rfl))
  f219 := Try.func35.trans (congrArg some (by kernel_rfl))
  f224 := Try.func38.trans (congrArg some (by kernel_rfl))
  f225 := Try.func37.trans (congrArg some (by kernel_rfl))
  f266 := Try.func40.trans (congrArg some (by kernel_rfl))
  f267 := Try.func39.trans (congrArg some (by kernel_rfl))
  f314 := Try.func41.trans (congrArg some (by kernel_rfl))
  t3 := Try.underlying3
  a3 := Try.isAgg3
  z3 := Try.sizeOf3
  v3 := Try.zeroValue3
  t4 := Try.underlying4
  a4 := Try.isAgg4
  z4 := Try.sizeOf4
  v4 := Try.zeroValue4
  t5 := Try.underlying5
  a5 := Try.isAgg5
  z5 := Try.sizeOf5
  v5 := Try.zeroValue5
  t9 := Try.underlying9
  a9 := Try.isAgg9
  z9 := Try.sizeOf9
  v9 := Try.zeroValue9
  t46 := Try.underlying53
  a46 := Try.isAgg53
  z46 := Try.sizeOf53
  v46 := Try.zeroValue53
  t51 := Try.underlying59
  a51 := Try.isAgg59
  z51 := Try.sizeOf59
  v51 := Try.zeroValue59
  t146 := Try.underlying60
  a146 := Try.isAgg60
  z146 := Try.sizeOf60
  v146 := Try.zeroValue60
  g1 := by kernel_rfl
  i3 := by kernel_rfl
  i4 := by kernel_rfl
  i5 := by kernel_rfl
  i9 := by kernel_rfl
  i46 := by kernel_rfl
  i51 := by kernel_rfl
  i146 := by kernel_rfl
  m1 := by kernel_rfl
  s1_3 := fun w h => Go.Proofs.cell_of_shapedOpen_int (zero := #[.int .i64 0]) (t := 3) h (of_decide_eq_true (by kernel_rfl)) (by kernel_rfl) rfl (by kernel_rfl) (by kernel_rfl) Try.underlying3 }
open Go.RowKit Go.Lib in
theorem Try.strings_Index_shaped (s sub : ByteArray) (w : World) (h : w.ShapedOpen Try.prog) (hs : s.size < 4294967281) :
    Calls Try.prog 34 #[.string s, .string sub] w fun e w' => e = .returned (.int .i64 (Lib.index s.data.toList sub.data.toList)) ∧ w' = w := Any.strings_Index_shaped Try.laysM143 s sub w h hs
def Try.laysM144_ren : Go.Shelf.Ren := ⟨fun | 144 => 33 | 143 => 34 | 219 => 35 | 217 => 36 | 225 => 37 | 224 => 38 | 267 => 39 | 266 => 40 | 314 => 41 | n => n, fun | 9 => 9 | 4 => 4 | 3 => 3 | 5 => 5 | 46 => 53 | 146 => 60 | 51 => 59 | n => n, fun | 1 => 0 | n => n⟩
theorem Try.laysM144 : Go.Proofs.LaysM.n144 Try.prog Try.laysM144_ren := {
  mixed := by kernel_rfl
  f143 := Try.func34.trans (congrArg some (by kernel_rfl))
  f144 := Try.func33.trans (congrArg some (by kernel_rfl))
  f217 := Try.func36.trans (congrArg some (by kernel_rfl))
  f219 := Try.func35.trans (congrArg some (by kernel_rfl))
  f224 := Try.func38.trans (congrArg some (by kernel_rfl))
  f225 := Try.func37.trans (congrArg some (by kernel_rfl))
  f266 := Try.func40.trans (congrArg some (by kernel_rfl))
  f267 := Try.func39.trans (congrArg some (by kernel_rfl))
  f314 := Try.func41.trans (congrArg some (by kernel_rfl))
  t3 := Try.underlying3
  a3 := Try.isAgg3
  z3 := Try.sizeOf3
  v3 := Try.zeroValue3
  t4 := Try.underlying4
  a4 := Try.isAgg4
  z4 := Try.sizeOf4
  v4 := Try.zeroValue4
  t5 := Try.underlying5
  a5 := Try.isAgg5
  z5 := Try.sizeOf5
  v5 := Try.zeroValue5
  t9 := Try.underlying9
  a9 := Try.isAgg9
  z9 := Try.sizeOf9
  v9 := Try.zeroValue9
  t46 := Try.underlying53
  a46 := Try.isAgg53
  z46 := Try.sizeOf53
  v46 := Try.zeroValue53
  t51 := Try.underlying59
  a51 := Try.isAgg59
  z51 := Try.sizeOf59
  v51 := Try.zeroValue59
  t146 := Try.underlying60
  a146 := Try.isAgg60
  z146 := Try.sizeOf60
  v146 := Try.zeroValue60
  g1 := by kernel_rfl
  i3 := by kernel_rfl
  i4 := by kernel_rfl
  i5 := by kernel_rfl
  i9 := by kernel_rfl
  i46 := by kernel_rfl
  i51 := by kernel_rfl
  i146 := by kernel_rfl
  m1 := by kernel_rfl
  s1_3 := fun w h => Go.Proofs.cell_of_shapedOpen_int (zero := #[.int .i64 0]) (t := 3) h (of_decide_eq_true (by kernel_rfl)) (by kernel_rfl) rfl (by kernel_rfl) (by kernel_rfl) Try.underlying3 }
open Go.RowKit Go.Lib in
theorem Try.strings_Contains_shaped (s sub : ByteArray) (w : World) (h : w.ShapedOpen Try.prog) (hs : s.size < 4294967281) :
    Calls Try.prog 33 #[.string s, .string sub] w fun e w' => e = .returned (.bool (Lib.contains s.data.toList sub.data.toList)) ∧ w' = w := Any.strings_Contains_shaped Try.laysM144 s sub w h hs
end Go.Proofs
