/- strings.Join over this dump: laid by the shelf's tools (lay-shelf.mjs, lay-plain.mjs); remarks struck. -/
import Derived.Shelf.Strings.Builder1
import Derived.Shelf.Strings.Builder2
import Derived.Shelf.Strings.OnBuilder
import Derived.Test.Qxb6602919aProg
namespace Go.Proofs
open Go.Shelf
def Try.lays169_ren : Go.Shelf.Ren := ⟨fun | 169 => 33 | n => n, fun | 70 => 43 | 9 => 9 | 0 => 0 | 72 => 45 | 37 => 26 | 127 => 51 | 3 => 3 | 5 => 5 | n => n, fun | n => n⟩
theorem Try.lays169 : Go.Proofs.Lays.n169 Try.prog Try.lays169_ren := {
  mixed := by kernel_rfl
  f169 := Try.func33.trans (congrArg some (by kernel_rfl))
  t0 := Try.underlying0
  a0 := Try.isAgg0
  z0 := Try.sizeOf0
  v0 := Try.zeroValue0
  t3 := Try.underlying3
  a3 := Try.isAgg3
  z3 := Try.sizeOf3
  v3 := Try.zeroValue3
  t9 := Try.underlying9
  a9 := Try.isAgg9
  z9 := Try.sizeOf9
  v9 := Try.zeroValue9
  t37 := Try.underlying26
  a37 := Try.isAgg26
  z37 := Try.sizeOf26
  v37 := Try.zeroValue26
  t70 := Try.underlying43
  a70 := Try.isAgg43
  z70 := Try.sizeOf43
  v70 := Try.zeroValue43
  t72 := Try.underlying45
  a72 := Try.isAgg45
  z72 := Try.sizeOf45
  v72 := Try.zeroValue45
  t127 := Try.underlying51
  a127 := Try.isAgg51
  z127 := Try.sizeOf51
  v127 := Try.zeroValue51 }
theorem Try.Builder_Extra_169 : Builder.Extra Try.prog Try.lays169_ren := {
  sizeBuilder := by kernel_rfl
  liesBuilder := by kernel_rfl
  t5 := Try.underlying5
  a5 := Try.isAgg5
  z5 := Try.sizeOf5
  v5 := Try.zeroValue5
  infoByte := by kernel_rfl
  cellsByte := by kernel_rfl
  sizeByte := by kernel_rfl
  neB5 := by decide }
open Go.RowKit in
theorem Try.Builder_String (B b : Nat) (l : List UInt8) (w : World) (h : Lib.IsBuilder 45 5 B b (Lib.byteCells l) w) (h0 : l ≠ []) :
    Calls Try.prog 33 #[.pointer (some ⟨b, 0, none⟩)] w fun e w' => e = .returned (.string ⟨l.toArray⟩) ∧ Below B w w' := Any.Builder_String Try.lays169 Try.Builder_Extra_169 B b l w h h0
open Go.RowKit in
theorem Try.Builder_String_empty (B b : Nat) (w : World) (h : Lib.IsBuilder 45 5 B b [] w) (hBw : B ≤ w.heap.size) :
    Calls Try.prog 33 #[.pointer (some ⟨b, 0, none⟩)] w fun e w' => e = .returned (.string ⟨#[]⟩) ∧ Below B w w' := Any.Builder_String_empty Try.lays169 Try.Builder_Extra_169 B b w h hBw
open Go.RowKit in
theorem Try.Builder_String_any (B b : Nat) (l : List UInt8) (w : World) (h : Lib.IsBuilder 45 5 B b (Lib.byteCells l) w) (hBw : B ≤ w.heap.size) :
    Calls Try.prog 33 #[.pointer (some ⟨b, 0, none⟩)] w fun e w' => e = .returned (.string ⟨l.toArray⟩) ∧ Below B w w' := Any.Builder_String_any Try.lays169 Try.Builder_Extra_169 B b l w h hBw
def Try.lays241_ren : Go.Shelf.Ren := ⟨fun | 241 => 35 | 277 => 37 | n => n, fun | 70 => 43 | 3 => 3 | 0 => 0 | 72 => 45 | 37 => 26 | 5 => 5 | n => n, fun | n => n⟩
theorem Try.lays241 : Go.Proofs.Lays.n241 Try.prog Try.lays241_ren := {
  mixed := by kernel_rfl
  f241 := Try.func35.trans (congrArg some (by kernel_rfl))
  f277 := Try.func37.trans (congrArg some (by kernel_rfl))
  t0 := Try.underlying0
  a0 := Try.isAgg0
  z0 := Try.sizeOf0
  v0 := Try.zeroValue0
  t3 := Try.underlying3
  a3 := Try.isAgg3
  z3 := Try.sizeOf3
  v3 := Try.zeroValue3
  t37 := Try.underlying26
  a37 := Try.isAgg26
  z37 := Try.sizeOf26
  v37 := Try.zeroValue26
  t70 := Try.underlying43
  a70 := Try.isAgg43
  z70 := Try.sizeOf43
  v70 := Try.zeroValue43
  t72 := Try.underlying45
  a72 := Try.isAgg45
  z72 := Try.sizeOf45
  v72 := Try.zeroValue45 }
theorem Try.Builder_Extra_241 : Builder.Extra Try.prog Try.lays241_ren := {
  sizeBuilder := by kernel_rfl
  liesBuilder := by kernel_rfl
  t5 := Try.underlying5
  a5 := Try.isAgg5
  z5 := Try.sizeOf5
  v5 := Try.zeroValue5
  infoByte := by kernel_rfl
  cellsByte := by kernel_rfl
  sizeByte := by kernel_rfl
  neB5 := by decide }
open Go.RowKit in
theorem Try.Builder_grow_fresh (B b n : Nat) (w : World) (hB : B ≤ b) (hbk : w.heap[b]? = some (.cells #[.pointer (some ⟨b, 0, none⟩), .slice none 0 0] 45 (0, 0))) (hBw : B ≤ w.heap.size) (hn : n ≤ 281474976710656) :
    Calls Try.prog 35 #[.pointer (some ⟨b, 0, none⟩), .int .i64 n] w fun e w' => e = .returned (.tuple #[]) ∧ (Lib.BuilderAt 45 5 B b (.pointer (some ⟨b, 0, none⟩)) [] w' ∧ Below B w w') := Any.Builder_grow_fresh Try.lays241 Try.Builder_Extra_241 B b n w hB hbk hBw hn
def Try.lays165_ren : Go.Shelf.Ren := ⟨fun | 165 => 31 | 240 => 34 | 241 => 35 | 276 => 36 | 277 => 37 | n => n, fun | 70 => 43 | 3 => 3 | 0 => 0 | 4 => 4 | 9 => 9 | 20 => 20 | 72 => 45 | 37 => 26 | 164 => 52 | 5 => 5 | n => n, fun | n => n⟩
theorem Try.lays165 : Go.Proofs.Lays.n165 Try.prog Try.lays165_ren := {
  mixed := by kernel_rfl
  f165 := Try.func31.trans (congrArg some (by kernel_rfl))
  f240 := Try.func34.trans (congrArg some (by kernel_rfl))
  f241 := Try.func35.trans (congrArg some (by kernel_rfl))
  f276 := Try.func36.trans (congrArg some (by kernel_rfl))
  f277 := Try.func37.trans (congrArg some (by kernel_rfl))
  t0 := Try.underlying0
  a0 := Try.isAgg0
  z0 := Try.sizeOf0
  v0 := Try.zeroValue0
  t3 := Try.underlying3
  a3 := Try.isAgg3
  z3 := Try.sizeOf3
  v3 := Try.zeroValue3
  t4 := Try.underlying4
  a4 := Try.isAgg4
  z4 := Try.sizeOf4
  v4 := Try.zeroValue4
  t9 := Try.underlying9
  a9 := Try.isAgg9
  z9 := Try.sizeOf9
  v9 := Try.zeroValue9
  t20 := Try.underlying20
  a20 := Try.isAgg20
  z20 := Try.sizeOf20
  v20 := Try.zeroValue20
  t37 := Try.underlying26
  a37 := Try.isAgg26
  z37 := Try.sizeOf26
  v37 := Try.zeroValue26
  t70 := Try.underlying43
  a70 := Try.isAgg43
  z70 := Try.sizeOf43
  v70 := Try.zeroValue43
  t72 := Try.underlying45
  a72 := Try.isAgg45
  z72 := Try.sizeOf45
  v72 := Try.zeroValue45
  t164 := Try.underlying52
  a164 := Try.isAgg52
  z164 := Try.sizeOf52
  v164 := Try.zeroValue52 }
theorem Try.Builder_Extra_165 : Builder.Extra Try.prog Try.lays165_ren := {
  sizeBuilder := by kernel_rfl
  liesBuilder := by kernel_rfl
  t5 := Try.underlying5
  a5 := Try.isAgg5
  z5 := Try.sizeOf5
  v5 := Try.zeroValue5
  infoByte := by kernel_rfl
  cellsByte := by kernel_rfl
  sizeByte := by kernel_rfl
  neB5 := by decide }
open Go.RowKit in
theorem Try.Builder_Grow_fresh (B b n : Nat) (w : World) (hB : B ≤ b) (hbk : w.heap[b]? = some (.cells #[.pointer none, .slice none 0 0] 45 (0, 0))) (hBw : B ≤ w.heap.size) (hn : n ≤ 281474976710656) :
    Calls Try.prog 31 #[.pointer (some ⟨b, 0, none⟩), .int .i64 n] w fun e w' => e = .returned (.tuple #[]) ∧ (Lib.BuilderAt 45 5 B b (.pointer (some ⟨b, 0, none⟩)) [] w' ∧ Below B w w') := Any.Builder_Grow_fresh Try.lays165 Try.Builder_Extra_165 B b n w hB hbk hBw hn
def Try.lays156_ren : Go.Shelf.Ren := ⟨fun | 156 => 30 | 165 => 31 | 166 => 32 | 169 => 33 | 240 => 34 | 241 => 35 | 276 => 36 | 277 => 37 | n => n, fun | 31 => 31 | 9 => 9 | 3 => 3 | 4 => 4 | 0 => 0 | 20 => 20 | 72 => 45 | 76 => 49 | 70 => 43 | 37 => 26 | 75 => 48 | 127 => 51 | 164 => 52 | 5 => 5 | 80 => 38 | n => n, fun | n => n⟩
theorem Try.lays156 : Go.Proofs.Lays.n156 Try.prog Try.lays156_ren := {
  mixed := by kernel_rfl
  f156 := Try.func30.trans (congrArg some (by kernel_rfl))
  f165 := Try.func31.trans (congrArg some (by kernel_rfl))
  f166 := Try.func32.trans (congrArg some (by kernel_rfl))
  f169 := Try.func33.trans (congrArg some (by kernel_rfl))
  f240 := Try.func34.trans (congrArg some (by kernel_rfl))
  f241 := Try.func35.trans (congrArg some (by kernel_rfl))
  f276 := Try.func36.trans (congrArg some (by kernel_rfl))
  f277 := Try.func37.trans (congrArg some (by kernel_rfl))
  t0 := Try.underlying0
  a0 := Try.isAgg0
  z0 := Try.sizeOf0
  v0 := Try.zeroValue0
  t3 := Try.underlying3
  a3 := Try.isAgg3
  z3 := Try.sizeOf3
  v3 := Try.zeroValue3
  t4 := Try.underlying4
  a4 := Try.isAgg4
  z4 := Try.sizeOf4
  v4 := Try.zeroValue4
  t9 := Try.underlying9
  a9 := Try.isAgg9
  z9 := Try.sizeOf9
  v9 := Try.zeroValue9
  t20 := Try.underlying20
  a20 := Try.isAgg20
  z20 := Try.sizeOf20
  v20 := Try.zeroValue20
  t31 := Try.underlying31
  a31 := Try.isAgg31
  z31 := Try.sizeOf31
  v31 := Try.zeroValue31
  t37 := Try.underlying26
  a37 := Try.isAgg26
  z37 := Try.sizeOf26
  v37 := Try.zeroValue26
  t70 := Try.underlying43
  a70 := Try.isAgg43
  z70 := Try.sizeOf43
  v70 := Try.zeroValue43
  t72 := Try.underlying45
  a72 := Try.isAgg45
  z72 := Try.sizeOf45
  v72 := Try.zeroValue45
  t75 := Try.underlying48
  a75 := Try.isAgg48
  z75 := Try.sizeOf48
  v75 := Try.zeroValue48
  t76 := Try.underlying49
  a76 := Try.isAgg49
  z76 := Try.sizeOf49
  v76 := Try.zeroValue49
  t127 := Try.underlying51
  a127 := Try.isAgg51
  z127 := Try.sizeOf51
  v127 := Try.zeroValue51
  t164 := Try.underlying52
  a164 := Try.isAgg52
  z164 := Try.sizeOf52
  v164 := Try.zeroValue52 }
theorem Try.Builder_Extra_156 : Builder.Extra Try.prog Try.lays156_ren := {
  sizeBuilder := by kernel_rfl
  liesBuilder := by kernel_rfl
  t5 := Try.underlying5
  a5 := Try.isAgg5
  z5 := Try.sizeOf5
  v5 := Try.zeroValue5
  infoByte := by kernel_rfl
  cellsByte := by kernel_rfl
  sizeByte := by kernel_rfl
  neB5 := by decide }
open Go.RowKit in
theorem Try.strings_Join_none (a : Option Addr) (c : Nat) (sep : ByteArray) (w : World) :
    Calls Try.prog 30 #[.slice a 0 c, .string sep] w fun e w' => e = .returned (.string ⟨#[]⟩) ∧ w' = w := Any.strings_Join_none Try.lays156 Try.Builder_Extra_156 a c sep w
open Go.RowKit in
theorem Try.strings_Join (bk o c : Nat) (xs : List ByteArray) (sep : ByteArray) (w : World) (hcells : ∀ (j : Nat) x, xs[j]? = some x → w.cell? ⟨bk, o + j, none⟩ = some (.string x)) (hbk : bk < w.heap.size) (hN : xs.length ≤ 140737488355328) (hcap : xs.length ≤ c) (hlen : (Lib.join (xs.map (·.data.toList)) sep.data.toList).length ≤ 140737488355328) :
    Calls Try.prog 30 #[.slice (some ⟨bk, o, none⟩) xs.length c, .string sep] w fun e w' => e = .returned (.string ⟨(Lib.join (xs.map (·.data.toList)) sep.data.toList).toArray⟩) ∧ Below w.heap.size w w' := Any.strings_Join Try.lays156 Try.Builder_Extra_156 bk o c xs sep w hcells hbk hN hcap hlen
end Go.Proofs
