/-
  THE LIBRARY's CONTRACTS AT THIS SEAT's DUMP, written by the kit's lay-shelf.mjs and lay-plain.mjs; 'Try.lays240', '166', '167' and what stands on them are typed by hand after the same pattern.
-/
import Derived.Shelf.Strings.Builder1
import Derived.Shelf.Strings.Builder2
import Derived.Shelf.GgClosure.StringsIndexFunc
import Derived.Ground.GgwProg
import Derived.Shelf.GgClosure.StringsIndexFuncTop
import Derived.Test.Qxb6602060aProg
namespace Go.Proofs
open Go.Shelf
def Try.lays169_ren : Go.Shelf.Ren := ⟨fun | 169 => 19 | n => n, fun | 70 => 28 | 9 => 9 | 0 => 0 | 72 => 31 | 37 => 29 | 127 => 40 | 3 => 3 | 5 => 5 | n => n, fun | n => n⟩
theorem Try.lays169 : Go.Proofs.Lays.n169 Try.prog Try.lays169_ren := {
  mixed := by kernel_rfl
  f169 := Try.func19.trans (congrArg some (by kernel_rfl))
  t0 := Try.underlying0
  a0 := Try.isAgg0
  z0 := Try.sizeOf0
  v0 := Try.zeroValue0
  t3 := Try.underlying3
  a3 := Try.isAgg3
  z3 := Try.sizeOf3
  v3 := Try.zeroValue3
  t9 := Try.underlying9
  a9 := Try.isAgg9
  z9 := Try.sizeOf9
  v9 := Try.zeroValue9
  t37 := Try.underlying29
  a37 := Try.isAgg29
  z37 := Try.sizeOf29
  v37 := Try.zeroValue29
  t70 := Try.underlying28
  a70 := Try.isAgg28
  z70 := Try.sizeOf28
  v70 := Try.zeroValue28
  t72 := Try.underlying31
  a72 := Try.isAgg31
  z72 := Try.sizeOf31
  v72 := Try.zeroValue31
  t127 := Try.underlying40
  a127 := Try.isAgg40
  z127 := Try.sizeOf40
  v127 := Try.zeroValue40 }
theorem Try.Builder_Extra_169 : Builder.Extra Try.prog Try.lays169_ren := {
  sizeBuilder := by kernel_rfl
  liesBuilder := by kernel_rfl
  t5 := Try.underlying5
  a5 := Try.isAgg5
  z5 := Try.sizeOf5
  v5 := Try.zeroValue5
  infoByte := by kernel_rfl
  cellsByte := by kernel_rfl
  sizeByte := by kernel_rfl
  neB5 := by decide }
open Go.RowKit in
theorem Try.Builder_String (B b : Nat) (l : List UInt8) (w : World) (h : Lib.IsBuilder 31 5 B b (Lib.byteCells l) w) (h0 : l ≠ []) :
    Calls Try.prog 19 #[.pointer (some ⟨b, 0, none⟩)] w fun e w' => e = .returned (.string ⟨l.toArray⟩) ∧ Below B w w' := Any.Builder_String Try.lays169 Try.Builder_Extra_169 B b l w h h0
open Go.RowKit in
theorem Try.Builder_String_empty (B b : Nat) (w : World) (h : Lib.IsBuilder 31 5 B b [] w) (hBw : B ≤ w.heap.size) :
    Calls Try.prog 19 #[.pointer (some ⟨b, 0, none⟩)] w fun e w' => e = .returned (.string ⟨#[]⟩) ∧ Below B w w' := Any.Builder_String_empty Try.lays169 Try.Builder_Extra_169 B b w h hBw
open Go.RowKit in
theorem Try.Builder_String_any (B b : Nat) (l : List UInt8) (w : World) (h : Lib.IsBuilder 31 5 B b (Lib.byteCells l) w) (hBw : B ≤ w.heap.size) :
    Calls Try.prog 19 #[.pointer (some ⟨b, 0, none⟩)] w fun e w' => e = .returned (.string ⟨l.toArray⟩) ∧ Below B w w' := Any.Builder_String_any Try.lays169 Try.Builder_Extra_169 B b l w h hBw
def Try.lays241_ren : Go.Shelf.Ren := ⟨fun | 241 => 22 | 277 => 24 | n => n, fun | 70 => 28 | 3 => 3 | 0 => 0 | 72 => 31 | 37 => 29 | 5 => 5 | n => n, fun | n => n⟩
theorem Try.lays241 : Go.Proofs.Lays.n241 Try.prog Try.lays241_ren := {
  mixed := by kernel_rfl
  f241 := Try.func22.trans (congrArg some (by kernel_rfl))
  f277 := Try.func24.trans (congrArg some (by kernel_rfl))
  t0 := Try.underlying0
  a0 := Try.isAgg0
  z0 := Try.sizeOf0
  v0 := Try.zeroValue0
  t3 := Try.underlying3
  a3 := Try.isAgg3
  z3 := Try.sizeOf3
  v3 := Try.zeroValue3
  t37 := Try.underlying29
  a37 := Try.isAgg29
  z37 := Try.sizeOf29
  v37 := Try.zeroValue29
  t70 := Try.underlying28
  a70 := Try.isAgg28
  z70 := Try.sizeOf28
  v70 := Try.zeroValue28
  t72 := Try.underlying31
  a72 := Try.isAgg31
  z72 := Try.sizeOf31
  v72 := Try.zeroValue31 }
theorem Try.Builder_Extra_241 : Builder.Extra Try.prog Try.lays241_ren := {
  sizeBuilder := by kernel_rfl
  liesBuilder := by kernel_rfl
  t5 := Try.underlying5
  a5 := Try.isAgg5
  z5 := Try.sizeOf5
  v5 := Try.zeroValue5
  infoByte := by kernel_rfl
  cellsByte := by kernel_rfl
  sizeByte := by kernel_rfl
  neB5 := by decide }
open Go.RowKit in
theorem Try.Builder_grow_fresh (B b n : Nat) (w : World) (hB : B ≤ b) (hbk : w.heap[b]? = some (.cells #[.pointer (some ⟨b, 0, none⟩), .slice none 0 0] 31 (0, 0))) (hBw : B ≤ w.heap.size) (hn : n ≤ 281474976710656) :
    Calls Try.prog 22 #[.pointer (some ⟨b, 0, none⟩), .int .i64 n] w fun e w' => e = .returned (.tuple #[]) ∧ (Lib.BuilderAt 31 5 B b (.pointer (some ⟨b, 0, none⟩)) [] w' ∧ Below B w w') := Any.Builder_grow_fresh Try.lays241 Try.Builder_Extra_241 B b n w hB hbk hBw hn
def Try.lays165_ren : Go.Shelf.Ren := ⟨fun | 165 => 16 | 240 => 21 | 241 => 22 | 276 => 23 | 277 => 24 | n => n, fun | 70 => 28 | 3 => 3 | 0 => 0 | 4 => 4 | 9 => 9 | 20 => 20 | 72 => 31 | 37 => 29 | 164 => 41 | 5 => 5 | n => n, fun | n => n⟩
theorem Try.lays165 : Go.Proofs.Lays.n165 Try.prog Try.lays165_ren := {
  mixed := by kernel_rfl
  f165 := Try.func16.trans (congrArg some (by kernel_rfl))
  f240 := Try.func21.trans (congrArg some (by kernel_rfl))
  f241 := Try.func22.trans (congrArg some (by kernel_rfl))
  f276 := Try.func23.trans (congrArg some (by kernel_rfl))
  f277 := Try.func24.trans (congrArg some (by kernel_rfl))
  t0 := Try.underlying0
  a0 := Try.isAgg0
  z0 := Try.sizeOf0
  v0 := Try.zeroValue0
  t3 := Try.underlying3
  a3 := Try.isAgg3
  z3 := Try.sizeOf3
  v3 := Try.zeroValue3
  t4 := Try.underlying4
  a4 := Try.isAgg4
  z4 := Try.sizeOf4
  v4 := Try.zeroValue4
  t9 := Try.underlying9
  a9 := Try.isAgg9
  z9 := Try.sizeOf9
  v9 := Try.zeroValue9
  t20 := Try.underlying20
  a20 := Try.isAgg20
  z20 := Try.sizeOf20
  v20 := Try.zeroValue20
  t37 := Try.underlying29
  a37 := Try.isAgg29
  z37 := Try.sizeOf29
  v37 := Try.zeroValue29
  t70 := Try.underlying28
  a70 := Try.isAgg28
  z70 := Try.sizeOf28
  v70 := Try.zeroValue28
  t72 := Try.underlying31
  a72 := Try.isAgg31
  z72 := Try.sizeOf31
  v72 := Try.zeroValue31
  t164 := Try.underlying41
  a164 := Try.isAgg41
  z164 := Try.sizeOf41
  v164 := Try.zeroValue41 }
theorem Try.Builder_Extra_165 : Builder.Extra Try.prog Try.lays165_ren := {
  sizeBuilder := by kernel_rfl
  liesBuilder := by kernel_rfl
  t5 := Try.underlying5
  a5 := Try.isAgg5
  z5 := Try.sizeOf5
  v5 := Try.zeroValue5
  infoByte := by kernel_rfl
  cellsByte := by kernel_rfl
  sizeByte := by kernel_rfl
  neB5 := by decide }
open Go.RowKit in
theorem Try.Builder_Grow_fresh (B b n : Nat) (w : World) (hB : B ≤ b) (hbk : w.heap[b]? = some (.cells #[.pointer none, .slice none 0 0] 31 (0, 0))) (hBw : B ≤ w.heap.size) (hn : n ≤ 281474976710656) :
    Calls Try.prog 16 #[.pointer (some ⟨b, 0, none⟩), .int .i64 n] w fun e w' => e = .returned (.tuple #[]) ∧ (Lib.BuilderAt 31 5 B b (.pointer (some ⟨b, 0, none⟩)) [] w' ∧ Below B w w') := Any.Builder_Grow_fresh Try.lays165 Try.Builder_Extra_165 B b n w hB hbk hBw hn
def Try.lays315_ren : Go.Shelf.Ren := ⟨fun | 315 => 20 | n => n, fun | 9 => 9 | 40 => 27 | 4 => 4 | 3 => 3 | 0 => 0 | 21 => 21 | n => n, fun | n => n⟩
theorem Try.lays315 : Go.Proofs.Lays.n315 Try.prog Try.lays315_ren := {
  mixed := by kernel_rfl
  f315 := Try.func20.trans (congrArg some (by kernel_rfl))
  t0 := Try.underlying0
  a0 := Try.isAgg0
  z0 := Try.sizeOf0
  v0 := Try.zeroValue0
  t3 := Try.underlying3
  a3 := Try.isAgg3
  z3 := Try.sizeOf3
  v3 := Try.zeroValue3
  t4 := Try.underlying4
  a4 := Try.isAgg4
  z4 := Try.sizeOf4
  v4 := Try.zeroValue4
  t9 := Try.underlying9
  a9 := Try.isAgg9
  z9 := Try.sizeOf9
  v9 := Try.zeroValue9
  t21 := Try.underlying21
  a21 := Try.isAgg21
  z21 := Try.sizeOf21
  v21 := Try.zeroValue21
  t40 := Try.underlying27
  a40 := Try.isAgg27
  z40 := Try.sizeOf27
  v40 := Try.zeroValue27 }
open Go.RowKit Go.Lib in
theorem Try.strings_indexFunc (g : Nat) (lb : Array Value) (eg : ∀ args w, (callFunc g args).run Try.prog w = .ok (.enter g args) w) (p : Nat → Bool) (truth : Bool) (s : ByteArray) (w : World) (hp : PredAt Try.prog g lb encR p w) :
    Calls Try.prog 20 #[.string s, .func (.func g) #[] lb, .bool truth] w fun e w' => e = .returned (.int .i64 (Lib.idxFunc p truth s)) ∧ Below w.heap.size w w' := Any.strings_indexFunc Try.lays315 g lb eg p truth s w hp
def Try.laysGw15_ren : Go.Shelf.Ren := ⟨fun | 15 => 14 | 20 => 20 | n => n, fun | 9 => 9 | 23 => 27 | 3 => 3 | 4 => 4 | 0 => 0 | 21 => 21 | n => n, fun | n => n⟩
theorem Try.laysGw15 : Go.Proofs.LaysGw.n15 Try.prog Try.laysGw15_ren := {
  mixed := by kernel_rfl
  f15 := Try.func14.trans (congrArg some (by kernel_rfl))
  f20 := Try.func20.trans (congrArg some (by kernel_rfl))
  t0 := Try.underlying0
  a0 := Try.isAgg0
  z0 := Try.sizeOf0
  v0 := Try.zeroValue0
  i0 := by kernel_rfl
  t3 := Try.underlying3
  a3 := Try.isAgg3
  z3 := Try.sizeOf3
  v3 := Try.zeroValue3
  i3 := by kernel_rfl
  t4 := Try.underlying4
  a4 := Try.isAgg4
  z4 := Try.sizeOf4
  v4 := Try.zeroValue4
  i4 := by kernel_rfl
  t9 := Try.underlying9
  a9 := Try.isAgg9
  z9 := Try.sizeOf9
  v9 := Try.zeroValue9
  i9 := by kernel_rfl
  t21 := Try.underlying21
  a21 := Try.isAgg21
  z21 := Try.sizeOf21
  v21 := Try.zeroValue21
  i21 := by kernel_rfl
  t23 := Try.underlying27
  a23 := Try.isAgg27
  z23 := Try.sizeOf27
  v23 := Try.zeroValue27
  i23 := by kernel_rfl }
open Go.RowKit Go.Lib in
theorem Try.strings_IndexFunc (g : Nat) (lb : Array Value) (eg : ∀ args w, (callFunc g args).run Try.prog w = .ok (.enter g args) w) (p : Nat → Bool) (s : ByteArray) (w : World) (hp : PredAt Try.prog g lb encR p w) :
    Calls Try.prog 14 #[.string s, .func (.func g) #[] lb] w fun e w' => e = .returned (.int .i64 (Lib.idxFunc p true s)) ∧ Below w.heap.size w w' := Any.strings_IndexFunc Try.laysGw15 g lb eg p s w hp
def Try.lays240_ren : Go.Shelf.Ren := ⟨fun | 166 => 17 | 167 => 18 | 240 => 21 | 276 => 23 | n => n, fun | 70 => 28 | 3 => 3 | 0 => 0 | 4 => 4 | 9 => 9 | 20 => 20 | 72 => 31 | 37 => 29 | 164 => 41 | 5 => 5 | 75 => 34 | 80 => 38 | 127 => 40 | n => n, fun | n => n⟩
theorem Try.lays240 : Go.Proofs.Lays.n240 Try.prog Try.lays240_ren := {
  mixed := by kernel_rfl
  f240 := Try.func21.trans (congrArg some (by kernel_rfl))
  f276 := Try.func23.trans (congrArg some (by kernel_rfl))
  t0 := Try.underlying0
  a0 := Try.isAgg0
  z0 := Try.sizeOf0
  v0 := Try.zeroValue0
  t4 := Try.underlying4
  a4 := Try.isAgg4
  z4 := Try.sizeOf4
  v4 := Try.zeroValue4
  t9 := Try.underlying9
  a9 := Try.isAgg9
  z9 := Try.sizeOf9
  v9 := Try.zeroValue9
  t20 := Try.underlying20
  a20 := Try.isAgg20
  z20 := Try.sizeOf20
  v20 := Try.zeroValue20
  t70 := Try.underlying28
  a70 := Try.isAgg28
  z70 := Try.sizeOf28
  v70 := Try.zeroValue28
  t72 := Try.underlying31
  a72 := Try.isAgg31
  z72 := Try.sizeOf31
  v72 := Try.zeroValue31
  t164 := Try.underlying41
  a164 := Try.isAgg41
  z164 := Try.sizeOf41
  v164 := Try.zeroValue41 }
def Try.lays166_ren : Go.Shelf.Ren := ⟨fun | 166 => 17 | 167 => 18 | 240 => 21 | 276 => 23 | n => n, fun | 70 => 28 | 3 => 3 | 0 => 0 | 4 => 4 | 9 => 9 | 20 => 20 | 72 => 31 | 37 => 29 | 164 => 41 | 5 => 5 | 75 => 34 | 80 => 38 | 127 => 40 | n => n, fun | n => n⟩
theorem Try.lays166 : Go.Proofs.Lays.n166 Try.prog Try.lays166_ren := {
  mixed := by kernel_rfl
  f166 := Try.func17.trans (congrArg some (by kernel_rfl))
  f240 := Try.func21.trans (congrArg some (by kernel_rfl))
  f276 := Try.func23.trans (congrArg some (by kernel_rfl))
  t0 := Try.underlying0
  a0 := Try.isAgg0
  z0 := Try.sizeOf0
  v0 := Try.zeroValue0
  t3 := Try.underlying3
  a3 := Try.isAgg3
  z3 := Try.sizeOf3
  v3 := Try.zeroValue3
  t4 := Try.underlying4
  a4 := Try.isAgg4
  z4 := Try.sizeOf4
  v4 := Try.zeroValue4
  t9 := Try.underlying9
  a9 := Try.isAgg9
  z9 := Try.sizeOf9
  v9 := Try.zeroValue9
  t20 := Try.underlying20
  a20 := Try.isAgg20
  z20 := Try.sizeOf20
  v20 := Try.zeroValue20
  t37 := Try.underlying29
  a37 := Try.isAgg29
  z37 := Try.sizeOf29
  v37 := Try.zeroValue29
  t70 := Try.underlying28
  a70 := Try.isAgg28
  z70 := Try.sizeOf28
  v70 := Try.zeroValue28
  t72 := Try.underlying31
  a72 := Try.isAgg31
  z72 := Try.sizeOf31
  v72 := Try.zeroValue31
  t75 := Try.underlying34
  a75 := Try.isAgg34
  z75 := Try.sizeOf34
  v75 := Try.zeroValue34
  t164 := Try.underlying41
  a164 := Try.isAgg41
  z164 := Try.sizeOf41
  v164 := Try.zeroValue41 }
theorem Try.Builder_Extra_166 : Builder.Extra Try.prog Try.lays166_ren := {
  sizeBuilder := by kernel_rfl
  liesBuilder := by kernel_rfl
  t5 := Try.underlying5
  a5 := Try.isAgg5
  z5 := Try.sizeOf5
  v5 := Try.zeroValue5
  infoByte := by kernel_rfl
  cellsByte := by kernel_rfl
  sizeByte := by kernel_rfl
  neB5 := by decide }
def Try.lays167_ren : Go.Shelf.Ren := ⟨fun | 166 => 17 | 167 => 18 | 240 => 21 | 276 => 23 | n => n, fun | 70 => 28 | 3 => 3 | 0 => 0 | 4 => 4 | 9 => 9 | 20 => 20 | 72 => 31 | 37 => 29 | 164 => 41 | 5 => 5 | 75 => 34 | 80 => 38 | 127 => 40 | n => n, fun | n => n⟩
theorem Try.lays167 : Go.Proofs.Lays.n167 Try.prog Try.lays167_ren := {
  mixed := by kernel_rfl
  f167 := Try.func18.trans (congrArg some (by kernel_rfl))
  f240 := Try.func21.trans (congrArg some (by kernel_rfl))
  f276 := Try.func23.trans (congrArg some (by kernel_rfl))
  t0 := Try.underlying0
  a0 := Try.isAgg0
  z0 := Try.sizeOf0
  v0 := Try.zeroValue0
  t4 := Try.underlying4
  a4 := Try.isAgg4
  z4 := Try.sizeOf4
  v4 := Try.zeroValue4
  t5 := Try.underlying5
  a5 := Try.isAgg5
  z5 := Try.sizeOf5
  v5 := Try.zeroValue5
  t9 := Try.underlying9
  a9 := Try.isAgg9
  z9 := Try.sizeOf9
  v9 := Try.zeroValue9
  t20 := Try.underlying20
  a20 := Try.isAgg20
  z20 := Try.sizeOf20
  v20 := Try.zeroValue20
  t37 := Try.underlying29
  a37 := Try.isAgg29
  z37 := Try.sizeOf29
  v37 := Try.zeroValue29
  t70 := Try.underlying28
  a70 := Try.isAgg28
  z70 := Try.sizeOf28
  v70 := Try.zeroValue28
  t72 := Try.underlying31
  a72 := Try.isAgg31
  z72 := Try.sizeOf31
  v72 := Try.zeroValue31
  t75 := Try.underlying34
  a75 := Try.isAgg34
  z75 := Try.sizeOf34
  v75 := Try.zeroValue34
  t164 := Try.underlying41
  a164 := Try.isAgg41
  z164 := Try.sizeOf41
  v164 := Try.zeroValue41 }
theorem Try.Builder_Extra_167 : Builder.Extra Try.prog Try.lays167_ren := {
  sizeBuilder := by kernel_rfl
  liesBuilder := by kernel_rfl
  t5 := Try.underlying5
  a5 := Try.isAgg5
  z5 := Try.sizeOf5
  v5 := Try.zeroValue5
  infoByte := by kernel_rfl
  cellsByte := by kernel_rfl
  sizeByte := by kernel_rfl
  neB5 := by decide }
open Go.RowKit in
theorem Try.Builder_WriteByte (B b : Nat) (bs : List Value) (c : Int) (w : World) (h : Lib.IsBuilder 31 5 B b bs w) (hlen : bs.length + 1 ≤ 140737488355328) (hBw : B ≤ w.heap.size) :
    Calls Try.prog 18 #[.pointer (some ⟨b, 0, none⟩), .int .u8 c] w fun e w' => e = .returned .nilIface ∧ (Lib.BuilderAt 31 5 B b (.pointer (some ⟨b, 0, none⟩)) (bs ++ [.int .u8 c]) w' ∧ Below B w w') := Any.Builder_WriteByte Try.lays167 Try.Builder_Extra_167 B b bs c w h hlen hBw
open Go.RowKit in
theorem Try.Builder_WriteString (B b : Nat) (bs : List Value) (s : ByteArray) (w : World) (h : Lib.IsBuilder 31 5 B b bs w) (hlen : bs.length + s.size ≤ 140737488355328) (hBw : B ≤ w.heap.size) :
    Calls Try.prog 17 #[.pointer (some ⟨b, 0, none⟩), .string s] w fun e w' => e = .returned (.tuple #[.int .i64 s.size, .nilIface]) ∧ (Lib.BuilderAt 31 5 B b (.pointer (some ⟨b, 0, none⟩)) (bs ++ Lib.strCells s) w' ∧ Below B w w') := Any.Builder_WriteString Try.lays166 Try.Builder_Extra_166 B b bs s w h hlen hBw
end Go.Proofs
