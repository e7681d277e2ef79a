/-
  strings.Builder: WriteByte, WriteRune, copyCheck; utf8.EncodeRune: the shelf's contracts, laid at this dump (printed by genbuild.py).
-/
import Derived.Test.YtdpdgppjeekcmaaFmtBase
import Derived.Shelf.Strings.Builder1
import Derived.Shelf.Strings.BuilderK
import Derived.Shelf.Strings.BuilderRune
import Derived.Shelf.Spec.EncodeRune
namespace Go.Proofs
open Go Go.Lib Go.RowKit Go.Proofs
set_option maxRecDepth 100000

def Tryf.wb_ren : Go.Shelf.Ren := ⟨fun | 167 => 84 | 240 => 96 | 276 => 110 | n => n, fun | 0 => 0 | 4 => 4 | 5 => 5 | 9 => 9 | 20 => 20 | 37 => 46 | 70 => 88 | 72 => 90 | 75 => 80 | 164 => 130 | 80 => 76 | n => n, fun | n => n⟩
theorem Tryf.wb : Go.Proofs.Lays.n167 Tryf.prog Tryf.wb_ren := {
  mixed := by kernel_rfl
  f167 := Tryf.func84.trans (congrArg some (by kernel_rfl))
  f240 := Tryf.func96.trans (congrArg some (by kernel_rfl))
  f276 := Tryf.func110.trans (congrArg some (by kernel_rfl))
  t0 := by kernel_rfl
  a0 := fun _ => by kernel_rfl
  z0 := fun _ => by kernel_rfl
  v0 := fun _ => by kernel_rfl
  t4 := by kernel_rfl
  a4 := fun _ => by kernel_rfl
  z4 := fun _ => by kernel_rfl
  v4 := fun _ => by kernel_rfl
  t5 := by kernel_rfl
  a5 := fun _ => by kernel_rfl
  z5 := fun _ => by kernel_rfl
  v5 := fun _ => by kernel_rfl
  t9 := by kernel_rfl
  a9 := fun _ => by kernel_rfl
  z9 := fun _ => by kernel_rfl
  v9 := fun _ => by kernel_rfl
  t20 := by kernel_rfl
  a20 := fun _ => by kernel_rfl
  z20 := fun _ => by kernel_rfl
  v20 := fun _ => by kernel_rfl
  t37 := by kernel_rfl
  a37 := fun _ => by kernel_rfl
  z37 := fun _ => by kernel_rfl
  v37 := fun _ => by kernel_rfl
  t70 := by kernel_rfl
  a70 := fun _ => by kernel_rfl
  z70 := fun _ => by kernel_rfl
  v70 := fun _ => by kernel_rfl
  t72 := by kernel_rfl
  a72 := fun _ => by kernel_rfl
  z72 := fun _ => by kernel_rfl
  v72 := fun _ => by kernel_rfl
  t75 := by kernel_rfl
  a75 := fun _ => by kernel_rfl
  z75 := fun _ => by kernel_rfl
  v75 := fun _ => by kernel_rfl
  t164 := by kernel_rfl
  a164 := fun _ => by kernel_rfl
  z164 := fun _ => by kernel_rfl
  v164 := fun _ => by kernel_rfl }
theorem Tryf.wb_extra : Builder.Extra Tryf.prog Tryf.wb_ren := {
  sizeBuilder := by kernel_rfl
  liesBuilder := by kernel_rfl
  t5 := by kernel_rfl
  a5 := fun _ => by kernel_rfl
  z5 := fun _ => by kernel_rfl
  v5 := fun _ => by kernel_rfl
  infoByte := by kernel_rfl
  cellsByte := by kernel_rfl
  sizeByte := by kernel_rfl
  neB5 := by decide }
def Tryf.wr_ren : Go.Shelf.Ren := ⟨fun | 168 => 67 | 240 => 96 | 242 => 98 | 276 => 110 | 278 => 112 | n => n, fun | 0 => 0 | 3 => 3 | 4 => 4 | 5 => 5 | 9 => 9 | 20 => 20 | 21 => 21 | 37 => 46 | 46 => 125 | 51 => 118 | 70 => 88 | 72 => 90 | 75 => 80 | 164 => 130 | 80 => 76 | n => n, fun | n => n⟩
theorem Tryf.wr : Go.Proofs.Lays.n168 Tryf.prog Tryf.wr_ren := {
  mixed := by kernel_rfl
  f168 := Tryf.func67.trans (congrArg some (by kernel_rfl))
  f240 := Tryf.func96.trans (congrArg some (by kernel_rfl))
  f242 := Tryf.func98.trans (congrArg some (by kernel_rfl))
  f276 := Tryf.func110.trans (congrArg some (by kernel_rfl))
  f278 := Tryf.func112.trans (congrArg some (by kernel_rfl))
  t0 := by kernel_rfl
  a0 := fun _ => by kernel_rfl
  z0 := fun _ => by kernel_rfl
  v0 := fun _ => by kernel_rfl
  t3 := by kernel_rfl
  a3 := fun _ => by kernel_rfl
  z3 := fun _ => by kernel_rfl
  v3 := fun _ => by kernel_rfl
  t4 := by kernel_rfl
  a4 := fun _ => by kernel_rfl
  z4 := fun _ => by kernel_rfl
  v4 := fun _ => by kernel_rfl
  t5 := by kernel_rfl
  a5 := fun _ => by kernel_rfl
  z5 := fun _ => by kernel_rfl
  v5 := fun _ => by kernel_rfl
  t9 := by kernel_rfl
  a9 := fun _ => by kernel_rfl
  z9 := fun _ => by kernel_rfl
  v9 := fun _ => by kernel_rfl
  t20 := by kernel_rfl
  a20 := fun _ => by kernel_rfl
  z20 := fun _ => by kernel_rfl
  v20 := fun _ => by kernel_rfl
  t21 := by kernel_rfl
  a21 := fun _ => by kernel_rfl
  z21 := fun _ => by kernel_rfl
  v21 := fun _ => by kernel_rfl
  t37 := by kernel_rfl
  a37 := fun _ => by kernel_rfl
  z37 := fun _ => by kernel_rfl
  v37 := fun _ => by kernel_rfl
  t46 := by kernel_rfl
  a46 := fun _ => by kernel_rfl
  z46 := fun _ => by kernel_rfl
  v46 := fun _ => by kernel_rfl
  t51 := by kernel_rfl
  a51 := fun _ => by kernel_rfl
  z51 := fun _ => by kernel_rfl
  v51 := fun _ => by kernel_rfl
  t70 := by kernel_rfl
  a70 := fun _ => by kernel_rfl
  z70 := fun _ => by kernel_rfl
  v70 := fun _ => by kernel_rfl
  t72 := by kernel_rfl
  a72 := fun _ => by kernel_rfl
  z72 := fun _ => by kernel_rfl
  v72 := fun _ => by kernel_rfl
  t75 := by kernel_rfl
  a75 := fun _ => by kernel_rfl
  z75 := fun _ => by kernel_rfl
  v75 := fun _ => by kernel_rfl
  t164 := by kernel_rfl
  a164 := fun _ => by kernel_rfl
  z164 := fun _ => by kernel_rfl
  v164 := fun _ => by kernel_rfl }
theorem Tryf.wr_extra : Builder.Extra Tryf.prog Tryf.wr_ren := {
  sizeBuilder := by kernel_rfl
  liesBuilder := by kernel_rfl
  t5 := by kernel_rfl
  a5 := fun _ => by kernel_rfl
  z5 := fun _ => by kernel_rfl
  v5 := fun _ => by kernel_rfl
  infoByte := by kernel_rfl
  cellsByte := by kernel_rfl
  sizeByte := by kernel_rfl
  neB5 := by decide }
def Tryf.er_ren : Go.Shelf.Ren := ⟨fun | 30 => 85 | 47 => 106 | n => n, fun | 0 => 0 | 3 => 3 | 4 => 4 | 5 => 5 | 21 => 21 | 25 => 125 | 27 => 118 | 30 => 46 | n => n, fun | n => n⟩
theorem Tryf.er : Go.Proofs.Lays7.n30 Tryf.prog Tryf.er_ren := {
  mixed := by kernel_rfl
  f30 := Tryf.func85.trans (congrArg some (by kernel_rfl))
  f47 := Tryf.func106.trans (congrArg some (by kernel_rfl))
  t0 := by kernel_rfl
  a0 := fun _ => by kernel_rfl
  z0 := fun _ => by kernel_rfl
  v0 := fun _ => by kernel_rfl
  i0 := by kernel_rfl
  t3 := by kernel_rfl
  a3 := fun _ => by kernel_rfl
  z3 := fun _ => by kernel_rfl
  v3 := fun _ => by kernel_rfl
  i3 := by kernel_rfl
  t4 := by kernel_rfl
  a4 := fun _ => by kernel_rfl
  z4 := fun _ => by kernel_rfl
  v4 := fun _ => by kernel_rfl
  i4 := by kernel_rfl
  t5 := by kernel_rfl
  a5 := fun _ => by kernel_rfl
  z5 := fun _ => by kernel_rfl
  v5 := fun _ => by kernel_rfl
  i5 := by kernel_rfl
  t21 := by kernel_rfl
  a21 := fun _ => by kernel_rfl
  z21 := fun _ => by kernel_rfl
  v21 := fun _ => by kernel_rfl
  i21 := by kernel_rfl
  t25 := by kernel_rfl
  a25 := fun _ => by kernel_rfl
  z25 := fun _ => by kernel_rfl
  v25 := fun _ => by kernel_rfl
  i25 := by kernel_rfl
  t27 := by kernel_rfl
  a27 := fun _ => by kernel_rfl
  z27 := fun _ => by kernel_rfl
  v27 := fun _ => by kernel_rfl
  i27 := by kernel_rfl
  t30 := by kernel_rfl
  a30 := fun _ => by kernel_rfl
  z30 := fun _ => by kernel_rfl
  v30 := fun _ => by kernel_rfl
  i30 := by kernel_rfl }
theorem Tryf.cc : Go.Proofs.Lays.n240 Tryf.prog Tryf.wb_ren := { Tryf.wb with }
theorem Tryf.cc_X : Builder.X72 Tryf.prog Tryf.wb_ren := { Tryf.wb_extra with }
theorem Tryf.copyCheck_any (B b : Nat) (bs : List Value) (w : World) (h : Lib.IsBuilder 90 5 B b bs w) :
    Calls Tryf.prog 96 #[.pointer (some ⟨b, 0, none⟩)] w fun e w' => e = .returned (.tuple #[]) ∧ (Lib.BuilderAt 90 5 B b (.pointer (some ⟨b, 0, none⟩)) bs w' ∧ Below B w w') := Any.Builder_copyCheck Tryf.cc Tryf.cc_X B b bs w h
theorem Tryf.WriteByte_any (B b : Nat) (bs : List Value) (c : Int) (w : World) (h : Lib.IsBuilder 90 5 B b bs w) (hlen : bs.length + 1 ≤ 140737488355328) (hBw : B ≤ w.heap.size) :
    Calls Tryf.prog 84 #[.pointer (some ⟨b, 0, none⟩), .int .u8 c] w fun e w' => e = .returned .nilIface ∧ (Lib.BuilderAt 90 5 B b (.pointer (some ⟨b, 0, none⟩)) (bs ++ [.int .u8 c]) w' ∧ Below B w w') := Any.Builder_WriteByte Tryf.wb Tryf.wb_extra B b bs c w h hlen hBw
theorem Tryf.WriteRune_any (B b : Nat) (bs : List Value) (r : Int) (hr0 : -2147483648 ≤ r) (hr1 : r ≤ 2147483647) (w : World) (h : Lib.IsBuilderF 90 5 B b bs w) (hlen : bs.length + 4 ≤ 140737488355328) (hBw : B ≤ w.heap.size) :
    Calls Tryf.prog 67 #[.pointer (some ⟨b, 0, none⟩), .int .i32 r] w fun e w' => e = .returned (.tuple #[.int .i64 (Lib.runeCells r).length, .nilIface]) ∧ (Lib.BuilderAtF 90 5 B b (.pointer (some ⟨b, 0, none⟩)) (bs ++ Lib.runeCells r) w' ∧ Below B w w' ∧ Lib.OthersKept 5 (some b) w w') := Any.Builder_WriteRune_k Tryf.wr Tryf.wr_extra B b bs r hr0 hr1 w h hlen hBw
theorem Tryf.EncodeRune_any (b off len cap : Nat) (r : Int) (hlo : -2147483648 ≤ r) (hhi : r ≤ 2147483647) (w : World) (hl : (Lib.runeCells r).length ≤ len)
    (hc : ∀ j, j < (Lib.runeCells r).length → (w.cell? ⟨b, off + j, none⟩).isSome = true) (hf : ∀ j, j < (Lib.runeCells r).length → w.frozen? ⟨b, off + j, none⟩ = false) :
    Calls Tryf.prog 85 #[.slice (some ⟨b, off, none⟩) len cap, .int .i32 r] w fun e w' => e = .returned (.int .i64 (Lib.runeCells r).length) ∧ w' = w.setCells b off (Lib.runeCells r) := Any7.utf8_EncodeRune Tryf.er b off len cap r hlo hhi w hl hc hf

end Go.Proofs
