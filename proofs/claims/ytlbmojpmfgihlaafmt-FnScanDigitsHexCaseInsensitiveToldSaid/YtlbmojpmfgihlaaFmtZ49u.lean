/-
  Walk of b5UpperString of n003_49.
-/
import Derived.Test.YtlbmojpmfgihlaaFmtZ49e
import Derived.Laws.MakeOwn
namespace Go.Proofs.YtlbmojpmfgihlaaFmt
open Go Go.Lib Go.RowKit Go.Proofs
open Go.Extern.Stop Go.Stop Go.Extern

theorem foldl_push8 : ∀ (l : List UInt8) (a : ByteArray), (l.map (fun b => ((b.toNat : Nat) : Int))).foldl (fun r n => r.push (UInt8.ofNat n.toNat)) a = ⟨a.data ++ l.toArray⟩
  | [], a => by simp
  | d :: l, a => by
    rw [List.map_cons, List.foldl_cons, foldl_push8 l]
    simp [ByteArray.push]
theorem addr_add (B o j : Nat) : (⟨B, o, none⟩ : Addr).add j = ⟨B, o + j, none⟩ := by
  unfold Addr.add
  split <;> simp_all
/-- The text that a row of bytes is. -/
theorem bytes_of_cells {P : Program} {w : World} {B o n cap : Nat} {l : List UInt8} (h : ∀ j, j < l.length → w.cell? ⟨B, o + j, none⟩ = some (.int .u8 ((l.getD j 0).toNat : Nat))) (hn : l.length = n) :
    (Conv.bytesToString (.slice (some ⟨B, o, none⟩) n cap)).run P w = .ok (.string ⟨l.toArray⟩) w := by
  subst hn
  have h1 := run_loadCells_list (P := P) (w := w) ⟨B, o, none⟩ ((l.map (fun b => ((b.toNat : Nat) : Int))).map (Value.int .u8)) (by
    intro j v hv
    have hj : j < l.length := by
      have := (List.getElem?_eq_some_iff.1 hv).1
      simpa using this
    have := h j hj
    rw [addr_add, this]
    simp only [List.getElem?_map] at hv
    rw [List.getElem?_eq_getElem hj] at hv
    simp at hv
    rw [← hv]
    simp [List.getD, List.getElem?_eq_getElem hj])
  simp only [List.length_map] at h1
  rw [run_bytesToString w ⟨B, o, none⟩ l.length cap (l.map (fun b => ((b.toNat : Nat) : Int))) h1, foldl_push8]
  simp
theorem infoU8 : (Tryf.prog.info? 5).map (fun i => (i.zero, i.size, i.bytes)) = some (some (.int .u8 0), 1, 1) := by kernel_rfl

/-- The first i bytes are written. -/
def Upped (s : ByteArray) (w wr : World) (i : Nat) : Prop :=
  Below w.heap.size w wr ∧ ∃ c T, wr.heap[w.heap.size]? = some (.cells c T (0, 0)) ∧ c.size = s.size ∧ ∀ j, j < i → c[j]? = some (.int .u8 (byt (upperS s) j : Nat))
theorem upped_size {s : ByteArray} : (upperS s).data.toList.length = s.size := by have := upper_size s; have h := Lib.size_eq (upperS s); omega

set_option maxHeartbeats 4000000 in
set_option maxRecDepth 100000 in
theorem upperString_any (s : ByteArray) (hs : s.size ≤ 1099511627776) (w : World) :
    Calls Tryf.prog 9 #[.string s] w fun e w' => e = .returned (.string (upperS s)) ∧ Below w.heap.size w w' := by
  obtain ⟨ib, hib, hzb, hsb, hbb⟩ := info_parts infoU8
  have hub : Tryf.prog.underlying 46 = some (.slice 5) := by kernel_rfl
  have mk1 : ∀ wr : World, (Instr.makeSlice 46 (.int .i64 s.size) (.int .i64 s.size)).run Tryf.prog wr = .ok (.slice (some ⟨wr.heap.size, 0, none⟩) s.size s.size) (wr.alloc (.cells (madeCells (Value.int .u8 0).cells (s.size * ib.size)) 5)) := fun wr => by
    have h := run_make (P := Tryf.prog) wr 46 5 ib (.int .u8 0) hub hib hzb .i64 .i64 (s.size : Int) (s.size : Int) (by omega) (Int.le_refl _) (by rw [hbb]; omega) (by omega)
    simpa using h
  obtain ⟨c1, hc1⟩ : ∃ c, madeCells (Value.int .u8 0).cells (s.size * ib.size) = c := ⟨_, rfl⟩
  have z1 : c1.size = s.size := by rw [← hc1, size_madeCells, hsb, Nat.mul_one]
  rw [hc1] at mk1
  have Z1 := Lib.hid z1
  clear hib hzb hsb hbb hub hc1 z1
  go_enter Tryf.func9, Tryf.ntmps9
  go_wp2_with fail
  go_loopg [4] (s.size + 1) (fun g iv wr => ∃ i : Nat, iv = .int .i64 (i : Nat) ∧ Hid (Upped s w wr i) ∧ i ≤ s.size ∧ s.size - i < g)
  case atStart => exact ⟨0, rfl, Lib.hid ⟨(Below.refl _ _).alloc (Nat.le_refl _) _, c1, _, heap_alloc_at rfl, Z1.out, fun j h => absurd h (Nat.not_lt_zero _)⟩, Nat.zero_le _, by omega⟩
  case round =>
    obtain ⟨i, rfl, hup, hi', hg⟩ := hrel
    obtain ⟨hlow, c, T, hc, hcs, hcd⟩ := hup.out
    have fz := free_of_block hc
    have l0 : w.heap.size < wr.heap.size := (Array.getElem?_eq_some_iff.1 hc).1
    have HC := Lib.hid hc
    have HCS := Lib.hid hcs
    have HCD := Lib.hid hcd
    have Hlow := Lib.hid hlow
    clear hc hcs hcd hlow hup
    by_cases hin : i < s.size
    · have j0 : (0 : Int) ≤ (i : Int) := by omega
      have j1 : (i : Int) < (s.size : Int) := by omega
      have kb := byt_of hin
      have ku := byt_upper hin
      have hb8 := (s[i]'hin).toNat_lt
      obtain ⟨v0, hv0⟩ : ∃ v, wr.cell? ⟨w.heap.size, i, none⟩ = some v := ⟨_, (cell_of_block HC.out i).trans (Array.getElem?_eq_getElem (by rw [HCS.out]; exact hin))⟩
      have fin : ∀ x : Int, x = (byt (upperS s) i : Nat) → Upped s w (wr.setCell ⟨w.heap.size, i, none⟩ (.int .u8 x)) (i + 1) := fun x hx => by
        have ho := (OnlyL.refl HC.out).setCell i (.int .u8 x)
        refine ⟨⟨ho.os.trans Hlow.out.os, ho.tape.trans Hlow.out.tape, ho.output.trans Hlow.out.output, Nat.le_trans Hlow.out.size ho.size, fun j hj => (ho.others j (Nat.lt_of_lt_of_le hj Hlow.out.size) (by omega)).trans (Hlow.out.block j hj)⟩, _, T, ho.own, by simpa using HCS.out, fun j hj => ?_⟩
        by_cases e : j = i
        · subst e
          rw [Array.getElem?_setIfInBounds_self_of_lt (by rw [HCS.out]; exact hin), hx]
        · rw [Array.getElem?_setIfInBounds_ne (by omega)]
          exact HCD.out j (by omega)
      have Fin' := Lib.hid fin
      clear fin
      by_cases h1 : (97 : Int) ≤ ((s[i]'hin).toNat : Int)
      · by_cases h2 : ((s[i]'hin).toNat : Int) ≤ 122
        · have hx : ((s[i]'hin).toNat : Int) - 32 = (byt (upperS s) i : Nat) := by rw [ku, if_pos (by omega)]; omega
          have wx : IntKind.u8.wrap (((s[i]'hin).toNat : Int) - 32) = ((s[i]'hin).toNat : Int) - 32 := by rw [IntKind.wrap_u8]; omega
          have Hx := Lib.hid hx
          clear kb ku hx
          go_wp2_with fail
          go_roundg (s.size - i)
          case measure => omega
          case rel => exact ⟨i + 1, by go_num, Lib.hid (Fin'.out _ Hx.out), by omega, by omega⟩
        · have hx : ((s[i]'hin).toNat : Int) = (byt (upperS s) i : Nat) := by rw [ku, if_neg (by omega)]; omega
          have Hx := Lib.hid hx
          clear kb ku hx
          go_wp2_with fail
          go_roundg (s.size - i)
          case measure => omega
          case rel => exact ⟨i + 1, by go_num, Lib.hid (Fin'.out _ Hx.out), by omega, by omega⟩
      · have hx : ((s[i]'hin).toNat : Int) = (byt (upperS s) i : Nat) := by rw [ku, if_neg (by omega)]; omega
        have Hx := Lib.hid hx
        clear kb ku hx
        go_wp2_with fail
        go_roundg (s.size - i)
        case measure => omega
        case rel => exact ⟨i + 1, by go_num, Lib.hid (Fin'.out _ Hx.out), by omega, by omega⟩
    · have j2 : ¬ (i : Int) < (s.size : Int) := by omega
      obtain rfl : i = s.size := by omega
      have hcv : Sem.run Tryf.prog (convert 46 9 (.slice (some ⟨w.heap.size, 0, none⟩) s.size s.size)) wr = .ok (.string (upperS s)) wr := by
        rw [run_convert_bytes_string _ _ _ 5 _ _ _ (by kernel_rfl) (by kernel_rfl) (by kernel_rfl)]
        have hb := bytes_of_cells (P := Tryf.prog) (w := wr) (B := w.heap.size) (o := 0) (n := s.size) (cap := s.size) (l := (upperS s).data.toList) (fun j hj => by
          have hj2 : j < s.size := by rw [upped_size] at hj; exact hj
          rw [cell_of_block HC.out (0 + j), Nat.zero_add, HCD.out j hj2]
          have h3 : j < (upperS s).size := by rw [upper_size]; exact hj2
          rw [byt_of h3]
          have e : (upperS s).data.toList[j]'hj = (upperS s)[j]'h3 := rfl
          simp [List.getD, List.getElem?_eq_getElem hj, e]) upped_size
        rw [hb]
      go_wp2_with fail
      go_ret
      exact ⟨rfl, Hlow.out⟩

end Go.Proofs.YtlbmojpmfgihlaaFmt
