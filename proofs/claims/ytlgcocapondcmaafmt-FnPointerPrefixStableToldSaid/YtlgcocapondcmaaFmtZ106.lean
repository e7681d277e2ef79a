/-
  Walks of what the laws of n003_106 call: a name made of any text; hashes and a name.
-/
import Derived.Test.YtlgcocapondcmaaFmtBind
import Derived.Test.YtlgcocapondcmaaFmtP106b
import Derived.Laws.MakeOwn
import Derived.WalkKit
namespace Go.Proofs.YtlgcocapondcmaaFmt
open Go Go.Lib Go.RowKit Go.Proofs
open Go.Extern.Stop Go.Stop Go.Extern

def abc : ByteArray := ⟨#[97, 98, 99, 100, 101, 102, 103, 104, 105, 106, 107, 108, 109, 110, 111, 112, 113, 114, 115, 116, 117, 118, 119, 120, 121, 122, 65, 66, 67, 68, 69, 70, 71, 72, 73, 74, 75, 76, 77, 78, 79, 80, 81, 82, 83, 84, 85, 86, 87, 88, 89, 90, 48, 49, 50, 51, 52, 53, 54, 55, 56, 57, 95]⟩
theorem abc_size : abc.size = 63 := by decide
theorem abc_wordy (m : Nat) (h : m < abc.size) : Wordy (abc[m]'h).toNat := by
  have key : ∀ b ∈ abc.data.toList, Wordy b.toNat := by unfold Wordy; decide
  exact key _ (List.getElem_mem (l := abc.data.toList) (n := m) (by have := Lib.size_eq abc; omega))

/-- A name's row in memory. -/
structure NameAt (w : World) (g : Nat) (ds : List UInt8) : Prop where
  lt : g < w.heap.size
  cells : ∀ j (h : j < ds.length), w.cell? ⟨g, j, none⟩ = some (.int .u8 ((ds[j]'h).toNat : Nat))
theorem NameAt.keep {w w' : World} {g : Nat} {ds : List UInt8} (h : NameAt w g ds) (hb : Below w.heap.size w w') : NameAt w' g ds :=
  ⟨Nat.lt_of_lt_of_le h.lt hb.size, fun j hj => by rw [hb.cell h.lt]; exact h.cells j hj⟩
theorem NameAt.news {w : World} {g : Nat} {ds : List UInt8} (h : NameAt w g ds) : ∀ j u, (byteCells ds)[j]? = some u → w.cell? ((⟨g, 0, none⟩ : Addr).add j) = some u := by
  intro j u hj
  rw [addr_at, Nat.zero_add]
  have hl : j < ds.length := by
    have := (List.getElem?_eq_some_iff.1 hj).1
    simpa [byteCells] using this
  rw [h.cells j hl]
  simp [byteCells, List.getElem?_eq_getElem hl] at hj
  rw [hj]
/-- What zzMapName comes to. -/
def MapPost (n : Nat) (w : World) (e : Ending) (w' : World) : Prop :=
  ∃ (g : Nat) (ds : List UInt8), e = .returned (.slice (some ⟨g, 0, none⟩) n n) ∧ ds.length = n ∧ (∀ d ∈ ds, Wordy d.toNat) ∧ NameAt w' g ds ∧ Below w.heap.size w w'

set_option maxHeartbeats 8000000 in
set_option maxRecDepth 100000 in
theorem zzMapName_any (s : ByteArray) (hs : s.size ≤ 1048576) (w : World) :
    Calls Tryf.prog 6 #[.string s] w (MapPost s.size w) := by
  obtain ⟨i0, hi0, hzr0, hzr1, hzr2⟩ := info_parts infoU8
  have hu : Tryf.prog.underlying 23 = some (.slice 5) := by kernel_rfl
  have mk : ∀ wr : World, (Instr.makeSlice 23 (.int .i64 s.size) (.int .i64 s.size)).run Tryf.prog wr = .ok (.slice (some ⟨wr.heap.size, 0, none⟩) s.size s.size) (wr.alloc (.cells (madeCells (Value.int .u8 0).cells (s.size * i0.size)) 5)) := fun wr => by
    have h := run_make (P := Tryf.prog) wr 23 5 i0 (.int .u8 0) hu hi0 hzr0 .i64 .i64 (s.size : Int) (s.size : Int) (by omega) (Int.le_refl _) (by rw [hzr2]; omega) (by omega)
    simpa using h
  obtain ⟨c1, hc1⟩ : ∃ c, madeCells (Value.int .u8 0).cells (s.size * i0.size) = c := ⟨_, rfl⟩
  have z1 : c1.size = s.size := by rw [← hc1, size_madeCells, hzr1]; omega
  rw [hc1] at mk
  have hown := heap_alloc_at (w := w) (o := Obj.cells c1 5) rfl
  have Hown := Lib.hid hown
  clear hi0 hzr0 hzr1 hzr2 hu hc1 hown
  go_enter Tryf.func6, Tryf.ntmps6
  go_wp2_with fail
  go_loopg [4] (s.size + 1) (fun g iv wr => ∃ (i : Nat) (ds : List UInt8) (c : Array Value), iv = .int .i64 (i : Nat) ∧ Hid (wr.heap[w.heap.size]? = some (.cells c 5 (0, 0))) ∧ Hid (c.size = s.size) ∧ ds.length = i ∧ Hid (∀ d ∈ ds, Wordy d.toNat) ∧ Hid (∀ j (h : j < ds.length), c[j]? = some (.int .u8 ((ds[j]'h).toNat : Nat))) ∧ Hid (Below w.heap.size w wr) ∧ i ≤ s.size ∧ s.size - i < g)
  case atStart => exact ⟨0, [], c1, rfl, Hown, Lib.hid z1, rfl, Lib.hid (fun d h => by cases h), Lib.hid (fun j h => absurd h (Nat.not_lt_zero _)), Lib.hid (by repeat (first | exact Below.refl _ _ | apply below_drew | apply below_drewN | apply below_alloc | apply below_grow)), Nat.zero_le _, by omega⟩
  case round =>
    obtain ⟨i, ds, c, rfl, hc, hcs, hdl, hw, hd, hb, hi', hg⟩ := hrel
    by_cases hin : i < s.size
    · have i0' : (0 : Int) ≤ (i : Int) := by omega
      have i1 : (i : Int) < (s.size : Int) := by omega
      have fz := free_of_block hc.out
      have l0 : w.heap.size < wr.heap.size := (Array.getElem?_eq_some_iff.1 hc.out).1
      obtain ⟨v0, hv0⟩ : ∃ v, wr.cell? ⟨w.heap.size, i, none⟩ = some v := ⟨_, (cell_of_block hc.out i).trans (Array.getElem?_eq_getElem (by rw [hcs.out]; exact hin))⟩
      have hb8 := (s[i]'hin).toNat_lt
      have ew : wrap64 ((s[i]'hin).toNat : Int) = ((s[i]'hin).toNat : Int) := by unfold wrap64; omega
      obtain ⟨m, hm⟩ : ∃ m, (s[i]'hin).toNat % 63 = m := ⟨_, rfl⟩
      have et : (((s[i]'hin).toNat : Int)).tmod 63 = (m : Int) := by rw [Int.tmod_eq_emod_of_nonneg (by omega)]; omega
      have m0 : (0 : Int) ≤ (m : Int) := by omega
      have m1 : (m : Int) < 63 := by omega
      have hm63 : m < abc.size := by rw [abc_size]; omega
      have hwm := abc_wordy m hm63
      obtain ⟨d, hdd⟩ : ∃ d, abc[m]'hm63 = d := ⟨_, rfl⟩
      rw [hdd] at hwm
      have Hwm := Lib.hid hwm
      have Hdd := Lib.hid hdd
      clear hm hb8 hwm hdd
      go_wp2_with fail
      have ho := (OnlyL.refl hc.out).setCell i (.int .u8 ((abc[m]'hm63).toNat : Nat))
      have hcells : ∀ j (h : j < (ds ++ [d]).length), (c.setIfInBounds i (.int .u8 ((abc[m]'hm63).toNat : Nat)))[j]? = some (.int .u8 (((ds ++ [d])[j]'h).toNat : Nat)) := by
        intro j h
        rw [Hdd.out]
        rw [List.length_append, List.length_singleton] at h
        by_cases hj : j = i
        · subst hj
          rw [Array.getElem?_setIfInBounds_self_of_lt (by rw [hcs.out]; exact hin), List.getElem_append_right (by omega)]
          simp [hdl]
        · rw [Array.getElem?_setIfInBounds_ne (by omega), List.getElem_append_left (by omega)]
          exact hd.out j (by omega)
      go_roundg (s.size - i)
      case measure => omega
      case rel =>
        refine ⟨i + 1, ds ++ [d], _, by go_num, Lib.hid ho.own, Lib.hid (by simpa using hcs.out), by rw [List.length_append, hdl]; rfl, Lib.hid (fun b hb => ?_), Lib.hid hcells, Lib.hid ⟨ho.os.trans hb.out.os, ho.tape.trans hb.out.tape, ho.output.trans hb.out.output, Nat.le_trans hb.out.size ho.size, fun j hj => (ho.others j (Nat.lt_of_lt_of_le hj hb.out.size) (by omega)).trans (hb.out.block j hj)⟩, by omega, by omega⟩
        rcases List.mem_append.1 hb with h | h
        · exact hw.out b h
        · rw [List.mem_singleton.1 h]; exact Hwm.out
    · have i1 : ¬ (i : Int) < (s.size : Int) := by omega
      obtain rfl : i = s.size := by omega
      have hn : NameAt wr w.heap.size ds := ⟨(Array.getElem?_eq_some_iff.1 hc.out).1, fun j h => by rw [cell_of_block hc.out j]; exact hd.out j h⟩
      have Hn := Lib.hid hn
      clear hn
      go_wp2_with fail
      go_ret
      exact ⟨w.heap.size, ds, rfl, hdl, hw.out, Hn.out, hb.out⟩

end Go.Proofs.YtlgcocapondcmaaFmt
