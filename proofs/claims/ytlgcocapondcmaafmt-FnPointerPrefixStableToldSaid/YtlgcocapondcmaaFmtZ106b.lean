/-
  Walk of zzHashesThen of n003_106: hashes and a name, in a row of their own.
-/
import Derived.Test.YtlgcocapondcmaaFmtZ106
namespace Go.Proofs.YtlgcocapondcmaaFmt
open Go Go.Lib Go.RowKit Go.Proofs
open Go.Extern.Stop Go.Stop Go.Extern

/-- A row of bytes of one's own. -/
def Row8 (w0 w : World) (v : Value) (l : List UInt8) : Prop := w.ownsRow w0.heap.size 5 1 v l.length (byteCells l) ∧ Below w0.heap.size w0 w
theorem row_below {w0 w w' : World} {v : Value} {l : List UInt8} (h : Row8 w0 w v l) (hb : Below w.heap.size w w') : Row8 w0 w' v l :=
  ⟨own_keep h.1 (fun k hk => hb.block k (h.1.lt k hk).2), h.2.trans (hb.mono h.2.size)⟩
theorem row_grown {w0 wr w1 : World} {v v' : Value} {l : List UInt8} (x : List UInt8) (h : Row8 w0 wr v l) {o : Obj}
    (hown' : w1.ownsRow w0.heap.size 5 1 v' (l.length + x.length) (byteCells l ++ byteCells x)) (hg : (wr.alloc o).grownBy w1 v.ownBlock) : Row8 w0 w1 v' (l ++ x) := by
  refine ⟨?_, ?_⟩
  · have e : byteCells (l ++ x) = byteCells l ++ byteCells x := by simp [byteCells]
    rw [e, List.length_append]
    exact hown'
  · refine (h.2.alloc h.2.size o).grown hg (by simp; have := h.2.size; omega) (fun g hgg => (h.1.lt g hgg).1)
theorem row_added {w0 wr w1 : World} {v v' : Value} {l : List UInt8} (x : List UInt8) (h : Row8 w0 wr v l)
    (hown' : w1.ownsRow w0.heap.size 5 1 v' (l.length + x.length) (byteCells l ++ byteCells x)) (hg : wr.grownBy w1 v.ownBlock) : Row8 w0 w1 v' (l ++ x) := by
  refine ⟨?_, ?_⟩
  · have e : byteCells (l ++ x) = byteCells l ++ byteCells x := by simp [byteCells]
    rw [e, List.length_append]
    exact hown'
  · exact h.2.grown hg h.2.size (fun g hgg => (h.1.lt g hgg).1)
theorem row_text {w0 wr w1 : World} {v v' : Value} {l : List UInt8} {x : ByteArray} (h : Row8 w0 wr v l)
    (hown' : w1.ownsRow w0.heap.size 5 1 v' (l.length + x.size) (byteCells l ++ Lib.strCells x)) (hg : wr.grownBy w1 v.ownBlock) : Row8 w0 w1 v' (l ++ x.data.toList) := own_text h.2 h.1 hown' hg
theorem rep_snoc (i : Nat) : List.replicate i (35 : UInt8) ++ [35] = List.replicate (i + 1) 35 := by rw [List.replicate_succ']

set_option maxHeartbeats 8000000 in
set_option maxRecDepth 100000 in
theorem zzHashesThen_any (k g : Nat) (ds : List UInt8) (hk : k ≤ 65536) (hd : ds.length ≤ 1048576) (w : World) (hn : NameAt w g ds) :
    Calls Tryf.prog 7 #[.int .i64 (k : Nat), .slice (some ⟨g, 0, none⟩) ds.length ds.length] w fun e w' => ∃ v, e = .returned v ∧ Row8 w w' v (hashText k ds) := by
  obtain ⟨i0, hi0, hzr0, hzr1, hzr2⟩ := info_parts infoU8
  have hu : Tryf.prog.underlying 23 = some (.slice 5) := by kernel_rfl
  obtain ⟨n, hnl⟩ : ∃ n, ds.length = n := ⟨_, rfl⟩
  rw [hnl]
  rw [hnl] at hd
  obtain ⟨N, hN⟩ : ∃ N : Nat, N = k + n + 1 := ⟨_, rfl⟩
  have hN1 : (k : Int) + (n : Int) + 1 = (N : Int) := by omega
  have mk : ∀ wr : World, (Instr.makeSlice 23 (.int .i64 0) (.int .i64 N)).run Tryf.prog wr = .ok (.slice (some ⟨wr.heap.size, 0, none⟩) 0 N) (wr.alloc (.cells (madeCells (Value.int .u8 0).cells (N * i0.size)) 5)) := fun wr => by
    have h := run_make (P := Tryf.prog) wr 23 5 i0 (.int .u8 0) hu hi0 hzr0 .i64 .i64 0 (N : Int) (Int.le_refl _) (by omega) (by rw [hzr2]; omega) (by omega)
    simpa using h
  obtain ⟨c1, hc1⟩ : ∃ c, madeCells (Value.int .u8 0).cells (N * i0.size) = c := ⟨_, rfl⟩
  have z1 : c1.size = N * 1 := by rw [← hc1, size_madeCells, hzr1]
  rw [hc1] at mk
  have hown := World.ownsRow_made (w := w) (base := w.heap.size) (e := 5) (size := 1) c1 N (Nat.le_refl _) (by unfold maxLen; omega) z1
  have Hown := Lib.hid hown
  have Hi := Lib.hid hi0
  have Hz0 := Lib.hid hzr0
  have Hz1 := Lib.hid hzr1
  have Hz2 := Lib.hid hzr2
  have Hu := Lib.hid hu
  have Hn := Lib.hid hn
  have Hnl := Lib.hid hnl
  clear hi0 hzr0 hzr1 hzr2 hu hc1 hown z1 hn hnl hN
  go_enter Tryf.func7, Tryf.ntmps7
  go_wp2_with fail
  go_loopg [5, 6] (k + 1) (fun g sv iv wr => ∃ i : Nat, iv = .int .i64 (i : Nat) ∧ Hid (Row8 w wr sv (List.replicate i 35)) ∧ i ≤ k ∧ k - i < g)
  case atStart => exact ⟨0, rfl, Lib.hid ⟨Hown.out, (by repeat (first | exact Below.refl _ _ | apply below_drew | apply below_drewN | apply below_alloc | apply below_grow))⟩, Nat.zero_le _, by omega⟩
  case round =>
    obtain ⟨i, rfl, hr, hi', hg⟩ := hrel
    have hrs := hr.out.2.size
    by_cases hik : i < k
    · have i1 : (i : Int) < (k : Int) := by omega
      go_wp2_with (first | (at_builtin; refine wpList_append_own _ rfl _ _ 23 rfl w.heap.size 5 i0 _ 1 1 Hu.out Hi.out Hz0.out Hz1.out Hz2.out rfl (by decide) _ _ _ rfl (hr.out.1.alloc _) ⟨wr.heap.size, 0, none⟩ 1 1 (byteCells [35]) rfl rfl ?c1 ?c2 ?c3 ?c4 ?c5 ?_))
      case c1 =>
        intro j u hj
        match j, hj with
        | 0, hj => simp [byteCells] at hj; subst hj; simp [Addr.add]
        | j + 1, hj => simp [byteCells] at hj
      case c2 => intro u hu; simp [byteCells] at hu; subst hu; rfl
      case c3 => unfold maxLen; simp; omega
      case c4 => simp; omega
      case c5 => first | omega | (simp; omega)
      intro v1 w1 hown1 hgr1 _
      have r1 := row_grown [35] hr.out (by rw [List.length_replicate]; exact hown1) hgr1
      rw [rep_snoc] at r1
      have R1 := Lib.hid r1
      clear r1 hown1 hgr1 hr
      go_wp2_with fail
      go_roundg (k - i)
      case measure => omega
      case rel => exact ⟨i + 1, by go_num, R1, by omega, by omega⟩
    · have i1 : ¬ (i : Int) < (k : Int) := by omega
      obtain rfl : i = k := by omega
      have hn2 := Hn.out.keep hr.out.2
      have hnews := hn2.news
      have Hnews := Lib.hid hnews
      clear hn2 hnews
      go_wp2_with (first | (at_builtin; refine wpList_append_own _ rfl _ _ 23 rfl w.heap.size 5 i0 _ 1 1 Hu.out Hi.out Hz0.out Hz1.out Hz2.out rfl (by decide) _ _ _ rfl hr.out.1 ⟨g, 0, none⟩ n n (byteCells ds) rfl (by simp [byteCells, Hnl.out]) Hnews.out ?c2 ?c3 ?c4 ?c5 ?_))
      case c2 => intro u hu; simp [byteCells] at hu; obtain ⟨d, _, rfl⟩ := hu; rfl
      case c3 => unfold maxLen; first | omega | (simp; omega)
      case c4 => first | omega | (simp; omega)
      intro v1 w1 hown1 hgr1 _
      have r1 := row_added ds hr.out (by rw [List.length_replicate, Hnl.out]; exact hown1) hgr1
      have R1 := Lib.hid r1
      clear r1 hown1 hgr1 hr
      go_wp2_with fail
      go_ret
      exact ⟨_, rfl, R1.out⟩

end Go.Proofs.YtlgcocapondcmaaFmt
