/-
  Walks of what the laws of n003_22 call: an alphabet; rows of expected tokens that grow.
-/
import Derived.Test.YtdgpholpdaelhaaGreatFmtZ22c
namespace Go.Proofs.YtdgpholpdaelhaaGreatFmt
open Go Go.Lib Go.RowKit Go.Proofs
open Go.Extern.Stop Go.Stop Go.Extern

/-- A yes or no; the world has grown at most. -/
def SaysD (P : Bool → Prop) (w : World) (e : Ending) (w' : World) : Prop := ∃ b, e = .returned (.bool b) ∧ P b ∧ Below w.heap.size w w'
theorem saysD_ret {P : Bool → Prop} {w w' : World} {b : Bool} (h : P b) (hb : Below w.heap.size w w') : SaysD P w (.returned (.bool b)) w' := ⟨b, rfl, h, hb⟩

theorem infoWant : (Tryz.prog.info? 26).map (fun i => (i.zero, i.size, i.bytes)) = some (some (.agg #[.string ⟨#[]⟩, .string ⟨#[]⟩, .int .i64 0, .int .i64 0]), 4, 48) := by kernel_rfl
theorem wantCells_one (k : Tok) : ∀ u ∈ wantCells k, u.oneCell' = true := by
  intro u hu
  simp only [wantCells, List.mem_cons, List.not_mem_nil, or_false] at hu
  rcases hu with rfl | rfl | rfl | rfl <;> rfl
theorem want_cells {w : World} {g : Nat} {T : TypeId} (k : Tok) (h : w.heap[g]? = some (.cells #[.string k.kind, .string k.value, .int .i64 k.frm, .int .i64 k.to] T (0, 0))) : ∀ j u, (wantCells k)[j]? = some u → w.cell? ((⟨g, 0, none⟩ : Addr).add j) = some u := by
  intro j u hj
  rw [addr_add, Nat.zero_add, cell_of_block h j]
  simpa [wantCells] using hj
theorem want_push {w0 wr w1 : World} {v v' : Value} {l : List Tok} {k : Tok} (hb : Below w0.heap.size w0 wr) (hown : wr.ownsRow w0.heap.size 26 4 v l.length (l.flatMap wantCells)) (o : Obj)
    (hown' : w1.ownsRow w0.heap.size 26 4 v' (l.length + 1) (l.flatMap wantCells ++ wantCells k)) (hg : (wr.alloc o).grownBy w1 v.ownBlock) :
    w1.ownsRow w0.heap.size 26 4 v' (l ++ [k]).length ((l ++ [k]).flatMap wantCells) ∧ Below w0.heap.size w0 w1 := by
  refine ⟨?_, ?_⟩
  · have e : (l ++ [k]).flatMap wantCells = l.flatMap wantCells ++ wantCells k := by simp
    rw [e, List.length_append]
    exact hown'
  · refine (hb.alloc hb.size o).grown hg (by simp; have := hb.size; omega) (fun g hgg => ?_)
    obtain ⟨h0, ⟨rfl, _⟩ | ⟨g', cap, cur, rfl, hB, _⟩⟩ := hown
    · simp [Value.ownBlock] at hgg
    · simp [Value.ownBlock] at hgg
      omega

set_option maxHeartbeats 4000000 in
set_option maxRecDepth 100000 in
theorem zzOnly_any (s v : ByteArray) (hs : s.size ≤ 1099511627776) (hv : v.size ≤ 1099511627776) (w : World) :
    Calls Tryz.prog 8 #[.string s, .string v] w (SaysD (fun b => b = true → ∀ x, x < s.size → ∃ j, j < v.size ∧ byt v j = byt s x) w) := by
  go_enter Tryz.func8, Tryz.ntmps8
  go_wp2_with fail
  go_loopg [5] (s.size + 1) (fun g iv wr => ∃ i : Nat, iv = .int .i64 (i : Nat) ∧ Hid (Below w.heap.size w wr) ∧ Hid (∀ x, x < i → ∃ j, j < v.size ∧ byt v j = byt s x) ∧ i ≤ s.size ∧ s.size - i < g)
  case atStart => exact ⟨0, rfl, Lib.hid (Below.refl _ _), Lib.hid (fun x h => by omega), Nat.zero_le _, by omega⟩
  case round =>
    obtain ⟨i, rfl, hW, hn, hi', hg⟩ := hrel
    by_cases hin : i < s.size
    · have j0 : (0 : Int) ≤ (i : Int) := by omega
      have j1 : (i : Int) < (s.size : Int) := by omega
      have kb := byt_of hin
      have Kb := Lib.hid kb
      clear kb
      go_wp2_with fail
      go_loopg [6, 7] (v.size + 1) (fun g ov jv wq => ∃ (j : Nat) (b : Bool), ov = .bool b ∧ jv = .int .i64 (j : Nat) ∧ Hid (Below w.heap.size w wq) ∧ Hid (b = true → ∃ m, m < v.size ∧ byt v m = byt s i) ∧ j ≤ v.size ∧ v.size - j < g)
      case atStart => exact ⟨0, false, rfl, rfl, hW, Lib.hid (fun h => by cases h), Nat.zero_le _, by omega⟩
      case round =>
        obtain ⟨j, b, rfl, rfl, hV, hb, hj', hgj⟩ := hrel
        by_cases hjn : j < v.size
        · have y0 : (0 : Int) ≤ (j : Int) := by omega
          have y1 : (j : Int) < (v.size : Int) := by omega
          have kv := byt_of hjn
          by_cases hq : byt v j = byt s i
          · have e : (((s[i]'hin).toNat : Int) == ((v[j]'hjn).toNat : Int)) = true := by have := Kb.out; rw [beq_iff_eq]; omega
            have Hq := Lib.hid hq
            clear kv hq
            go_wp2_with fail
            go_quiet (fail)
            go_wp2_with fail
            go_roundg (v.size - j)
            case measure => omega
            case rel => exact ⟨j + 1, true, rfl, by go_num, Lib.hid (by repeat (first | exact hV.out | apply below_drew | apply below_drewN | apply below_alloc | apply below_grow)), Lib.hid (fun _ => ⟨j, hjn, Hq.out⟩), by omega, by omega⟩
          · have e : (((s[i]'hin).toNat : Int) == ((v[j]'hjn).toNat : Int)) = false := by have := Kb.out; rw [beq_eq_false_iff_ne]; omega
            clear kv hq
            go_wp2_with fail
            go_quiet (fail)
            go_wp2_with fail
            go_roundg (v.size - j)
            case measure => omega
            case rel => exact ⟨j + 1, b, rfl, by go_num, Lib.hid (by repeat (first | exact hV.out | apply below_drew | apply below_drewN | apply below_alloc | apply below_grow)), hb, by omega, by omega⟩
        · have y2 : ¬ (j : Int) < (v.size : Int) := by omega
          cases b with
          | true =>
            obtain ⟨m, hm, he⟩ := hb.out rfl
            go_wp2_with fail
            go_roundg (s.size - i)
            case measure => omega
            case rel => exact ⟨i + 1, by go_num, Lib.hid (by repeat (first | exact hV.out | apply below_drew | apply below_drewN | apply below_alloc | apply below_grow)), Lib.hid (fun x hx => by
              by_cases e : x = i
              · subst e; exact ⟨m, hm, he⟩
              · exact hn.out x (by omega)), by omega, by omega⟩
          | false =>
            go_wp2_with fail
            go_ret
            exact saysD_ret (fun h => by cases h) (by repeat (first | exact hV.out | apply below_drew | apply below_drewN | apply below_alloc | apply below_grow))
    · have j2 : ¬ (i : Int) < (s.size : Int) := by omega
      go_wp2_with fail
      go_ret
      exact saysD_ret (fun _ x hx => hn.out x (by omega)) (by repeat (first | exact hW.out | apply below_drew | apply below_drewN | apply below_alloc | apply below_grow))

end Go.Proofs.YtdgpholpdaelhaaGreatFmt
