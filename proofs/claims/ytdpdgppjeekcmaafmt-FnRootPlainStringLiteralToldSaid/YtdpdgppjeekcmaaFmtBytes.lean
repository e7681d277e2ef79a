/-
  A row of bytes that the call owns, read as a text.
-/
import Derived.Test.YtdpdgppjeekcmaaFmtBase
import Derived.OwnWalk
import Derived.Lib.UnsafeStr
namespace Go.Proofs.YtdpdgppjeekcmaaFmt
open Go Go.Lib Go.RowKit Go.Proofs

theorem addr_at (B o j : Nat) : (⟨B, o, none⟩ : Addr).add j = ⟨B, o + j, none⟩ := by
  unfold Addr.add
  split <;> simp_all
theorem push_all : ∀ (l : List UInt8) (a : ByteArray), (l.map (fun d => (((d.toNat : Nat) : Int)))).foldl (fun r n => r.push (UInt8.ofNat n.toNat)) a = ⟨a.data ++ l.toArray⟩
  | [], a => by simp
  | d :: l, a => by
    rw [List.map_cons, List.foldl_cons, push_all l]
    simp [ByteArray.push]
/-- The text that a row of bytes is. -/
theorem text_at {P : Program} {w : World} {B o n cap : Nat} {l : List UInt8} (h : ∀ j (hj : j < l.length), w.cell? ⟨B, o + j, none⟩ = some (.int .u8 (l[j].toNat : Nat))) (hn : l.length = n) :
    (Conv.bytesToString (.slice (some ⟨B, o, none⟩) n cap)).run P w = .ok (.string ⟨l.toArray⟩) w := by
  subst hn
  have h1 := run_loadCells_list (P := P) (w := w) ⟨B, o, none⟩ ((l.map (fun d => (((d.toNat : Nat) : Int)))).map (Value.int .u8)) (by
    intro j v hv
    have hj : j < l.length := by
      have := (List.getElem?_eq_some_iff.1 hv).1
      simpa using this
    have := h j hj
    rw [addr_at, this]
    simp only [List.getElem?_map] at hv
    rw [List.getElem?_eq_getElem hj] at hv
    simp at hv
    rw [← hv])
  simp only [List.length_map] at h1
  rw [run_bytesToString w ⟨B, o, none⟩ l.length cap (l.map (fun d => (((d.toNat : Nat) : Int)))) h1, push_all]
  simp
theorem text_own {P : Program} {w : World} {B : Nat} {e : TypeId} {v : Value} {l : List UInt8} (h : w.ownsRow B e 1 v l.length (byteCells l)) : (Conv.bytesToString v).run P w = .ok (.string ⟨l.toArray⟩) w := by
  obtain ⟨h0, ⟨rfl, h1⟩ | ⟨g, cap, cur, rfl, hB, hg, hn, hc, hcs, ht⟩⟩ := h
  · have : l = [] := List.eq_nil_of_length_eq_zero h1
    subst this
    rfl
  · refine text_at (fun j hj => ?_) rfl
    rw [cell_of_block hg, Nat.zero_add]
    have h2 : (cur.toList.take (l.length * 1))[j]? = (byteCells l)[j]? := by rw [ht]
    rw [List.getElem?_take_of_lt (by omega)] at h2
    simp only [Array.getElem?_toList] at h2
    rw [h2]
    simp [byteCells, List.getElem?_eq_getElem hj]
theorem own_slice {w : World} {B : Nat} {e : TypeId} {v : Value} {n : Nat} {xs : List Value} (h : w.ownsRow B e 1 v n xs) : ∃ a c, v = .slice a n c := by
  obtain ⟨h0, ⟨rfl, rfl⟩ | ⟨g, cap, cur, rfl, _⟩⟩ := h
  · exact ⟨none, 0, rfl⟩
  · exact ⟨_, cap, rfl⟩
/-- string(b), b a row that the call owns. -/
theorem conv_own {w : World} {B : Nat} {e : TypeId} {v : Value} {l : List UInt8} (h : w.ownsRow B e 1 v l.length (byteCells l)) : (convert 46 9 v).run Tryf.prog w = .ok (.string ⟨l.toArray⟩) w := by
  have h2 := text_own (P := Tryf.prog) h
  obtain ⟨a, c, rfl⟩ := own_slice h
  rw [run_convert_bytes_string _ _ _ 5 _ _ _ (by kernel_rfl) (by kernel_rfl) (by kernel_rfl)]
  exact h2
theorem infoU8 : (Tryf.prog.info? 5).map (fun i => (i.zero, i.size, i.bytes)) = some (some (.int .u8 0), 1, 1) := by kernel_rfl

end Go.Proofs.YtdpdgppjeekcmaaFmt
