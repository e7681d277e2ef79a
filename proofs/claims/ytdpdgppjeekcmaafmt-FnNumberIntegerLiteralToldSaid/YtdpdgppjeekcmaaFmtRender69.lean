/-
  Walk: zzRender of n003_69.
-/
import Derived.Test.YtdpdgppjeekcmaaFmtZ69
namespace Go.Proofs.YtdpdgppjeekcmaaFmt
open Go Go.Lib Go.RowKit Go.Proofs

/-- The digits of x, the greatest first. -/
def digs (b x : Nat) : List Nat := if _h : x < b ∨ b < 2 then [x % b] else digs b (x / b) ++ [x % b]
termination_by x
decreasing_by exact Nat.div_lt_self (by omega) (by omega)

theorem digs_lt {b x : Nat} (h : x < b) : digs b x = [x % b] := by rw [digs, dif_pos (.inl h)]
theorem digs_ge {b x : Nat} (hb : 2 ≤ b) (h : b ≤ x) : digs b x = digs b (x / b) ++ [x % b] := by rw [digs, dif_neg (by omega)]

def loDigits : ByteArray := ⟨#[48, 49, 50, 51, 52, 53, 54, 55, 56, 57, 97, 98, 99, 100, 101, 102]⟩
def upDigits : ByteArray := ⟨#[48, 49, 50, 51, 52, 53, 54, 55, 56, 57, 65, 66, 67, 68, 69, 70]⟩

def dch (dt : ByteArray) (d : Nat) : UInt8 := dt.data.getD d 0

/-- The buffer as the loop has filled it: ds stand behind i. -/
structure Buf (w0 w : World) (dt : ByteArray) (i : Nat) (ds : List Nat) : Prop where
  low : Below w0.heap.size w0 w
  cells : ∃ c T, w.heap[w0.heap.size]? = some (.cells c T (0, 0)) ∧ c.size = 64 ∧ ∀ j, i ≤ j → j < 64 → c[j]? = some (.int .u8 ((dch dt (ds.getD (j - i) 0)).toNat : Nat))
  len : ds.length + i = 64

theorem foldl_push (f : Nat → UInt8) : ∀ (l : List Nat) (a : ByteArray), (l.map (fun d => (((f d).toNat : Nat) : Int))).foldl (fun r n => r.push (UInt8.ofNat n.toNat)) a = ⟨a.data ++ (l.map f).toArray⟩
  | [], a => by simp
  | d :: l, a => by
    rw [List.map_cons, List.foldl_cons, foldl_push f l]
    simp [ByteArray.push]
theorem addr_add (B o j : Nat) : (⟨B, o, none⟩ : Addr).add j = ⟨B, o + j, none⟩ := by
  unfold Addr.add
  split <;> simp_all
/-- The text that a row of bytes is. -/
theorem bytes_of_cells {P : Program} {w : World} {B o n cap : Nat} {l : List Nat} {f : Nat → UInt8} (h : ∀ j, j < l.length → w.cell? ⟨B, o + j, none⟩ = some (.int .u8 ((f (l.getD j 0)).toNat : Nat))) (hn : l.length = n) :
    (Conv.bytesToString (.slice (some ⟨B, o, none⟩) n cap)).run P w = .ok (.string ⟨(l.map f).toArray⟩) w := by
  subst hn
  have h1 := run_loadCells_list (P := P) (w := w) ⟨B, o, none⟩ ((l.map (fun d => (((f d).toNat : Nat) : Int))).map (Value.int .u8)) (by
    intro j v hv
    have hj : j < l.length := by
      have := (List.getElem?_eq_some_iff.1 hv).1
      simpa using this
    have := h j hj
    rw [addr_add, this]
    simp only [List.getElem?_map] at hv
    rw [List.getElem?_eq_getElem hj] at hv
    simp at hv
    rw [← hv]
    simp [List.getD, List.getElem?_eq_getElem hj])
  simp only [List.length_map] at h1
  rw [run_bytesToString w ⟨B, o, none⟩ l.length cap (l.map (fun d => (((f d).toNat : Nat) : Int))) h1, foldl_push]
  simp

set_option maxHeartbeats 4000000 in
set_option maxRecDepth 100000 in
theorem zzRender_dec (x : Nat) (hx : x < 18446744073709551616) (w : World) :
    Calls Tryf.prog 9 #[.int .u64 x, .int .u8 0, .bool false, .bool false] w fun e w' => e = .returned (.string ((⟨#[]⟩ : ByteArray) ++ ⟨((digs 10 x).map (dch loDigits)).toArray⟩)) ∧ Below w.heap.size w w' := by
  go_enter Tryf.func9, Tryf.ntmps9
  go_wp2_with fail
  go_loopg [0, 13] 64 (fun g xv iv wr => ∃ (n i : Nat) (ds : List Nat), xv = .int .u64 n ∧ iv = .int .i64 i ∧ g = i ∧ n < 2 ^ i ∧ 1 ≤ i ∧ i ≤ 64 ∧ Buf w wr loDigits i ds ∧ Hid (digs 10 x = digs 10 n ++ ds))
  case atStart => exact ⟨x, 64, [], rfl, rfl, rfl, by simpa using hx, by decide, by decide, ⟨(Below.refl _ _).alloc (Nat.le_refl _) _, ⟨_, _, heap_alloc_at rfl, rfl, fun j h1 h2 => by omega⟩, rfl⟩, Lib.hid (by simp)⟩
  case round =>
    obtain ⟨n, i, ds, rfl, rfl, hg, hn, hi1, hi2, hbuf, hd⟩ := hrel
    obtain ⟨hlow, ⟨c, T, hc, hcs, hcd⟩, hlen⟩ := hbuf
    have fz := free_of_block hc
    have l0 : w.heap.size < wr.heap.size := (Array.getElem?_eq_some_iff.1 hc).1
    obtain ⟨k, rfl⟩ : ∃ k, i = k + 1 := ⟨i - 1, by omega⟩
    have ki : ((k + 1 : Nat) : Int) - 1 = (k : Int) := by omega
    have kw : IntKind.i64.wrap (((k + 1 : Nat) : Int) - 1) = (k : Int) := by rw [IntKind.wrap_i64]; omega
    have k0 : (0 : Int) ≤ (k : Int) := by omega
    have k1 : (k : Int) < 64 := by omega
    obtain ⟨v0, hv0⟩ : ∃ v, wr.cell? ⟨w.heap.size, k, none⟩ = some v := ⟨_, (cell_of_block hc k).trans (Array.getElem?_eq_getElem (by omega))⟩
    have HC := Lib.hid hc
    clear hc
    have uw : IntKind.u64.wrap ((n : Int) / 10) = ((n / 10 : Nat) : Int) := by
      have : n < 18446744073709551616 := Nat.lt_of_lt_of_le hn (by exact Nat.pow_le_pow_right (by decide) hi2)
      rw [IntKind.wrap_u64]; omega
    obtain ⟨ch, hch⟩ : ∃ ch : UInt8, ch = dch loDigits (n % 10) := ⟨_, rfl⟩
    have hch2 : ∀ h, (⟨#[48, 49, 50, 51, 52, 53, 54, 55, 56, 57, 97, 98, 99, 100, 101, 102]⟩ : ByteArray)[n % 10]'h = ch := by
      intro h
      rw [hch]
      unfold dch loDigits
      simp [Array.getD, ByteArray.getElem_eq_getElem_data]
      omega
    have ho := (OnlyL.refl HC.out).setCell k (.int .u8 ((ch.toNat : Nat) : Int))
    have hcells : ∀ j, k ≤ j → j < 64 → (c.setIfInBounds k (.int .u8 ((ch.toNat : Nat) : Int)))[j]? = some (.int .u8 ((dch loDigits ((n % 10 :: ds).getD (j - k) 0)).toNat : Nat)) := by
      intro j h1 h2
      by_cases hjk : j = k
      · subst hjk
        rw [Array.getElem?_setIfInBounds_self_of_lt (by omega), hch]
        simp
      · rw [Array.getElem?_setIfInBounds_ne (by omega), hcd j (by omega) h2]
        rw [show j - k = (j - (k + 1)) + 1 by omega]
        rfl
    have HCH := Lib.hid hch
    have HCE := Lib.hid hcells
    have HCD := Lib.hid hcd
    clear hch hcells hcd
    have k2 : (k : Int) ≤ Tryf.prog.arrayLen 45 := by
      have : Tryf.prog.arrayLen 45 = 64 := by kernel_rfl
      omega
    by_cases hsm : n < 10
    · have d0 : (((n / 10 : Nat) : Int) == 0) = true := by rw [beq_iff_eq]; omega
      have hsl : ∀ wq, Sem.run Tryf.prog (Instr.sliceAt 45 (.pointer (some ⟨w.heap.size, 0, none⟩)) (some (.int .i64 k)) none none) wq = .ok (.slice (some ⟨w.heap.size, k, none⟩) (64 - k) (64 - k)) wq := by
        intro wq
        rw [run_sliceAt_array_l _ _ _ (by kernel_rfl) _ _ k0 k2]
        have e1 : Tryf.prog.arrayLen 45 = 64 := by kernel_rfl
        have e2 : (sizeOf (Tryf.prog.elem 45)).run Tryf.prog wq = .ok 1 wq := by kernel_rfl
        rw [e1, e2]
        simp only [Result.andThen, slicedAt, Int.toNat_natCast]
        rw [if_neg (by omega), addr_add]
        simp
      have hdx : digs 10 x = n % 10 :: ds := by rw [hd.out, digs_lt hsm]; rfl
      have hcv : Sem.run Tryf.prog (convert 46 9 (.slice (some ⟨w.heap.size, k, none⟩) (64 - k) (64 - k))) (wr.setCell ⟨w.heap.size, k, none⟩ (.int .u8 ((ch.toNat : Nat) : Int))) = .ok (.string ⟨((digs 10 x).map (dch loDigits)).toArray⟩) (wr.setCell ⟨w.heap.size, k, none⟩ (.int .u8 ((ch.toNat : Nat) : Int))) := by
        rw [hdx, run_convert_bytes_string _ _ _ 5 _ _ _ (by kernel_rfl) (by kernel_rfl) (by kernel_rfl)]
        refine bytes_of_cells ?_ (by simp; omega)
        intro j hj
        rw [cell_of_block ho.own (k + j), HCE.out (k + j) (by omega) (by simp at hj; omega)]
        simp
      have hdl : (digs 10 x).length ≤ 9223372036854775807 := by rw [hdx]; simp; omega
      have Hdx := Lib.hid hdx
      clear hdx
      go_wp2_with fail
      go_ret
      refine ⟨rfl, ?_⟩
      exact ⟨ho.os.trans hlow.os, ho.tape.trans hlow.tape, ho.output.trans hlow.output, Nat.le_trans hlow.size ho.size, fun j hj => (ho.others j (Nat.lt_of_lt_of_le hj hlow.size) (by omega)).trans (hlow.block j hj)⟩
    · have d0 : (((n / 10 : Nat) : Int) == 0) = false := by rw [beq_eq_false_iff_ne]; omega
      have hk1 : 1 ≤ k := by
        by_cases hk : k = 0
        · subst hk; simp at hn; omega
        · omega
      have hn2 : n / 10 < 2 ^ k := by
        have : (2 : Nat) ^ (k + 1) = 2 ^ k * 2 := Nat.pow_succ 2 k
        omega
      go_wp2_with fail
      go_roundg k
      case measure => omega
      case rel =>
        refine ⟨n / 10, k, n % 10 :: ds, by go_num, rfl, rfl, hn2, hk1, by omega, ⟨?_, ⟨_, T, ho.own, by simpa using hcs, HCE.out⟩, by simp; omega⟩, Lib.hid ?_⟩
        · exact ⟨ho.os.trans hlow.os, ho.tape.trans hlow.tape, ho.output.trans hlow.output, Nat.le_trans hlow.size ho.size, fun j hj => (ho.others j (Nat.lt_of_lt_of_le hj hlow.size) (by omega)).trans (hlow.block j hj)⟩
        · rw [hd.out, digs_ge (by decide) (by omega)]; simp

end Go.Proofs.YtdpdgppjeekcmaaFmt
