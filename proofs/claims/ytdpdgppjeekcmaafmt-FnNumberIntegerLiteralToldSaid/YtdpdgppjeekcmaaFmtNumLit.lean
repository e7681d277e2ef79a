/-
  scanNumber over a written integer. No program stands in this text.
-/
import Derived.Test.YtdpdgppjeekcmaaFmtAscii
import Derived.Test.YtdpdgppjeekcmaaFmtBack
namespace Go.Proofs.YtdpdgppjeekcmaaFmt
open Go Go.Lib

def lDec : List UInt8 := [48, 49, 50, 51, 52, 53, 54, 55, 56, 57, 95]
def lHex : List UInt8 := [48, 49, 50, 51, 52, 53, 54, 55, 56, 57, 97, 98, 99, 100, 101, 102, 65, 66, 67, 68, 69, 70, 95]
def lOct : List UInt8 := [48, 49, 50, 51, 52, 53, 54, 55, 95]
def lBin : List UInt8 := [48, 49, 95]

/-- What may stand behind a number here: nothing, a space, a line's end, a slash. -/
def NumStop (l : List UInt8) : Prop := l = [] ∨ ∃ b r, l = b :: r ∧ (b = 32 ∨ b = 10 ∨ b = 47)
theorem NumStop.stops {l : List UInt8} (h : NumStop l) {v : List UInt8} (hv : v.contains 32 = false ∧ v.contains 10 = false ∧ v.contains 47 = false) : Stops v l := by
  rcases h with rfl | ⟨b, r, rfl, hb⟩
  · exact .inl rfl
  · refine .inr ⟨b, r, rfl, ?_, ?_⟩
    · rcases hb with rfl | rfl | rfl <;> decide
    · rcases hb with rfl | rfl | rfl
      · exact hv.1
      · exact hv.2.1
      · exact hv.2.2
theorem alnum_sp : alnum 32 = false := by
  have h1 : isLetterU 32 = false := by decide +kernel
  have h2 : isDigitU 32 = false := by decide +kernel
  unfold alnum alpha; rw [h1, h2]; decide
theorem alnum_nl : alnum 10 = false := by
  have h1 : isLetterU 10 = false := by decide +kernel
  have h2 : isDigitU 10 = false := by decide +kernel
  unfold alnum alpha; rw [h1, h2]; decide
theorem alnum_sl : alnum 47 = false := by
  have h1 : isLetterU 47 = false := by decide +kernel
  have h2 : isDigitU 47 = false := by decide +kernel
  unfold alnum alpha; rw [h1, h2]; decide
theorem NumStop.alnum {s : ByteArray} {t : St} {l : List UInt8} (h : NumStop l) (ha : Ahead s t l) : Go.Proofs.YtdpdgppjeekcmaaFmt.alnum (peek s t) = false := by
  rcases h with rfl | ⟨b, r, rfl, hb⟩
  · rw [peek_nil ha]; exact alnum_end
  · rcases hb with rfl | rfl | rfl
    · rw [peek_cons ha (by decide)]; exact alnum_sp
    · rw [peek_cons ha (by decide)]; exact alnum_nl
    · rw [peek_cons ha (by decide)]; exact alnum_sl
theorem no {s : ByteArray} {t : St} {l v : List UInt8} (h : NumStop l) (ha : Ahead s t l) (hv : asciiL v = true) (hc : v.contains 32 = false ∧ v.contains 10 = false ∧ v.contains 47 = false) : acceptB (bs v) s t = false := acceptB_stops ha hv (h.stops hc)

/-- Behind the digits. -/
theorem frac_stop {s : ByteArray} {t : St} {d : ByteArray} {l : List UInt8} (h : NumStop l) (ha : Ahead s t l) : numFrac d s t = (true, t) := by
  have h1 : acceptB cDot s t = false := no (v := [46]) h ha (by decide) (by decide)
  have h2 : acceptB ceE s t = false := no (v := [101, 69]) h ha (by decide) (by decide)
  have h3 := h.alnum ha
  unfold numFrac
  rw [if_neg (by rw [h1]; decide)]
  unfold numEnd
  dsimp only
  have h4 : (if acceptB ceE s t = true then acceptRun d s (accept cSign s (next s t)) else t) = t := if_neg (by rw [h2]; decide)
  rw [h4, if_neg (by rw [h3]; decide)]

theorem scan_dec {s : ByteArray} {t : St} {p rest : List UInt8} (h : Ahead s t (p ++ rest)) (hp : p ≠ []) (hd : ∀ b ∈ p, 48 ≤ b.toNat ∧ b.toNat ≤ 57) (h0 : p = [48] ∨ p.head? ≠ some 48) (hr : NumStop rest) : scanNumber s t = (true, adv p.length t) := by
  unfold scanNumber
  rcases h0 with rfl | h0
  · have h' : Ahead s t (48 :: rest) := h
    have a0 : acceptB c0 s t = true := by
      have := acceptB_cons (v := [48]) h' (by decide) (by decide)
      exact this
    have hn := next_cons h' (by decide)
    have h1 : Ahead s (adv 1 t) rest := h'.cons
    have hpre : numPre s t = (dDec, adv 1 t) := by
      unfold numPre
      rw [if_pos a0, hn]
      have x1 : acceptB cxX s (adv 1 t) = false := no (v := [120, 88]) hr h1 (by decide) (by decide)
      have x2 : acceptB coO s (adv 1 t) = false := no (v := [111, 79]) hr h1 (by decide) (by decide)
      have x3 : acceptB cbB s (adv 1 t) = false := no (v := [98, 66]) hr h1 (by decide) (by decide)
      rw [if_neg (by rw [x1]; decide), if_neg (by rw [x2]; decide), if_neg (by rw [x3]; decide)]
    rw [hpre]
    have hrun : acceptRun dDec s (adv 1 t) = adv 1 t := acceptRun_of _ _ _ (no (v := lDec) hr h1 (by decide) (by decide))
    dsimp only
    rw [hrun]
    exact frac_stop hr h1
  · obtain ⟨b, q, rfl⟩ : ∃ b q, p = b :: q := by
      cases p with
      | nil => exact absurd rfl hp
      | cons b q => exact ⟨b, q, rfl⟩
    have hb := hd b (List.mem_cons_self ..)
    have h' : Ahead s t (b :: (q ++ rest)) := h
    have hb0 : b ≠ 48 := by intro e; exact h0 (by rw [e]; rfl)
    have a0 : acceptB c0 s t = false := by
      have := acceptB_cons (v := [48]) h' (by omega) (by decide)
      have e : bs [48] = c0 := rfl
      rw [e] at this
      rw [this]
      simp
      exact hb0
    have hpre : numPre s t = (dDec, t) := by unfold numPre; rw [if_neg (by rw [a0]; decide)]
    rw [hpre]
    dsimp only
    have hrun : acceptRun dDec s t = adv (b :: q).length t := by
      refine acceptRun_run (v := lDec) (by decide) (b :: q) rest t h (fun c hc => ?_) (hr.stops (by decide))
      have := hd c hc
      have e : c = UInt8.ofNat c.toNat := by simp
      rw [e]
      have : c.toNat = 48 ∨ c.toNat = 49 ∨ c.toNat = 50 ∨ c.toNat = 51 ∨ c.toNat = 52 ∨ c.toNat = 53 ∨ c.toNat = 54 ∨ c.toNat = 55 ∨ c.toNat = 56 ∨ c.toNat = 57 := by omega
      rcases this with h | h | h | h | h | h | h | h | h | h <;> rw [h] <;> decide
    rw [hrun]
    exact frac_stop hr (Ahead.adv h)

theorem scan_pre {s : ByteArray} {t : St} {x : UInt8} {d p rest : List UInt8} (hx : ((x = 120 ∨ x = 88) ∧ d = lHex) ∨ ((x = 111 ∨ x = 79) ∧ d = lOct) ∨ ((x = 98 ∨ x = 66) ∧ d = lBin)) (h : Ahead s t ((48 :: x :: p) ++ rest)) (hd : ∀ b ∈ p, d.contains b = true) (hr : NumStop rest) : scanNumber s t = (true, adv (p.length + 2) t) := by
  unfold scanNumber
  have h' : Ahead s t (48 :: (x :: (p ++ rest))) := h
  have a0 : acceptB c0 s t = true := acceptB_cons (v := [48]) h' (by decide) (by decide)
  have hn := next_cons h' (by decide)
  have h1 : Ahead s (adv 1 t) (x :: (p ++ rest)) := h'.cons
  have hxa : x.toNat < 128 := by rcases hx with ⟨h | h, _⟩ | ⟨h | h, _⟩ | ⟨h | h, _⟩ <;> subst h <;> decide
  have hn2 := next_cons h1 hxa
  have h2 : Ahead s (adv 2 t) (p ++ rest) := by have := h1.cons; rw [adv_add] at this; exact this
  have hpre : numPre s t = (bs d, adv 2 t) := by
    unfold numPre
    rw [if_pos a0, hn]
    have x1 : acceptB cxX s (adv 1 t) = [120, 88].contains x := acceptB_cons (v := [120, 88]) h1 hxa (by decide)
    have x2 : acceptB coO s (adv 1 t) = [111, 79].contains x := acceptB_cons (v := [111, 79]) h1 hxa (by decide)
    have x3 : acceptB cbB s (adv 1 t) = [98, 66].contains x := acceptB_cons (v := [98, 66]) h1 hxa (by decide)
    rw [x1, x2, x3, hn2, adv_add]
    rcases hx with ⟨h | h, rfl⟩ | ⟨h | h, rfl⟩ | ⟨h | h, rfl⟩ <;> subst h <;> rfl
  rw [hpre]
  dsimp only
  have hda : asciiL d = true ∧ (d.contains 32 = false ∧ d.contains 10 = false ∧ d.contains 47 = false) := by rcases hx with ⟨_, rfl⟩ | ⟨_, rfl⟩ | ⟨_, rfl⟩ <;> decide
  have hrun : acceptRun (bs d) s (adv 2 t) = adv p.length (adv 2 t) := acceptRun_run hda.1 p rest _ h2 hd (hr.stops hda.2)
  rw [hrun, frac_stop hr (Ahead.adv h2), adv_add, Nat.add_comm]

end Go.Proofs.YtdpdgppjeekcmaaFmt
