/-
  What the lexer does where ASCII text lies ahead of it. No program stands in this text.
-/
import Derived.Test.YtdpdgppjeekcmaaFmtPure
import Derived.Test.YtdpdgppjeekcmaaFmtStates
namespace Go.Proofs.YtdpdgppjeekcmaaFmt
open Go Go.Lib

/-- The bytes that lie ahead. -/
def Ahead (s : ByteArray) (t : St) (l : List UInt8) : Prop := s.data.toList.drop t.eb = l
/-- k bytes, k runes on. -/
def adv (k : Nat) (t : St) : St := { t with eb := t.eb + k, er := t.er + k }
theorem adv_zero (t : St) : adv 0 t = t := rfl
theorem adv_add (j k : Nat) (t : St) : adv k (adv j t) = adv (j + k) t := by unfold adv; simp [Nat.add_assoc]

theorem Ahead.adv {s : ByteArray} {t : St} {p l : List UInt8} (h : Ahead s t (p ++ l)) : Ahead s (adv p.length t) l := by
  unfold Ahead at *
  show s.data.toList.drop (t.eb + p.length) = l
  rw [← List.drop_drop, h, List.drop_left]
theorem Ahead.cons {s : ByteArray} {t : St} {b : UInt8} {l : List UInt8} (h : Ahead s t (b :: l)) : Ahead s (Go.Proofs.YtdpdgppjeekcmaaFmt.adv 1 t) l := Ahead.adv (p := [b]) h
theorem Ahead.lt {s : ByteArray} {t : St} {b : UInt8} {l : List UInt8} (h : Ahead s t (b :: l)) : t.eb < s.size := by
  unfold Ahead at h
  have := congrArg List.length h
  rw [List.length_drop] at this
  have h1 := Lib.size_eq s
  simp only [List.length_cons] at this
  omega
theorem Ahead.get {s : ByteArray} {t : St} {b : UInt8} {l : List UInt8} (h : Ahead s t (b :: l)) : s[t.eb]'h.lt = b := by
  have hl : t.eb < s.data.toList.length := by have := Lib.size_eq s; have := h.lt; omega
  unfold Ahead at h
  rw [List.drop_eq_getElem_cons hl] at h
  injection h
theorem Ahead.end_ {s : ByteArray} {t : St} (h : Ahead s t []) : ¬ t.eb < s.size := by
  unfold Ahead at h
  have := congrArg List.length h
  rw [List.length_drop] at this
  have h1 := Lib.size_eq s
  simp only [List.length_nil] at this
  omega

theorem peek_cons {s : ByteArray} {t : St} {b : UInt8} {l : List UInt8} (h : Ahead s t (b :: l)) (ha : b.toNat < 128) : peek s t = b.toNat := by
  unfold peek
  rw [if_pos h.lt, rAt_ascii h.lt (by rw [h.get]; exact ha), h.get]
theorem next_cons {s : ByteArray} {t : St} {b : UInt8} {l : List UInt8} (h : Ahead s t (b :: l)) (ha : b.toNat < 128) : next s t = adv 1 t := by
  rw [next_in h.lt, wAt_ascii h.lt (by rw [h.get]; exact ha)]
  rfl
theorem peek_nil {s : ByteArray} {t : St} (h : Ahead s t []) : peek s t = -1 := by unfold peek; rw [if_neg h.end_]
theorem next_nil {s : ByteArray} {t : St} (h : Ahead s t []) : next s t = { t with eof := true } := next_end h.end_

def asciiL (l : List UInt8) : Bool := l.all fun b => decide (b.toNat < 128)
theorem asciiL_of {l : List UInt8} (h : asciiL l = true) : ∀ b ∈ l, b.toNat < 128 := by
  unfold asciiL at h
  rw [List.all_eq_true] at h
  intro b hb
  simpa using h b hb

theorem acceptB_cons {s : ByteArray} {t : St} {b : UInt8} {l v : List UInt8} (h : Ahead s t (b :: l)) (ha : b.toNat < 128) (hv : asciiL v = true) : acceptB (bs v) s t = v.contains b := by
  unfold acceptB
  rw [peek_cons h ha, has_bs v (asciiL_of hv)]
  induction v with
  | nil => rfl
  | cons c v ih =>
    have hv2 : asciiL v = true := by unfold asciiL at hv ⊢; simp only [List.all_cons, Bool.and_eq_true] at hv; exact hv.2
    rw [List.map_cons, List.contains_cons, List.contains_cons, ih hv2]
    congr 1
    by_cases e : b = c
    · subst e; simp
    · have : ¬ (b.toNat : Int) = (c.toNat : Int) := fun x => e (UInt8.toNat_inj.1 (by omega))
      rw [beq_eq_false_iff_ne.2 this, beq_eq_false_iff_ne.2 e]
theorem acceptB_nil {s : ByteArray} {t : St} {v : ByteArray} (h : Ahead s t []) : acceptB v s t = false := by
  unfold acceptB
  rw [peek_nil h]
  cases hh : has v (-1) with
  | false => rfl
  | true => exact absurd rfl (has_ne hh)

/-- What lies ahead does not begin with one of v. -/
def Stops (v l : List UInt8) : Prop := l = [] ∨ ∃ b r, l = b :: r ∧ b.toNat < 128 ∧ v.contains b = false
theorem acceptB_stops {s : ByteArray} {t : St} {v l : List UInt8} (h : Ahead s t l) (hv : asciiL v = true) (hs : Stops v l) : acceptB (bs v) s t = false := by
  rcases hs with rfl | ⟨b, r, rfl, ha, hc⟩
  · exact acceptB_nil h
  · rw [acceptB_cons h ha hv, hc]
theorem acceptRun_run {s : ByteArray} {v : List UInt8} (hv : asciiL v = true) : ∀ (p l : List UInt8) (t : St), Ahead s t (p ++ l) → (∀ b ∈ p, v.contains b = true) → Stops v l → acceptRun (bs v) s t = adv p.length t
  | [], l, t, h, _, hs => acceptRun_of _ _ _ (acceptB_stops h hv hs)
  | b :: p, l, t, h, hp, hs => by
    have hb := hp b (List.mem_cons_self ..)
    have ha : b.toNat < 128 := asciiL_of hv b (by simpa using hb)
    have h1 : acceptB (bs v) s t = true := by rw [acceptB_cons h ha hv]; exact hb
    have h2 := acceptRun_run hv p l (adv 1 t) h.cons (fun c hc => hp c (List.mem_cons_of_mem _ hc)) hs
    rw [acceptRun]
    have h3 : has (bs v) (peek s t) = true := h1
    rw [dif_pos h3, next_cons h ha, h2, adv_add, List.length_cons, Nat.add_comm]

end Go.Proofs.YtdpdgppjeekcmaaFmt
