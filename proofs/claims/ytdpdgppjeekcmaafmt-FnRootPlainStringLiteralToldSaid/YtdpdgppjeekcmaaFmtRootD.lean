/-
  Walk: the state root, all its ways joined (printed by genroot3.py).
-/
import Derived.Test.YtdpdgppjeekcmaaFmtRootC
import Derived.Test.YtdpdgppjeekcmaaFmtJA
namespace Go.Proofs.YtdpdgppjeekcmaaFmt
open Go Go.Lib Go.RowKit Go.Proofs
open Go.Extern.Stop Go.Stop Go.Extern

theorem hi57 {r : Int} (h : ¬ (48 ≤ r ∧ r ≤ 57)) (hd : ¬ r < 48) : 57 < r := by omega
theorem alnum98 : alnum 98 = true := by kernel_rfl
theorem alnum66 : alnum 66 = true := by kernel_rfl
theorem contains_or {l : List Int} {r : Int} (h : l.contains r = true) : r ∈ l := by simpa using h

set_option maxHeartbeats 4000000 in
theorem root_any {F : Stop.Interp} {W0 w : World} {S : Nat → Prop} {L : Nat} {s : ByteArray} {t : St} (hF : F.answers W0.tape) (H : Lx W0 S w L s t) (hle : t.eb ≤ s.size) (hn : t.toks.length ≤ 9) (hB : peek s t ≠ -1 → Back s t) (hsb : peek s t ≠ -1 → t.sb + 1 ≤ (next s t).eb) :
    Calls Tryf.prog 31 #[.pointer (some ⟨L, 0, none⟩)] w fun e w' => e = .returned (qVal (root s t).1) ∧ Done W0 S w L s (root s t).2 w' := by
  unfold root
  by_cases c0 : peek s t = -1
  · rw [if_pos c0]; exact root_eof hF H c0 hn
  rw [if_neg c0]
  have hBk := hB c0
  have hsb' := hsb c0
  by_cases c1 : isSpaceZ (peek s t) = true
  · rw [if_pos c1]; exact root_space hF H c0 c1
  rw [if_neg c1]
  have c1' : isSpaceZ (peek s t) = false := by simpa using c1
  by_cases c2 : peek s t = 39
  · rw [if_pos c2]
    exact root_q39 hF H c2 hle hn
  rw [if_neg c2]
  by_cases c3 : peek s t = 34
  · rw [if_pos c3]
    exact root_q34 hF H c3 hle hn
  rw [if_neg c3]
  by_cases c4 : peek s t = 96
  · rw [if_pos c4]
    exact root_q96 hF H c4 hle hn hsb'
  rw [if_neg c4]
  by_cases c5 : (peek s t = 98 ∨ peek s t = 66) ∧ peek s (next s t) = 39
  · rw [if_pos c5]
    rcases c5 with ⟨c | c, d⟩
    · exact root_b98q39 hF H c d hle hn
    · exact root_b66q39 hF H c d hle hn
  rw [if_neg c5]
  by_cases c6 : (peek s t = 98 ∨ peek s t = 66) ∧ peek s (next s t) = 34
  · rw [if_pos c6]
    rcases c6 with ⟨c | c, d⟩
    · exact root_b98q34 hF H c d hle hn
    · exact root_b66q34 hF H c d hle hn
  rw [if_neg c6]
  by_cases c7 : 48 ≤ peek s t ∧ peek s t ≤ 57
  · rw [if_pos c7]
    exact root_digit hF H hBk c7.1 c7.2 c1'
  rw [if_neg c7]
  by_cases c8 : peek s t = 63
  · rw [if_pos c8]
    exact root_r63 hF H c8
  rw [if_neg c8]
  by_cases c9 : peek s t = 47
  · rw [if_pos c9]
    exact root_r47 hF H c9
  rw [if_neg c9]
  by_cases c10 : peek s t = 35
  · rw [if_pos c10]
    exact root_r35 hF H c10
  rw [if_neg c10]
  by_cases c11 : peek s t = 124
  · rw [if_pos c11]
    exact root_r124 hF H c11 hle hn
  rw [if_neg c11]
  by_cases c12 : peek s t = 58
  · rw [if_pos c12]
    exact root_r58 hF H c12 hle hn
  rw [if_neg c12]
  by_cases c13 : has cOpen (peek s t) = true
  · rw [if_pos c13]
    have hm := c13
    rw [has_cOpen] at hm
    have hm2 := contains_or hm
    simp only [List.mem_cons, List.not_mem_nil, or_false] at hm2
    rcases hm2 with h | h | h
    · exact root_r40 hF H h hle hn
    · exact root_r91 hF H h hle hn
    · exact root_r123 hF H h hle hn
  rw [if_neg c13]
  by_cases c14 : has cShut (peek s t) = true
  · rw [if_pos c14]
    have hm := c14
    rw [has_cShut] at hm
    have hm2 := contains_or hm
    simp only [List.mem_cons, List.not_mem_nil, or_false] at hm2
    rcases hm2 with h | h | h
    · exact root_r41 hF H h hle hn
    · exact root_r93 hF H h hle hn
    · exact root_r125 hF H h hle hn
  rw [if_neg c14]
  by_cases c15 : has cOne (peek s t) = true
  · rw [if_pos c15]
    have hm := c15
    rw [has_cOne] at hm
    have hm2 := contains_or hm
    simp only [List.mem_cons, List.not_mem_nil, or_false] at hm2
    rcases hm2 with h | h | h | h | h | h
    · exact root_r44 hF H h hle hn
    · exact root_r59 hF H h hle hn
    · exact root_r37 hF H h hle hn
    · exact root_r43 hF H h hle hn
    · exact root_r45 hF H h hle hn
    · exact root_r94 hF H h hle hn
  rw [if_neg c15]
  by_cases c16 : has cTwo (peek s t) = true
  · rw [if_pos c16]
    have hm := c16
    rw [has_cTwo] at hm
    have hm2 := contains_or hm
    simp only [List.mem_cons, List.not_mem_nil, or_false] at hm2
    rcases hm2 with h | h | h | h | h | h
    · exact root_r38 hF H h hle hn
    · exact root_r33 hF H h hle hn
    · exact root_r61 hF H h hle hn
    · exact root_r42 hF H h hle hn
    · exact root_r60 hF H h hle hn
    · exact root_r62 hF H h hle hn
  rw [if_neg c16]
  by_cases c17 : peek s t = 46
  · rw [if_pos c17]
    exact root_r46 hF H c17 hBk
  rw [if_neg c17]
  have ho : has cOpen (peek s t) = false := by simpa using c13
  have hs : has cShut (peek s t) = false := by simpa using c14
  have h1 : has cOne (peek s t) = false := by simpa using c15
  have h2 : has cTwo (peek s t) = false := by simpa using c16
  by_cases d98 : peek s t = 98
  · have ha : alnum (peek s t) = true := by rw [d98]; exact alnum98
    rw [if_pos ha]
    exact root_r98 hF H d98 hBk (fun e => c5 ⟨.inl d98, e⟩) (fun e => c6 ⟨.inl d98, e⟩)
  by_cases d66 : peek s t = 66
  · have ha : alnum (peek s t) = true := by rw [d66]; exact alnum66
    rw [if_pos ha]
    exact root_r66 hF H d66 hBk (fun e => c5 ⟨.inr d66, e⟩) (fun e => c6 ⟨.inr d66, e⟩)
  by_cases ha : alnum (peek s t) = true
  · rw [if_pos ha]
    by_cases hd : peek s t < 48
    · exact root_ident_lo hF H c1' c0 c2 c3 c4 d98 d66 c8 c9 c10 c11 c12 c17 hd ho hs h1 h2 ha hBk
    · exact root_ident_hi hF H c1' c0 c2 c3 c4 d98 d66 c8 c9 c10 c11 c12 c17 (hi57 c7 hd) ho hs h1 h2 ha hBk
  · rw [if_neg ha]
    have ha' : alnum (peek s t) = false := by simpa using ha
    by_cases hd : peek s t < 48
    · exact root_bad_lo hF H c1' c0 c2 c3 c4 d98 d66 c8 c9 c10 c11 c12 c17 hd ho hs h1 h2 ha'
    · exact root_bad_hi hF H c1' c0 c2 c3 c4 d98 d66 c8 c9 c10 c11 c12 c17 (hi57 c7 hd) ho hs h1 h2 ha'

end Go.Proofs.YtdpdgppjeekcmaaFmt
