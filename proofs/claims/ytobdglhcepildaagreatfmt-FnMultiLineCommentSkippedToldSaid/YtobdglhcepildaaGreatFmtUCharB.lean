/-
  Walk: unescapeChar, its octal and hexadecimal ways (printed by genuchar.py).
-/
import Derived.Test.YtobdglhcepildaaGreatFmtUChar
import Derived.WalkKit
namespace Go.Proofs.YtobdglhcepildaaGreatFmt
open Go Go.Lib Go.RowKit Go.Proofs
open Go.Extern.Stop Go.Stop Go.Extern

/-- The text behind the backslash and its letter. -/
structure Tail2 (s v : ByteArray) : Prop where
  eq : s.extract 2 s.size = v
  size : v.size + 2 = s.size
  get : ∀ j (hj : j < v.size), (v[j]'hj).toNat = byt s (j + 2)
  cut : ∀ n, v.extract n v.size = s.extract (n + 2) s.size
theorem tail2 (s : ByteArray) (h : 1 < s.size) : Tail2 s (s.extract 2 s.size) := by
  have hsz : (s.extract 2 s.size).size = s.size - 2 := by rw [ByteArray.size_extract]; omega
  refine ⟨rfl, by omega, fun j hj => ?_, fun n => cut_cut s 2 n⟩
  rw [byt_of (s := s) (k := j + 2) (by omega), ByteArray.getElem_extract]
  congr 2
  omega

/-- Where the octal loop stands. -/
def OctRel (s : ByteArray) (c : Int) (g : Nat) (vv jv : Value) : Prop :=
  (jv = .int .i64 0 ∧ vv = .int .i32 (c - 48) ∧ 3 ≤ g) ∨
  (jv = .int .i64 1 ∧ isOct (byt s 2) = true ∧ vv = .int .i32 ((c - 48) * 8 + ((byt s 2 : Nat) - 48 : Int)) ∧ 2 ≤ g) ∨
  (jv = .int .i64 2 ∧ isOct (byt s 2) = true ∧ isOct (byt s 3) = true ∧ vv = .int .i32 (((c - 48) * 8 + ((byt s 2 : Nat) - 48 : Int)) * 8 + ((byt s 3 : Nat) - 48 : Int)) ∧ 1 ≤ g)
theorem isOct_iff {b : Nat} : isOct b = true ↔ 48 ≤ b ∧ b ≤ 55 := by unfold isOct; simp

set_option maxHeartbeats 4000000 in
set_option maxRecDepth 100000 in
theorem uc_o48long {F : Stop.Interp} {W0 w : World} (hF : F.answers W0.tape) (hT : Tabs W0) (hlow : Below W0.heap.size W0 w) (s : ByteArray) (h0 : 0 < s.size) (hs : s.size ≤ 1099511627776) (h : byt s 0 = 92) (hn : ¬ s.size ≤ 1) (hc : byt s 1 = 48) (hl : ¬ s.size < 4) :
    Calls Tryz.prog 69 #[.string s] w (UPost (uChar s) s w) := by
  have s0 : (0 : Int) < (s.size : Int) := by omega
  have hb0 : ¬ 128 ≤ byt s 0 := by omega
  have e92 : ((s[0]'h0).toNat : Int) = 92 := by rw [← byt0 h0]; omega
  have h1 : 1 < s.size := by omega
  have s2 : (2 : Int) ≤ (s.size : Int) := by omega
  have s1 : ¬ (s.size : Int) ≤ 1 := by omega
  have s1' : (1 : Int) < (s.size : Int) := by omega
  have hs1 : simpleEsc (byt s 1) = -1 := by rw [hc]; decide
  have hx1 : ¬ (byt s 1 = 120 ∨ byt s 1 = 88 ∨ byt s 1 = 117 ∨ byt s 1 = 85) := by omega
  have ho1 : 48 ≤ byt s 1 ∧ byt s 1 ≤ 51 := by omega
  have ec : ((s[1]'h1).toNat : Int) = 48 := by rw [← byt_of h1]; omega
  have l2 : ¬ (s.size : Int) - 2 < 2 := by omega
  have hT2 := tail2 s h1
  obtain ⟨v2, hv2⟩ : ∃ v, s.extract 2 s.size = v := ⟨_, rfl⟩
  rw [hv2] at hT2
  have hsz := hT2.size
  have g0 : 0 < v2.size := by omega
  have g1 : 1 < v2.size := by omega
  have m0 := byt_lt s 2
  have m1 := byt_lt s 3
  have q0 : (v2[0]'g0).toNat = byt s 2 := hT2.get 0 g0
  have q1 : (v2[1]'g1).toNat = byt s 3 := hT2.get 1 g1
  have w2 : (2 : Int) ≤ (v2.size : Int) := by omega
  have w1' : (1 : Int) < (v2.size : Int) := by omega
  have w0' : (0 : Int) < (v2.size : Int) := by omega
  have hu : uChar s = if isOct (byt s 2) && isOct (byt s 3) then some (((byt s 1 : Nat) - 48 : Int) * 64 + ((byt s 2 : Nat) - 48 : Int) * 8 + ((byt s 3 : Nat) - 48 : Int), true, 4) else none := by unfold uChar; rw [if_neg hb0, if_neg (by omega), if_neg hn, hs1, if_neg (by decide), if_neg hx1, if_pos ho1, if_neg hl]
  rw [hc] at hu
  obtain ⟨x0, hx0⟩ : ∃ x, byt s 2 = x := ⟨_, rfl⟩
  obtain ⟨x1, hx1'⟩ : ∃ x, byt s 3 = x := ⟨_, rfl⟩
  rw [hx0] at hu m0 q0
  rw [hx1'] at hu m1 q1
  have X0 := Lib.hid hx0
  have X1 := Lib.hid hx1'
  have Hu := Lib.hid hu
  have HT2 := Lib.hid hT2
  clear hu h hn hc hb0 hs1 hx1 ho1 hx0 hx1' hT2
  go_enter Tryz.func69, Tryz.ntmps69
  go_wp2_with fail
  have Hv2 := Lib.hid hv2
  clear hv2
  go_loopg [5, 19, 20] 3 (fun g ev vv jv wr => OctRel s 48 g vv jv ∧ w = wr ∧ ev = .nilIface)
  case atStart => exact ⟨.inl ⟨rfl, rfl, Nat.le_refl _⟩, rfl, rfl⟩
  case round =>
    obtain ⟨hrel, rfl, rfl⟩ := hrel
    unfold OctRel at hrel
    rw [X0.out, X1.out] at hrel
    rcases hrel with ⟨rfl, rfl, hg⟩ | ⟨rfl, ho, rfl, hg⟩ | ⟨rfl, ho, ho1, rfl, hg⟩
    · by_cases hlo : (x0 : Int) < 48
      · have hne : uChar s = none := by rw [Hu.out, if_neg]; simp [isOct]; omega
        have Hu := Lib.hid hne
        clear hne
        go_wp2_with fail
        refine (errorf_2 _ (by exact answers_low hF hlow)).mono ?_
        rintro e w1 ⟨E, m, rfl, hE, hm, hb⟩
        have Hm := Lib.hid hm
        clear hm
        go_wp2_with fail
        refine bodyPost_ret (v := .tuple #[.int .i32 0, .bool false, .string ⟨#[]⟩, .iface 139 (.pointer (some ⟨E, 0, none⟩))]) ?_ rfl ?_
        · simp [results, Tryz.results69, go_sem]
        · exact UPost.no Hu.out (by repeat (first | exact Below.refl _ _ | apply below_drew | apply below_drewN | apply below_alloc | apply below_grow)) hE Hm.out hb
      by_cases hhi : 55 < (x0 : Int)
      · have hne : uChar s = none := by rw [Hu.out, if_neg]; simp [isOct]; omega
        have Hu := Lib.hid hne
        clear hne
        go_wp2_with fail
        refine (errorf_2 _ (by exact answers_low hF hlow)).mono ?_
        rintro e w1 ⟨E, m, rfl, hE, hm, hb⟩
        have Hm := Lib.hid hm
        clear hm
        go_wp2_with fail
        refine bodyPost_ret (v := .tuple #[.int .i32 0, .bool false, .string ⟨#[]⟩, .iface 139 (.pointer (some ⟨E, 0, none⟩))]) ?_ rfl ?_
        · simp [results, Tryz.results69, go_sem]
        · exact UPost.no Hu.out (by repeat (first | exact Below.refl _ _ | apply below_drew | apply below_drewN | apply below_alloc | apply below_grow)) hE Hm.out hb
      have hiso : isOct x0 = true := isOct_iff.2 (by omega)
      go_wp2_with fail
      go_roundg 2
      case measure => omega
      case rel => exact ⟨.inr (.inl ⟨rfl, by rw [X0.out]; exact hiso, by rw [X0.out]; go_num, Nat.le_refl _⟩), rfl, rfl⟩
    · have hob := isOct_iff.1 ho
      have Ho := Lib.hid ho
      clear ho
      by_cases hlo : (x1 : Int) < 48
      · have hne : uChar s = none := by rw [Hu.out, if_neg]; simp [isOct]; omega
        have Hu := Lib.hid hne
        clear hne
        go_wp2_with fail
        refine (errorf_2 _ (by exact answers_low hF hlow)).mono ?_
        rintro e w1 ⟨E, m, rfl, hE, hm, hb⟩
        have Hm := Lib.hid hm
        clear hm
        go_wp2_with fail
        refine bodyPost_ret (v := .tuple #[.int .i32 0, .bool false, .string ⟨#[]⟩, .iface 139 (.pointer (some ⟨E, 0, none⟩))]) ?_ rfl ?_
        · simp [results, Tryz.results69, go_sem]
        · exact UPost.no Hu.out (by repeat (first | exact Below.refl _ _ | apply below_drew | apply below_drewN | apply below_alloc | apply below_grow)) hE Hm.out hb
      by_cases hhi : 55 < (x1 : Int)
      · have hne : uChar s = none := by rw [Hu.out, if_neg]; simp [isOct]; omega
        have Hu := Lib.hid hne
        clear hne
        go_wp2_with fail
        refine (errorf_2 _ (by exact answers_low hF hlow)).mono ?_
        rintro e w1 ⟨E, m, rfl, hE, hm, hb⟩
        have Hm := Lib.hid hm
        clear hm
        go_wp2_with fail
        refine bodyPost_ret (v := .tuple #[.int .i32 0, .bool false, .string ⟨#[]⟩, .iface 139 (.pointer (some ⟨E, 0, none⟩))]) ?_ rfl ?_
        · simp [results, Tryz.results69, go_sem]
        · exact UPost.no Hu.out (by repeat (first | exact Below.refl _ _ | apply below_drew | apply below_drewN | apply below_alloc | apply below_grow)) hE Hm.out hb
      have hiso : isOct x1 = true := isOct_iff.2 (by omega)
      go_wp2_with fail
      go_roundg 1
      case measure => omega
      case rel => exact ⟨.inr (.inr ⟨rfl, by rw [X0.out]; exact Ho.out, by rw [X1.out]; exact hiso, by rw [X0.out, X1.out]; go_num, Nat.le_refl _⟩), rfl, rfl⟩
    · have hob := isOct_iff.1 ho
      have hob1 := isOct_iff.1 ho1
      have hfin : uChar s = some (((48 - 48) * 8 + ((x0 : Nat) - 48 : Int)) * 8 + ((x1 : Nat) - 48 : Int), true, 4) := by
        rw [Hu.out, ho, ho1]
        simp <;> omega
      have Hf := Lib.hid hfin
      clear ho ho1 hfin
      go_wp2_with fail
      refine bodyPost_ret (v := .tuple #[.int .i32 (((48 - 48) * 8 + ((x0 : Nat) - 48 : Int)) * 8 + ((x1 : Nat) - 48 : Int)), .bool true, .string (v2.extract 2 v2.size), .nilIface]) ?_ rfl ?_
      · simp [results, Tryz.results69, go_sem]
      · exact UPost.ok Hf.out (by rw [HT2.out.cut 2]) (Below.refl _ _)

set_option maxHeartbeats 4000000 in
set_option maxRecDepth 100000 in
theorem uc_o49long {F : Stop.Interp} {W0 w : World} (hF : F.answers W0.tape) (hT : Tabs W0) (hlow : Below W0.heap.size W0 w) (s : ByteArray) (h0 : 0 < s.size) (hs : s.size ≤ 1099511627776) (h : byt s 0 = 92) (hn : ¬ s.size ≤ 1) (hc : byt s 1 = 49) (hl : ¬ s.size < 4) :
    Calls Tryz.prog 69 #[.string s] w (UPost (uChar s) s w) := by
  have s0 : (0 : Int) < (s.size : Int) := by omega
  have hb0 : ¬ 128 ≤ byt s 0 := by omega
  have e92 : ((s[0]'h0).toNat : Int) = 92 := by rw [← byt0 h0]; omega
  have h1 : 1 < s.size := by omega
  have s2 : (2 : Int) ≤ (s.size : Int) := by omega
  have s1 : ¬ (s.size : Int) ≤ 1 := by omega
  have s1' : (1 : Int) < (s.size : Int) := by omega
  have hs1 : simpleEsc (byt s 1) = -1 := by rw [hc]; decide
  have hx1 : ¬ (byt s 1 = 120 ∨ byt s 1 = 88 ∨ byt s 1 = 117 ∨ byt s 1 = 85) := by omega
  have ho1 : 48 ≤ byt s 1 ∧ byt s 1 ≤ 51 := by omega
  have ec : ((s[1]'h1).toNat : Int) = 49 := by rw [← byt_of h1]; omega
  have l2 : ¬ (s.size : Int) - 2 < 2 := by omega
  have hT2 := tail2 s h1
  obtain ⟨v2, hv2⟩ : ∃ v, s.extract 2 s.size = v := ⟨_, rfl⟩
  rw [hv2] at hT2
  have hsz := hT2.size
  have g0 : 0 < v2.size := by omega
  have g1 : 1 < v2.size := by omega
  have m0 := byt_lt s 2
  have m1 := byt_lt s 3
  have q0 : (v2[0]'g0).toNat = byt s 2 := hT2.get 0 g0
  have q1 : (v2[1]'g1).toNat = byt s 3 := hT2.get 1 g1
  have w2 : (2 : Int) ≤ (v2.size : Int) := by omega
  have w1' : (1 : Int) < (v2.size : Int) := by omega
  have w0' : (0 : Int) < (v2.size : Int) := by omega
  have hu : uChar s = if isOct (byt s 2) && isOct (byt s 3) then some (((byt s 1 : Nat) - 48 : Int) * 64 + ((byt s 2 : Nat) - 48 : Int) * 8 + ((byt s 3 : Nat) - 48 : Int), true, 4) else none := by unfold uChar; rw [if_neg hb0, if_neg (by omega), if_neg hn, hs1, if_neg (by decide), if_neg hx1, if_pos ho1, if_neg hl]
  rw [hc] at hu
  obtain ⟨x0, hx0⟩ : ∃ x, byt s 2 = x := ⟨_, rfl⟩
  obtain ⟨x1, hx1'⟩ : ∃ x, byt s 3 = x := ⟨_, rfl⟩
  rw [hx0] at hu m0 q0
  rw [hx1'] at hu m1 q1
  have X0 := Lib.hid hx0
  have X1 := Lib.hid hx1'
  have Hu := Lib.hid hu
  have HT2 := Lib.hid hT2
  clear hu h hn hc hb0 hs1 hx1 ho1 hx0 hx1' hT2
  go_enter Tryz.func69, Tryz.ntmps69
  go_wp2_with fail
  have Hv2 := Lib.hid hv2
  clear hv2
  go_loopg [5, 19, 20] 3 (fun g ev vv jv wr => OctRel s 49 g vv jv ∧ w = wr ∧ ev = .nilIface)
  case atStart => exact ⟨.inl ⟨rfl, rfl, Nat.le_refl _⟩, rfl, rfl⟩
  case round =>
    obtain ⟨hrel, rfl, rfl⟩ := hrel
    unfold OctRel at hrel
    rw [X0.out, X1.out] at hrel
    rcases hrel with ⟨rfl, rfl, hg⟩ | ⟨rfl, ho, rfl, hg⟩ | ⟨rfl, ho, ho1, rfl, hg⟩
    · by_cases hlo : (x0 : Int) < 48
      · have hne : uChar s = none := by rw [Hu.out, if_neg]; simp [isOct]; omega
        have Hu := Lib.hid hne
        clear hne
        go_wp2_with fail
        refine (errorf_2 _ (by exact answers_low hF hlow)).mono ?_
        rintro e w1 ⟨E, m, rfl, hE, hm, hb⟩
        have Hm := Lib.hid hm
        clear hm
        go_wp2_with fail
        refine bodyPost_ret (v := .tuple #[.int .i32 0, .bool false, .string ⟨#[]⟩, .iface 139 (.pointer (some ⟨E, 0, none⟩))]) ?_ rfl ?_
        · simp [results, Tryz.results69, go_sem]
        · exact UPost.no Hu.out (by repeat (first | exact Below.refl _ _ | apply below_drew | apply below_drewN | apply below_alloc | apply below_grow)) hE Hm.out hb
      by_cases hhi : 55 < (x0 : Int)
      · have hne : uChar s = none := by rw [Hu.out, if_neg]; simp [isOct]; omega
        have Hu := Lib.hid hne
        clear hne
        go_wp2_with fail
        refine (errorf_2 _ (by exact answers_low hF hlow)).mono ?_
        rintro e w1 ⟨E, m, rfl, hE, hm, hb⟩
        have Hm := Lib.hid hm
        clear hm
        go_wp2_with fail
        refine bodyPost_ret (v := .tuple #[.int .i32 0, .bool false, .string ⟨#[]⟩, .iface 139 (.pointer (some ⟨E, 0, none⟩))]) ?_ rfl ?_
        · simp [results, Tryz.results69, go_sem]
        · exact UPost.no Hu.out (by repeat (first | exact Below.refl _ _ | apply below_drew | apply below_drewN | apply below_alloc | apply below_grow)) hE Hm.out hb
      have hiso : isOct x0 = true := isOct_iff.2 (by omega)
      go_wp2_with fail
      go_roundg 2
      case measure => omega
      case rel => exact ⟨.inr (.inl ⟨rfl, by rw [X0.out]; exact hiso, by rw [X0.out]; go_num, Nat.le_refl _⟩), rfl, rfl⟩
    · have hob := isOct_iff.1 ho
      have Ho := Lib.hid ho
      clear ho
      by_cases hlo : (x1 : Int) < 48
      · have hne : uChar s = none := by rw [Hu.out, if_neg]; simp [isOct]; omega
        have Hu := Lib.hid hne
        clear hne
        go_wp2_with fail
        refine (errorf_2 _ (by exact answers_low hF hlow)).mono ?_
        rintro e w1 ⟨E, m, rfl, hE, hm, hb⟩
        have Hm := Lib.hid hm
        clear hm
        go_wp2_with fail
        refine bodyPost_ret (v := .tuple #[.int .i32 0, .bool false, .string ⟨#[]⟩, .iface 139 (.pointer (some ⟨E, 0, none⟩))]) ?_ rfl ?_
        · simp [results, Tryz.results69, go_sem]
        · exact UPost.no Hu.out (by repeat (first | exact Below.refl _ _ | apply below_drew | apply below_drewN | apply below_alloc | apply below_grow)) hE Hm.out hb
      by_cases hhi : 55 < (x1 : Int)
      · have hne : uChar s = none := by rw [Hu.out, if_neg]; simp [isOct]; omega
        have Hu := Lib.hid hne
        clear hne
        go_wp2_with fail
        refine (errorf_2 _ (by exact answers_low hF hlow)).mono ?_
        rintro e w1 ⟨E, m, rfl, hE, hm, hb⟩
        have Hm := Lib.hid hm
        clear hm
        go_wp2_with fail
        refine bodyPost_ret (v := .tuple #[.int .i32 0, .bool false, .string ⟨#[]⟩, .iface 139 (.pointer (some ⟨E, 0, none⟩))]) ?_ rfl ?_
        · simp [results, Tryz.results69, go_sem]
        · exact UPost.no Hu.out (by repeat (first | exact Below.refl _ _ | apply below_drew | apply below_drewN | apply below_alloc | apply below_grow)) hE Hm.out hb
      have hiso : isOct x1 = true := isOct_iff.2 (by omega)
      go_wp2_with fail
      go_roundg 1
      case measure => omega
      case rel => exact ⟨.inr (.inr ⟨rfl, by rw [X0.out]; exact Ho.out, by rw [X1.out]; exact hiso, by rw [X0.out, X1.out]; go_num, Nat.le_refl _⟩), rfl, rfl⟩
    · have hob := isOct_iff.1 ho
      have hob1 := isOct_iff.1 ho1
      have hfin : uChar s = some (((49 - 48) * 8 + ((x0 : Nat) - 48 : Int)) * 8 + ((x1 : Nat) - 48 : Int), true, 4) := by
        rw [Hu.out, ho, ho1]
        simp <;> omega
      have Hf := Lib.hid hfin
      clear ho ho1 hfin
      go_wp2_with fail
      refine bodyPost_ret (v := .tuple #[.int .i32 (((49 - 48) * 8 + ((x0 : Nat) - 48 : Int)) * 8 + ((x1 : Nat) - 48 : Int)), .bool true, .string (v2.extract 2 v2.size), .nilIface]) ?_ rfl ?_
      · simp [results, Tryz.results69, go_sem]
      · exact UPost.ok Hf.out (by rw [HT2.out.cut 2]) (Below.refl _ _)

set_option maxHeartbeats 4000000 in
set_option maxRecDepth 100000 in
theorem uc_o50long {F : Stop.Interp} {W0 w : World} (hF : F.answers W0.tape) (hT : Tabs W0) (hlow : Below W0.heap.size W0 w) (s : ByteArray) (h0 : 0 < s.size) (hs : s.size ≤ 1099511627776) (h : byt s 0 = 92) (hn : ¬ s.size ≤ 1) (hc : byt s 1 = 50) (hl : ¬ s.size < 4) :
    Calls Tryz.prog 69 #[.string s] w (UPost (uChar s) s w) := by
  have s0 : (0 : Int) < (s.size : Int) := by omega
  have hb0 : ¬ 128 ≤ byt s 0 := by omega
  have e92 : ((s[0]'h0).toNat : Int) = 92 := by rw [← byt0 h0]; omega
  have h1 : 1 < s.size := by omega
  have s2 : (2 : Int) ≤ (s.size : Int) := by omega
  have s1 : ¬ (s.size : Int) ≤ 1 := by omega
  have s1' : (1 : Int) < (s.size : Int) := by omega
  have hs1 : simpleEsc (byt s 1) = -1 := by rw [hc]; decide
  have hx1 : ¬ (byt s 1 = 120 ∨ byt s 1 = 88 ∨ byt s 1 = 117 ∨ byt s 1 = 85) := by omega
  have ho1 : 48 ≤ byt s 1 ∧ byt s 1 ≤ 51 := by omega
  have ec : ((s[1]'h1).toNat : Int) = 50 := by rw [← byt_of h1]; omega
  have l2 : ¬ (s.size : Int) - 2 < 2 := by omega
  have hT2 := tail2 s h1
  obtain ⟨v2, hv2⟩ : ∃ v, s.extract 2 s.size = v := ⟨_, rfl⟩
  rw [hv2] at hT2
  have hsz := hT2.size
  have g0 : 0 < v2.size := by omega
  have g1 : 1 < v2.size := by omega
  have m0 := byt_lt s 2
  have m1 := byt_lt s 3
  have q0 : (v2[0]'g0).toNat = byt s 2 := hT2.get 0 g0
  have q1 : (v2[1]'g1).toNat = byt s 3 := hT2.get 1 g1
  have w2 : (2 : Int) ≤ (v2.size : Int) := by omega
  have w1' : (1 : Int) < (v2.size : Int) := by omega
  have w0' : (0 : Int) < (v2.size : Int) := by omega
  have hu : uChar s = if isOct (byt s 2) && isOct (byt s 3) then some (((byt s 1 : Nat) - 48 : Int) * 64 + ((byt s 2 : Nat) - 48 : Int) * 8 + ((byt s 3 : Nat) - 48 : Int), true, 4) else none := by unfold uChar; rw [if_neg hb0, if_neg (by omega), if_neg hn, hs1, if_neg (by decide), if_neg hx1, if_pos ho1, if_neg hl]
  rw [hc] at hu
  obtain ⟨x0, hx0⟩ : ∃ x, byt s 2 = x := ⟨_, rfl⟩
  obtain ⟨x1, hx1'⟩ : ∃ x, byt s 3 = x := ⟨_, rfl⟩
  rw [hx0] at hu m0 q0
  rw [hx1'] at hu m1 q1
  have X0 := Lib.hid hx0
  have X1 := Lib.hid hx1'
  have Hu := Lib.hid hu
  have HT2 := Lib.hid hT2
  clear hu h hn hc hb0 hs1 hx1 ho1 hx0 hx1' hT2
  go_enter Tryz.func69, Tryz.ntmps69
  go_wp2_with fail
  have Hv2 := Lib.hid hv2
  clear hv2
  go_loopg [5, 19, 20] 3 (fun g ev vv jv wr => OctRel s 50 g vv jv ∧ w = wr ∧ ev = .nilIface)
  case atStart => exact ⟨.inl ⟨rfl, rfl, Nat.le_refl _⟩, rfl, rfl⟩
  case round =>
    obtain ⟨hrel, rfl, rfl⟩ := hrel
    unfold OctRel at hrel
    rw [X0.out, X1.out] at hrel
    rcases hrel with ⟨rfl, rfl, hg⟩ | ⟨rfl, ho, rfl, hg⟩ | ⟨rfl, ho, ho1, rfl, hg⟩
    · by_cases hlo : (x0 : Int) < 48
      · have hne : uChar s = none := by rw [Hu.out, if_neg]; simp [isOct]; omega
        have Hu := Lib.hid hne
        clear hne
        go_wp2_with fail
        refine (errorf_2 _ (by exact answers_low hF hlow)).mono ?_
        rintro e w1 ⟨E, m, rfl, hE, hm, hb⟩
        have Hm := Lib.hid hm
        clear hm
        go_wp2_with fail
        refine bodyPost_ret (v := .tuple #[.int .i32 0, .bool false, .string ⟨#[]⟩, .iface 139 (.pointer (some ⟨E, 0, none⟩))]) ?_ rfl ?_
        · simp [results, Tryz.results69, go_sem]
        · exact UPost.no Hu.out (by repeat (first | exact Below.refl _ _ | apply below_drew | apply below_drewN | apply below_alloc | apply below_grow)) hE Hm.out hb
      by_cases hhi : 55 < (x0 : Int)
      · have hne : uChar s = none := by rw [Hu.out, if_neg]; simp [isOct]; omega
        have Hu := Lib.hid hne
        clear hne
        go_wp2_with fail
        refine (errorf_2 _ (by exact answers_low hF hlow)).mono ?_
        rintro e w1 ⟨E, m, rfl, hE, hm, hb⟩
        have Hm := Lib.hid hm
        clear hm
        go_wp2_with fail
        refine bodyPost_ret (v := .tuple #[.int .i32 0, .bool false, .string ⟨#[]⟩, .iface 139 (.pointer (some ⟨E, 0, none⟩))]) ?_ rfl ?_
        · simp [results, Tryz.results69, go_sem]
        · exact UPost.no Hu.out (by repeat (first | exact Below.refl _ _ | apply below_drew | apply below_drewN | apply below_alloc | apply below_grow)) hE Hm.out hb
      have hiso : isOct x0 = true := isOct_iff.2 (by omega)
      go_wp2_with fail
      go_roundg 2
      case measure => omega
      case rel => exact ⟨.inr (.inl ⟨rfl, by rw [X0.out]; exact hiso, by rw [X0.out]; go_num, Nat.le_refl _⟩), rfl, rfl⟩
    · have hob := isOct_iff.1 ho
      have Ho := Lib.hid ho
      clear ho
      by_cases hlo : (x1 : Int) < 48
      · have hne : uChar s = none := by rw [Hu.out, if_neg]; simp [isOct]; omega
        have Hu := Lib.hid hne
        clear hne
        go_wp2_with fail
        refine (errorf_2 _ (by exact answers_low hF hlow)).mono ?_
        rintro e w1 ⟨E, m, rfl, hE, hm, hb⟩
        have Hm := Lib.hid hm
        clear hm
        go_wp2_with fail
        refine bodyPost_ret (v := .tuple #[.int .i32 0, .bool false, .string ⟨#[]⟩, .iface 139 (.pointer (some ⟨E, 0, none⟩))]) ?_ rfl ?_
        · simp [results, Tryz.results69, go_sem]
        · exact UPost.no Hu.out (by repeat (first | exact Below.refl _ _ | apply below_drew | apply below_drewN | apply below_alloc | apply below_grow)) hE Hm.out hb
      by_cases hhi : 55 < (x1 : Int)
      · have hne : uChar s = none := by rw [Hu.out, if_neg]; simp [isOct]; omega
        have Hu := Lib.hid hne
        clear hne
        go_wp2_with fail
        refine (errorf_2 _ (by exact answers_low hF hlow)).mono ?_
        rintro e w1 ⟨E, m, rfl, hE, hm, hb⟩
        have Hm := Lib.hid hm
        clear hm
        go_wp2_with fail
        refine bodyPost_ret (v := .tuple #[.int .i32 0, .bool false, .string ⟨#[]⟩, .iface 139 (.pointer (some ⟨E, 0, none⟩))]) ?_ rfl ?_
        · simp [results, Tryz.results69, go_sem]
        · exact UPost.no Hu.out (by repeat (first | exact Below.refl _ _ | apply below_drew | apply below_drewN | apply below_alloc | apply below_grow)) hE Hm.out hb
      have hiso : isOct x1 = true := isOct_iff.2 (by omega)
      go_wp2_with fail
      go_roundg 1
      case measure => omega
      case rel => exact ⟨.inr (.inr ⟨rfl, by rw [X0.out]; exact Ho.out, by rw [X1.out]; exact hiso, by rw [X0.out, X1.out]; go_num, Nat.le_refl _⟩), rfl, rfl⟩
    · have hob := isOct_iff.1 ho
      have hob1 := isOct_iff.1 ho1
      have hfin : uChar s = some (((50 - 48) * 8 + ((x0 : Nat) - 48 : Int)) * 8 + ((x1 : Nat) - 48 : Int), true, 4) := by
        rw [Hu.out, ho, ho1]
        simp <;> omega
      have Hf := Lib.hid hfin
      clear ho ho1 hfin
      go_wp2_with fail
      refine bodyPost_ret (v := .tuple #[.int .i32 (((50 - 48) * 8 + ((x0 : Nat) - 48 : Int)) * 8 + ((x1 : Nat) - 48 : Int)), .bool true, .string (v2.extract 2 v2.size), .nilIface]) ?_ rfl ?_
      · simp [results, Tryz.results69, go_sem]
      · exact UPost.ok Hf.out (by rw [HT2.out.cut 2]) (Below.refl _ _)

set_option maxHeartbeats 4000000 in
set_option maxRecDepth 100000 in
theorem uc_o51long {F : Stop.Interp} {W0 w : World} (hF : F.answers W0.tape) (hT : Tabs W0) (hlow : Below W0.heap.size W0 w) (s : ByteArray) (h0 : 0 < s.size) (hs : s.size ≤ 1099511627776) (h : byt s 0 = 92) (hn : ¬ s.size ≤ 1) (hc : byt s 1 = 51) (hl : ¬ s.size < 4) :
    Calls Tryz.prog 69 #[.string s] w (UPost (uChar s) s w) := by
  have s0 : (0 : Int) < (s.size : Int) := by omega
  have hb0 : ¬ 128 ≤ byt s 0 := by omega
  have e92 : ((s[0]'h0).toNat : Int) = 92 := by rw [← byt0 h0]; omega
  have h1 : 1 < s.size := by omega
  have s2 : (2 : Int) ≤ (s.size : Int) := by omega
  have s1 : ¬ (s.size : Int) ≤ 1 := by omega
  have s1' : (1 : Int) < (s.size : Int) := by omega
  have hs1 : simpleEsc (byt s 1) = -1 := by rw [hc]; decide
  have hx1 : ¬ (byt s 1 = 120 ∨ byt s 1 = 88 ∨ byt s 1 = 117 ∨ byt s 1 = 85) := by omega
  have ho1 : 48 ≤ byt s 1 ∧ byt s 1 ≤ 51 := by omega
  have ec : ((s[1]'h1).toNat : Int) = 51 := by rw [← byt_of h1]; omega
  have l2 : ¬ (s.size : Int) - 2 < 2 := by omega
  have hT2 := tail2 s h1
  obtain ⟨v2, hv2⟩ : ∃ v, s.extract 2 s.size = v := ⟨_, rfl⟩
  rw [hv2] at hT2
  have hsz := hT2.size
  have g0 : 0 < v2.size := by omega
  have g1 : 1 < v2.size := by omega
  have m0 := byt_lt s 2
  have m1 := byt_lt s 3
  have q0 : (v2[0]'g0).toNat = byt s 2 := hT2.get 0 g0
  have q1 : (v2[1]'g1).toNat = byt s 3 := hT2.get 1 g1
  have w2 : (2 : Int) ≤ (v2.size : Int) := by omega
  have w1' : (1 : Int) < (v2.size : Int) := by omega
  have w0' : (0 : Int) < (v2.size : Int) := by omega
  have hu : uChar s = if isOct (byt s 2) && isOct (byt s 3) then some (((byt s 1 : Nat) - 48 : Int) * 64 + ((byt s 2 : Nat) - 48 : Int) * 8 + ((byt s 3 : Nat) - 48 : Int), true, 4) else none := by unfold uChar; rw [if_neg hb0, if_neg (by omega), if_neg hn, hs1, if_neg (by decide), if_neg hx1, if_pos ho1, if_neg hl]
  rw [hc] at hu
  obtain ⟨x0, hx0⟩ : ∃ x, byt s 2 = x := ⟨_, rfl⟩
  obtain ⟨x1, hx1'⟩ : ∃ x, byt s 3 = x := ⟨_, rfl⟩
  rw [hx0] at hu m0 q0
  rw [hx1'] at hu m1 q1
  have X0 := Lib.hid hx0
  have X1 := Lib.hid hx1'
  have Hu := Lib.hid hu
  have HT2 := Lib.hid hT2
  clear hu h hn hc hb0 hs1 hx1 ho1 hx0 hx1' hT2
  go_enter Tryz.func69, Tryz.ntmps69
  go_wp2_with fail
  have Hv2 := Lib.hid hv2
  clear hv2
  go_loopg [5, 19, 20] 3 (fun g ev vv jv wr => OctRel s 51 g vv jv ∧ w = wr ∧ ev = .nilIface)
  case atStart => exact ⟨.inl ⟨rfl, rfl, Nat.le_refl _⟩, rfl, rfl⟩
  case round =>
    obtain ⟨hrel, rfl, rfl⟩ := hrel
    unfold OctRel at hrel
    rw [X0.out, X1.out] at hrel
    rcases hrel with ⟨rfl, rfl, hg⟩ | ⟨rfl, ho, rfl, hg⟩ | ⟨rfl, ho, ho1, rfl, hg⟩
    · by_cases hlo : (x0 : Int) < 48
      · have hne : uChar s = none := by rw [Hu.out, if_neg]; simp [isOct]; omega
        have Hu := Lib.hid hne
        clear hne
        go_wp2_with fail
        refine (errorf_2 _ (by exact answers_low hF hlow)).mono ?_
        rintro e w1 ⟨E, m, rfl, hE, hm, hb⟩
        have Hm := Lib.hid hm
        clear hm
        go_wp2_with fail
        refine bodyPost_ret (v := .tuple #[.int .i32 0, .bool false, .string ⟨#[]⟩, .iface 139 (.pointer (some ⟨E, 0, none⟩))]) ?_ rfl ?_
        · simp [results, Tryz.results69, go_sem]
        · exact UPost.no Hu.out (by repeat (first | exact Below.refl _ _ | apply below_drew | apply below_drewN | apply below_alloc | apply below_grow)) hE Hm.out hb
      by_cases hhi : 55 < (x0 : Int)
      · have hne : uChar s = none := by rw [Hu.out, if_neg]; simp [isOct]; omega
        have Hu := Lib.hid hne
        clear hne
        go_wp2_with fail
        refine (errorf_2 _ (by exact answers_low hF hlow)).mono ?_
        rintro e w1 ⟨E, m, rfl, hE, hm, hb⟩
        have Hm := Lib.hid hm
        clear hm
        go_wp2_with fail
        refine bodyPost_ret (v := .tuple #[.int .i32 0, .bool false, .string ⟨#[]⟩, .iface 139 (.pointer (some ⟨E, 0, none⟩))]) ?_ rfl ?_
        · simp [results, Tryz.results69, go_sem]
        · exact UPost.no Hu.out (by repeat (first | exact Below.refl _ _ | apply below_drew | apply below_drewN | apply below_alloc | apply below_grow)) hE Hm.out hb
      have hiso : isOct x0 = true := isOct_iff.2 (by omega)
      go_wp2_with fail
      go_roundg 2
      case measure => omega
      case rel => exact ⟨.inr (.inl ⟨rfl, by rw [X0.out]; exact hiso, by rw [X0.out]; go_num, Nat.le_refl _⟩), rfl, rfl⟩
    · have hob := isOct_iff.1 ho
      have Ho := Lib.hid ho
      clear ho
      by_cases hlo : (x1 : Int) < 48
      · have hne : uChar s = none := by rw [Hu.out, if_neg]; simp [isOct]; omega
        have Hu := Lib.hid hne
        clear hne
        go_wp2_with fail
        refine (errorf_2 _ (by exact answers_low hF hlow)).mono ?_
        rintro e w1 ⟨E, m, rfl, hE, hm, hb⟩
        have Hm := Lib.hid hm
        clear hm
        go_wp2_with fail
        refine bodyPost_ret (v := .tuple #[.int .i32 0, .bool false, .string ⟨#[]⟩, .iface 139 (.pointer (some ⟨E, 0, none⟩))]) ?_ rfl ?_
        · simp [results, Tryz.results69, go_sem]
        · exact UPost.no Hu.out (by repeat (first | exact Below.refl _ _ | apply below_drew | apply below_drewN | apply below_alloc | apply below_grow)) hE Hm.out hb
      by_cases hhi : 55 < (x1 : Int)
      · have hne : uChar s = none := by rw [Hu.out, if_neg]; simp [isOct]; omega
        have Hu := Lib.hid hne
        clear hne
        go_wp2_with fail
        refine (errorf_2 _ (by exact answers_low hF hlow)).mono ?_
        rintro e w1 ⟨E, m, rfl, hE, hm, hb⟩
        have Hm := Lib.hid hm
        clear hm
        go_wp2_with fail
        refine bodyPost_ret (v := .tuple #[.int .i32 0, .bool false, .string ⟨#[]⟩, .iface 139 (.pointer (some ⟨E, 0, none⟩))]) ?_ rfl ?_
        · simp [results, Tryz.results69, go_sem]
        · exact UPost.no Hu.out (by repeat (first | exact Below.refl _ _ | apply below_drew | apply below_drewN | apply below_alloc | apply below_grow)) hE Hm.out hb
      have hiso : isOct x1 = true := isOct_iff.2 (by omega)
      go_wp2_with fail
      go_roundg 1
      case measure => omega
      case rel => exact ⟨.inr (.inr ⟨rfl, by rw [X0.out]; exact Ho.out, by rw [X1.out]; exact hiso, by rw [X0.out, X1.out]; go_num, Nat.le_refl _⟩), rfl, rfl⟩
    · have hob := isOct_iff.1 ho
      have hob1 := isOct_iff.1 ho1
      have hfin : uChar s = some (((51 - 48) * 8 + ((x0 : Nat) - 48 : Int)) * 8 + ((x1 : Nat) - 48 : Int), true, 4) := by
        rw [Hu.out, ho, ho1]
        simp <;> omega
      have Hf := Lib.hid hfin
      clear ho ho1 hfin
      go_wp2_with fail
      refine bodyPost_ret (v := .tuple #[.int .i32 (((51 - 48) * 8 + ((x0 : Nat) - 48 : Int)) * 8 + ((x1 : Nat) - 48 : Int)), .bool true, .string (v2.extract 2 v2.size), .nilIface]) ?_ rfl ?_
      · simp [results, Tryz.results69, go_sem]
      · exact UPost.ok Hf.out (by rw [HT2.out.cut 2]) (Below.refl _ _)

end Go.Proofs.YtobdglhcepildaaGreatFmt
